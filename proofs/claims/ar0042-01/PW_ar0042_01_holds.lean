import PyProof.Rows.All
import Wide.All
import OpenK.AllK
import Wide.FinOn
import PySem.Challenge.RW_ar0042_01
open PySem PySem.W PyProof.Rows PySem.Calls
set_option Elab.async false
set_option maxRecDepth 100000
set_option maxHeartbeats 40000000
set_option linter.unusedVariables false
set_option linter.unusedSimpArgs false
set_option linter.unusedSectionVars false
set_option linter.unnecessarySimpa false
namespace DL
local macro_rules
  | `(tactic| omega) => `(tactic| lia)
inductive PV where
  | none
  | bool (b : Bool)
  | int (i : Int)
  | str (s : List Nat)
  | top (a : Addr)
  | self
  | ivs (ns : List Int)
  | seq (tup : Bool) (xs : List PV)
  deriving Inhabited
inductive TO where
  | seq (tup : Bool) (xs : List PV)
  | amg (s : List Nat) (sub res : Int)
  | set (ss : List (List Nat))
noncomputable def anm : Nat → PySem.Str
  | 0 => "current"
  | 1 => "cursor"
  | 2 => "limit"
  | 3 => "limit_backward"
  | 4 => "bra"
  | 5 => "ket"
  | 6 => "I_p1"
  | 7 => "I_p2"
  | 8 => "B_e_found"
  | _ => "?"
theorem anm_inj (i j : Nat) (hi : i < 9) (hj : j < 9) (h : (anm i == anm j) = true) : i = j := by
  have : ∀ i : Fin 9, ∀ j : Fin 9, (anm i.1 == anm j.1) = true → i = j := by decide +kernel
  exact congrArg Fin.val (this ⟨i, hi⟩ ⟨j, hj⟩ h)
structure St where
  loc : Nat → Option PV
  att : List (Nat × PV)
inductive Fl where
  | next
  | brk
  | cont
  | ret (v : PV)
  | exc (i : Fin 4)
noncomputable def toStr (s : List Nat) : PySem.Str := ⟨s.toArray⟩
structure Gd where
  prog : Program
  w : World
  K : Frag
  H : Heap
  p : Program
  loose : List PySem.Str
  mg : PySem.Str → Option Value
  mb : PySem.Str → Option Value
  scr : Addr
  vs : List Value
  ns : List Int
  C : Addr
  sf : Option (Addr × Addr)
  labA : Fin 4 → Addr
  tobj : Addr → Option TO
structure Gd.Ok (g : Gd) : Prop where
  X : g.K.In g.H
  T : TopRead g.p g.loose g.mg g.mb g.H
  scr : g.H.IsList g.scr g.vs.toArray
  intsOk : IntsAre g.vs g.ns
noncomputable def seqT (tup : Bool) : String := if tup then "tuple" else "list"
noncomputable abbrev seqObj (tup : Bool) (items : List Value) (n : Nat) : Obj := { cls := .type (seqT tup), data := .seq items.toArray n }
mutual
inductive VR (g : Gd) (G : List (Addr × Obj)) : PV → Value → Prop
  | none : VR g G .none .none
  | bool (b : Bool) : VR g G (.bool b) (.bool b)
  | int (i : Int) (t : Tok) : VR g G (.int i) (.int i t)
  | str (s : List Nat) (t : Tok) : VR g G (.str s) (.str (toStr s) t)
  | top (a : Addr) : VR g G (.top a) (.ref a)
  | self (x dx : Addr) : g.sf = some (x, dx) → VR g G .self (.ref x)
  | ivs : VR g G (.ivs g.ns) (.ref g.scr)
  | seq (tup : Bool) (xs : List PV) (a : Addr) (items : List Value) (n : Nat) : (a, seqObj tup items n) ∈ G → VRs g G xs items → VR g G (.seq tup xs) (.ref a)
inductive VRs (g : Gd) (G : List (Addr × Obj)) : List PV → List Value → Prop
  | nil : VRs g G [] []
  | cons {x : PV} {xs : List PV} {v : Value} {vs : List Value} : VR g G x v → VRs g G xs vs → VRs g G (x :: xs) (v :: vs)
end
theorem nos {α : Type} {x : α} {P : Prop} (h : none = some x) : P := (Option.some_ne_none _ h.symm).elim
theorem VR.mono {g : Gd} {G G' : List (Addr × Obj)} (hs : ∀ p ∈ G, p ∈ G') {x : PV} {v : Value} (h : VR g G x v) : VR g G' x v :=
  VR.rec (motive_1 := fun x v _ => VR g G' x v) (motive_2 := fun x v _ => VRs g G' x v) .none .bool .int .str .top .self .ivs (fun tup xs a items n hm _ ih => .seq tup xs a items n (hs _ hm) ih) .nil (fun _ _ a b => .cons a b) h
theorem VRs.mono {g : Gd} {G G' : List (Addr × Obj)} (hs : ∀ p ∈ G, p ∈ G') {x : List PV} {v : List Value} (h : VRs g G x v) : VRs g G' x v :=
  VRs.rec (motive_1 := fun x v _ => VR g G' x v) (motive_2 := fun x v _ => VRs g G' x v) .none .bool .int .str .top .self .ivs (fun tup xs a items n hm _ ih => .seq tup xs a items n (hs _ hm) ih) .nil (fun _ _ a b => .cons a b) h
theorem VRs.ind {g : Gd} {G : List (Addr × Obj)} {P : List PV → List Value → Prop} (h0 : P [] []) (h1 : ∀ {x xs v vs}, VR g G x v → VRs g G xs vs → P xs vs → P (x :: xs) (v :: vs)) {x : List PV} {v : List Value} (h : VRs g G x v) : P x v :=
  VRs.rec (motive_1 := fun _ _ _ => True) (motive_2 := fun x v _ => P x v) trivial (fun _ => trivial) (fun _ _ => trivial) (fun _ _ => trivial) (fun _ => trivial) (fun _ _ _ => trivial) trivial (fun _ _ _ _ _ _ _ _ => trivial) h0 (fun a b _ ih => h1 a b ih) h
theorem VR.up {g : Gd} {G : List (Addr × Obj)} {x : PV} {v : Value} (h : VR g [] x v) : VR g G x v := VR.mono (fun _ h => absurd h (by simp)) h
theorem VRs.up {g : Gd} {G : List (Addr × Obj)} {x : List PV} {v : List Value} (h : VRs g [] x v) : VRs g G x v := VRs.mono (fun _ h => absurd h (by simp)) h
theorem VRs.length {g : Gd} {G : List (Addr × Obj)} {x : List PV} {v : List Value} (h : VRs g G x v) : x.length = v.length :=
  h.ind (P := fun x v => x.length = v.length) rfl fun _ _ ih => congrArg (· + 1) ih
theorem VRs.get {g : Gd} {G : List (Addr × Obj)} {x : List PV} {v : List Value} (h : VRs g G x v) : ∀ (i : Nat) (pv : PV), x[i]? = some pv → ∃ u, v[i]? = some u ∧ VR g G pv u :=
  h.ind (P := fun x v => ∀ (i : Nat) (pv : PV), x[i]? = some pv → ∃ u, v[i]? = some u ∧ VR g G pv u) (fun i pv h => nos h) fun a _ ih i pv h => by
    cases i with
    | zero => exact ⟨_, rfl, Option.some.inj h ▸ a⟩
    | succ i => exact ih i pv h
theorem ob {α β : Type} {P : Prop} {x : Option α} {f : α → Option β} {y : β} (h : x.bind f = some y) (k : ∀ a, x = some a → f a = some y → P) : P := by
  cases x with | none => exact nos h | some p => exact k p rfl h
theorem om {α β : Type} {P : Prop} {x : Option α} {f : α → β} {y : β} (h : x.map f = some y) (k : ∀ a, x = some a → f a = y → P) : P := by
  cases x with | none => exact nos h | some p => exact k p rfl (Option.some.inj h)
theorem um {α : Type} {P : Prop} {x : Option (PV × St)} {f : PV → St → Option α} {y : α} (h : (match x with | some (a, s) => f a s | none => none) = some y) (k : ∀ a s, x = some (a, s) → f a s = some y → P) : P := by
  cases x with | none => exact nos h | some p => exact k p.1 p.2 rfl h
theorem ul {α : Type} {P : Prop} {x : Option (List PV × St)} {f : List PV → St → Option α} {y : α} (h : (match x with | some (a, s) => f a s | none => none) = some y) (k : ∀ a s, x = some (a, s) → f a s = some y → P) : P := by
  cases x with | none => exact nos h | some p => exact k p.1 p.2 rfl h
theorem uf {α : Type} {P : Prop} {x : Option (PV × List (Nat × PV))} {f : PV → List (Nat × PV) → Option α} {y : α} (h : (match x with | some (a, s) => f a s | none => none) = some y) (k : ∀ a s, x = some (a, s) → f a s = some y → P) : P := by
  cases x with | none => exact nos h | some p => exact k p.1 p.2 rfl h
theorem u3 {α : Type} {P : Prop} {x : Option (Int × Int × Int)} {f : Int → Int → Int → Option α} {y : α} (h : (match x with | some (a, b, c) => f a b c | none => none) = some y) (k : ∀ a b c, x = some (a, b, c) → f a b c = some y → P) : P := by
  cases x with | none => exact nos h | some p => exact k p.1 p.2.1 p.2.2 rfl h
theorem uo {α : Type} {P : Prop} {x : Option PV} {f : PV → Option α} {y : α} (h : (match x with | some a => f a | none => none) = some y) (k : ∀ a, x = some a → f a = some y → P) : P := by
  cases x with | none => exact nos h | some p => exact k p rfl h
theorem us {α : Type} {P : Prop} {x : Option (PV × St)} {f : List Nat → St → Option α} {y : α} (h : (match x with | some (.str a, s) => f a s | _ => none) = some y) (k : ∀ a s, x = some (.str a, s) → f a s = some y → P) : P := by
  rcases x with _ | ⟨v, s⟩
  · exact nos h
  · cases v <;> first | exact k _ _ rfl h | exact nos h
theorem ui {α : Type} {P : Prop} {x : Option (PV × St)} {f : Int → St → Option α} {y : α} (h : (match x with | some (.int a, s) => f a s | _ => none) = some y) (k : ∀ a s, x = some (.int a, s) → f a s = some y → P) : P := by
  rcases x with _ | ⟨v, s⟩
  · exact nos h
  · cases v <;> first | exact k _ _ rfl h | exact nos h
theorem ub {α : Type} {P : Prop} {x : Option (PV × St)} {f : Bool → St → Option α} {y : α} (h : (match x with | some (.bool a, s) => f a s | _ => none) = some y) (k : ∀ a s, x = some (.bool a, s) → f a s = some y → P) : P := by
  rcases x with _ | ⟨v, s⟩
  · exact nos h
  · cases v <;> first | exact k _ _ rfl h | exact nos h
theorem ut {α : Type} {P : Prop} {x : Option (PV × St)} {f : Addr → St → Option α} {y : α} (h : (match x with | some (.top a, s) => f a s | _ => none) = some y) (k : ∀ a s, x = some (.top a, s) → f a s = some y → P) : P := by
  rcases x with _ | ⟨v, s⟩
  · exact nos h
  · cases v <;> first | exact k _ _ rfl h | exact nos h
theorem ue {α : Type} {P : Prop} {x : Option (PV × St)} {f : St → Option α} {y : α} (h : (match x with | some (.self, s) => f s | _ => none) = some y) (k : ∀ s, x = some (.self, s) → f s = some y → P) : P := by
  rcases x with _ | ⟨v, s⟩
  · exact nos h
  · cases v <;> first | exact k _ rfl h | exact nos h
theorem uq {α : Type} {P : Prop} {x : Option (PV × St)} {f : List PV → St → Option α} {y : α} (h : (match x with | some (.seq false a, s) => f a s | _ => none) = some y) (k : ∀ a s, x = some (.seq false a, s) → f a s = some y → P) : P := by
  rcases x with _ | ⟨v, s⟩
  · exact nos h
  · cases v with
    | seq t a => cases t with | false => exact k _ _ rfl h | true => exact nos h
    | _ => exact nos h
theorem ua {α : Type} {P : Prop} {x : Option TO} {f : List Nat → Int → Int → Option α} {y : α} (h : (match x with | some (.amg a b c) => f a b c | _ => none) = some y) (k : ∀ a b c, x = some (.amg a b c) → f a b c = some y → P) : P := by
  cases x with | none => exact nos h | some p => cases p <;> first | exact k _ _ _ rfl h | exact nos h
theorem uy {α : Type} {P : Prop} {x : Option (Bool × St)} {f : St → Option α} {y : α} (h : (match x with | some (true, s) => f s | _ => none) = some y) (k : ∀ s, x = some (true, s) → f s = some y → P) : P := by
  rcases x with _ | ⟨_ | _, s⟩
  · exact nos h
  · exact nos h
  · exact k s rfl h
theorem uqt {α : Type} {P : Prop} {x : Option TO} {f : List PV → Option α} {y : α} (h : (match x with | some (.seq true a) => f a | _ => none) = some y) (k : ∀ a, x = some (.seq true a) → f a = some y → P) : P := by
  cases x with
  | none => exact nos h
  | some p => cases p with | seq t a => cases t with | true => exact k _ rfl h | false => exact nos h
                            | _ => exact nos h
theorem ubb {α : Type} {P : Prop} {x : Option (Bool × St)} {f g : St → Option α} {y : α} (h : (match x with | some (true, s) => f s | some (false, s) => g s | none => none) = some y) (k : ∀ b s, x = some (b, s) → (cond b (f s) (g s)) = some y → P) : P := by
  rcases x with _ | ⟨_ | _, s⟩
  · exact nos h
  · exact k _ s rfl h
  · exact k _ s rfl h
noncomputable def Fl.isN : Fl → Bool | .next => true | _ => false
noncomputable def Fl.isX : Fl → Bool | .exc _ => true | _ => false
theorem unx {P : Prop} {x : Option (Fl × St)} {f : St → Option (Fl × St)} {y : Fl × St} (h : (match x with | some (.next, s) => f s | x => x) = some y) (k1 : ∀ s, x = some (.next, s) → f s = some y → P) (k2 : x = some y → x.any (·.1.isN) = false → P) : P := by
  rcases x with _ | ⟨v, s⟩
  · exact nos h
  · cases v with
    | next => exact k1 s rfl h
    | _ => exact k2 h rfl
theorem uex {P : Prop} {x : Option (Fl × St)} {f : Fin 4 → St → Option (Fl × St)} {y : Fl × St} (h : (match x with | some (.exc i, s) => f i s | x => x) = some y) (k1 : ∀ i s, x = some (.exc i, s) → f i s = some y → P) (k2 : x = some y → x.any (·.1.isX) = false → P) : P := by
  rcases x with _ | ⟨v, s⟩
  · exact nos h
  · cases v with
    | exc i => exact k1 i s rfl h
    | _ => exact k2 h rfl
theorem uts {α : Type} {P : Prop} {x : Option (PV × St)} {f : List PV → St → Option α} {g : Addr → St → Option α} {y : α} (h : (match x with | some (.seq true a, s) => f a s | some (.top a, s) => g a s | _ => none) = some y) (k1 : ∀ a s, x = some (.seq true a, s) → f a s = some y → P) (k2 : ∀ a s, x = some (.top a, s) → g a s = some y → P) : P := by
  rcases x with _ | ⟨v, s⟩
  · exact nos h
  · cases v with
    | seq t a => cases t with | true => exact k1 _ _ rfl h | false => exact nos h
    | top a => exact k2 _ _ rfl h
    | _ => exact nos h
theorem ifk {α : Type} {P : Prop} {c : Prop} [Decidable c] {x y : α} (h : (if c then some x else none) = some y) (k : c → x = y → P) : P := by
  by_cases q : c
  · rw [if_pos q] at h; exact k q (Option.some.inj h)
  · rw [if_neg q] at h; exact nos h
noncomputable def PV.int? : PV → Option Int
  | .int a => .some a
  | _ => .none
noncomputable def PV.str? : PV → Option (List Nat)
  | .str a => .some a
  | _ => .none
noncomputable def PV.top? : PV → Option Addr
  | .top a => .some a
  | _ => .none
section
variable {g : Gd} {G : List (Addr × Obj)} {a : PV} {u : Value} {us : List Value}
theorem PV.ofI {x : Int} (e : a.int? = some x) : a = .int x := by
  cases a <;> first | exact nos e | exact congrArg _ (Option.some.inj e)
theorem PV.ofS {x : List Nat} (e : a.str? = some x) : a = .str x := by
  cases a <;> first | exact nos e | exact congrArg _ (Option.some.inj e)
theorem PV.ofT {x : Addr} (e : a.top? = some x) : a = .top x := by
  cases a <;> first | exact nos e | exact congrArg _ (Option.some.inj e)
theorem VR.i {x : Int} (h : VR g G (.int x) u) : ∃ t, u = .int x t := by cases h; exact ⟨_, rfl⟩
theorem VR.s {x : List Nat} (h : VR g G (.str x) u) : ∃ t, u = .str (toStr x) t := by cases h; exact ⟨_, rfl⟩
theorem VR.t {x : Addr} (h : VR g G (.top x) u) : u = .ref x := by cases h; rfl
theorem VR.b {x : Bool} (h : VR g G (.bool x) u) : u = .bool x := by cases h; rfl
theorem VR.me (h : VR g G .self u) : ∃ x dx, g.sf = some (x, dx) ∧ u = .ref x := by cases h; exact ⟨_, _, by assumption, rfl⟩
theorem VR.q {tup : Bool} {xs : List PV} (h : VR g G (.seq tup xs) u) : ∃ b items n, u = .ref b ∧ (b, seqObj tup items n) ∈ G ∧ VRs g G xs items := by
  cases h; exact ⟨_, _, _, rfl, by assumption, by assumption⟩
theorem VR.v {ns : List Int} (h : VR g G (.ivs ns) u) : ns = g.ns ∧ u = .ref g.scr := by cases h; exact ⟨rfl, rfl⟩
theorem VR.ofI {x : Int} (h : VR g G a u) (e : a.int? = some x) : ∃ t, u = .int x t := (PV.ofI e ▸ h : VR g G (.int x) u).i
theorem VR.ofS {x : List Nat} (h : VR g G a u) (e : a.str? = some x) : ∃ t, u = .str (toStr x) t := (PV.ofS e ▸ h : VR g G (.str x) u).s
theorem VR.ofT {x : Addr} (h : VR g G a u) (e : a.top? = some x) : u = .ref x := (PV.ofT e ▸ h : VR g G (.top x) u).t
theorem VRs.n0 (h : VRs g G [] us) : us = [] := by cases h; rfl
theorem VRs.c1 {x : PV} {xs : List PV} (h : VRs g G (x :: xs) us) : ∃ v r, us = v :: r ∧ VR g G x v ∧ VRs g G xs r := by
  cases h; exact ⟨_, _, rfl, by assumption, by assumption⟩
theorem VRs.o1 {x : PV} (h : VRs g G [x] us) : ∃ v, us = [v] ∧ VR g G x v := by
  obtain ⟨v, r, rfl, V, R⟩ := h.c1
  exact ⟨v, congrArg _ R.n0, V⟩
end
inductive ARel (g : Gd) : List (Nat × PV) → List DictEntry → Prop
  | nil : ARel g [] []
  | cons {i : Nat} {pv : PV} {r : List (Nat × PV)} {es : List DictEntry} {hs : Int} {t : Tok} {v : Value} :
      i < 9 → VR g [] pv v → handedIn v = true → ARel g r es → ARel g ((i, pv) :: r) (⟨hs, .str (anm i) t, v⟩ :: es)
noncomputable def SelfR (g : Gd) (att : List (Nat × PV)) (sl : List (Addr × Obj)) : Prop :=
  match g.sf with
  | none => sl = []
  | some (x, dx) => ∃ es n, sl = [(x, instObj g.C dx), (dx, dictOf es n)] ∧ ARel g att es
structure FI where
  name : PySem.Str
  scope : Scope
  cd : Value
  names : List PySem.Str
noncomputable def FI.env (fi : FI) (L fa : Addr) : Env := envOf fi.name fi.scope L fa fi.cd
noncomputable def LocR (g : Gd) (names : List PySem.Str) (G : List (Addr × Obj)) (loc : Nat → Option PV) (m : PySem.Str → Option Value) : Prop :=
  ∀ k x, names[k]? = some x → ∀ pv, loc k = some pv → ∃ v, m x = some v ∧ VR g G pv v
noncomputable def FrX (fs : List Env) (X : List (Addr × Obj)) : Prop :=
  ∀ env ∈ fs, env.scope.kind ≠ .module ∧ ∃ L o es ep, env.frame = some L ∧ (L, o) ∈ X ∧ o.data = .dict es ep
inductive Inv (g : Gd) (fi : FI) (L : Addr) (fs : List Env) (G X : List (Addr × Obj)) (st : St) (h : Heap) : Prop
  | mk (m : _) (sl : _) (F : Fr g.H L h m) (N : News g.H L h (sl ++ (G ++ X))) (S : SelfR g st.att sl) (R : LocR g fi.names G st.loc m) (nd : ((sl ++ (G ++ X)).map (·.1)).Nodup) (fr : FrX fs X)
theorem Inv.fr {g : Gd} {fi : FI} {L : Addr} {fs : List Env} {G X : List (Addr × Obj)} {st : St} {h : Heap} (I : Inv g fi L fs G X st h) : FrX fs X := by cases I; assumption
noncomputable def UpO (o o' : Obj) : Prop := o' = o ∨ (o'.data = o.data ∧ ∃ es ep, o.data = .dict es ep)
theorem UpO.data {o o' : Obj} (h : UpO o o') : o'.data = o.data := h.elim (fun e => by rw [e]) fun e => e.1
theorem UpO.trans {o o' o'' : Obj} (h : UpO o o') (h' : UpO o' o'') : UpO o o'' := by
  rcases h with rfl | ⟨h, hd⟩
  · exact h'
  · exact .inr ⟨h'.data.trans h, hd⟩
inductive UpS : List (Addr × Obj) → List (Addr × Obj) → Prop
  | nil : UpS [] []
  | cons {a : Addr} {o o' : Obj} {r r' : List (Addr × Obj)} : UpO o o' → UpS r r' → UpS ((a, o) :: r) ((a, o') :: r')
theorem UpS.refl : ∀ X : List (Addr × Obj), UpS X X
  | [] => .nil
  | (_, _) :: r => .cons (.inl rfl) (UpS.refl r)
theorem UpS.trans {X Y Z : List (Addr × Obj)} (h : UpS X Y) : UpS Y Z → UpS X Z := by
  induction h generalizing Z with
  | nil => exact id
  | cons a r ih => intro h; cases h with | cons b r' => exact .cons (a.trans b) (ih r')
structure AOK (d : Nat) (A : Around) (env : Env) (fs : List Env) : Prop where
  handled : A.handled = none
  depth : A.depth + d < recursionLimit
  units : A.units + 10 * d + 100 < cLine
  frames : A.frames = some (env :: fs)
theorem AOK.le {d d' : Nat} {A : Around} {env : Env} {fs : List Env} (h : AOK d' A env fs) (hd : d ≤ d') : AOK d A env fs :=
  ⟨h.handled, Nat.lt_of_le_of_lt (by omega) h.depth, Nat.lt_of_le_of_lt (by omega) h.units, h.frames⟩
noncomputable def SemE (g : Gd) (fi : FI) (d : Nat) (e : Expr) (f : St → Option (PV × St)) : Prop :=
  ∀ (s : Shared) {A : Around} {L fa : Addr} {fs : List Env} {G X : List (Addr × Obj)} {st : St} {pv : PV} {st' : St} {Q E : Value → Shared → Prop},
    AOK d A (fi.env L fa) fs → Inv g fi L fs G X st s.heap → f st = some (pv, st') →
    (∀ G' X' v h' tk, (∀ p ∈ G, p ∈ G') → UpS X X' → Inv g fi L fs G' X' st' h' → VR g G' pv v → Q v { s with heap := h', toks := tk }) →
    wpAny (model g.prog g.w) A (eval e (fi.env L fa)) Q E s
noncomputable def SemT (g : Gd) (fi : FI) (d : Nat) (e : Expr) (f : St → Option (Bool × St)) : Prop :=
  ∀ (s : Shared) {A : Around} {L fa : Addr} {fs : List Env} {G X : List (Addr × Obj)} {st : St} {b : Bool} {st' : St} {Q : Bool → Shared → Prop} {E : Value → Shared → Prop},
    AOK d A (fi.env L fa) fs → Inv g fi L fs G X st s.heap → f st = some (b, st') →
    (∀ G' X' h' tk, (∀ p ∈ G, p ∈ G') → UpS X X' → Inv g fi L fs G' X' st' h' → Q b { s with heap := h', toks := tk }) →
    wpAny (model g.prog g.w) A (isTrue e (fi.env L fa) (eval e (fi.env L fa))) Q E s
section
variable {g : Gd} {fi : FI} {d : Nat}
theorem SemE.le {d' : Nat} {e : Expr} {f} (h : SemE g fi d e f) (hd : d ≤ d') : SemE g fi d' e f := by
  intro s A L fa fs G X st pv st' Q E ha hi hf k
  exact h s (ha.le hd) hi hf k
theorem sem_int {i : Int} {k pos} : SemE g fi d (.Constant (.int i) k pos) (fun st => some (.int i, st)) := by
  intro s A L fa fs G X st pv st' Q E ha hi hf k
  cases hf
  exact wpAny_Constant_int (k G X _ s.heap (s.toks + 1) (fun _ h => h) (.refl X) hi (.int i _))
theorem sem_bool {b : Bool} {k pos} : SemE g fi d (.Constant (.bool b) k pos) (fun st => some (.bool b, st)) := by
  intro s A L fa fs G X st pv st' Q E ha hi hf k
  cases hf
  exact wpAny_Constant_bool (k G X _ s.heap s.toks (fun _ h => h) (.refl X) hi (.bool b))
theorem sem_str {x : PySem.Str} {l : List Nat} {k pos} (hx : x = toStr l) : SemE g fi d (.Constant (.str x) k pos) (fun st => some (.str l, st)) := by
  intro s A L fa fs G X st pv st' Q E ha hi hf k
  cases hf
  subst hx
  exact wpAny_Constant_str (k G X _ s.heap (s.toks + 1) (fun _ h => h) (.refl X) hi (.str l _))
theorem sem_loc {x : PySem.Str} {pos} (k : Nat) (hk : fi.names[k]? = some x) (hf : fi.scope.kind = .function) (hl : (fi.env 0 0).kindOf x = some .local) (hd : (x == ("__debug__" : PySem.Str)) = false) :
    SemE g fi d (.Name x pos) (fun st => (st.loc k).map fun v => (v, st)) := by
  intro s A L fa fs G X st pv st' Q E ha hi hq kk
  obtain ⟨pv', h1, h2⟩ := Option.map_eq_some_iff.mp hq
  cases h2
  obtain ⟨m, sl, F, N, S, R, nd, fr⟩ := id hi
  obtain ⟨v, hv, hr⟩ := R k x hk _ h1
  exact ld F hv (kk G X v s.heap s.toks (fun _ h => h) (.refl X) hi hr) hf hl hd
end
section
variable {g : Gd} {fi : FI} {d : Nat}
noncomputable def putA (i : Nat) (v : PV) : List (Nat × PV) → List (Nat × PV)
  | [] => [(i, v)]
  | (j, u) :: r => if j = i then (i, v) :: r else (j, u) :: putA i v r
theorem ARel.noRef {att es} (h : ARel g att es) : es.any (·.refKey) = false := by
  induction h with
  | nil => rfl
  | cons _ _ _ _ ih => exact ih
theorem getL_cons {n : PySem.Str} {k : PySem.Str} {hs : Int} {t : Tok} {v : Value} {es : List DictEntry} (h : (Value.str k t).isStr n = false) (h2 : es.any (·.refKey) = false) : getL n (⟨hs, .str k t, v⟩ :: es) = getL n es := by
  unfold getL
  rw [List.find?_cons, h, List.any_cons, h2]
  rfl
theorem ARel.get {i : Nat} (hi : i < 9) {att es} (h : ARel g att es) : ∀ {pv}, att.lookup i = some pv → ∃ v, getL (anm i) es = some (some v) ∧ handedIn v = true ∧ VR g [] pv v := by
  induction h with
  | nil => intro pv h; exact nos h
  | @cons j pv' r es hs t v hj hv hh r ih =>
    intro pv h
    rw [List.lookup_cons] at h
    by_cases q : i = j
    · subst q
      rw [beq_self_eq_true] at h
      cases h
      exact ⟨v, by unfold getL; rw [List.find?_cons]; simp [Value.isStr], hh, hv⟩
    · rw [beq_false_of_ne q] at h
      rw [getL_cons (Bool.eq_false_iff.mpr fun z => q (anm_inj j i hj hi z).symm) r.noRef]
      exact ih h
theorem ARel.isSome (n : PySem.Str) {att es} (r : ARel g att es) : (getL n es).isSome = true := by
  unfold getL
  cases es.find? (·.key.isStr n) with
  | some e => rfl
  | none => rw [r.noRef]; rfl
theorem ARel.put {i : Nat} (hi : i < 9) {pv v} (hv : VR g [] pv v) (hh : handedIn v = true) (hs : Int) (t : Tok) {att es} (h : ARel g att es) : ARel g (putA i pv att) (putL (anm i) hs (.str (anm i) t) v es) := by
  induction h with
  | nil => exact .cons hi hv hh .nil
  | @cons j pv' r es hs' t' v' hj hv' hh' r ih =>
    unfold putL
    show ARel g (if j = i then _ else _) _
    by_cases q : j = i
    · subst q
      have z : (Value.str (anm j) t').isStr (anm j) = true := by simp [Value.isStr]
      rw [if_pos rfl, if_pos z]
      exact .cons hi hv hh r
    · have z : ¬ (Value.str (anm j) t').isStr (anm i) = true := fun z => q (anm_inj j i hj hi z)
      rw [if_neg q, if_neg z]
      exact .cons hj hv' hh' ih
theorem ARel.len {att es} (h : ARel g att es) : es.length = att.length := by
  induction h with
  | nil => rfl
  | cons _ _ _ _ ih => exact congrArg (· + 1) ih
theorem putA_len (i : Nat) (v : PV) : ∀ att, (putA i v att).length ≤ att.length + 1
  | [] => Nat.le_refl _
  | (j, u) :: r => by
    show (if j = i then (i, v) :: r else (j, u) :: putA i v r).length ≤ _
    by_cases q : j = i
    · rw [if_pos q]; exact Nat.le_succ _
    · rw [if_neg q]; exact Nat.succ_le_succ (putA_len i v r)
structure SAttr (g : Gd) (i : Nat) : Prop where
  lt : i < 9
  get : plainGet g.K g.C (anm i) = true
  dict : hasDictIn g.K g.C = true
  cls : ∃ a, findIn g.K (.ref g.C) (anm i) = some a ∧ noGet g.K a = true
  taker : takerIn g.K g.C (anm i) = some none
  setat : findIn g.K (.ref g.C) "__setattr__" = some (some (.builtin "object.__setattr__"))
  over : plainOver g.K g.C = true
theorem SelfR.at_ {att sl} (S : SelfR g att sl) {x dx} (hs : g.sf = some (x, dx)) : ∃ es n, sl = [(x, instObj g.C dx), (dx, dictOf es n)] ∧ ARel g att es := by
  unfold SelfR at S
  rw [hs] at S
  exact S
noncomputable def selfGet (i : Nat) (f : St → Option (PV × St)) (st : St) : Option (PV × St) :=
  match f st with
  | some (.self, st1) => (st1.att.lookup i).map (·, st1)
  | _ => none
theorem sem_attr {e : Expr} {f} {attr : PySem.Str} {pos} (i : Nat) (ha : anm i = attr) (hS : SAttr g i) (ok : g.Ok) (hb : ∀ env, attributeBase e attr env (eval e env) = eval e env) (he : SemE g fi d e f) : SemE g fi d (.Attribute e attr pos) (selfGet i f) := by
  intro s A L fa fs G X st pv st' Q E hA hI hf k
  subst ha
  refine ue hf fun st1 hq hf => ?_
  obtain ⟨pv', h1, h2⟩ := Option.map_eq_some_iff.mp hf
  cases h2
  refine Attribute_any_ (he s hA hI hq fun G' X' v h' tk hG hX I' V => ?_) (by rw [arm_eval_Attribute, hb])
  obtain ⟨x, dx, hs, rfl⟩ := V.me
  obtain ⟨m, sl, F, N, S, R, nd, fr⟩ := id I'
  obtain ⟨es, n, rfl, AR⟩ := S.at_ hs
  obtain ⟨u, hu1, hu2, hu3⟩ := AR.get hS.lt h1
  obtain ⟨a, ha1, ha2⟩ := hS.cls
  refine get_own (s := { s with heap := h', toks := tk }) F ok.X (PySem.W.InstAt.of_news N (.head _) (.tail _ (.head _))) hS.get hS.dict ha1 ha2 hu1 hu2 ?_
  exact k G' X' u h' (tk + 1) hG hX I' hu3.up
noncomputable def TAttr (g : Gd) (a : Addr) (name : PySem.Str) (pv : PV) : Prop :=
  ∃ C dx es n sl at' v, g.K.lookup a = some ⟨.ref C, some dx, .plain, sl⟩ ∧ g.K.lookup dx = some (dictOf es n) ∧ plainGet g.K C name = true ∧ hasDictIn g.K C = true ∧ findIn g.K (.ref C) name = some at' ∧ noGet g.K at' = true ∧
    getL name es = some (some v) ∧ handedIn v = true ∧ VR g [] pv v
noncomputable def TOk (g : Gd) (a : Addr) : TO → Prop
  | .seq tup xs => ∃ items n o, g.H.get? a = some o ∧ o.cls = .type (seqT tup) ∧ o.data = .seq (List.toArray items) n ∧ VRs g [] xs items ∧ items.length ≤ 1000
  | .amg s sub res => TAttr g a "s" (.str s) ∧ TAttr g a "substring_i" (.int sub) ∧ TAttr g a "result" (.int res)
  | .set ss => ∃ n, g.H.SetOf (PySem.strKind g.prog g.w) a (fun k => ss.any fun z => toStr z == k) n
noncomputable def amgGet (pick : List Nat → Int → Int → PV) (T : Addr → Option TO) (f : St → Option (PV × St)) (st : St) : Option (PV × St) :=
  match f st with
  | some (.top a, st1) => (match T a with
    | some (.amg s sub res) => some (pick s sub res, st1)
    | _ => none)
  | _ => none
theorem sem_tattr {e : Expr} {f} {attr : PySem.Str} {pos} {pick : List Nat → Int → Int → PV} (ok : g.Ok) (hT : ∀ a t, g.tobj a = some t → TOk g a t) (hp : ∀ a s sub res, TOk g a (.amg s sub res) → TAttr g a attr (pick s sub res)) (hb : ∀ env, attributeBase e attr env (eval e env) = eval e env) (he : SemE g fi d e f) :
    SemE g fi d (.Attribute e attr pos) (amgGet pick g.tobj f) := by
  intro s A L fa fs G X st pv st' Q E hA hI hf k
  refine ut hf fun a st1 hq hf => ?_
  refine ua hf fun z sub res ht hf => ?_
  cases hf
  refine Attribute_any_ (he s hA hI hq fun G' X' v h' tk hG hX I' V => ?_) (by rw [arm_eval_Attribute, hb])
  obtain rfl := V.t
  obtain ⟨m, sl, F, N, S, R, nd, fr⟩ := id I'
  obtain ⟨C, dx, es, n, so, a', v, k1, k2, k3, k4, k5, k6, k7, k8, k9⟩ := hp a z sub res (hT _ _ ht)
  refine get_own (s := { s with heap := h', toks := tk }) F ok.X (PySem.W.InstAt.of_K (ok.X.keeps F.keep) k1 k2) k3 k4 k5 k6 k7 k8 ?_
  exact k G' X' v h' (tk + 1) hG hX I' k9.up
theorem sem_s {e f pos} (ok : g.Ok) (hT : ∀ a t, g.tobj a = some t → TOk g a t) (hb : ∀ env, attributeBase e "s" env (eval e env) = eval e env) (he : SemE g fi d e f) : SemE g fi d (.Attribute e "s" pos) (amgGet (fun s _ _ => .str s) g.tobj f) := sem_tattr ok hT (fun _ _ _ _ h => h.1) hb he
theorem sem_sub {e f pos} (ok : g.Ok) (hT : ∀ a t, g.tobj a = some t → TOk g a t) (hb : ∀ env, attributeBase e "substring_i" env (eval e env) = eval e env) (he : SemE g fi d e f) : SemE g fi d (.Attribute e "substring_i" pos) (amgGet (fun _ i _ => .int i) g.tobj f) := sem_tattr ok hT (fun _ _ _ _ h => h.2.1) hb he
theorem sem_res {e f pos} (ok : g.Ok) (hT : ∀ a t, g.tobj a = some t → TOk g a t) (hb : ∀ env, attributeBase e "result" env (eval e env) = eval e env) (he : SemE g fi d e f) : SemE g fi d (.Attribute e "result" pos) (amgGet (fun _ _ i => .int i) g.tobj f) := sem_tattr ok hT (fun _ _ _ _ h => h.2.2) hb he
theorem sem_glob {x : PySem.Str} {pos} {v : Value} {pv : PV} (ok : g.Ok) (e : nsIn g.K mainGlobals x = some (some v)) (hv : VR g [] pv v) (hk : fi.scope.kind = .function) (hx : (fi.env 0 0).kindOf x = some .globalImplicit) (hd : (x == ("__debug__" : PySem.Str)) = false) :
    SemE g fi d (.Name x pos) (fun st => some (pv, st)) := by
  intro s A L fa fs G X st pv' st' Q E hA hI hf k
  cases hf
  obtain ⟨m, sl, F, N, S, R, nd, fr⟩ := id hI
  exact name_K F ok.X ok.T e (k G X v s.heap s.toks (fun _ h => h) (.refl X) hI hv.up) hk hx hd
theorem sem_cattr {x attr : PySem.Str} {xp pos} {C a : Addr} {mc : Value} (ok : g.Ok) (e : nsIn g.K mainGlobals x = some (some (.ref C))) (hm : typeIn g.K (.ref C) = some mc) (hr : readsIn g.K C mc = true) (hc : findCls g.K (.ref C) mc attr = some (.val (.ref a))) (hh : handedIn (.ref a) = true)
    (hk : fi.scope.kind = .function) (hx : (fi.env 0 0).kindOf x = some .globalImplicit) (hd : (x == ("__debug__" : PySem.Str)) = false) : SemE g fi d (.Attribute (.Name x xp) attr pos) (fun st => some (.top a, st)) := by
  intro s A L fa fs G X st pv' st' Q E hA hI hf k
  cases hf
  obtain ⟨m, sl, F, N, S, R, nd, fr⟩ := id hI
  refine Attribute_any_ (name_K F ok.X ok.T e ?_ hk hx hd)
  exact cls_val F ok.X hm hr hc hh (k G X _ s.heap (s.toks + 1) (fun _ h => h) (.refl X) hI (.top a))
end
theorem toStr_append (a b : List Nat) : toStr a ++ toStr b = toStr (a ++ b) := by
  show PySem.Str.append _ _ = _
  unfold PySem.Str.append toStr
  simp
theorem toStr_length (a : List Nat) : (toStr a).length = a.length := by simp [toStr, PySem.Str.length]
theorem toStr_inj {a b : List Nat} (h : toStr a = toStr b) : a = b := by
  unfold toStr at h
  injection h with h
  simpa using h
theorem toStr_beq (a b : List Nat) : (toStr a == toStr b) = (a == b) := by
  rw [Bool.eq_iff_iff, beq_iff_eq, beq_iff_eq]
  exact ⟨toStr_inj, fun h => by rw [h]⟩
theorem toStr_cps (a : List Nat) (i : Nat) : (toStr a).cps[i]? = a[i]? := by simp [toStr]
noncomputable def binI : Operator → Int → Int → Option PV
  | .Add, a, b => some (.int (a + b))
  | .Sub, a, b => some (.int (a - b))
  | .Mult, a, b => if a.natAbs < 2 ^ 60 then some (.int (a * b)) else none
  | .Mod, a, b => if 0 < b ∧ b < 1000 then some (.int (a.fmod b)) else none
  | .FloorDiv, a, b => if 0 < b ∧ b < 1000 then some (.int (a.fdiv b)) else none
  | .RShift, a, b => if 0 ≤ b then some (.int (a.fdiv (2 ^ b.toNat))) else none
  | _, _, _ => none
noncomputable def binS : Operator → List Nat → List Nat → Option PV
  | .Add, a, b => if a.length + b.length ≤ 100000 then some (.str (a ++ b)) else none
  | _, _, _ => none
noncomputable def binF (op : Operator) (u v : PV) : Option PV := (u.int?.bind fun a => v.int?.bind fun b => binI op a b).or (u.str?.bind fun a => v.str?.bind fun b => binS op a b)
noncomputable def cmpI : CmpOp → Int → Int → Option Bool
  | .Lt, a, b => some (decide (a < b))
  | .LtE, a, b => some (decide (a ≤ b))
  | .Gt, a, b => some (decide (b < a))
  | .GtE, a, b => some (decide (b ≤ a))
  | .Eq, a, b => some (a == b)
  | .NotEq, a, b => some (a != b)
  | _, _, _ => none
noncomputable def cmpS : CmpOp → List Nat → List Nat → Option Bool
  | .Eq, a, b => some (a == b)
  | .NotEq, a, b => some (a != b)
  | .In, a, b => some (PySem.Txt.contains (toStr b) (toStr a))
  | _, _, _ => none
noncomputable def TO.set? : Option TO → Option (List (List Nat))
  | some (.set ss) => some ss
  | _ => none
noncomputable def inS : CmpOp → Bool → Option Bool
  | .In, b => some b
  | .NotIn, b => some (!b)
  | _, _ => none
noncomputable def cmpF (T : Addr → Option TO) (op : CmpOp) (u v : PV) : Option Bool :=
  (u.int?.bind fun a => v.int?.bind fun b => cmpI op a b).or ((u.str?.bind fun a => v.str?.bind fun b => cmpS op a b).or (u.str?.bind fun a => v.top?.bind fun b => (TO.set? (T b)).bind fun ss => inS op (ss.contains a)))
theorem cfEq {T : Addr → Option TO} {a b : Int} : cmpF T .Eq (.int a) (.int b) = some (a == b) := rfl
theorem cfNe {T : Addr → Option TO} {a b : Int} : cmpF T .NotEq (.int a) (.int b) = some (a != b) := rfl
theorem cfLt {T : Addr → Option TO} {a b : Int} : cmpF T .Lt (.int a) (.int b) = some (decide (a < b)) := rfl
theorem cfLe {T : Addr → Option TO} {a b : Int} : cmpF T .LtE (.int a) (.int b) = some (decide (a ≤ b)) := rfl
theorem cfGt {T : Addr → Option TO} {a b : Int} : cmpF T .Gt (.int a) (.int b) = some (decide (b < a)) := rfl
theorem cfGe {T : Addr → Option TO} {a b : Int} : cmpF T .GtE (.int a) (.int b) = some (decide (b ≤ a)) := rfl
theorem cfSe {T : Addr → Option TO} {a b : List Nat} : cmpF T .Eq (.str a) (.str b) = some (a == b) := rfl
theorem cfSn {T : Addr → Option TO} {a b : List Nat} : cmpF T .NotEq (.str a) (.str b) = some (a != b) := rfl
theorem cfTi {T : Addr → Option TO} {a : List Nat} {b : Addr} {ss} (h : T b = some (.set ss)) : cmpF T .In (.str a) (.top b) = some (ss.contains a) := by
  show (TO.set? (T b)).bind _ = _; rw [h]; rfl
theorem cfTn {T : Addr → Option TO} {a : List Nat} {b : Addr} {ss} (h : T b = some (.set ss)) : cmpF T .NotIn (.str a) (.top b) = some (!ss.contains a) := by
  show (TO.set? (T b)).bind _ = _; rw [h]; rfl
theorem bAdd {a b : Int} : binF .Add (.int a) (.int b) = some (.int (a + b)) := rfl
theorem bSub {a b : Int} : binF .Sub (.int a) (.int b) = some (.int (a - b)) := rfl
theorem mulOk {a b : Int} (h : a.natAbs < 2 ^ 60) : IntMulOk a b := by
  unfold IntMulOk
  intro hh
  simp only [Bool.and_eq_true, decide_eq_true_eq] at hh
  have h1 := hh.1.1
  unfold Builtin.Int.intBits at h1
  split at h1
  · exact absurd h1 (by decide)
  · rename_i hz
    have hz' : a.natAbs ≠ 0 := by simpa using hz
    have := (Nat.log2_lt hz' (k := 60)).mpr h
    unfold shortFactorBits at h1
    omega
section
variable {g : Gd} {fi : FI} {d : Nat}
theorem SetOf_up {h h' : Heap} {a : Addr} {S : PySem.Str → Bool} {n : Nat} (k : ∀ b o, h.get? b = some o → h'.get? b = some o) (x : h.SetOf (PySem.strKind g.prog g.w) a S n) : h'.SetOf (PySem.strKind g.prog g.w) a S n := by
  obtain ⟨o, es, ep, t, ho, r⟩ := x
  exact ⟨o, es, ep, t, k _ _ ho, r⟩
theorem ifs {α : Type} {c : Prop} [Decidable c] {x y : α} (h : (if c then some x else none) = some y) : c ∧ x = y := by
  by_cases q : c
  · rw [if_pos q] at h; exact ⟨q, Option.some.inj h⟩
  · rw [if_neg q] at h; exact nos h
section
variable {op : Operator} {a b c : PV} {u v : Value} {G : List (Addr × Obj)} {A : Around} {s : Shared} {Q E : Value → Shared → Prop}
theorem binF_ok {P : Prop} (hu : VR g G a u) (hv : VR g G b v) (hc : binF op a b = some c)
    (h1 : ∀ x y t t', u = .int x t → v = .int y t' → binI op x y = some c → P) (h2 : ∀ x y t t', u = .str (toStr x) t → v = .str (toStr y) t' → binS op x y = some c → P) : P := by
  rcases Option.or_eq_some_iff.mp hc with q | ⟨_, q⟩
  · obtain ⟨x, hx, q⟩ := Option.bind_eq_some_iff.mp q
    obtain ⟨y, hy, q⟩ := Option.bind_eq_some_iff.mp q
    exact (hu.ofI hx).elim fun t e => (hv.ofI hy).elim fun t' e' => h1 x y t t' e e' q
  · obtain ⟨x, hx, q⟩ := Option.bind_eq_some_iff.mp q
    obtain ⟨y, hy, q⟩ := Option.bind_eq_some_iff.mp q
    exact (hu.ofS hx).elim fun t e => (hv.ofS hy).elim fun t' e' => h2 x y t t' e e' q
theorem binS_ok {x y : List Nat} (hc : binS op x y = some c) : op = .Add ∧ x.length + y.length ≤ 100000 ∧ PV.str (x ++ y) = c := by
  cases op <;> first | exact nos hc | exact ⟨rfl, ifs hc⟩
theorem bin_ok (hu : VR g G a u) (hv : VR g G b v) (hc : binF op a b = some c)
    (h : ∀ r tk, VR g G c r → Q r { s with toks := tk }) : wpAny (model g.prog g.w) A (binaryOp op u v) Q E s := by
  refine binF_ok hu hv hc (fun x y t t' e e' q => ?_) fun x y t t' e e' q => ?_
  · subst e e'
    have hi : ∀ z, PV.int z = c → ∀ tk, Q (.int z tk) { s with toks := tk + 1 } := fun z e tk => h _ _ (e ▸ .int _ _)
    have hj : ∀ z, PV.int z = c → ∀ tk tk', Q (.int z tk) { s with toks := tk' } := fun z e tk tk' => h _ _ (e ▸ .int _ _)
    cases op <;> first | exact nos q | skip
    · exact add_int (hj _ (Option.some.inj q) _ _)
    · exact sub_int (hj _ (Option.some.inj q) _ _)
    · exact mul_int (hj _ (ifs q).2 _ _) (mulOk (ifs q).1)
    · have hb := (ifs q).1
      exact mod_int (by omega) (hj _ (ifs q).2 _ _)
    · exact rshift_int (ifs q).1 (hj _ (ifs q).2 _ _)
    · have hb := (ifs q).1
      exact floordiv_int (by omega) (hj _ (ifs q).2 _ _) (.inl (PyProof.noPylong_small (by omega)))
  · subst e e'
    obtain ⟨rfl, hl, e⟩ := binS_ok q
    refine PyProof.Rows.add_str (fun t' tk => ?_) (by rw [toStr_length, toStr_length, sizeLine_eq]; omega)
    rw [toStr_append]
    exact h _ _ (e ▸ .str _ _)
theorem inbin_ok (hop : op = .Add ∨ op = .Sub) (hu : VR g G a u) (hv : VR g G b v) (hc : binF op a b = some c)
    (h : ∀ r tk, VR g G c r → Q r { s with toks := tk }) : wpAny (model g.prog g.w) A (inplaceOp op u v) Q E s := by
  refine binF_ok hu hv hc (fun x y t t' e e' q => ?_) fun x y t t' e e' q => ?_
  · subst e e'
    rcases hop with rfl | rfl
    · exact iadd_int (h _ _ (Option.some.inj q ▸ .int _ _))
    · exact isub_int (h _ _ (Option.some.inj q ▸ .int _ _))
  · subst e e'
    obtain ⟨rfl, hl, e⟩ := binS_ok q
    refine PyProof.Rows.iadd_str (fun t' tk => ?_) (by rw [toStr_length, toStr_length, sizeLine_eq]; omega)
    rw [toStr_append]
    exact h _ _ (e ▸ .str _ _)
end
theorem any_toStr (ss : List (List Nat)) (a : List Nat) : (ss.any fun z => toStr z == toStr a) = ss.contains a := by
  induction ss with
  | nil => rfl
  | cons z r ih => rw [List.any_cons, List.contains_cons, ih, toStr_beq]; congr 1; rw [Bool.eq_iff_iff, beq_iff_eq, beq_iff_eq]; exact eq_comm
theorem cmp_ok {op : CmpOp} {a b : PV} {c : Bool} {u v : Value} {G : List (Addr × Obj)} {A : Around} {s : Shared} {Q E : Value → Shared → Prop} (hT : ∀ a t, g.tobj a = some t → TOk g a t) (kp : ∀ b o, g.H.get? b = some o → s.heap.get? b = some o) (hu : VR g G a u) (hv : VR g G b v) (hc : cmpF g.tobj op a b = some c)
    (h : ∀ tk, Q (.bool c) { s with toks := tk }) : wpAny (model g.prog g.w) A (compareOp op u v) Q E s := by
  have hi : ∀ z, z = c → ∀ tk, Q (.bool z) { s with toks := tk } := fun z e tk => e ▸ h _
  rcases Option.or_eq_some_iff.mp hc with q | ⟨_, q⟩
  · obtain ⟨x, hx, q⟩ := Option.bind_eq_some_iff.mp q
    obtain ⟨y, hy, q⟩ := Option.bind_eq_some_iff.mp q
    obtain ⟨t, rfl⟩ := hu.ofI hx
    obtain ⟨t', rfl⟩ := hv.ofI hy
    cases op <;> first | exact nos q | skip
    · exact eq_int (hi _ (Option.some.inj q) _)
    · exact ne_int (hi _ (Option.some.inj q) _)
    · exact lt_int (hi _ (Option.some.inj q) _)
    · exact le_int (hi _ (Option.some.inj q) _)
    · exact gt_int (hi _ (Option.some.inj q) _)
    · exact ge_int (hi _ (Option.some.inj q) _)
  · rcases Option.or_eq_some_iff.mp q with q | ⟨_, q⟩
    · obtain ⟨x, hx, q⟩ := Option.bind_eq_some_iff.mp q
      obtain ⟨y, hy, q⟩ := Option.bind_eq_some_iff.mp q
      obtain ⟨t, rfl⟩ := hu.ofS hx
      obtain ⟨t', rfl⟩ := hv.ofS hy
      cases op <;> first | exact nos q | skip
      · exact PyProof.Rows.eq_str (hi _ ((toStr_beq _ _).trans (Option.some.inj q)) _)
      · exact PyProof.Rows.ne_str (hi _ ((congrArg not (toStr_beq _ _)).trans (Option.some.inj q)) _)
      · exact PyProof.Rows.in_str (hi _ (Option.some.inj q) _)
    · obtain ⟨x, hx, q⟩ := Option.bind_eq_some_iff.mp q
      obtain ⟨y, hy, q⟩ := Option.bind_eq_some_iff.mp q
      obtain ⟨t, rfl⟩ := hu.ofS hx
      have e := hv.ofT hy
      subst e
      obtain ⟨ss, hs, q⟩ := Option.bind_eq_some_iff.mp q
      have hs' : g.tobj y = some (.set ss) := by
        cases z : g.tobj y with
        | none => rw [z] at hs; exact nos hs
        | some w => rw [z] at hs; cases w <;> first | exact nos hs | exact congrArg _ (congrArg TO.set (Option.some.inj hs))
      obtain ⟨n, hS⟩ := hT _ _ hs'
      cases op <;> first | exact nos q | skip
      · exact wpAny_inSet_of (strKind_is _ _ _ _) rfl (SetOf_up kp hS) (hi _ ((any_toStr _ _).trans (Option.some.inj q)) _)
      · exact wpAny_notInSet_of (strKind_is _ _ _ _) rfl (SetOf_up kp hS) (hi _ ((congrArg not (any_toStr _ _)).trans (Option.some.inj q)) _)
theorem Inv.toks {L fs G X st h} (I : Inv g fi L fs G X st h) : Inv g fi L fs G X st h := I
theorem Inv.keep {L fs G X st h} (I : Inv g fi L fs G X st h) : ∀ b o, g.H.get? b = some o → h.get? b = some o := by obtain ⟨_, _, F⟩ := I; exact F.keep
noncomputable def binE (op : Operator) (f1 f2 : St → Option (PV × St)) (st : St) : Option (PV × St) :=
  match f1 st with
  | some (a, st1) => (match f2 st1 with
    | some (b, st2) => (binF op a b).map (·, st2)
    | none => none)
  | none => none
noncomputable def cmpE (T : Addr → Option TO) (op : CmpOp) (f1 f2 : St → Option (PV × St)) (st : St) : Option (Bool × St) :=
  match f1 st with
  | some (a, st1) => (match f2 st1 with
    | some (b, st2) => (cmpF T op a b).map (·, st2)
    | none => none)
  | none => none
theorem sem_bin {op : Operator} {l r : Expr} {pos} {f1 f2} (h1 : SemE g fi d l f1) (h2 : SemE g fi d r f2) : SemE g fi d (.BinOp l op r pos) (binE op f1 f2) := by
  intro s A L fa fs G X st pv st' Q E hA hI hf k
  refine um hf fun a st1 q1 hf => ?_
  refine um hf fun b st2 q2 hf => ?_
  obtain ⟨c, hc, e⟩ := Option.map_eq_some_iff.mp hf
  cases e
  refine wpAny_BinOp (h1 s hA hI q1 fun G1 X1 u h' tk hG1 hX1 I1 V1 => h2 _ hA I1 q2 fun G2 X2 v h'' tk' hG2 hX2 I2 V2 => ?_)
  exact bin_ok (V1.mono hG2) V2 hc fun r tk'' V => k G2 X2 r h'' tk'' (fun p hp => hG2 _ (hG1 _ hp)) (hX1.trans hX2) I2 V
theorem sem_cmp {op : CmpOp} {l r : Expr} {pos} {f1 f2} (hT : ∀ a t, g.tobj a = some t → TOk g a t) (h1 : SemE g fi d l f1) (h2 : SemE g fi d r f2) (hm : behindInMarks op r = false) :
    SemE g fi d (.Compare l [op] [r] pos) (fun st => (cmpE g.tobj op f1 f2 st).map fun x => (.bool x.1, x.2)) := by
  intro s A L fa fs G X st pv st' Q E hA hI hf k
  obtain ⟨⟨c, stc⟩, hf1, e⟩ := Option.map_eq_some_iff.mp hf
  cases e
  clear hf
  have hf := hf1
  clear hf1
  refine um hf fun a st1 q1 hf => ?_
  refine um hf fun b st2 q2 hf => ?_
  obtain ⟨c, hc, e⟩ := Option.map_eq_some_iff.mp hf
  cases e
  refine wpAny_Compare1 (h1 s hA hI q1 fun G1 X1 u h' tk hG1 hX1 I1 V1 => h2 _ hA I1 q2 fun G2 X2 v h'' tk' hG2 hX2 I2 V2 => ?_) hm
  exact cmp_ok (s := { s with heap := h'', toks := tk' }) hT I2.keep (V1.mono hG2) V2 hc fun tk'' => k G2 X2 _ h'' tk'' (fun p hp => hG2 _ (hG1 _ hp)) (hX1.trans hX2) I2 (.bool _)
theorem sem_tcmp {op : CmpOp} {l r : Expr} {pos} {f1 f2} (hT : ∀ a t, g.tobj a = some t → TOk g a t) (h1 : SemE g fi d l f1) (h2 : SemE g fi d r f2) (hm : behindInMarks op r = false) :
    SemT g fi d (.Compare l [op] [r] pos) (cmpE g.tobj op f1 f2) := by
  intro s A L fa fs G X st c st' Q E hA hI hf k
  refine um hf fun a st1 q1 hf => ?_
  refine um hf fun b st2 q2 hf => ?_
  obtain ⟨c, hc, e⟩ := Option.map_eq_some_iff.mp hf
  cases e
  refine wpAny_isTrue_Compare1 (h1 s hA hI q1 fun G1 X1 u h' tk hG1 hX1 I1 V1 => h2 _ hA I1 q2 fun G2 X2 v h'' tk' hG2 hX2 I2 V2 => ?_) hm
  refine cmp_ok (s := { s with heap := h'', toks := tk' }) hT I2.keep (V1.mono hG2) V2 hc fun tk'' => ?_
  exact wpAny_truthy_bool (k G2 X2 h'' tk'' (fun p hp => hG2 _ (hG1 _ hp)) (hX1.trans hX2) I2)
noncomputable def notT (f : St → Option (Bool × St)) (st : St) : Option (Bool × St) := (f st).map fun x => (!x.1, x.2)
noncomputable def andT (f1 f2 : St → Option (Bool × St)) (st : St) : Option (Bool × St) :=
  match f1 st with
  | some (true, st1) => f2 st1
  | some (false, st1) => some (false, st1)
  | none => none
noncomputable def orT (f1 f2 : St → Option (Bool × St)) (st : St) : Option (Bool × St) :=
  match f1 st with
  | some (true, st1) => some (true, st1)
  | some (false, st1) => f2 st1
  | none => none
theorem sem_tnot {x : Expr} {pos} {f} (h : SemT g fi d x f) : SemT g fi d (.UnaryOp .Not x pos) (notT f) := by
  intro s A L fa fs G X st c st' Q E hA hI hf k
  obtain ⟨⟨b, st1⟩, q, e⟩ := Option.map_eq_some_iff.mp hf
  cases e
  exact PyProof.Rows.isTrue_not (h s hA hI q k)
theorem sem_tand {x y : Expr} {pos} {f1 f2} (h1 : SemT g fi d x f1) (h2 : SemT g fi d y f2) : SemT g fi d (.BoolOp .And [x, y] pos) (andT f1 f2) := by
  intro s A L fa fs G X st c st' Q E hA hI hf k
  refine PyProof.Rows.isTrue_and ?_
  refine ubb hf fun b st1 q hf => ?_
  refine h1 s hA hI q fun G1 X1 h' tk hG1 hX1 I1 => ?_
  cases b with
  | true =>
    refine PyProof.Rows.isTrue_and (h2 _ hA I1 hf fun G2 X2 h'' tk' hG2 hX2 I2 => ?_)
    have kk := k G2 X2 h'' tk' (fun p hp => hG2 _ (hG1 _ hp)) (hX1.trans hX2) I2
    cases c
    · exact kk
    · exact PyProof.Rows.isTrue_and_nil kk
  | false => cases hf; exact k G1 X1 h' tk hG1 hX1 I1
theorem sem_tor {x y : Expr} {pos} {f1 f2} (h1 : SemT g fi d x f1) (h2 : SemT g fi d y f2) : SemT g fi d (.BoolOp .Or [x, y] pos) (orT f1 f2) := by
  intro s A L fa fs G X st c st' Q E hA hI hf k
  refine PyProof.Rows.isTrue_or ?_
  refine ubb hf fun b st1 q hf => ?_
  refine h1 s hA hI q fun G1 X1 h' tk hG1 hX1 I1 => ?_
  cases b with
  | false =>
    refine PyProof.Rows.isTrue_or (h2 _ hA I1 hf fun G2 X2 h'' tk' hG2 hX2 I2 => ?_)
    have kk := k G2 X2 h'' tk' (fun p hp => hG2 _ (hG1 _ hp)) (hX1.trans hX2) I2
    cases c
    · exact PyProof.Rows.isTrue_or_nil kk
    · exact kk
  | true => cases hf; exact k G1 X1 h' tk hG1 hX1 I1
noncomputable def boolT (f : St → Option (PV × St)) (st : St) : Option (Bool × St) :=
  match f st with
  | some (.bool b, st1) => some (b, st1)
  | _ => none
theorem sem_tval {e : Expr} {f} (he : ∀ env whole, isTrue e env whole = (do let v ← whole; standAt e.pos; holding [v] (truthy v))) (h : SemE g fi d e f) : SemT g fi d e (boolT f) := by
  intro s A L fa fs G X st c st' Q E hA hI hf k
  refine ub hf fun b st1 q hf => ?_
  cases hf
  refine isTrue_plain (h s hA hI q fun G1 X1 v h' tk hG1 hX1 I1 V => ?_) (he _ _)
  obtain rfl := V.b
  exact wpAny_truthy_bool (k G1 X1 h' tk hG1 hX1 I1)
noncomputable def negE (f : St → Option (PV × St)) (st : St) : Option (PV × St) :=
  match f st with
  | some (.int b, st1) => some (.int (-b), st1)
  | _ => none
theorem sem_neg {e : Expr} {pos} {f} (h : SemE g fi d e f) : SemE g fi d (.UnaryOp .USub e pos) (negE f) := by
  intro s A L fa fs G X st c st' Q E hA hI hf k
  refine ui hf fun b st1 q hf => ?_
  cases hf
  refine PyProof.Rows.UnaryOp_ (h s hA hI q fun G1 X1 v h' tk hG1 hX1 I1 V => ?_)
  obtain ⟨t, rfl⟩ := V.i
  exact neg_int (k G1 X1 _ h' _ hG1 hX1 I1 (.int _ _))
end
section
variable {g : Gd} {fi : FI} {d : Nat}
theorem Inv.size {L fs G X st h} (I : Inv g fi L fs G X st h) : ∀ p ∈ G, p.1 < h.objs.size := fun p hp => by
  obtain ⟨m, sl, F, N⟩ := I
  exact Heap.lt_size (N p (List.mem_append_right _ (List.mem_append_left _ hp))).1
theorem Inv.push {L fs G X st h} (I : Inv g fi L fs G X st h) (o : Obj) : Inv g fi L fs G X st (h.push o) := by
  obtain ⟨m, sl, F, N, S, R, nd, fr⟩ := I
  exact ⟨m, sl, F.push o, N.pushKeep o, S, R, nd, fr⟩
theorem LocR.mono {names G G' loc m} (hs : ∀ p ∈ G, p ∈ G') (h : LocR g names G loc m) : LocR g names G' loc m := fun k x hk pv hv => let ⟨v, a, b⟩ := h k x hk pv hv; ⟨v, a, b.mono hs⟩
theorem Inv.pushG {L fs G X st h} (I : Inv g fi L fs G X st h) (o : Obj) (hf : o.isFreed = false) : Inv g fi L fs ((h.objs.size, o) :: G) X st (h.push o) := by
  obtain ⟨m, sl, F, N, S, R, nd, fr⟩ := I
  have N' := News.push F N o hf
  have lt : ∀ p ∈ sl ++ (G ++ X), p.1 < h.objs.size := fun p hp => Heap.lt_size (N p hp).1
  refine ⟨m, sl, F.push o, fun p hp => N' p ?_, S, R.mono fun p hp => .tail _ hp, ?_, fr⟩
  · simp only [List.mem_append, List.mem_cons, List.cons_append] at hp ⊢
    rcases hp with a | rfl | b | c
    · exact .inr (.inl a)
    · exact .inl rfl
    · exact .inr (.inr (.inl b))
    · exact .inr (.inr (.inr c))
  · have hp : List.Perm (sl ++ ((h.objs.size, o) :: G ++ X)) ((h.objs.size, o) :: (sl ++ (G ++ X))) := by
      rw [List.cons_append]; exact List.perm_middle
    refine ((hp.map (·.1)).nodup_iff).mpr ?_
    rw [List.map_cons, List.nodup_cons]
    refine ⟨fun hm => ?_, nd⟩
    obtain ⟨p, hp, e⟩ := List.mem_map.mp hm
    have := lt p hp
    rw [e] at this
    exact absurd this (Nat.lt_irrefl _)
noncomputable def seqAt (xs : List PV) (i : Int) : Option PV := if 0 ≤ i ∧ i < 1000 then xs[i.toNat]? else none
noncomputable def PV.seq? : PV → Option (List PV)
  | .seq _ xs => .some xs
  | _ => .none
noncomputable def PV.ivs? : PV → Option (List Int)
  | .ivs xs => .some xs
  | _ => .none
noncomputable def TO.seq? : Option TO → Option (List PV)
  | some (.seq _ xs) => some xs
  | _ => none
noncomputable def idxSt (s : List Nat) (i : Int) : Option PV := if 0 ≤ i ∧ i < s.length then (if i < 1000000 then s[i.toNat]?.map fun c => .str [c] else none) else if i = -1 then (s.getLast?).map fun c => .str [c] else none
noncomputable def idxF (T : Addr → Option TO) (a i : PV) : Option PV := i.int?.bind fun i => (a.str?.bind fun s => idxSt s i).or ((a.top?.bind fun b => (TO.seq? (T b)).bind fun xs => seqAt xs i).or ((a.seq?.bind fun xs => seqAt xs i).or
  (a.ivs?.bind fun ns => if 0 ≤ i ∧ i < 1000 then ns[i.toNat]?.map .int else none)))
theorem TO.ofSeq {t : Option TO} {xs} (h : TO.seq? t = some xs) : ∃ tup, t = some (.seq tup xs) := by
  cases t with
  | none => exact nos h
  | some w => cases w <;> first | exact nos h | exact ⟨_, congrArg _ (congrArg _ (Option.some.inj h))⟩
theorem ixS {T : Addr → Option TO} {s : List Nat} {i : Int} : idxF T (.str s) (.int i) = idxSt s i := by
  show (idxSt s i).or none = _; exact Option.or_none
theorem ixT {T : Addr → Option TO} {a : Addr} {tup : Bool} {xs : List PV} {i : Int} (h : T a = some (.seq tup xs)) : idxF T (.top a) (.int i) = seqAt xs i := by
  show ((TO.seq? (T a)).bind fun xs => seqAt xs i).or none = _; rw [h]; exact Option.or_none
theorem ixQ {T : Addr → Option TO} {tup : Bool} {xs : List PV} {i : Int} : idxF T (.seq tup xs) (.int i) = seqAt xs i := by
  show (seqAt xs i).or none = _; exact Option.or_none
theorem ixV {T : Addr → Option TO} {ns : List Int} {i : Int} : idxF T (.ivs ns) (.int i) = if 0 ≤ i ∧ i < 1000 then ns[i.toNat]?.map .int else none := rfl
theorem seq_item {tup : Bool} {a : Addr} {items : List Value} {n : Nat} {o : Obj} {i : Int} {t : Tok} {v : Value} {A : Around} {s : Shared} {Q E : Value → Shared → Prop} {value slice : Expr}
    (ho : s.heap.get? a = some o) (hc : o.cls = .type (seqT tup)) (hd : o.data = .seq items.toArray n) (h0 : 0 ≤ i) (h1 : i < 1000) (hv : items[i.toNat]? = some v) (hs : subscripted slice false (.ref a) (.int i t) = operate [.ref a, .int i t] (getItem (.ref a) (.int i t)))
    (h : Q v s) : wpAny (model g.prog g.w) A (subscriptTail value slice (.ref a) (.int i t)) Q E s := by
  cases tup with
  | true =>
    have hT : IsTup s.heap a items.toArray := ⟨o, ho, hc, n, hd⟩
    refine item_tupleT hT (by omega) (by omega) (j := i.toNat) ?_ hv h hs
    have hl := (List.getElem?_eq_some_iff.mp hv).1
    unfold seqIndex?
    have : ¬ (i < 0) := by omega
    simp only [this, if_false]
    rw [if_pos (by simp only [Bool.and_eq_true, decide_eq_true_eq]; omega)]
  | false =>
    have hL : s.heap.IsList a items.toArray := ⟨o, ho, hc, n, hd⟩
    exact tail_any hL.typeIs slot_list_getitem.lookup (wpAny_getItem_list hL h0 (by omega) (by simpa using hv) h) hs
theorem IntsAre.get {vs : List Value} {ns : List Int} (h : IntsAre vs ns) : ∀ (i : Nat) (n : Int), ns[i]? = some n → ∃ t, vs[i]? = some (.int n t) := by
  induction h with
  | nil => intro i n h; simp at h
  | cons => rename_i ih; intro i n h; cases i with
    | zero => simp at h; subst h; exact ⟨_, rfl⟩
    | succ i => simp at h; obtain ⟨t, ht⟩ := ih i n h; exact ⟨t, by simpa using ht⟩
theorem seqAt_inv {xs : List PV} {i : Int} {c : PV} (h : seqAt xs i = some c) : (0 ≤ i ∧ i < 1000) ∧ xs[i.toNat]? = some c := by
  unfold seqAt at h
  by_cases q : 0 ≤ i ∧ i < 1000
  · rw [if_pos q] at h; exact ⟨q, h⟩
  · rw [if_neg q] at h; exact nos h
theorem PV.ofQ {a : PV} {x : List PV} (e : a.seq? = some x) : ∃ tup, a = .seq tup x := by
  cases a <;> first | exact nos e | exact ⟨_, congrArg _ (Option.some.inj e)⟩
theorem PV.ofV {a : PV} {x : List Int} (e : a.ivs? = some x) : a = .ivs x := by
  cases a <;> first | exact nos e | exact congrArg _ (Option.some.inj e)
theorem idx_ok {a i c : PV} {u v : Value} {G : List (Addr × Obj)} {A : Around} {s : Shared} {Q E : Value → Shared → Prop} {value slice : Expr} (ok : g.Ok) (hT : ∀ a t, g.tobj a = some t → TOk g a t) (kp : ∀ b o, g.H.get? b = some o → s.heap.get? b = some o) (kG : ∀ p ∈ G, s.heap.get? p.1 = some p.2)
    (hu : VR g G a u) (hv : VR g G i v) (hc : idxF g.tobj a i = some c) (hs : ∀ o i, subscripted slice false o i = operate [o, i] (getItem o i))
    (h : ∀ r tk, VR g G c r → Q r { s with toks := tk }) : wpAny (model g.prog g.w) A (subscriptTail value slice u v) Q E s := by
  obtain ⟨i', hi, hc⟩ := Option.bind_eq_some_iff.mp hc
  obtain ⟨ti, rfl⟩ := hv.ofI hi
  rcases Option.or_eq_some_iff.mp hc with hc | ⟨_, hc⟩
  · obtain ⟨z, hz, hk⟩ := Option.bind_eq_some_iff.mp hc
    obtain ⟨tz, rfl⟩ := hu.ofS hz
    clear hc
    have fin : ∀ x, PV.str [x] = c → ∀ t, VR g G c (.str (toStr [x]) t) := fun x e t => e ▸ .str [x] _
    unfold idxSt at hk
    clear hv
    by_cases hb : 0 ≤ i' ∧ i' < z.length
    · rw [if_pos hb] at hk
      by_cases hb' : i' < 1000000
      · rw [if_pos hb'] at hk
        obtain ⟨x, hx, e⟩ := Option.map_eq_some_iff.mp hk
        refine tail_any (typeIs_str _ _ _) F.slot_str_getitem.lookup (PyProof.Rows.getItem_str (c := x) ?_ ?_ (h _ _ (fin x e _))) (hs _ _)
        · simp; omega
        · unfold seqIndex?
          have : ¬ (i' < 0) := by omega
          simp only [this, if_false]
          rw [if_pos (by simp only [Bool.and_eq_true, decide_eq_true_eq]; rw [toStr_length]; omega)]
          rw [Option.bind_some, toStr_cps]; exact hx
      · rw [if_neg hb'] at hk; exact nos hk
    · rw [if_neg hb] at hk
      by_cases hi : i' = -1
      · rw [if_pos hi] at hk
        subst hi
        obtain ⟨x, hx, e⟩ := Option.map_eq_some_iff.mp hk
        have hlen : z.length ≠ 0 := by intro q; have := List.eq_nil_of_length_eq_zero q; subst this; simp at hx
        refine tail_any (typeIs_str _ _ _) F.slot_str_getitem.lookup (PyProof.Rows.getItem_str (c := x) (by decide) ?_ (h _ _ (fin x e _))) (hs _ _)
        unfold seqIndex?
        simp only [toStr_length]
        have hneg : ((-1 : Int) < 0) = True := by simp
        simp only [hneg, if_true]
        rw [if_pos (by simp only [Bool.and_eq_true, decide_eq_true_eq]; omega), Option.bind_some, toStr_cps, ← hx, List.getLast?_eq_getElem?]
        congr 1; omega
      · rw [if_neg hi] at hk; exact nos hk
  rcases Option.or_eq_some_iff.mp hc with hc | ⟨_, hc⟩
  · obtain ⟨b, hz, hc⟩ := Option.bind_eq_some_iff.mp hc
    have e := hu.ofT hz
    subst e
    obtain ⟨xs, hx, hc⟩ := Option.bind_eq_some_iff.mp hc
    obtain ⟨tup, ht⟩ := TO.ofSeq hx
    obtain ⟨hb, hc⟩ := seqAt_inv hc
    obtain ⟨items, n, o, h1, h2, h3, h4, h5⟩ := hT _ _ ht
    obtain ⟨w', hw, V⟩ := h4.get _ _ hc
    exact seq_item (kp _ _ h1) h2 h3 hb.1 hb.2 hw (hs _ _) (h _ s.toks V.up)
  rcases Option.or_eq_some_iff.mp hc with hc | ⟨_, hc⟩
  · obtain ⟨xs, hx, hc⟩ := Option.bind_eq_some_iff.mp hc
    obtain ⟨tup, rfl⟩ := PV.ofQ hx
    obtain ⟨a', items, n, rfl, hm, hvs⟩ := hu.q
    obtain ⟨hb, hc⟩ := seqAt_inv hc
    obtain ⟨w', hw, V⟩ := hvs.get _ _ hc
    exact seq_item (tup := tup) (kG _ hm) rfl rfl hb.1 hb.2 hw (hs _ _) (h _ s.toks V)
  · obtain ⟨ns, hx, hk⟩ := Option.bind_eq_some_iff.mp hc
    obtain rfl := PV.ofV hx
    obtain ⟨rfl, rfl⟩ := hu.v
    by_cases hb : 0 ≤ i' ∧ i' < 1000
    · rw [if_pos hb] at hk
      obtain ⟨x, hx, e⟩ := Option.map_eq_some_iff.mp hk
      obtain ⟨t, ht⟩ := IntsAre.get ok.intsOk _ _ hx
      have hL : s.heap.IsList g.scr g.vs.toArray := by
        obtain ⟨o, h1, h2⟩ := ok.scr
        exact ⟨o, kp _ _ h1, h2⟩
      exact tail_any hL.typeIs slot_list_getitem.lookup (wpAny_getItem_list hL hb.1 (by omega) (by simpa using ht) (h _ s.toks (e ▸ VR.int x t))) (hs _ _)
    · rw [if_neg hb] at hk; exact nos hk
noncomputable def idxE (T : Addr → Option TO) (f1 f2 : St → Option (PV × St)) (st : St) : Option (PV × St) :=
  match f1 st with
  | some (a, st1) => (match f2 st1 with
    | some (b, st2) => (idxF T a b).map (·, st2)
    | none => none)
  | none => none
theorem Inv.getG {L fs G X st h} (I : Inv g fi L fs G X st h) : ∀ p ∈ G, h.get? p.1 = some p.2 := fun p hp => by
  obtain ⟨m, sl, F, N⟩ := I
  exact (N p (List.mem_append_right _ (List.mem_append_left _ hp))).1
theorem sem_idx {l r : Expr} {pos} {f1 f2} (ok : g.Ok) (hT : ∀ a t, g.tobj a = some t → TOk g a t) (h1 : SemE g fi d l f1) (h2 : SemE g fi d r f2) (hs : ∀ o i, subscripted r false o i = operate [o, i] (getItem o i)) :
    SemE g fi d (.Subscript l r pos) (idxE g.tobj f1 f2) := by
  intro s A L fa fs G X st pv st' Q E hA hI hf k
  refine um hf fun a st1 q1 hf => ?_
  refine um hf fun b st2 q2 hf => ?_
  obtain ⟨c, hc, e⟩ := Option.map_eq_some_iff.mp hf
  cases e
  refine PyProof.Rows.Subscript_ (h1 s hA hI q1 fun G1 X1 u h' tk hG1 hX1 I1 V1 => h2 _ hA I1 q2 fun G2 X2 v h'' tk' hG2 hX2 I2 V2 => ?_)
  exact idx_ok (s := { s with heap := h'', toks := tk' }) ok hT I2.keep I2.getG (V1.mono hG2) V2 hc hs fun r tk'' V => k G2 X2 r h'' tk'' (fun p hp => hG2 _ (hG1 _ hp)) (hX1.trans hX2) I2 V
noncomputable def cutE (fv f1 f2 : St → Option (PV × St)) (st : St) : Option (PV × St) :=
  match fv st with
  | some (.str x, st0) => (match f1 st0 with
    | some (.int i, st1) => (match f2 st1 with
      | some (.int j, st2) => if 0 ≤ i ∧ i ≤ j ∧ j ≤ x.length ∧ x.length ≤ 1000000 then some (.str ((x.drop i.toNat).take (j - i).toNat), st2) else none
      | _ => none)
    | _ => none)
  | _ => none
noncomputable def fromE (fv f1 : St → Option (PV × St)) (st : St) : Option (PV × St) :=
  match fv st with
  | some (.str x, st0) => (match f1 st0 with
    | some (.int i, st1) => if 0 ≤ i ∧ i ≤ x.length ∧ x.length ≤ 1000000 then some (.str (x.drop i.toNat), st1) else none
    | _ => none)
  | _ => none
theorem toStr_list (x : List Nat) : (toStr x).cps.toList = x := by simp [toStr]
theorem sem_cut {l a b : Expr} {p pos} {fv f1 f2} (h0 : SemE g fi d l fv) (h1 : SemE g fi d a f1) (h2 : SemE g fi d b f2) (ht : ∀ x t r, letTemporaryGo l (.str x t) r = pure ()) :
    SemE g fi d (.Subscript l (.Slice (some a) (some b) none p) pos) (cutE fv f1 f2) := by
  intro s A L fa fs G X st pv st' Q E hA hI hf k
  refine us hf fun x st0 q0 hf => ?_
  refine ui hf fun i st1 q1 hf => ?_
  refine ui hf fun j st2 q2 hf => ?_
  refine ifk hf fun hb e0 => ?_
  cases e0
  refine PyProof.Rows.Subscript_ (h0 s hA hI q0 fun G0 X0 u h' tk hG0 hX0 I0 V0 => wpAny_Slice ?_)
  refine h1 _ hA I0 q1 fun G1 X1 u1 h1' tk1 hG1 hX1 I1 V1 => h2 _ hA I1 q2 fun G2 X2 u2 h2' tk2 hG2 hX2 I2 V2 => ?_
  refine wpAny_pure ?_
  obtain ⟨t0, rfl⟩ := V0.s
  obtain ⟨t1, rfl⟩ := V1.i
  obtain ⟨t2, rfl⟩ := V2.i
  obtain ⟨m, sl, F, N, S, R, nd, fr⟩ := I2
  refine slice_strN_ss (s := { s with heap := h2', toks := tk2 }) F N (fun h' t' k' F' N' => ?_) rfl (fun r => ht _ _ r) (by rw [toStr_length, sizeLine_eq]; omega)
  have e := slice_closesL (x := toStr x) hb.1 hb.2.1 (by rw [toStr_length]; exact hb.2.2.1)
  rw [beq_iff_eq] at e
  rw [e, toStr_list]
  exact k G2 X2 _ h' k' (fun p hp => hG2 _ (hG1 _ (hG0 _ hp))) ((hX0.trans hX1).trans hX2) ⟨m, sl, F', N', S, R, nd, fr⟩ (.str _ _)
theorem sem_from {l a : Expr} {p pos} {fv f1} (h0 : SemE g fi d l fv) (h1 : SemE g fi d a f1) (ht : ∀ x t r, letTemporaryGo l (.str x t) r = pure ()) :
    SemE g fi d (.Subscript l (.Slice (some a) none none p) pos) (fromE fv f1) := by
  intro s A L fa fs G X st pv st' Q E hA hI hf k
  refine us hf fun x st0 q0 hf => ?_
  refine ui hf fun i st1 q1 hf => ?_
  refine ifk hf fun hb e0 => ?_
  cases e0
  refine PyProof.Rows.Subscript_ (h0 s hA hI q0 fun G0 X0 u h' tk hG0 hX0 I0 V0 => wpAny_Slice ?_)
  refine h1 _ hA I0 q1 fun G1 X1 u1 h1' tk1 hG1 hX1 I1 V1 => ?_
  refine wpAny_pure (wpAny_pure ?_)
  obtain ⟨t0, rfl⟩ := V0.s
  obtain ⟨t1, rfl⟩ := V1.i
  obtain ⟨m, sl, F, N, S, R, nd, fr⟩ := I1
  refine slice_strN_sn (s := { s with heap := h1', toks := tk1 }) F N (fun h' t' k' F' N' => ?_) rfl (fun r => ht _ _ r) (by rw [toStr_length, sizeLine_eq]; omega)
  have e := slice_closes_fromL (x := toStr x) (b := x.length) hb.1 (by rw [toStr_length]; exact hb.2.1) (by rw [toStr_length])
  rw [beq_iff_eq] at e
  rw [e, toStr_list]
  have hd : (x.drop i.toNat).take ((x.length : Int) - i).toNat = x.drop i.toNat := List.take_of_length_le (by rw [List.length_drop]; omega)
  rw [hd]
  exact k G1 X1 _ h' k' (fun p hp => hG1 _ (hG0 _ hp)) (hX0.trans hX1) ⟨m, sl, F', N', S, R, nd, fr⟩ (.str _ _)
end
noncomputable def plainX : Expr → Bool
  | .Starred .. => false
  | _ => true
theorem star_plain {e : Expr} {rest : List Expr} (h : plainX e = true) (env : Env) : starEach (e :: rest) env = (false, eval e env) :: starEach rest env := by
  cases e <;> first | rfl | cases h
theorem plain_any {es : List Expr} (h : es.all plainX = true) (pos : Pos) (env : Env) : (backTo pos (starEach es env)).any (·.1) = false := by
  induction es with
  | nil => rfl
  | cons e r ih =>
    rw [List.all_cons, Bool.and_eq_true] at h
    rw [star_plain h.1]
    exact ih h.2
noncomputable def SemL (g : Gd) (fi : FI) (d : Nat) (es : List Expr) (f : St → Option (List PV × St)) : Prop :=
  ∀ (pos : Pos) (s : Shared) {A : Around} {L fa : Addr} {fs : List Env} {G X : List (Addr × Obj)} {st : St} {pvs : List PV} {st' : St} {Q : List Value → Shared → Prop} {E : Value → Shared → Prop},
    AOK d A (fi.env L fa) fs → Inv g fi L fs G X st s.heap → f st = some (pvs, st') →
    (∀ G' X' vs h' tk, (∀ p ∈ G, p ∈ G') → UpS X X' → Inv g fi L fs G' X' st' h' → VRs g G' pvs vs → Q vs { s with heap := h', toks := tk }) →
    wpAny (model g.prog g.w) A (spliced (backTo pos (starEach es (fi.env L fa)))) Q E s
noncomputable def nilL (st : St) : Option (List PV × St) := some ([], st)
noncomputable def consL (f : St → Option (PV × St)) (r : St → Option (List PV × St)) (st : St) : Option (List PV × St) :=
  match f st with
  | some (a, st1) => (match r st1 with
    | some (l, st2) => some (a :: l, st2)
    | none => none)
  | none => none
section
variable {g : Gd} {fi : FI} {d : Nat}
theorem sem_nilL : SemL g fi d [] nilL := by
  intro pos s A L fa fs G X st pvs st' Q E hA hI hf k
  cases hf
  exact wpAny_items_nil (k G X [] s.heap s.toks (fun _ h => h) (.refl X) hI .nil)
theorem sem_consL {e : Expr} {es : List Expr} {f r} (hp : plainX e = true) (h1 : SemE g fi d e f) (h2 : SemL g fi d es r) : SemL g fi d (e :: es) (consL f r) := by
  intro pos s A L fa fs G X st pvs st' Q E hA hI hf k
  refine um hf fun a st1 q1 hf => ?_
  refine ul hf fun l st2 q2 hf => ?_
  cases hf
  refine wpAny_items_cons (h1 s hA hI q1 fun G1 X1 u h' tk hG1 hX1 I1 V1 => h2 pos _ hA I1 q2 fun G2 X2 v h'' tk' hG2 hX2 I2 V2 => ?_) (star_plain hp _)
  exact k G2 X2 (u :: v) h'' tk' (fun p hp => hG2 _ (hG1 _ hp)) (hX1.trans hX2) I2 (.cons (V1.mono hG2) V2)
noncomputable def dispE (tup : Bool) (f : St → Option (List PV × St)) (st : St) : Option (PV × St) :=
  match f st with
  | some (l, st1) => if l.length ≤ 1000 then some (.seq tup l, st1) else none
  | none => none
theorem sem_tuple {es : List Expr} {k0 pos f} (h : SemL g fi d es f) : SemE g fi d (.Tuple es k0 pos) (dispE true f) := by
  intro s A L fa fs G X st pv st' Q E hA hI hf k
  refine ul hf fun l st1 q hf => ?_
  refine ifk hf fun hl e0 => ?_
  cases e0
  refine wpAny_Tuple (h pos s hA hI q fun G1 X1 vs h' tk hG1 hX1 I1 V1 => ⟨by rw [← V1.length, sizeLine_eq]; omega, ?_⟩)
  have I2 := I1.pushG { cls := .type "tuple", data := .seq vs.toArray } rfl
  exact k _ X1 _ _ tk (fun p hp => .tail _ (hG1 _ hp)) hX1 I2 (.seq true l _ vs 0 (.head _) (V1.mono fun p hp => .tail _ hp))
theorem sem_list {es : List Expr} {pos f} (h : SemL g fi d es f) : SemE g fi d (.List es pos) (dispE false f) := by
  intro s A L fa fs G X st pv st' Q E hA hI hf k
  refine ul hf fun l st1 q hf => ?_
  refine ifk hf fun hl e0 => ?_
  cases e0
  refine wpAny_List (h pos s hA hI q fun G1 X1 vs h' tk hG1 hX1 I1 V1 => ⟨by rw [← V1.length, sizeLine_eq]; omega, ?_⟩)
  have I2 := I1.pushG { cls := .type "list", data := .seq vs.toArray } rfl
  exact k _ X1 _ _ tk (fun p hp => .tail _ (hG1 _ hp)) hX1 I2 (.seq false l _ vs 0 (.head _) (V1.mono fun p hp => .tail _ hp))
inductive Bi where
  | len | ord | min
noncomputable def Bi.id : Bi → String
  | .len => "len" | .ord => "ord" | .min => "min"
noncomputable def lenF (T : Addr → Option TO) (x : PV) : Option PV :=
  (x.str?.bind fun s => if s.length ≤ 1000000 then some (.int s.length) else none).or ((x.top?.bind fun a => (TO.seq? (T a)).map fun xs => .int xs.length).or ((x.seq?.bind fun xs => if xs.length ≤ 1000 then some (.int xs.length) else none).or
  (x.ivs?.bind fun ns => if ns.length ≤ 1048576 then some (.int ns.length) else none)))
noncomputable def ordF (x : PV) : Option PV := x.str?.bind fun s => match s with
  | [c] => some (.int c)
  | _ => none
noncomputable def bi1 (T : Addr → Option TO) (b : Bi) (x : PV) : Option PV := match b with
  | .len => lenF T x
  | .ord => ordF x
  | .min => none
noncomputable def bi2 (b : Bi) (x y : PV) : Option PV := match b with
  | .min => x.int?.bind fun a => y.int?.bind fun b => some (.int (if b < a then b else a))
  | _ => none
noncomputable def biF (T : Addr → Option TO) (b : Bi) (l : List PV) : Option PV := match l with
  | [x] => bi1 T b x
  | [x, y] => bi2 b x y
  | _ => none
theorem lnS {T : Addr → Option TO} {s : List Nat} (h : s.length ≤ 1000000) : biF T .len [.str s] = some (.int s.length) := by
  show (if s.length ≤ 1000000 then some (PV.int s.length) else none).or _ = _
  rw [if_pos h]; rfl
theorem lnT {T : Addr → Option TO} {a : Addr} {tup : Bool} {xs : List PV} (h : T a = some (.seq tup xs)) : biF T .len [.top a] = some (.int xs.length) := by
  show ((TO.seq? (T a)).map _).or none = _; rw [h]; rfl
theorem lnV {T : Addr → Option TO} {ns : List Int} (h : ns.length ≤ 1048576) : biF T .len [.ivs ns] = some (.int ns.length) := if_pos h
theorem IntsAre.len {vs : List Value} {ns : List Int} (h : IntsAre vs ns) : vs.length = ns.length := by
  induction h with
  | nil => rfl
  | cons => rename_i ih; simp [ih]
theorem len_seq {tup : Bool} {a : Addr} {items : List Value} {n : Nat} {o : Obj} {A : Around} {s : Shared} {Q E : Value → Shared → Prop}
    (ho : s.heap.get? a = some o) (hc : o.cls = .type (seqT tup)) (hd : o.data = .seq items.toArray n) (hl : items.length < 2 ^ 62)
    (h : Q (.int items.length (s.toks + 1)) { s with toks := s.toks + 1 + 1 }) : wpAny (model g.prog g.w) A (call (.builtin "len") [.ref a]) Q E s := by
  cases tup with
  | true => exact len_tuple (⟨o, ho, hc, n, hd⟩ : IsTup s.heap a items.toArray) (by rw [List.size_toArray]; omega) (by rw [List.size_toArray]; exact h)
  | false => exact call_len_list (⟨o, ho, hc, n, hd⟩ : s.heap.IsList a items.toArray) (by rw [List.size_toArray]; omega) (by rw [List.size_toArray]; exact h)
section
variable {a c : PV} {v w : Value} {L : Addr} {fs : List Env} {G X : List (Addr × Obj)} {st : St} {A : Around} {s : Shared} {Q E : Value → Shared → Prop}
theorem len_ok (ok : g.Ok) (hT : ∀ a t, g.tobj a = some t → TOk g a t) (I : Inv g fi L fs G X st s.heap)
    (hu : VR g G a v) (hc : lenF g.tobj a = some c) (h : ∀ r tk, VR g G c r → Q r { s with toks := tk }) : wpAny (model g.prog g.w) A (call (.builtin "len") [v]) Q E s := by
  have hi : ∀ z : Nat, PV.int z = c → ∀ tk tk', Q (.int z tk) { s with toks := tk' } := fun z e tk tk' => h _ _ (e ▸ .int _ _)
  rcases Option.or_eq_some_iff.mp hc with hk | ⟨_, hk⟩
  · obtain ⟨x, hx, hk⟩ := Option.bind_eq_some_iff.mp hk
    obtain ⟨t, rfl⟩ := hu.ofS hx
    obtain ⟨hl, e⟩ := ifs hk
    exact len_str (by rw [toStr_length]; omega) (by rw [toStr_length]; exact hi _ e _ _)
  rcases Option.or_eq_some_iff.mp hk with hk | ⟨_, hk⟩
  · obtain ⟨x, hx, hk⟩ := Option.bind_eq_some_iff.mp hk
    obtain rfl := hu.ofT hx
    obtain ⟨xs, hx, e⟩ := Option.map_eq_some_iff.mp hk
    obtain ⟨tup, ht⟩ := TO.ofSeq hx
    obtain ⟨items, n, o, h1, h2, h3, h4, h5⟩ := hT _ _ ht
    exact len_seq (I.keep _ _ h1) h2 h3 (by omega) (by rw [← h4.length]; exact hi _ e _ _)
  rcases Option.or_eq_some_iff.mp hk with hk | ⟨_, hk⟩
  · obtain ⟨x, hx, hk⟩ := Option.bind_eq_some_iff.mp hk
    obtain ⟨tup, rfl⟩ := PV.ofQ hx
    obtain ⟨b, items, n, rfl, hm, hvs⟩ := hu.q
    obtain ⟨hl, e⟩ := ifs hk
    have := hvs.length
    exact len_seq (I.getG _ hm) rfl rfl (by omega) (by rw [← this]; exact hi _ e _ _)
  · obtain ⟨x, hx, hk⟩ := Option.bind_eq_some_iff.mp hk
    obtain rfl := PV.ofV hx
    obtain ⟨rfl, rfl⟩ := hu.v
    obtain ⟨hl, e⟩ := ifs hk
    obtain ⟨o, h1, h2, n, h3⟩ := ok.scr
    have q := IntsAre.len ok.intsOk
    exact len_seq (tup := false) (I.keep _ _ h1) h2 h3 (by omega) (by rw [q]; exact hi _ e _ _)
theorem ord_ok (hu : VR g G a v) (hc : ordF a = some c) (h : ∀ r tk, VR g G c r → Q r { s with toks := tk }) : wpAny (model g.prog g.w) A (call (.builtin "ord") [v]) Q E s := by
  obtain ⟨x, hx, hk⟩ := Option.bind_eq_some_iff.mp hc
  obtain ⟨t, rfl⟩ := hu.ofS hx
  match x, hk with
  | [z], hk => exact ord_of_one (by rfl) (h _ _ (Option.some.inj hk ▸ .int _ _))
theorem min_ok (hh : A.handled = none) (I : Inv g fi L fs G X st s.heap) (hu : VR g G a v) {b : PV} (hv : VR g G b w) (hc : bi2 .min a b = some c) (h : ∀ r h' tk, Inv g fi L fs G X st h' → VR g G c r → Q r { s with heap := h', toks := tk }) :
    wpAny (model g.prog g.w) A (call (.builtin "min") [v, w]) Q E s := by
  obtain ⟨x, hx, hk⟩ := Option.bind_eq_some_iff.mp hc
  obtain ⟨t, rfl⟩ := hu.ofI hx
  obtain ⟨y, hy, hk⟩ := Option.bind_eq_some_iff.mp hk
  obtain ⟨t', rfl⟩ := hv.ofI hy
  obtain ⟨m, sl, F, N, S, R, nd, fr⟩ := I
  exact min_two_N hh F N fun h' tk F' N' => h _ h' tk ⟨m, sl, F', N', S, R, nd, fr⟩ (Option.some.inj hk ▸ .int _ _)
end
theorem bi_ok {b : Bi} {l : List PV} {c : PV} {vs : List Value} {L : Addr} {fs} {G X : List (Addr × Obj)} {st : St} {A : Around} {s : Shared} {Q E : Value → Shared → Prop} (ok : g.Ok) (hT : ∀ a t, g.tobj a = some t → TOk g a t) (hh : A.handled = none) (I : Inv g fi L fs G X st s.heap)
    (hu : VRs g G l vs) (hc : biF g.tobj b l = some c) (h : ∀ r h' tk, Inv g fi L fs G X st h' → VR g G c r → Q r { s with heap := h', toks := tk }) : wpAny (model g.prog g.w) A (call (.builtin b.id) vs) Q E s := by
  match l, hc, hu with
  | [x], hc, hu =>
    obtain ⟨v, rfl, V⟩ := hu.o1
    cases b with
    | len => exact len_ok ok hT I V hc fun r tk => h r s.heap tk I
    | ord => exact ord_ok V hc fun r tk => h r s.heap tk I
    | min => exact nos hc
  | [x, y], hc, hu =>
    obtain ⟨v, vs, rfl, V, hu⟩ := hu.c1
    obtain ⟨w, rfl, V'⟩ := hu.o1
    cases b with
    | min => exact min_ok hh I V V' hc h
    | len => exact nos hc
    | ord => exact nos hc
noncomputable def biE (T : Addr → Option TO) (b : Bi) (f : St → Option (List PV × St)) (st : St) : Option (PV × St) :=
  match f st with
  | some (l, st1) => (biF T b l).map (·, st1)
  | none => none
theorem sem_bi {x : PySem.Str} {xp pos} {e : Expr} {es : List Expr} {f} (b : Bi) (ok : g.Ok) (hT : ∀ a t, g.tobj a = some t → TOk g a t) (e0 : nsIn g.K mainGlobals x = some none) (hv : bootBuiltins x = some (.builtin b.id)) (hn : x ≠ "__name__")
    (hk : fi.scope.kind = .function) (hx : (fi.env 0 0).kindOf x = some .globalImplicit) (hd : (x == ("__debug__" : PySem.Str)) = false) (hp : (e :: es).all plainX = true) (h : SemL g fi d (e :: es) f) : SemE g fi d (.Call (.Name x xp) (e :: es) [] pos) (biE g.tobj b f) := by
  intro s A L fa fs G X st pv st' Q E hA hI hf k
  refine ul hf fun l st1 q hf => ?_
  obtain ⟨c, hc, e'⟩ := Option.map_eq_some_iff.mp hf
  cases e'
  rw [List.all_cons, Bool.and_eq_true] at hp
  obtain ⟨m, sl, F, N, S, R, nd, fr⟩ := id hI
  refine PyProof.Rows.Call_Name rfl (name_B F ok.X ok.T e0 hv hn ?_ hk hx hd)
  refine PyProof.Rows.callWith_builtin1 ?_ (star_plain hp.1 _) (plain_any hp.2 _ _)
  refine h pos s hA hI q fun G1 X1 vs h' tk hG1 hX1 I1 V1 => ?_
  exact bi_ok (s := { s with heap := h', toks := tk }) ok hT hA.handled I1 V1 hc fun r h2 tk2 I2 V2 => k G1 X1 r h2 tk2 hG1 hX1 I2 V2
noncomputable def endsE (fv f1 : St → Option (PV × St)) (st : St) : Option (PV × St) :=
  match fv st with
  | some (.str x, st0) => (match f1 st0 with
    | some (.str y, st1) => some (.bool (y.isSuffixOf x), st1)
    | _ => none)
  | _ => none
theorem ends_suffix (x y : List Nat) : PySem.Txt.endswith (toStr x) (toStr y) = y.isSuffixOf x := by
  unfold PySem.Txt.endswith
  rw [StrLaws.subAt_eq, toStr_length, toStr_length, toStr_list, toStr_list, Nat.zero_add]
  rw [Bool.eq_iff_iff, Bool.and_eq_true, decide_eq_true_eq, beq_iff_eq, List.isSuffixOf_iff_suffix]
  constructor
  · rintro ⟨h1, h2⟩
    rw [List.take_of_length_le (by rw [List.length_drop]; omega)] at h2
    rw [← h2]
    exact List.drop_suffix _ _
  · rintro ⟨z, rfl⟩
    refine ⟨by simp, ?_⟩
    rw [List.length_append, Nat.add_sub_cancel, List.drop_left, List.take_of_length_le (Nat.le_refl _)]
theorem meth_eq {o : Expr} {name : PySem.Str} {ap pos : Pos} {es : List Expr} {env : Env} (hbase : attributeBase o name env (eval o env) = eval o env) (hp : es.all plainX = true) (hn : es.length < 20) (hl : (ap.endLine == pos.line) = true) :
    eval (.Call (.Attribute o name ap) es [] pos) env = (do
      let ov ← eval o env
      standAt ap.atName
      let (f, first) ← holding [ov] (getMethod ov name (do return (← importBound o env).getD true))
      callWith pos f first (backTo pos (starEach es env)) (backToKw pos (keywordEach [] env))) := by
  rw [arm_eval_Call, hbase]
  have hform : methodCallForm (es.length + ([] : List Keyword).length) (backTo pos (starEach es env)) (backToKw pos (keywordEach [] env)) = true := by
    have h := plain_any hp pos env
    unfold methodCallForm
    have h1 : (backTo pos (starEach es env)).all (fun x => !x.1) = true := by
      rw [List.all_eq_not_any_not]
      simp only [Bool.not_not]
      rw [h]; rfl
    have h2 : (backToKw pos (keywordEach [] env)) = [] := rfl
    rw [h1, h2]
    simp
    omega
  have hpos : methodCallPos true o env ap pos = pure pos := by unfold methodCallPos; simp [hl]
  unfold methodCall
  rw [hform, hpos]
  rfl
theorem sem_ends {l e : Expr} {ap pos} {fv f1} (h0 : SemE g fi d l fv) (h1 : SemE g fi d e f1) (hp : plainX e = true)
    (hb : ∀ env, attributeBase l "endswith" env (eval l env) = eval l env) (hl : (ap.endLine == pos.line) = true) : SemE g fi d (.Call (.Attribute l "endswith" ap) [e] [] pos) (endsE fv f1) := by
  intro s A L fa fs G X st pv st' Q E hA hI hf k
  refine us hf fun x st0 q0 hf => ?_
  refine us hf fun y st1 q1 hf => ?_
  cases hf
  refine methodCall_KW (h0 s hA hI q0 fun G0 X0 u h' tk hG0 hX0 I0 V0 => ?_) (meth_eq (hb _) (by rw [List.all_cons, hp]; rfl) (by simp) hl)
  obtain ⟨t0, rfl⟩ := V0.s
  refine GM.endswith ?_
  refine PyProof.Rows.callWith_method1 ?_ (star_plain hp _) rfl
  refine sem_consL hp h1 sem_nilL pos _ hA I0 (by unfold consL nilL; rw [q1]) fun G1 X1 vs h1' tk1 hG1 hX1 I1 V1 => ?_
  obtain ⟨v, rfl, V⟩ := V1.o1
  obtain ⟨t1, rfl⟩ := V.s
  refine SC.endswith ?_
  rw [ends_suffix]
  exact k G1 X1 _ h1' tk1 (fun p hp => hG1 _ (hG0 _ hp)) (hX0.trans hX1) I1 (.bool _)
end
inductive FlR (g : Gd) (G : List (Addr × Obj)) : Fl → Flow → Prop
  | next : FlR g G .next .next
  | brk : FlR g G .brk .brk
  | cont : FlR g G .cont .cont
  | ret {pv : PV} {v : Value} : VR g G pv v → FlR g G (.ret pv) (.ret v)
section
variable {g : Gd} {G : List (Addr × Obj)} {v : Flow}
theorem FlR.n (h : FlR g G .next v) : v = .next := by cases h; rfl
theorem FlR.b (h : FlR g G .brk v) : v = .brk := by cases h; rfl
theorem FlR.c (h : FlR g G .cont v) : v = .cont := by cases h; rfl
theorem FlR.r {pv : PV} (h : FlR g G (.ret pv) v) : ∃ u, v = .ret u ∧ VR g G pv u := by cases h; exact ⟨_, rfl, by assumption⟩
end
structure Apart (g : Gd) (L : Addr) (G X : List (Addr × Obj)) (a : Addr) : Prop where
  base : g.H.get? a = none
  ne : a ≠ L
  led : ∀ p ∈ G ++ X, p.1 ≠ a
  self : ∀ x dx, g.sf = some (x, dx) → x ≠ a ∧ dx ≠ a
structure ExcR (g : Gd) (L : Addr) (G X : List (Addr × Obj)) (i : Fin 4) (e : Addr) (h : Heap) : Prop where
  ap : Apart g L G X e
  at_ : ∃ oe vs, h.get? e = some oe ∧ oe.cls = .ref (g.labA i) ∧ oe.data = .fields vs ∧
    (vs[1]? = some .none ∨ ∃ T oT ts, vs[1]? = some (.ref T) ∧ Apart g L G X T ∧ T ≠ e ∧ h.get? T = some oT ∧ oT.data = .fields ts ∧ ts[3]? = some (rawInt L))
noncomputable def SemS (g : Gd) (fi : FI) (d : Nat) (e : Stmt) (f : St → Option (Fl × St)) : Prop :=
  ∀ (s : Shared) {A : Around} {L fa : Addr} {fs : List Env} {G X : List (Addr × Obj)} {st : St} {fl : Fl} {st' : St} {Q : Flow → Shared → Prop} {E : Value → Shared → Prop},
    AOK d A (fi.env L fa) fs → Inv g fi L fs G X st s.heap → f st = some (fl, st') →
    (∀ G' X' v h' tk, (∀ p ∈ G, p ∈ G') → UpS X X' → Inv g fi L fs G' X' st' h' → FlR g G' fl v → Q v { s with heap := h', toks := tk }) →
    (∀ i, fl = .exc i → ∀ G' X' a h' tk, (∀ p ∈ G, p ∈ G') → UpS X X' → Inv g fi L fs G' X' st' h' → ExcR g L G' X' i a h' → E (.ref a) { s with heap := h', toks := tk }) →
    wpAny (model g.prog g.w) A (exec e (fi.env L fa)) Q E s
noncomputable def SemB (g : Gd) (fi : FI) (d : Nat) (b : List Stmt) (f : St → Option (Fl × St)) : Prop :=
  ∀ (s : Shared) {A : Around} {L fa : Addr} {fs : List Env} {G X : List (Addr × Obj)} {st : St} {fl : Fl} {st' : St} {Q : Flow → Shared → Prop} {E : Value → Shared → Prop},
    AOK d A (fi.env L fa) fs → Inv g fi L fs G X st s.heap → f st = some (fl, st') →
    (∀ G' X' v h' tk, (∀ p ∈ G, p ∈ G') → UpS X X' → Inv g fi L fs G' X' st' h' → FlR g G' fl v → Q v { s with heap := h', toks := tk }) →
    (∀ i, fl = .exc i → ∀ G' X' a h' tk, (∀ p ∈ G, p ∈ G') → UpS X X' → Inv g fi L fs G' X' st' h' → ExcR g L G' X' i a h' → E (.ref a) { s with heap := h', toks := tk }) →
    wpAny (model g.prog g.w) A (execs b (fi.env L fa)) Q E s
section
variable {g : Gd} {fi : FI} {d : Nat}
noncomputable def skipB (st : St) : Option (Fl × St) := some (.next, st)
noncomputable def seqB (f r : St → Option (Fl × St)) (st : St) : Option (Fl × St) :=
  match f st with
  | some (.next, st1) => r st1
  | x => x
theorem sem_nilB : SemB g fi d [] skipB := by
  intro s A L fa fs G X st fl st' Q E hA hI hf k _
  cases hf
  exact wpAny_execs_nil (k G X _ s.heap s.toks (fun _ h => h) (.refl X) hI .next)
theorem sem_consB {e : Stmt} {r : List Stmt} {f1 f2} (h1 : SemS g fi d e f1) (h2 : SemB g fi d r f2) : SemB g fi d (e :: r) (seqB f1 f2) := by
  intro s A L fa fs G X st fl st' Q E hA hI hf k kE
  refine unx hf (fun st1 q1 hf => ?_) fun hf hne => ?_
  · refine wpAny_execs_cons (h1 s hA hI q1 (fun G1 X1 v h' tk hG1 hX1 I1 V1 => ?_) fun i hi => nomatch hi)
    obtain rfl := V1.n
    exact h2 _ hA I1 hf (fun G2 X2 v2 h2' tk2 hG2 hX2 I2 V2 => k G2 X2 v2 h2' tk2 (fun p hp => hG2 _ (hG1 _ hp)) (hX1.trans hX2) I2 V2)
      fun i hi G2 X2 a h2' tk2 hG2 hX2 I2 V2 => kE i hi G2 X2 a h2' tk2 (fun p hp => hG2 _ (hG1 _ hp)) (hX1.trans hX2) I2 V2
  · refine wpAny_execs_cons (h1 s hA hI hf (fun G1 X1 v h' tk hG1 hX1 I1 V1 => ?_) kE)
    have kk := k G1 X1 v h' tk hG1 hX1 I1 V1
    cases V1 with
    | next => rw [hf] at hne; exact Bool.noConfusion hne
    | brk => exact kk
    | cont => exact kk
    | ret => exact kk
theorem sem_oneB {e : Stmt} {f1} (h1 : SemS g fi d e f1) : SemB g fi d [e] f1 := by
  intro s A L fa fs G X st fl st' Q E hA hI hf k kE
  refine wpAny_execs_cons (h1 s hA hI hf (fun G1 X1 v h' tk hG1 hX1 I1 V1 => ?_) kE)
  have kk := k G1 X1 v h' tk hG1 hX1 I1 V1
  cases V1 with
  | next => exact wpAny_execs_nil kk
  | brk => exact kk
  | cont => exact kk
  | ret => exact kk
theorem sem_break {pos} : SemS g fi d (.Break pos) (fun st => some (.brk, st)) := by
  intro s A L fa fs G X st fl st' Q E hA hI hf k _
  cases hf
  exact wpAny_Break (k G X _ s.heap s.toks (fun _ h => h) (.refl X) hI .brk)
theorem sem_cont {pos} : SemS g fi d (.Continue pos) (fun st => some (.cont, st)) := by
  intro s A L fa fs G X st fl st' Q E hA hI hf k _
  cases hf
  exact wpAny_Continue (k G X _ s.heap s.toks (fun _ h => h) (.refl X) hI .cont)
noncomputable def retB (f : St → Option (PV × St)) (st : St) : Option (Fl × St) := (f st).map fun x => (.ret x.1, x.2)
theorem sem_ret {e : Expr} {pos f} (h : SemE g fi d e f) : SemS g fi d (.Return (some e) pos) (retB f) := by
  intro s A L fa fs G X st fl st' Q E hA hI hf k _
  obtain ⟨⟨v, st1⟩, q, e⟩ := Option.map_eq_some_iff.mp hf
  cases e
  exact wpAny_Return_some (h s hA hI q fun G1 X1 v h' tk hG1 hX1 I1 V1 => k G1 X1 _ h' tk hG1 hX1 I1 (.ret V1))
noncomputable def ifB (t : St → Option (Bool × St)) (a b : St → Option (Fl × St)) (st : St) : Option (Fl × St) :=
  match t st with
  | some (true, st1) => a st1
  | some (false, st1) => b st1
  | none => none
theorem sem_if {t : Expr} {a b : List Stmt} {pos ft fa' fb} (h : SemT g fi d t ft) (h1 : SemB g fi d a fa') (h2 : SemB g fi d b fb) : SemS g fi d (.If t a b pos) (ifB ft fa' fb) := by
  intro s A L fa fs G X st fl st' Q E hA hI hf k kE
  refine ubb hf fun b st1 q hf => ?_
  refine wpAny_If (h s hA hI q fun G1 X1 h' tk hG1 hX1 I1 => ?_)
  cases b with
  | true =>
    exact h1 _ hA I1 hf (fun G2 X2 v2 h2' tk2 hG2 hX2 I2 V2 => k G2 X2 v2 h2' tk2 (fun p hp => hG2 _ (hG1 _ hp)) (hX1.trans hX2) I2 V2)
      fun i hi G2 X2 a h2' tk2 hG2 hX2 I2 V2 => kE i hi G2 X2 a h2' tk2 (fun p hp => hG2 _ (hG1 _ hp)) (hX1.trans hX2) I2 V2
  | false =>
    exact h2 _ hA I1 hf (fun G2 X2 v2 h2' tk2 hG2 hX2 I2 V2 => k G2 X2 v2 h2' tk2 (fun p hp => hG2 _ (hG1 _ hp)) (hX1.trans hX2) I2 V2)
      fun i hi G2 X2 a h2' tk2 hG2 hX2 I2 V2 => kE i hi G2 X2 a h2' tk2 (fun p hp => hG2 _ (hG1 _ hp)) (hX1.trans hX2) I2 V2
noncomputable def assertB (t : St → Option (Bool × St)) (st : St) : Option (Fl × St) :=
  match t st with
  | some (true, st1) => some (.next, st1)
  | _ => none
theorem sem_assert {t : Expr} {msg pos ft} (h : SemT g fi d t ft) : SemS g fi d (.Assert t msg pos) (assertB ft) := by
  intro s A L fa fs G X st fl st' Q E hA hI hf k kE
  refine uy hf fun st1 q hf => ?_
  cases hf
  exact wpAny_Assert_holds (h s hA hI q fun G1 X1 h' tk hG1 hX1 I1 => ⟨rfl, k G1 X1 _ h' tk hG1 hX1 I1 .next⟩)
noncomputable def scal : PV → Bool
  | .none | .bool _ | .int _ | .str _ => true
  | _ => false
noncomputable def exprB (f : St → Option (PV × St)) (st : St) : Option (Fl × St) :=
  match f st with
  | some (v, st1) => if scal v then some (.next, st1) else none
  | none => none
theorem sem_expr {e : Expr} {pos f} (hi : ∀ L fa, interactive (fi.env L fa) = false) (h : SemE g fi d e f) (hs : ∀ env, swapsWith e none pos.line env = pure false) : SemS g fi d (.Expr e pos) (exprB f) := by
  intro s A L fa fs G X st fl st' Q E hA hI hf k kE
  refine um hf fun v st1 q hf => ?_
  refine ifk hf fun hsc e0 => ?_
  cases e0
  refine wpAny_Expr (h s hA hI q fun G1 X1 u h' tk hG1 hX1 I1 V1 => ?_) (hi _ _) (hs _)
  have kk := k G1 X1 _ h' tk hG1 hX1 I1 .next
  cases V1 <;> first | exact kk | cases hsc
theorem nodup_inj : ∀ {l : List PySem.Str}, l.Nodup → ∀ (i j : Nat) (x : PySem.Str), l[i]? = some x → l[j]? = some x → i = j
  | [], _, i, j, x, h, _ => by simp at h
  | a :: r, hn, 0, 0, x, _, _ => rfl
  | a :: r, hn, 0, j + 1, x, h1, h2 => by
    simp at h1 h2
    subst h1
    exact absurd (List.mem_of_getElem? h2) (List.nodup_cons.mp hn).1
  | a :: r, hn, i + 1, 0, x, h1, h2 => by
    simp at h1 h2
    subst h2
    exact absurd (List.mem_of_getElem? h1) (List.nodup_cons.mp hn).1
  | a :: r, hn, i + 1, j + 1, x, h1, h2 => by
    simp at h1 h2
    rw [nodup_inj (List.nodup_cons.mp hn).2 i j x h1 h2]
noncomputable def upd (loc : Nat → Option PV) (k : Nat) (v : PV) : Nat → Option PV := fun j => if j = k then some v else loc j
theorem LocR.upd {names : List PySem.Str} {G loc m} (hn : names.Nodup) {k x pv v} (hk : names[k]? = some x) (h : LocR g names G loc m) (V : VR g G pv v) : LocR g names G (upd loc k pv) (fun y => if y = x then some v else m y) := by
  intro j y hj u hu
  unfold DL.upd at hu
  by_cases q : j = k
  · subst q
    rw [if_pos rfl] at hu
    cases hu
    rw [hk] at hj
    cases hj
    exact ⟨v, by simp, V⟩
  · rw [if_neg q] at hu
    obtain ⟨w, hw, hv⟩ := h j y hj u hu
    refine ⟨w, ?_, hv⟩
    have hne : y ≠ x := by
      rintro rfl
      exact q (nodup_inj hn _ _ _ hj hk)
    show (if y = x then some v else m y) = some w
    rw [if_neg hne]
    exact hw
structure NameAt (fi : FI) (k : Nat) (x : PySem.Str) : Prop where
  nodup : fi.names.Nodup
  at_ : fi.names[k]? = some x
  fn : fi.scope.kind = .function
  loc : (fi.env 0 0).kindOf x = some .local
  nd : (x == ("__debug__" : PySem.Str)) = false
theorem store_ok {k : Nat} {x : PySem.Str} (hx : NameAt fi k x) {L fa fs G X st} {pv : PV} {v : Value} {A : Around} {s : Shared} {Q : Unit → Shared → Prop} {E : Value → Shared → Prop} (I : Inv g fi L fs G X st s.heap) (V : VR g G pv v)
    (h : ∀ h' tk, Inv g fi L fs G X ⟨upd st.loc k pv, st.att⟩ h' → Q () { s with heap := h', toks := tk }) : wpAny (model g.prog g.w) A (storeName (fi.env L fa) x v) Q E s := by
  obtain ⟨m, sl, F, N, S, R, nd, fr⟩ := I
  exact stN F N (fun h' F' N' => h h' _ ⟨_, sl, F', N', S, R.upd hx.nodup hx.at_ V, nd, fr⟩) hx.fn hx.loc
noncomputable def asgN (k : Nat) (f : St → Option (PV × St)) (st : St) : Option (Fl × St) :=
  match f st with
  | some (v, st1) => some (.next, ⟨upd st1.loc k v, st1.att⟩)
  | none => none
theorem sem_asgN {x : PySem.Str} {e : Expr} {xp pos f} (k : Nat) (hx : NameAt fi k x) (h : SemE g fi d e f) (hs : ∀ env, swapsWith e (some (.Name x xp)) pos.line env = pure false) : SemS g fi d (.Assign [.Name x xp] e pos) (asgN k f) := by
  intro s A L fa fs G X st fl st' Q E hA hI hf kk kE
  refine um hf fun v st1 q hf => ?_
  cases hf
  refine wpAny_Assign_Name (h s hA hI q fun G1 X1 u h' tk hG1 hX1 I1 V1 => ?_) (hs _)
  exact store_ok hx (s := { s with heap := h', toks := tk }) I1 V1 fun h2 tk2 I2 => kk G1 X1 _ h2 tk2 hG1 hX1 I2 .next
theorem Inv.selfX {L fs G X st h} (I : Inv g fi L fs G X st h) {x dx} (hs : g.sf = some (x, dx)) : ∃ m es n, Fr g.H L h m ∧ News g.H L h ((x, instObj g.C dx) :: (dx, dictOf es n) :: (G ++ X)) ∧ ARel g st.att es ∧ LocR g fi.names G st.loc m ∧ (x :: dx :: (G ++ X).map (·.1)).Nodup := by
  obtain ⟨m, sl, F, N, S, R, nd, fr⟩ := I
  obtain ⟨es, n, rfl, AR⟩ := S.at_ hs
  exact ⟨m, es, n, F, N, AR, R, by simpa using nd⟩
theorem Inv.ofX {L fs G X st h} {x dx} (hs : g.sf = some (x, dx)) {m es n} (F : Fr g.H L h m) (N : News g.H L h ((x, instObj g.C dx) :: (dx, dictOf es n) :: (G ++ X))) (AR : ARel g st.att es) (R : LocR g fi.names G st.loc m) (nd : (x :: dx :: (G ++ X).map (·.1)).Nodup) (fr : FrX fs X) : Inv g fi L fs G X st h :=
  ⟨m, _, F, N, by unfold SelfR; rw [hs]; exact ⟨es, n, rfl, AR⟩, R, by simpa using nd, fr⟩
theorem handed_scal {pv : PV} {v : Value} {G} (hs : scal pv = true) (V : VR g G pv v) : handedIn v = true := by cases V <;> first | rfl | (exfalso; revert hs; simp [scal]; done)
theorem scal_up {pv : PV} {v : Value} {G} (hs : scal pv = true) (V : VR g G pv v) : VR g [] pv v := by cases V <;> first | (exfalso; revert hs; decide) | (exfalso; revert hs; simp [scal]; done) | constructor
theorem setat_ok {i : Nat} (hS : SAttr g i) (ok : g.Ok) {L fs G X st} {pv : PV} {v : Value} {x dx : Addr} {A : Around} {s : Shared} {Q : Unit → Shared → Prop} {E : Value → Shared → Prop} (hs : g.sf = some (x, dx)) (I : Inv g fi L fs G X st s.heap) (hsc : scal pv = true) (hl : st.att.length < 900) (V : VR g G pv v)
    (h : ∀ h' tk, Inv g fi L fs G X ⟨st.loc, putA i pv st.att⟩ h' → Q () { s with heap := h', toks := tk }) : wpAny (model g.prog g.w) A (setAttr (.ref x) (anm i) v) Q E s := by
  obtain ⟨m, es, n, F, N, AR, R, nd⟩ := I.selfX hs
  have nd' := nd
  rw [List.nodup_cons, List.nodup_cons] at nd'
  have hx : x ≠ dx := fun e => nd'.1 (by rw [e]; exact .head _)
  have hd : ∀ p ∈ G ++ X, p.1 ≠ dx := fun p hp e => nd'.2.1 (by rw [← e]; exact List.mem_map_of_mem hp)
  have hlen := AR.len
  have hput := putA_len i pv st.att
  have AR' := AR.put hS.lt (scal_up hsc V) (handed_scal hsc V) (PyData.keyHash g.w.params (anm i)) (s.toks + 1)
  refine set_dict (ox := instObj g.C dx) F ok.X N (PySem.W.InstAt.of_news N (.head _) (.tail _ (.head _))) rfl hS.setat hS.over hS.taker hS.dict (AR.isSome _) rfl (.tail hx (.head hd)) (by rw [AR'.len]; omega) fun h' F' N' => ?_
  exact h h' _ (Inv.ofX hs F' N' AR' R nd I.fr)
noncomputable def asgA (i : Nat) (fo f : St → Option (PV × St)) (st : St) : Option (Fl × St) :=
  match f st with
  | some (v, st1) => (match fo st1 with
    | some (.self, st2) => if scal v ∧ st2.att.length < 900 then some (.next, ⟨st2.loc, putA i v st2.att⟩) else none
    | _ => none)
  | none => none
theorem sem_asgA {attr : PySem.Str} {o e : Expr} {ap pos fo f} (i : Nat) (ha : anm i = attr) (hS : SAttr g i) (ok : g.Ok) (h0 : SemE g fi d o fo) (h : SemE g fi d e f) (hs : ∀ env, swapsWith e (some (.Attribute o attr ap)) pos.line env = pure false) :
    SemS g fi d (.Assign [.Attribute o attr ap] e pos) (asgA i fo f) := by
  intro s A L fa fs G X st fl st' Q E hA hI hf kk kE
  subst ha
  refine um hf fun v st1 q hf => ?_
  refine ue hf fun st2 q2 hf => ?_
  refine ifk hf fun hc e0 => ?_
  cases e0
  refine plainObj_wpAny_Assign_Attribute (h s hA hI q fun G1 X1 u h' tk hG1 hX1 I1 V1 => h0 _ hA I1 q2 fun G2 X2 u2 h2' tk2 hG2 hX2 I2 V2 => ?_) (hs _)
  obtain ⟨x, dx, hsf, rfl⟩ := V2.me
  exact setat_ok hS ok (s := { s with heap := h2', toks := tk2 }) hsf I2 hc.1 hc.2 (V1.mono hG2) fun h3 tk3 I3 => kk G2 X2 _ h3 tk3 (fun p hp => hG2 _ (hG1 _ hp)) (hX1.trans hX2) I3 .next
end
section
variable {g : Gd} {fi : FI} {d : Nat}
noncomputable def augN (op : Operator) (k : Nat) (f : St → Option (PV × St)) (st : St) : Option (Fl × St) :=
  match st.loc k with
  | some old => (match f st with
    | some (v, st1) => (binF op old v).map fun r => (.next, ⟨upd st1.loc k r, st1.att⟩)
    | none => none)
  | none => none
theorem sem_augN {op : Operator} {x : PySem.Str} {e : Expr} {xp pos f} (k : Nat) (hop : op = .Add ∨ op = .Sub) (hx : NameAt fi k x) (h : SemE g fi d e f) : SemS g fi d (.AugAssign (.Name x xp) op e pos) (augN op k f) := by
  intro s A L fa fs G X st fl st' Q E hA hI hf kk kE
  refine uo hf fun old q0 hf => ?_
  refine um hf fun v st1 q hf => ?_
  obtain ⟨r, hr, e'⟩ := Option.map_eq_some_iff.mp hf
  cases e'
  obtain ⟨m, sl, F, N, S, R, nd, fr⟩ := id hI
  obtain ⟨w, hw, V0⟩ := R k x hx.at_ _ q0
  refine wpAny_AugAssign_Name (ldn F hw (h s hA hI q fun G1 X1 u h' tk hG1 hX1 I1 V1 => ?_) hx.fn hx.loc)
  refine inbin_ok (s := { s with heap := h', toks := tk }) hop (V0.mono hG1) V1 hr fun r' tk' V2 => ?_
  exact store_ok hx (s := { s with heap := h', toks := tk' }) I1 V2 fun h2 tk2 I2 => kk G1 X1 _ h2 tk2 hG1 hX1 I2 .next
noncomputable def augA (op : Operator) (i : Nat) (fo f : St → Option (PV × St)) (st : St) : Option (Fl × St) :=
  match fo st with
  | some (.self, st0) => (match st0.att.lookup i with
    | some old => (match f st0 with
      | some (v, st1) => (match binF op old v with
        | some r => if scal r ∧ st1.att.length < 900 then some (.next, ⟨st1.loc, putA i r st1.att⟩) else none
        | none => none)
      | none => none)
    | none => none)
  | _ => none
theorem sem_augA {op : Operator} {attr : PySem.Str} {o e : Expr} {ap pos fo f} (i : Nat) (ha : anm i = attr) (hS : SAttr g i) (ok : g.Ok) (hop : op = .Add ∨ op = .Sub) (h0 : SemE g fi d o fo) (h : SemE g fi d e f) : SemS g fi d (.AugAssign (.Attribute o attr ap) op e pos) (augA op i fo f) := by
  intro s A L fa fs G X st fl st' Q E hA hI hf kk kE
  subst ha
  refine ue hf fun st0 q0 hf => ?_
  refine uo hf fun old q1 hf => ?_
  refine um hf fun v st1 q2 hf => ?_
  refine uo hf fun r hr hf => ?_
  refine ifk hf fun hc e0 => ?_
  cases e0
  refine wpAny_AugAssign_AttributeAny (h0 s hA hI q0 fun G0 X0 u0 h' tk hG0 hX0 I0 V0 => ?_)
  obtain ⟨x, dx, hsf, rfl⟩ := V0.me
  obtain ⟨m, es, n, F, N, AR, R, nd⟩ := I0.selfX hsf
  obtain ⟨u, hu1, hu2, hu3⟩ := AR.get hS.lt q1
  obtain ⟨a, ha1, ha2⟩ := hS.cls
  refine get_own (s := { s with heap := h', toks := tk }) F ok.X (PySem.W.InstAt.of_news N (.head _) (.tail _ (.head _))) hS.get hS.dict ha1 ha2 hu1 hu2 ?_
  refine h { s with heap := h', toks := tk + 1 } hA I0 q2 fun G1 X1 u1 h1' tk1 hG1 hX1 I1 V1 => ?_
  refine inbin_ok (s := { s with heap := h1', toks := tk1 }) hop (hu3.up (G := G1)) V1 hr fun r' tk' V2 => ?_
  exact setat_ok hS ok (s := { s with heap := h1', toks := tk' }) hsf I1 hc.1 hc.2 V2 fun h3 tk3 I3 => kk G1 X1 _ h3 tk3 (fun p hp => hG1 _ (hG0 _ hp)) (hX0.trans hX1) I3 .next
noncomputable def SemF (g : Gd) (d : Nat) (f : Addr) (F : List PV → List (Nat × PV) → Option (PV × List (Nat × PV))) : Prop :=
  ∀ (s : Shared) {fi : FI} {A : Around} {env : Env} {L : Addr} {fs : List Env} {G X : List (Addr × Obj)} {st : St} {pvs : List PV} {vs : List Value} {r : PV} {att' : List (Nat × PV)} {Q E : Value → Shared → Prop},
    AOK d A env fs → (env.scope.kind ≠ .module ∧ env.frame = some L) → Inv g fi L fs G X st s.heap → VRs g G pvs vs → F pvs st.att = some (r, att') →
    (∀ G' X' v h' tk, (∀ p ∈ G, p ∈ G') → UpS X X' → Inv g fi L fs G' X' ⟨st.loc, att'⟩ h' → VR g G' r v → Q v { s with heap := h', toks := tk }) →
    wpAny (model g.prog g.w) A (call (.ref f) vs) Q E s
theorem UpS.fr {fs : List Env} : ∀ {X X' : List (Addr × Obj)}, UpS X X' → FrX fs X → FrX fs X' := by
  intro X X' u h env he
  obtain ⟨hk, L, o, es, ep, hf, hm, hd⟩ := h env he
  refine ⟨hk, ?_⟩
  have : ∀ {X X' : List (Addr × Obj)}, UpS X X' → (L, o) ∈ X → ∃ o', (L, o') ∈ X' ∧ o'.data = o.data := by
    intro X X' u
    induction u with
    | nil => intro h; cases h
    | cons a r ih =>
      intro h
      rcases List.mem_cons.mp h with q | q
      · cases q; exact ⟨_, .head _, a.data⟩
      · obtain ⟨o', h1, h2⟩ := ih q; exact ⟨o', .tail _ h1, h2⟩
  obtain ⟨o', h1, h2⟩ := this u hm
  exact ⟨L, o', es, ep, hf, h1, h2.trans hd⟩
theorem Heap.none_ge {h : Heap} {a : Addr} (ha : h.objs.size ≤ a) : h.get? a = none := Heap.get?_none_of_le ha
structure FnAt (g : Gd) (f : Addr) (fi : FI) (pn : List PySem.Str) (body : List Stmt) : Prop where
  ob : ∃ o name params dV kV doc pm an ct, g.K.lookup f = some o ∧ o.data = .func (fnOf name fi.name params body fi.scope dV kV doc pm an fi.cd ct) ∧
    ∀ vs : List Value, vs.length = pn.length → bindArgs (fnOf name fi.name params body fi.scope dV kV doc pm an fi.cd ct) ⟨vs, []⟩ = pure (pn.zip vs)
  code : codeIn g.K fi.cd fi.name = true
  co : fi.scope.isCoroutine = false
  gen : fi.scope.isGenerator = false
  kind : fi.scope.kind = .function
  cell : ∀ x ∈ fi.scope.names, x.2 ≠ .cell
  loc : ∀ x ∈ pn, fi.scope.names.lookup x = some .local
  pre : pn <+: fi.names
  nodup : fi.names.Nodup
noncomputable def startLoc (pvs : List PV) : Nat → Option PV := fun k => pvs[k]?
noncomputable def runF (n : Nat) (fB : St → Option (Fl × St)) (pvs : List PV) (att : List (Nat × PV)) : Option (PV × List (Nat × PV)) :=
  if pvs.length = n then (match fB ⟨startLoc pvs, att⟩ with
    | some (.ret v, st) => some (v, st.att)
    | some (.next, st) => some (.none, st.att)
    | _ => none) else none
theorem zip_lookup : ∀ {pn : List PySem.Str} {vs : List Value} {k : Nat} {x : PySem.Str} {v : Value}, pn.Nodup → pn[k]? = some x → vs[k]? = some v → (pn.zip vs).lookup x = some v
  | [], _, k, x, v, _, h, _ => by simp at h
  | a :: r, [], k, x, v, _, _, h => by simp at h
  | a :: r, u :: us, 0, x, v, hn, h1, h2 => by
    simp at h1 h2
    subst h1 h2
    simp
  | a :: r, u :: us, k + 1, x, v, hn, h1, h2 => by
    simp at h1 h2
    have hne : (x == a) = false := by
      simp only [beq_eq_false_iff_ne]
      rintro rfl
      exact (List.nodup_cons.mp hn).1 (List.mem_of_getElem? h1)
    rw [List.zip_cons_cons, List.lookup_cons, hne]
    exact zip_lookup (List.nodup_cons.mp hn).2 h1 h2
theorem prefix_get {α : Type} {a b : List α} (h : a <+: b) {k : Nat} {x : α} (hk : b[k]? = some x) (hl : k < a.length) : a[k]? = some x := by
  obtain ⟨t, rfl⟩ := h
  rwa [List.getElem?_append_left hl] at hk
theorem fnk {L fa : Addr} (hk : fi.scope.kind = .function) : (fi.env L fa).scope.kind ≠ .module ∧ (fi.env L fa).frame = some L := ⟨by show fi.scope.kind ≠ .module; rw [hk]; decide, rfl⟩
theorem semC_of {d : Nat} {f : Addr} {fi' : FI} {pn : List PySem.Str} {body : List Stmt} {fB} (ok : g.Ok) (hf : FnAt g f fi' pn body) (hb : SemB g fi' d body fB)
    (s : Shared) {fi : FI} {A : Around} {env : Env} {L : Addr} {fs : List Env} {G X : List (Addr × Obj)} {st : St} {pvs : List PV} {vs : List Value} {r : PV} {att' : List (Nat × PV)} {R0 : Result → Shared → Prop}
    (hA : AOK (d + 1) A env fs) (hkind : env.scope.kind ≠ .module ∧ env.frame = some L) (I : Inv g fi L fs G X st s.heap) (V : VRs g G pvs vs) (hF : runF pn.length fB pvs st.att = some (r, att'))
    (k : ∀ G' X' v h' tk, (∀ p ∈ G, p ∈ G') → UpS X X' → Inv g fi L fs G' X' ⟨st.loc, att'⟩ h' → VR g G' r v → R0 (.ok (.ret v)) { s with heap := h', toks := tk }) :
    codeAny (model g.prog g.w) A (.call (.ref f) ⟨vs, []⟩) R0 s := by
  obtain ⟨o, name, params, dV, kV, doc, pm, an, ct, h1, h2, h3⟩ := hf.ob
  obtain ⟨m, sl, F, N, S, R, nd, fr⟩ := id I
  obtain ⟨oL, es, ep, hL, hLd, hLk, hLf⟩ := id F.ns
  unfold runF at hF
  split at hF
  case isFalse => cases hF
  rename_i hlen
  have hvl : vs.length = pn.length := by rw [← V.length]; exact hlen
  have pnd : pn.Nodup := hf.pre.sublist.nodup hf.nodup
  have hbd : (pn.zip vs).map (·.1) = pn := List.map_fst_zip (by omega)
  refine (codeAny_call_function (fd := fnOf name fi'.name params body fi'.scope dV kV doc pm an fi'.cd ct) (by have := hA.depth; omega) ((ok.X.keeps F.keep) _ _ h1) h2 hf.co hf.gen rfl (codeRec_of (ok.X.keeps F.keep) hf.code) ?_)
  rw [h3 vs hvl]
  refine wpAny_pure (wpAny_newFunctionEnv hf.cell (fun x hx => hf.loc _ ?_) (fun h₁ hns hsb => ⟨(ok.T.nolimit.keeps F.keep).fresh _ hsb, ?_⟩) hf.kind)
  · have : x.1 ∈ (pn.zip vs).map (·.1) := List.mem_map_of_mem hx
    rwa [hbd] at this
  have keep1 : ∀ b o, s.heap.get? b = some o → h₁.get? b = some o := fun b o e => hsb.extBut b o (Nat.ne_of_lt (Heap.lt_size e)) (Heap.get?_push_of_some _ e)
  have hLs : L < s.heap.objs.size := Heap.lt_size hL
  have I0 : Inv g fi' s.heap.objs.size (env :: fs) G ((L, oL) :: X) ⟨startLoc pvs, st.att⟩ h₁ := by
    refine ⟨_, sl, ⟨hns, fun b o e => keep1 b o (F.keep b o e), Nat.le_trans F.above (Nat.le_of_lt hLs)⟩, fun p hp => ?_, S, ?_, ?_, ?_⟩
    · simp only [List.mem_append, List.mem_cons] at hp
      rcases hp with a | b | rfl | c
      · have := N p (List.mem_append_left _ a); exact ⟨keep1 _ _ this.1, Nat.ne_of_lt (Heap.lt_size this.1), this.2.2⟩
      · have := N p (List.mem_append_right _ (List.mem_append_left _ b)); exact ⟨keep1 _ _ this.1, Nat.ne_of_lt (Heap.lt_size this.1), this.2.2⟩
      · exact ⟨keep1 _ _ hL, Nat.ne_of_lt hLs, Heap.none_ge F.above⟩
      · have := N p (List.mem_append_right _ (List.mem_append_right _ c)); exact ⟨keep1 _ _ this.1, Nat.ne_of_lt (Heap.lt_size this.1), this.2.2⟩
    · intro j x hj pv hpv
      have hjl : j < pn.length := by
        have := (List.getElem?_eq_some_iff.mp (show pvs[j]? = some pv from hpv)).1
        omega
      obtain ⟨u, hu, Vu⟩ := V.get j pv hpv
      refine ⟨u, ?_, Vu⟩
      show List.lookup x (pn.zip vs).reverse = some u
      rw [lookup_reverse_of_nodup _ (by rw [hbd]; exact pnd)]
      exact zip_lookup pnd (prefix_get hf.pre hj hjl) hu
    · have hp : List.Perm (sl ++ (G ++ (L, oL) :: X)) ((L, oL) :: (sl ++ (G ++ X))) := by
        refine List.Perm.trans (List.Perm.append_left sl List.perm_middle) List.perm_middle
      refine ((hp.map (·.1)).nodup_iff).mpr ?_
      rw [List.map_cons, List.nodup_cons]
      refine ⟨fun hm => ?_, nd⟩
      obtain ⟨p, hp, e⟩ := List.mem_map.mp hm
      exact (N p hp).2.1 e
    · intro env' he
      rcases List.mem_cons.mp he with rfl | he
      · exact ⟨hkind.1, L, oL, es, ep, hkind.2, .head _, hLd⟩
      · obtain ⟨hk, L2, o2, es2, ep2, a, b, c⟩ := fr env' he
        exact ⟨hk, L2, o2, es2, ep2, a, .tail _ b, c⟩
  have A1 : AOK d (A.deeper (fi'.env s.heap.objs.size f)) (fi'.env s.heap.objs.size f) (env :: fs) :=
    ⟨hA.handled, by have := hA.depth; show A.depth + 1 + d < _; omega, by have := hA.units; show A.units + 3 + 10 * d + 100 < _; omega, by show A.frames.map _ = _; rw [hA.frames]; rfl⟩
  have back : ∀ {G' X' : List (Addr × Obj)} {st' : St} {h' : Heap}, (∀ p ∈ G, p ∈ G') → UpS ((L, oL) :: X) X' → Inv g fi' s.heap.objs.size (env :: fs) G' X' st' h' → ∃ X'', UpS X X'' ∧ Inv g fi L fs G' X'' ⟨st.loc, st'.att⟩ h' := by
    intro G' X' st' h' hG hX I'
    cases hX with
    | cons c1 hX =>
      have c3 := c1.data
      rename_i oL' X''
      obtain ⟨m', sl', F', N', S', R', nd', fr'⟩ := I'
      have hp : List.Perm (sl' ++ (G' ++ (L, oL') :: X'')) ((L, oL') :: (sl' ++ (G' ++ X''))) := by
        refine List.Perm.trans (List.Perm.append_left sl' List.perm_middle) List.perm_middle
      have nd2 := ((hp.map (·.1)).nodup_iff).mp nd'
      rw [List.map_cons, List.nodup_cons] at nd2
      have hL' : h'.get? L = some oL' := (N' (L, oL') (hp.symm.subset (.head _))).1
      refine ⟨X'', hX, ⟨m, sl', ⟨⟨oL', es, ep, hL', c3.trans hLd, hLk, hLf⟩, F'.keep, F.above⟩, fun p hp' => ?_, S', R.mono hG, nd2.2, hX.fr fr⟩⟩
      have := N' p (hp.symm.subset (.tail _ hp'))
      exact ⟨this.1, fun e => nd2.1 (List.mem_map.mpr ⟨p, hp', e⟩), this.2.2⟩
  show codeAny _ _ (.func body (fi'.env s.heap.objs.size f)) _ _
  refine codeAny_func ?_
  split at hF
  · rename_i v st1 q
    cases hF
    refine hb { s with heap := h₁, toks := s.toks + (pn.zip vs).length } A1 I0 q (fun G' X' fv h' tk hG hX I' V' => ?_) fun i hi => nomatch hi
    obtain ⟨w, rfl, V2⟩ := V'.r
    obtain ⟨X'', hX2, I2⟩ := back hG hX I'
    exact k G' X'' w h' tk hG hX2 I2 V2
  · rename_i st1 q
    cases hF
    refine hb { s with heap := h₁, toks := s.toks + (pn.zip vs).length } A1 I0 q (fun G' X' fv h' tk hG hX I' V' => ?_) fun i hi => nomatch hi
    obtain rfl := V'.n
    obtain ⟨X'', hX2, I2⟩ := back hG hX I'
    exact k G' X'' .none h' tk hG hX2 I2 .none
  · cases hF
theorem semF_of {d : Nat} {f : Addr} {fi' : FI} {pn : List PySem.Str} {body : List Stmt} {fB} (ok : g.Ok) (hf : FnAt g f fi' pn body) (hb : SemB g fi' d body fB) : SemF g (d + 1) f (runF pn.length fB) := by
  intro s fi A env L fs G X st pvs vs r att' Q E hA hkind I V hF k
  exact wpAny_call (semC_of ok hf hb s hA hkind I V hF k)
end
section
variable {g : Gd} {fi : FI} {d : Nat}
noncomputable def callE (F : List PV → List (Nat × PV) → Option (PV × List (Nat × PV))) (f : St → Option (List PV × St)) (st : St) : Option (PV × St) :=
  match f st with
  | some (l, st1) => (match F l st1.att with
    | some (r, att) => some (r, ⟨st1.loc, att⟩)
    | none => none)
  | none => none
theorem sem_call {x : PySem.Str} {xp pos} {es : List Expr} {f F} {fd : Addr} {d' : Nat} (ok : g.Ok) (hF : SemF g d' fd F) (hd' : d' ≤ d) (e0 : nsIn g.K mainGlobals x = some (some (.ref fd))) (hkp : keepIn g.K (.ref fd) = true)
    (hk : fi.scope.kind = .function) (hx : (fi.env 0 0).kindOf x = some .globalImplicit) (hd : (x == ("__debug__" : PySem.Str)) = false) (hp : es.all plainX = true) (h : SemL g fi d es f) : SemE g fi d (.Call (.Name x xp) es [] pos) (callE F f) := by
  intro s A L fa fs G X st pv st' Q E hA hI hf k
  refine ul hf fun l st1 q hf => ?_
  refine uf hf fun r att hr hf => ?_
  cases hf
  obtain ⟨m, sl, Fr0, N, S, R, nd, fr⟩ := id hI
  refine PyProof.Rows.Call_Name rfl (name_K Fr0 ok.X ok.T e0 ?_ hk hx hd)
  cases es with
  | nil =>
    refine callWith_K0 (ok.X.keeps Fr0.keep) hkp ?_
    have := h pos s (Q := fun vs s' => wpAny (model g.prog g.w) A (call (.ref fd) vs) Q E s') (E := E) hA hI q fun G1 X1 vs h' tk hG1 hX1 I1 V1 =>
      hF { s with heap := h', toks := tk } (hA.le hd') (fnk hk) I1 V1 hr fun G2 X2 v h2 tk2 hG2 hX2 I2 V2 => k G2 X2 v h2 tk2 (fun p hp => hG2 _ (hG1 _ hp)) (hX1.trans hX2) I2 V2
    have e : wpAny (model g.prog g.w) A (spliced (backTo pos (starEach [] (fi.env L fa)))) (fun vs s' => wpAny (model g.prog g.w) A (call (.ref fd) vs) Q E s') E s → wpAny (model g.prog g.w) A (call (.ref fd) []) Q E s := by
      intro hh
      intro Γ p hΓ
      exact hh Γ p hΓ Γ p hΓ
    exact e this
  | cons e es =>
    rw [List.all_cons, Bool.and_eq_true] at hp
    refine callWith_K ok.X hkp (h pos s hA hI q fun G1 X1 vs h' tk hG1 hX1 I1 V1 => ⟨ok.X.keeps I1.keep, ?_⟩) (star_plain hp.1 _) (plain_any hp.2 _ _)
    exact hF { s with heap := h', toks := tk } (hA.le hd') (fnk hk) I1 V1 hr fun G2 X2 v h2 tk2 hG2 hX2 I2 V2 => k G2 X2 v h2 tk2 (fun p hp => hG2 _ (hG1 _ hp)) (hX1.trans hX2) I2 V2
theorem ARel.miss {n : PySem.Str} (hn : ∀ i, i < 9 → (anm i == n) = false) {att es} (h : ARel g att es) : getL n es = some none := by
  induction h with
  | nil => rfl
  | @cons j pv' r es hs t v hj hv hh r ih => rw [getL_cons (hn j hj) r.noRef]; exact ih
structure MethAt (g : Gd) (name : PySem.Str) (f : Addr) : Prop where
  get : plainGet g.K g.C name = true
  find : findIn g.K (.ref g.C) name = some (some (.ref f))
  fn : isFn g.K (.ref f) = true
  kp : keepIn g.K (.ref f) = true
  own : ∀ i, i < 9 → (anm i == name) = false
noncomputable def methE (F : List PV → List (Nat × PV) → Option (PV × List (Nat × PV))) (fo : St → Option (PV × St)) (f : St → Option (List PV × St)) (st : St) : Option (PV × St) :=
  match fo st with
  | some (.self, st0) => (match f st0 with
    | some (l, st1) => (match F (.self :: l) st1.att with
      | some (r, att) => some (r, ⟨st1.loc, att⟩)
      | none => none)
    | none => none)
  | _ => none
theorem sem_meth {o : Expr} {name : PySem.Str} {ap pos} {es : List Expr} {fo f F} {fd : Addr} {d' : Nat} (ok : g.Ok) (hF : SemF g d' fd F) (hd' : d' ≤ d) (hM : MethAt g name fd)
    (hk : fi.scope.kind = .function) (hp : es.all plainX = true) (ho : SemE g fi d o fo) (h : SemL g fi d es f)
    (hb : ∀ env, attributeBase o name env (eval o env) = eval o env) (hn : es.length < 20) (hl : (ap.endLine == pos.line) = true) : SemE g fi d (.Call (.Attribute o name ap) es [] pos) (methE F fo f) := by
  intro s A L fa fs G X st pv st' Q E hA hI hf k
  refine ue hf fun st0 q0 hf => ?_
  refine ul hf fun l st1 q hf => ?_
  refine uf hf fun r att hr hf => ?_
  cases hf
  refine methodCall_KW (ho s hA hI q0 fun G0 X0 u h' tk hG0 hX0 I0 V0 => ?_) (meth_eq (hb _) hp hn hl)
  obtain ⟨x, dx, hsf, rfl⟩ := V0.me
  obtain ⟨m, es', n, Fr0, N, AR, R, nd⟩ := I0.selfX hsf
  refine method_inst (s := { s with heap := h', toks := tk }) Fr0 ok.X (PySem.W.InstAt.of_news N (.head _) (.tail _ (.head _))) hM.get hM.find hM.fn (AR.miss hM.own) ?_
  cases es with
  | nil =>
    refine callWith_K0 (ok.X.keeps Fr0.keep) hM.kp ?_
    have := h pos { s with heap := h', toks := tk } (Q := fun vs s' => wpAny (model g.prog g.w) A (call (.ref fd) (.ref x :: vs)) Q E s') (E := E) hA I0 q fun G1 X1 vs h1' tk1 hG1 hX1 I1 V1 =>
      hF { s with heap := h1', toks := tk1 } (hA.le hd') (fnk hk) I1 (.cons (.self x dx hsf) V1) hr fun G2 X2 v h2 tk2 hG2 hX2 I2 V2 => k G2 X2 v h2 tk2 (fun p hp => hG2 _ (hG1 _ (hG0 _ hp))) ((hX0.trans hX1).trans hX2) I2 V2
    have e : wpAny (model g.prog g.w) A (spliced (backTo pos (starEach [] (fi.env L fa)))) (fun vs s' => wpAny (model g.prog g.w) A (call (.ref fd) (.ref x :: vs)) Q E s') E { s with heap := h', toks := tk } → wpAny (model g.prog g.w) A (call (.ref fd) ([.ref x] ++ [])) Q E { s with heap := h', toks := tk } := by
      intro hh
      intro Γ p hΓ
      exact hh Γ p hΓ Γ p hΓ
    exact e this
  | cons e es =>
    rw [List.all_cons, Bool.and_eq_true] at hp
    refine callWith_K ok.X hM.kp (h pos _ hA I0 q fun G1 X1 vs h1' tk1 hG1 hX1 I1 V1 => ⟨ok.X.keeps I1.keep, ?_⟩) (star_plain hp.1 _) (plain_any hp.2 _ _)
    exact hF { s with heap := h1', toks := tk1 } (hA.le hd') (fnk hk) I1 (.cons (.self x dx hsf) V1) hr fun G2 X2 v h2 tk2 hG2 hX2 I2 V2 => k G2 X2 v h2 tk2 (fun p hp => hG2 _ (hG1 _ (hG0 _ hp))) ((hX0.trans hX1).trans hX2) I2 V2
noncomputable def whileB (t : St → Option (Bool × St)) (b : St → Option (Fl × St)) : Nat → St → Option (Fl × St)
  | 0, _ => none
  | n + 1, st => (match t st with
    | some (true, st1) => (match b st1 with
      | some (.next, st2) => whileB t b n st2
      | some (.cont, st2) => whileB t b n st2
      | some (.brk, st2) => some (.next, st2)
      | some (.ret v, st2) => some (.ret v, st2)
      | some (.exc i, st2) => some (.exc i, st2)
      | none => none)
    | some (false, st1) => some (.next, st1)
    | none => none)
end
section
variable {g : Gd} {fi : FI} {d : Nat}
theorem UpS.addr {X X' : List (Addr × Obj)} (h : UpS X X') : X'.map (·.1) = X.map (·.1) := by
  induction h with
  | nil => rfl
  | cons _ _ ih => exact congrArg (_ :: ·) ih
theorem Apart.up {L G X X' a} (h : Apart g L G X a) (u : UpS X X') : Apart g L G X' a := by
  refine ⟨h.base, h.ne, fun p hp e => ?_, h.self⟩
  rcases List.mem_append.mp hp with q | q
  · exact h.led p (List.mem_append_left _ q) e
  · have : a ∈ X'.map (·.1) := List.mem_map.mpr ⟨p, q, e⟩
    rw [u.addr] at this
    obtain ⟨p', hp', e'⟩ := List.mem_map.mp this
    exact h.led p' (List.mem_append_right _ hp') e'
theorem Inv.apart {L fs G X st h} (I : Inv g fi L fs G X st h) {a : Addr} (ha : h.get? a = none) : Apart g L G X a := by
  obtain ⟨m, sl, F, N, S, R, nd, fr⟩ := I
  refine ⟨?_, ?_, fun p hp e => ?_, fun x dx hs => ?_⟩
  · cases q : g.H.get? a with
    | none => rfl
    | some o => have := F.keep _ _ q; rw [ha] at this; cases this
  · rintro rfl
    obtain ⟨o, _, _, ho, _⟩ := F.ns
    rw [ha] at ho; cases ho
  · have := (N p (List.mem_append_right _ hp)).1
    rw [e, ha] at this; cases this
  · obtain ⟨es, n, rfl, _⟩ := S.at_ hs
    constructor
    · rintro rfl
      have := (N (x, instObj g.C dx) (.head _)).1
      rw [ha] at this; cases this
    · rintro rfl
      have := (N (dx, dictOf es n) (.tail _ (.head _))).1
      rw [ha] at this; cases this
theorem Inv.updApart {L fs G X st h} (I : Inv g fi L fs G X st h) {a : Addr} (ha : Apart g L G X a) (f : Obj → Obj) : Inv g fi L fs G X st (h.update a f) := by
  obtain ⟨m, sl, F, N, S, R, nd, fr⟩ := I
  have ne : ∀ b, b ≠ a → (h.update a f).get? b = h.get? b := fun b hb => Heap.get?_update_other _ _ (Ne.symm hb)
  obtain ⟨o, es, ep, ho, r⟩ := F.ns
  refine ⟨m, sl, ⟨⟨o, es, ep, (ne L (Ne.symm ha.ne)).trans ho, r⟩, fun b o hb => (ne b fun e => by rw [e, ha.base] at hb; cases hb).trans (F.keep _ _ hb), F.above⟩, fun p hp => ?_, S, R, nd, fr⟩
  have hN := N p hp
  refine ⟨(ne p.1 ?_).trans hN.1, hN.2⟩
  rcases List.mem_append.mp hp with q | q
  · unfold SelfR at S
    cases hs : g.sf with
    | none => rw [hs] at S; subst S; cases q
    | some xd =>
      obtain ⟨x, dx⟩ := xd
      rw [hs] at S
      obtain ⟨es', n, rfl, _⟩ := S
      have hh := ha.self x dx hs
      rcases List.mem_cons.mp q with rfl | q
      · exact hh.1
      · rcases List.mem_cons.mp q with rfl | q
        · exact hh.2
        · cases q
  · exact ha.led p q
theorem Inv.frames {L fa fs G X st h} (I : Inv g fi L fs G X st h) (hk : fi.scope.kind = .function) : h.FunFrames {} (fi.env L fa :: fs) := by
  obtain ⟨m, sl, F, N, S, R, nd, fr⟩ := I
  obtain ⟨o, es, ep, ho, hd, _⟩ := F.ns
  have none : ∀ b, ({} : Heap).get? b = none := fun b => by unfold Heap.get?; simp
  refine ⟨?_, ⟨L, o, rfl, none _, ho, fun vs q => by rw [hd] at q; cases q⟩, ?_⟩
  · show fi.scope.kind ≠ .module
    rw [hk]; decide
  · clear F
    induction fs with
    | nil => trivial
    | cons env r ih =>
      obtain ⟨hk', L2, o2, es2, ep2, a, b, c⟩ := fr env (.head _)
      refine ⟨hk', ⟨L2, o2, a, none _, (N (L2, o2) (List.mem_append_right _ (List.mem_append_right _ b))).1, fun vs q => by rw [c] at q; cases q⟩, ih (fun e he => fr e (.tail _ he))⟩
theorem Inv.slots {L fa fs G X st h h'} (I : Inv g fi L fs G X st h) (hs : Heap.SlotsOnly ((fi.env L fa :: fs).filterMap (·.frame)) h h') : ∃ X', UpS X X' ∧ Inv g fi L fs G X' st h' := by
  obtain ⟨m, sl, F, N, S, R, nd, fr⟩ := I
  obtain ⟨hsz, hne, hsl⟩ := hs
  have hin : ∀ b ∈ (fi.env L fa :: fs).filterMap (·.frame), b = L ∨ ∃ o, (b, o) ∈ X ∧ ∃ es ep, o.data = .dict es ep := fun b hb => by
    obtain ⟨env, he, hf⟩ := List.mem_filterMap.mp hb
    rcases List.mem_cons.mp he with rfl | he
    · exact .inl (Option.some.inj hf).symm
    · obtain ⟨_, L2, o2, es2, ep2, a, b, c⟩ := fr env he
      rw [hf] at a
      cases a
      exact .inr ⟨o2, b, es2, ep2, c⟩
  have hX : ∀ {Y : List (Addr × Obj)}, (∀ p ∈ Y, p ∈ X) → ∃ X', UpS Y X' ∧ ∀ p ∈ X', h'.get? p.1 = some p.2 := by
    intro Y
    induction Y with
    | nil => intro _; exact ⟨[], .nil, fun p hp => nomatch hp⟩
    | cons p r ih =>
      intro hp
      obtain ⟨X', u, k⟩ := ih fun q hq => hp q (.tail _ hq)
      have hpN := N p (List.mem_append_right _ (List.mem_append_right _ (hp p (.head _))))
      by_cases hm : p.1 ∈ (fi.env L fa :: fs).filterMap (·.frame)
      · obtain ⟨sl', e⟩ := hsl p.1 p.2 hpN.1
        refine ⟨(p.1, { p.2 with slots := sl' }) :: X', .cons (.inr ⟨rfl, ?_⟩) u, fun q hq => ?_⟩
        · rcases hin _ hm with e | ⟨o2, e, es2, ep2, hd2⟩
          · exact absurd e hpN.2.1
          · have := (N (p.1, o2) (List.mem_append_right _ (List.mem_append_right _ e))).1
            rw [hpN.1] at this
            cases this
            exact ⟨es2, ep2, hd2⟩
        · rcases List.mem_cons.mp hq with rfl | hq
          · exact e
          · exact k q hq
      · refine ⟨(p.1, p.2) :: X', .cons (.inl rfl) u, fun q hq => ?_⟩
        rcases List.mem_cons.mp hq with rfl | hq
        · exact (hne _ hm).trans hpN.1
        · exact k q hq
  obtain ⟨X', u, k⟩ := hX fun p hp => hp
  have ead : (sl ++ (G ++ X')).map (·.1) = (sl ++ (G ++ X)).map (·.1) := by simp only [List.map_append, u.addr]
  obtain ⟨o, es, ep, ho, hd, r⟩ := F.ns
  obtain ⟨slL, hL⟩ := hsl _ _ ho
  have apart : ∀ p ∈ sl ++ G, p.1 ∉ (fi.env L fa :: fs).filterMap (·.frame) := fun p hp hm => by
    rcases hin _ hm with e | ⟨o2, e, _⟩
    · exact (N p (by rcases List.mem_append.mp hp with q | q; exact List.mem_append_left _ q; exact List.mem_append_right _ (List.mem_append_left _ q))).2.1 e
    · have nd2 := nd
      rw [← List.append_assoc, List.map_append] at nd2
      exact (List.nodup_append.mp nd2).2.2 p.1 (List.mem_map_of_mem hp) p.1 (List.mem_map.mpr ⟨_, e, rfl⟩) rfl
  refine ⟨X', u, m, sl, ⟨⟨_, es, ep, hL, hd, r⟩, fun b ob hb => ?_, F.above⟩, fun p hp => ?_, S, R, by rw [ead]; exact nd, u.fr fr⟩
  · refine (hne b fun hm => ?_).trans (F.keep _ _ hb)
    rcases hin _ hm with rfl | ⟨o2, e, _⟩
    · have := Heap.lt_size hb
      exact absurd F.above (Nat.not_le.mpr this)
    · have := (N (b, o2) (List.mem_append_right _ (List.mem_append_right _ e))).2.2
      rw [this] at hb; cases hb
  · have hold : ∃ q ∈ sl ++ (G ++ X), q.1 = p.1 := by
      have : p.1 ∈ (sl ++ (G ++ X)).map (·.1) := by rw [← ead]; exact List.mem_map_of_mem hp
      obtain ⟨q, hq, e⟩ := List.mem_map.mp this
      exact ⟨q, hq, e⟩
    obtain ⟨q, hq, e⟩ := hold
    refine ⟨?_, by rw [← e]; exact (N q hq).2.1, by rw [← e]; exact (N q hq).2.2⟩
    rcases List.mem_append.mp hp with a | a
    · exact (hne _ (apart p (List.mem_append_left _ a))).trans (N p (List.mem_append_left _ a)).1
    · rcases List.mem_append.mp a with a | a
      · exact (hne _ (apart p (List.mem_append_right _ a))).trans (N p (List.mem_append_right _ (List.mem_append_left _ a))).1
      · exact k p a
end
section
variable {g : Gd} {fi : FI} {d : Nat}
structure Noted (g : Gd) (L : Addr) (G X : List (Addr × Obj)) (i : Fin 4) (e : Addr) (h : Heap) (fl : Value) : Prop where
  ap : Apart g L G X e
  at_ : ∃ oe vs T oT ts, h.get? e = some oe ∧ oe.cls = .ref (g.labA i) ∧ oe.data = .fields vs ∧ vs[1]? = some (.ref T) ∧ Apart g L G X T ∧ T ≠ e ∧ h.get? T = some oT ∧ oT.data = .fields ts ∧ ts[3]? = some fl
theorem Noted.exc {L G X i e h} (n : Noted g L G X i e h (rawInt L)) : ExcR g L G X i e h := by
  obtain ⟨a, oe, vs, T, oT, ts, h1, h2, h3, h4, h5, h6, h7, h8, h9⟩ := n
  exact ⟨a, oe, vs, h1, h2, h3, .inr ⟨T, oT, ts, h4, h5, h6, h7, h8, h9⟩⟩
theorem note_ok {L fa fs G X st i e} {A : Around} {s : Shared} {Q : Unit → Shared → Prop} {E : Value → Shared → Prop} (hA : A.frames = some (fi.env L fa :: fs)) (hk : fi.scope.kind = .function) (I : Inv g fi L fs G X st s.heap) (R : ExcR g L G X i e s.heap)
    (h : ∀ X' h', UpS X X' → Inv g fi L fs G X' st h' → Noted g L G X' i e h' (rawInt L) → Q () { s with heap := h' }) : wpAny (model g.prog g.w) A (noteFrame (.ref e) (fi.env L fa)) Q E s := by
  obtain ⟨ap, oe, vs, h1, h2, h3, h4⟩ := id R
  rcases h4 with h4 | ⟨T, oT, ts, h4, h5, h6, h7, h8, h9⟩
  · unfold noteFrame
    simp only [show (fi.env L fa).frame = some L from rfl]
    refine wpAny_bind (wpAny_field h1 h3 h4 ?_)
    rw [if_neg (by decide)]
    refine wpAny_bind (wpAny_frameOf_fun hA (I.frames hk) rfl fun h₁ hs => ?_)
    obtain ⟨X', u, I'⟩ := I.slots hs
    refine wpAny_bind (wpAny_entryPlaceOf fun pl hpl => ?_)
    unfold EntryCells.newEntry newFields
    refine wpAny_bind (wpAny_newObj_type ?_ (hpl.sizeOk5 _ _ _ _ _))
    have hin : e ∉ (fi.env L fa :: fs).filterMap (·.frame) := fun hm => by
      obtain ⟨_, o, ho, hnf⟩ := (I.frames (fa := fa) hk).mem hm
      rw [h1] at ho; cases ho; exact hnf vs h3
    have he₁ : h₁.get? e = some oe := (hs.2.1 e hin).trans h1
    have he₂ := Heap.get?_push_of_some (h := h₁) { cls := .type "traceback", dict := none, data := .fields ([Value.none, .ref L, .none, rawInt L, .none] ++ (if pl.isEmpty then List.replicate 6 Value.none else pl)).toArray } he₁
    have hsz : 1 < vs.size := (Array.getElem?_eq_some_iff.mp h4).1
    refine wpAny_setField he₂ h3 hsz (h X' _ u ?_ ?_)
    · exact (I'.push _).updApart (ap.up u) _
    · have hTe : h₁.objs.size ≠ e := Nat.ne_of_gt (Heap.lt_size he₁)
      have hd₃ := Obj.data_mapFields h3 (·.setIfInBounds 1 (Value.ref h₁.objs.size))
      have he₃ := Heap.get?_update_self (Obj.mapFields (·.setIfInBounds 1 (Value.ref h₁.objs.size))) he₂ (Obj.isFreed_of_fields hd₃)
      have hT₃ := (Heap.get?_update_other (h₁.push { cls := .type "traceback", dict := none, data := .fields ([Value.none, .ref L, .none, rawInt L, .none] ++ (if pl.isEmpty then List.replicate 6 Value.none else pl)).toArray })
        (Obj.mapFields (·.setIfInBounds 1 (Value.ref h₁.objs.size))) (Ne.symm hTe)).trans (Heap.get?_push_size h₁ rfl)
      refine ⟨ap.up u, _, _, h₁.objs.size, _, _, he₃, (Obj.cls_mapFields _ _).trans h2, hd₃, by simp [hsz], I'.apart (Heap.none_ge (Nat.le_refl _)), hTe, hT₃, rfl, ?_⟩
      first | (simp; done) | (rcases hpl with rfl | ⟨_, _, _, _, _, _, _, rfl⟩ <;> simp)
  · exact wpAny_noteFrame_inFlight rfl h1 h3 h4 h7 h8 h9 (h X s.heap (.refl X) I ⟨ap, oe, vs, T, oT, ts, h1, h2, h3, h4, h5, h6, h7, h8, h9⟩)
theorem flight_ok {L fs G X st i e} {fl : Value} {A : Around} {s : Shared} {Q : Unit → Shared → Prop} {E : Value → Shared → Prop} (fr : Option Addr) (I : Inv g fi L fs G X st s.heap) (R : Noted g L G X i e s.heap fl)
    (h : ∀ h', Inv g fi L fs G X st h' → Noted g L G X i e h' (fr.elim .none fun f => rawInt f) → Q () { s with heap := h' }) : wpAny (model g.prog g.w) A (setFlight (.ref e) fr) Q E s := by
  obtain ⟨ap, oe, vs, T, oT, ts, h1, h2, h3, h4, h5, h6, h7, h8, h9⟩ := R
  unfold setFlight
  refine wpAny_bind (wpAny_field h1 h3 h4 ?_)
  rw [if_pos (show (Value.ref T != Value.none) = true from by simp)]
  have hsz : 3 < ts.size := (Array.getElem?_eq_some_iff.mp h9).1
  refine wpAny_setField h7 h8 hsz (h _ (I.updApart h5 _) ?_)
  have hd := Obj.data_mapFields h8 (·.setIfInBounds 3 (fr.elim Value.none fun f => rawInt f))
  exact ⟨ap, oe, vs, T, _, _, (Heap.get?_update_other _ _ h6).trans h1, h2, h3, h4, h5, h6, Heap.get?_update_self _ h7 (Obj.isFreed_of_fields hd), hd, by simp [hsz]⟩
theorem came_ok {L fa fs G X st i e} {A : Around} {s : Shared} {E : Value → Shared → Prop} (I : Inv g fi L fs G X st s.heap) (R : Noted g L G X i e s.heap (rawInt L))
    (h : ∀ h', Inv g fi L fs G X st h' → ExcR g L G X i e h' → E (.ref e) { s with heap := h' }) : cameBackBy (model g.prog g.w) A (fi.env L fa) E (.ref e) s := by
  obtain ⟨ap, oe, vs, T, oT, ts, h1, h2, h3, h4, h5, h6, h7, h8, h9⟩ := id R
  unfold cameBackBy
  refine wpAny_bind (wpAny_field h1 h3 h4 ?_)
  rw [if_neg (show ¬ ((Value.ref T == Value.none) = true) from by simp)]
  have fin : wpAny (model g.prog g.w) A (setFlight (.ref e) (fi.env L fa).frame) (fun _ s'' => E (.ref e) s'') E s := flight_ok (some L) I R fun h' I' R' => h h' I' (Noted.exc R')
  first
    | exact fin
    | exact wpAny_bind (wpAny_pure fin)
structure LabAt (g : Gd) (i : Fin 4) (x : PySem.Str) : Prop where
  at_ : nsIn g.K mainGlobals x = some (some (.ref (g.labA i)))
  exc : excIn g.K (g.labA i) [.type "Exception", .type "BaseException", .type "object"] "Exception.__new__" = true
  notTup : instIn g.K (.ref (g.labA i)) (.type "tuple") = some false
  isExc : subIn g.K (.ref (g.labA i)) (.type "BaseException") = some true
  nd : (x == ("__debug__" : PySem.Str)) = false
noncomputable def raiseB (i : Fin 4) (st : St) : Option (Fl × St) := some (.exc i, st)
theorem sem_raise {x : PySem.Str} {np cp pos} (i : Fin 4) (ok : g.Ok) (hl : LabAt g i x) (hk : fi.scope.kind = .function) (hx : (fi.env 0 0).kindOf x = some .globalImplicit) : SemS g fi d (.Raise (some (.Call (.Name x np) [] [] cp)) none pos) (raiseB i) := by
  intro s A L fa fs G X st fl st' Q E hA hI hf k kE
  cases hf
  obtain ⟨m, sl, F, N, S, R, nd, fr⟩ := id hI
  refine Raise_own0 F ok.T.g (own_of_in ok.X ok.T hl.at_ hl.exc) PySem.F.excBase_Exception hA.handled (fun h' e M => ?_) hk hx hl.nd
  obtain ⟨kp, hn, t, ht, _, _⟩ := M
  have I' : Inv g fi L fs G X st h' := by
    obtain ⟨o, es, ep, ho, r⟩ := F.ns
    exact ⟨m, sl, ⟨⟨o, es, ep, kp _ _ ho, r⟩, fun b o hb => kp _ _ (F.keep _ _ hb), F.above⟩, fun p hp => ⟨kp _ _ (N p hp).1, (N p hp).2⟩, S, R, nd, fr⟩
  exact kE i rfl G X e h' s.toks (fun _ h => h) (.refl X) I' ⟨hI.apart hn, _, _, ht, rfl, rfl, .inl rfl⟩
theorem matches_ok {L fs G X st i e} {fl : Value} {A : Around} {s : Shared} {Q : Bool → Shared → Prop} {E : Value → Shared → Prop} {j : Fin 4} {y : PySem.Str} {b : Bool} (ok : g.Ok) (hl : LabAt g j y) (hs : subIn g.K (.ref (g.labA i)) (.ref (g.labA j)) = some b) (I : Inv g fi L fs G X st s.heap) (R : Noted g L G X i e s.heap fl)
    (h : Q b s) : wpAny (model g.prog g.w) A (excMatches (.ref e) (.ref (g.labA j))) Q E s := by
  obtain ⟨ap, oe, vs, T, oT, ts, h1, h2, h3, h4, _⟩ := R
  have X0 := ok.X.keeps I.keep
  have hc : ∃ cd, clsIn g.K (g.labA j) = some cd := by
    have := hl.exc
    unfold excIn at this
    split at this
    · rename_i ho
      exact ⟨_, by unfold clsIn; rw [ho]⟩
    · cases this
  obtain ⟨cd, hcd⟩ := hc
  have hob : ∃ oc od sl, g.K.lookup (g.labA j) = some ⟨oc, od, .cls cd, sl⟩ := by
    unfold clsIn at hcd
    split at hcd
    · rename_i ho; cases hcd; exact ⟨_, _, _, ho⟩
    · cases hcd
  obtain ⟨oc, od, slo, ho⟩ := hob
  have ht : Looks (model g.prog g.w) s.heap (isType (.ref (g.labA j))) true := by
    refine (Looks.ld (X0 _ _ ho)).andThen ?_
    exact Looks.of_pure rfl
  unfold excMatches
  refine wpAny_bind ((looks_instIn X0 hl.notTup).here ?_)
  simp only [Bool.false_eq_true, if_false]
  refine wpAny_bind (wpAny_pure ?_)
  refine wpAny_bind ?_
  rw [List.forIn_cons]
  have hex : wpAny (model g.prog g.w) A (isExcClass (.ref (g.labA j))) (fun b s' => b = true ∧ s' = s) E s := by
    unfold isExcClass
    refine wpAny_bind (ht.here ?_)
    rw [if_pos rfl]
    exact (looks_subIn X0 hl.isExc).here ⟨rfl, rfl⟩
  refine wpAny_bind (wpAny_bind (wpAny_mono hex (fun b' s' hb => ?_) fun _ _ x => x))
  obtain ⟨rfl, rfl⟩ := hb
  simp only [Bool.not_true, Bool.false_eq_true, if_false]
  refine wpAny_pure ?_
  dsimp only
  rw [List.forIn_nil]
  refine wpAny_pure ?_
  have te : Looks (model g.prog g.w) s'.heap (typeOf (.ref e)) (.ref (g.labA i)) := by
    have := (Looks.ld (M := model g.prog g.w) (part := some headPart) h1)
    rw [← h2]
    exact this.andThen .now
  refine wpAny_bind (te.here ?_)
  refine wpAny_bind ?_
  rw [List.forIn_cons]
  refine wpAny_bind (wpAny_bind ((looks_subIn X0 hs).here ?_))
  cases b with
  | true => exact wpAny_pure (wpAny_pure (wpAny_pure h))
  | false =>
    simp only [Bool.false_eq_true, if_false]
    refine wpAny_pure ?_
    dsimp only
    rw [List.forIn_nil]
    exact wpAny_pure (wpAny_pure h)
end
section
variable {g : Gd} {fi : FI} {d : Nat}
noncomputable def tryB (j : Fin 4) (f : St → Option (Fl × St)) (st : St) : Option (Fl × St) :=
  match f st with
  | some (.exc i, st1) => if i = j then some (.next, st1) else some (.exc i, st1)
  | x => x
theorem sem_try {x : PySem.Str} {np hp pp pos} {body : List Stmt} {f} (j : Fin 4) (ok : g.Ok) (hl : LabAt g j x) (hs : ∀ i, subIn g.K (.ref (g.labA i)) (.ref (g.labA j)) = some (decide (i = j)))
    (hk : fi.scope.kind = .function) (hx : (fi.env 0 0).kindOf x = some .globalImplicit) (h : SemB g fi d body f) :
    SemS g fi d (.Try body [.ExceptHandler (some (.Name x np)) none [.Pass pp] hp] [] [] pos) (tryB j f) := by
  intro s A L fa fs G X st fl st' Q E hA hI hf k kE
  refine wpAny_Try_except ?_
  refine uex hf (fun i st1 q hf => ?_) fun hf hne => ?_
  · refine h s hA hI q (fun G1 X1 v h' tk hG1 hX1 I1 V1 => nomatch V1) fun i' he G1 X1 a h1 tk1 hG1 hX1 I1 R1 => ?_
    cases he
    refine note_ok (s := { s with heap := h1, toks := tk1 }) hA.frames hk I1 R1 fun X2 h2 u2 I2 R2 => ?_
    refine flight_ok (s := { s with heap := h2, toks := tk1 }) none I2 R2 fun h3 I3 R3 => ?_
    obtain ⟨m, sl, F, N, S, R, nd, fr⟩ := id I3
    refine wpAny_handleBy_cons (codeAny_handlers_test (name_K (s := { s with heap := h3, toks := tk1 }) F ok.X ok.T hl.at_ ?_ hk hx hl.nd)) (by intro q; cases q)
    refine matches_ok (s := { s with heap := h3, toks := tk1 }) ok hl (hs i) I3 R3 ?_
    by_cases e : i = j
    · rw [if_pos e] at hf
      cases hf
      rw [if_pos (decide_eq_true e)]
      refine codeAny_handlers_suite ?_
      refine flight_ok (s := { s with heap := h3, toks := tk1 }) none I3 R3 fun h4 I4 R4 => ?_
      refine wpAny_execs_cons (wpAny_Pass ?_)
      exact wpAny_execs_nil (k G1 X2 _ h4 tk1 hG1 (hX1.trans u2) I4 .next)
    · rw [if_neg e] at hf
      cases hf
      rw [if_neg (by rw [decide_eq_true_eq]; exact e)]
      show wpAny _ _ (handleBy _ _ []) _ _ _
      refine wpAny_handleBy_nil ?_
      unfold PySem.passOn
      obtain ⟨ap, oe, vs, T, oT, ts, e1, e2, e3, e4, e5⟩ := id R3
      refine wpAny_bind (wpAny_field e1 e3 e4 ?_)
      rw [if_neg (show ¬ ((Value.ref T == Value.none) = true) from by simp)]
      have fin : wpAny (model g.prog g.w) A (setFlight (.ref a) (fi.env L fa).frame >>= fun _ => (throw (.ref a) : Sem Flow)) Q E { s with heap := h3, toks := tk1 } :=
        wpAny_bind (flight_ok (s := { s with heap := h3, toks := tk1 }) (some L) I3 R3 fun h4 I4 R4 => wpAny_throw (kE i rfl G1 X2 a h4 tk1 hG1 (hX1.trans u2) I4 (Noted.exc R4)))
      first
        | exact fin
        | exact wpAny_bind (wpAny_pure fin)
  · refine h s hA hI hf (fun G1 X1 v h' tk hG1 hX1 I1 V1 => ?_) fun i he => ?_
    · have kk := k G1 X1 v h' tk hG1 hX1 I1 V1
      cases V1 with
      | next => exact wpAny_execs_nil kk
      | brk => exact kk
      | cont => exact kk
      | ret => exact kk
    · subst he
      rw [hf] at hne
      exact Bool.noConfusion hne
noncomputable def LPost (I : Nat → Shared → Prop) (n : Nat) (Q : Flow → Shared → Prop) : Flow → Shared → Prop := fun f s₃ => match f with
  | .next | .cont => ∃ m, m < n ∧ I m s₃
  | .brk => Q .next s₃
  | .ret v => Q (.ret v) s₃
theorem LPost.nx {I : Nat → Shared → Prop} {n : Nat} {Q : Flow → Shared → Prop} {s : Shared} (h : I n s) : LPost I (n + 1) Q .next s := ⟨n, Nat.lt_succ_self _, h⟩
theorem LPost.ct {I : Nat → Shared → Prop} {n : Nat} {Q : Flow → Shared → Prop} {s : Shared} (h : I n s) : LPost I (n + 1) Q .cont s := ⟨n, Nat.lt_succ_self _, h⟩
inductive WhI (g : Gd) (fi : FI) (L : Addr) (fs : List Env) (G X : List (Addr × Obj)) (ft : St → Option (Bool × St)) (fb : St → Option (Fl × St)) (fl : Fl) (st' : St) (s : Shared) (n : Nat) (s1 : Shared) : Prop
  | mk (G1 X1 : List (Addr × Obj)) (st1 : St) (h1 : Heap) (tk1 : Nat) (e : s1 = { s with heap := h1, toks := tk1 }) (hG1 : ∀ p ∈ G, p ∈ G1) (hX1 : UpS X X1) (I1 : Inv g fi L fs G1 X1 st1 h1) (q : whileB ft fb n st1 = some (fl, st'))
theorem sem_while {t : Expr} {b : List Stmt} {pos ft fb} (n : Nat) (hk : fi.scope.kind = .function) (h : SemT g fi d t ft) (hb : SemB g fi d b fb) : SemS g fi d (.While t b [] pos) (whileB ft fb n) := by
  intro s A L fa fs G X st fl st' Q E hA hI hf k kE
  refine wpAny_While (codeAny_whileLoop (I := WhI g fi L fs G X ft fb fl st' s) ?_ n ⟨G, X, st, s.heap, s.toks, rfl, fun _ h => h, .refl X, hI, hf⟩)
  rintro n s1 ⟨G1, X1, st1, h1, tk1, rfl, hG1, hX1, I1, q⟩
  cases n with
  | zero => simp [whileB] at q
  | succ n =>
    rw [whileB] at q
    refine ubb q fun b st2 q2 q => ?_
    refine h { s with heap := h1, toks := tk1 } hA I1 q2 fun G2 X2 h2 tk2 hG2 hX2 I2 => ?_
    cases b with
    | false =>
      cases q
      exact wpAny_execs_nil (k G2 X2 _ h2 tk2 (fun p hp => hG2 _ (hG1 _ hp)) (hX1.trans hX2) I2 .next)
    | true =>
      rcases q3 : fb st2 with _ | ⟨fl2, st3⟩
      · rw [q3] at q; exact nos q
      rw [q3] at q
      refine hb { s with heap := h2, toks := tk2 } hA I2 q3 (fun G3 X3 v h3 tk3 hG3 hX3 I3 V3 => ?_) fun i hi G3 X3 a h3 tk3 hG3 hX3 I3 R3 => ?_
      · have hG := fun p hp => hG3 p (hG2 p (hG1 p hp))
        have hX := (hX1.trans hX2).trans hX3
        cases V3 with
        | next => exact LPost.nx (Q := Q) ⟨G3, X3, st3, h3, tk3, rfl, hG, hX, I3, q⟩
        | cont => exact LPost.ct (Q := Q) ⟨G3, X3, st3, h3, tk3, rfl, hG, hX, I3, q⟩
        | brk => cases q; exact k G3 X3 _ h3 tk3 hG hX I3 .next
        | ret V5 => cases q; exact k G3 X3 _ h3 tk3 hG hX I3 (.ret V5)
      · subst hi
        cases q
        refine note_ok (s := { s with heap := h3, toks := tk3 }) hA.frames hk I3 R3 fun X4 h4 u4 I4 R4 => ?_
        exact came_ok (s := { s with heap := h4, toks := tk3 }) I4 R4 fun h5 I5 R5 => kE i rfl G3 X4 a h5 tk3 (fun p hp => hG3 _ (hG2 _ (hG1 _ hp))) (((hX1.trans hX2).trans hX3).trans u4) I5 R5
end
section
variable {g : Gd} {fi : FI} {d : Nat}
theorem Inv.addX {L fs G X st h} (I : Inv g fi L fs G X st h) (o : Obj) (hf : o.isFreed = false) : Inv g fi L fs G ((h.objs.size, o) :: X) st (h.push o) := by
  obtain ⟨m, sl, F, N, S, R, nd, fr⟩ := I
  have N' := News.push F N o hf
  have lt : ∀ p ∈ sl ++ (G ++ X), p.1 < h.objs.size := fun p hp => Heap.lt_size (N p hp).1
  have hp : List.Perm (sl ++ (G ++ (h.objs.size, o) :: X)) ((h.objs.size, o) :: (sl ++ (G ++ X))) :=
    List.Perm.trans (List.Perm.append_left sl List.perm_middle) List.perm_middle
  refine ⟨m, sl, F.push o, fun p hq => N' p (hp.subset hq), S, R, ?_, fun env he => let ⟨a, L2, o2, es, ep, b, c, d⟩ := fr env he; ⟨a, L2, o2, es, ep, b, .tail _ c, d⟩⟩
  refine ((hp.map (·.1)).nodup_iff).mpr ?_
  rw [List.map_cons, List.nodup_cons]
  refine ⟨fun hm => ?_, nd⟩
  obtain ⟨p, hp, e⟩ := List.mem_map.mp hm
  have := lt p hp
  rw [e] at this
  exact absurd this (Nat.lt_irrefl _)
theorem Inv.dropX {L fs G X st h a o} (I : Inv g fi L fs G ((a, o) :: X) st h) (fr : FrX fs X) : Inv g fi L fs G X st h := by
  obtain ⟨m, sl, F, N, S, R, nd, _⟩ := I
  have hp : List.Perm (sl ++ (G ++ (a, o) :: X)) ((a, o) :: (sl ++ (G ++ X))) :=
    List.Perm.trans (List.Perm.append_left sl List.perm_middle) List.perm_middle
  have nd2 := ((hp.map (·.1)).nodup_iff).mp nd
  rw [List.map_cons, List.nodup_cons] at nd2
  exact ⟨m, sl, F, fun p hq => N p (hp.symm.subset (.tail _ hq)), S, R, nd2.2, fr⟩
theorem Inv.getX {L fs G X st h a o} (I : Inv g fi L fs G ((a, o) :: X) st h) : h.get? a = some o := by
  obtain ⟨m, sl, F, N, S, R, nd, _⟩ := I
  exact (N (a, o) (List.mem_append_right _ (List.mem_append_right _ (.head _)))).1
theorem Inv.updX {L fs G X st h a o h' o'} (I : Inv g fi L fs G ((a, o) :: X) st h) (hs : Heap.SameBut a h h') (ho : h'.get? a = some o') (fr : FrX fs X) : Inv g fi L fs G ((a, o') :: X) st h' := by
  obtain ⟨m, sl, F, N, S, R, nd, _⟩ := I
  have hp : ∀ o, List.Perm (sl ++ (G ++ (a, o) :: X)) ((a, o) :: (sl ++ (G ++ X))) := fun o =>
    List.Perm.trans (List.Perm.append_left sl List.perm_middle) List.perm_middle
  have nd2 := (((hp o).map (·.1)).nodup_iff).mp nd
  have nd3 := nd2
  rw [List.map_cons, List.nodup_cons] at nd3
  have hN := N (a, o) ((hp o).symm.subset (.head _))
  obtain ⟨oL, es, ep, hL, r⟩ := F.ns
  refine ⟨m, sl, ⟨⟨oL, es, ep, (hs.2 L (Ne.symm hN.2.1)).trans hL, r⟩, fun b ob hb => (hs.2 b fun e => by rw [e, hN.2.2] at hb; cases hb).trans (F.keep _ _ hb), F.above⟩, fun p hq => ?_, S, R, ?_, fun env he => let ⟨k1, L2, o2, es, ep, b, c, d⟩ := fr env he; ⟨k1, L2, o2, es, ep, b, .tail _ c, d⟩⟩
  · rcases List.mem_cons.mp ((hp o').subset hq) with rfl | hq
    · exact ⟨ho, hN.2⟩
    · have := N p ((hp o).symm.subset (.tail _ hq))
      refine ⟨(hs.2 p.1 fun e => nd3.1 (List.mem_map.mpr ⟨p, hq, e⟩)).trans this.1, this.2⟩
  · refine (((hp o').map (·.1)).nodup_iff).mpr ?_
    simpa using nd2
theorem Inv.extX {L fs G X st h a o h'} (I : Inv g fi L fs G ((a, o) :: X) st h) (he : Heap.ExtBut a h h') (fr : FrX fs X) : Inv g fi L fs G X st h' := by
  obtain ⟨m, sl, F, N, S, R, nd, _⟩ := I
  have hp : List.Perm (sl ++ (G ++ (a, o) :: X)) ((a, o) :: (sl ++ (G ++ X))) :=
    List.Perm.trans (List.Perm.append_left sl List.perm_middle) List.perm_middle
  have nd2 := ((hp.map (·.1)).nodup_iff).mp nd
  rw [List.map_cons, List.nodup_cons] at nd2
  have hN := N (a, o) (hp.symm.subset (.head _))
  obtain ⟨oL, es, ep, hL, r⟩ := F.ns
  refine ⟨m, sl, ⟨⟨oL, es, ep, he L oL (Ne.symm hN.2.1) hL, r⟩, fun b ob hb => he b ob (fun e => by rw [e, hN.2.2] at hb; cases hb) (F.keep _ _ hb), F.above⟩, fun p hq => ?_, S, R, nd2.2, fr⟩
  have := N p (hp.symm.subset (.tail _ hq))
  exact ⟨he p.1 p.2 (fun e => nd2.1 (List.mem_map.mpr ⟨p, hq, e⟩)) this.1, this.2⟩
noncomputable def forB (k : Nat) (b : St → Option (Fl × St)) : List PV → St → Option (Fl × St)
  | [], st => some (.next, st)
  | v :: vs, st => (match b ⟨upd st.loc k v, st.att⟩ with
    | some (.next, st1) => forB k b vs st1
    | some (.cont, st1) => forB k b vs st1
    | some (.brk, st1) => some (.next, st1)
    | some (.ret v, st1) => some (.ret v, st1)
    | _ => none)
noncomputable def rangeL (a c : Int) : Nat → List PV
  | 0 => []
  | n + 1 => .int a :: rangeL (a + c) c n
noncomputable def rangeF (l : List PV) : Option (Int × Int × Int) := match l with
  | [x] => x.int?.bind fun n => if n.natAbs < 1000000 then some (0, n, 1) else none
  | [x, y] => x.int?.bind fun a => y.int?.bind fun b => if a.natAbs < 1000000 ∧ b.natAbs < 1000000 then some (a, b, 1) else none
  | [x, y, z] => x.int?.bind fun a => y.int?.bind fun b => z.int?.bind fun c => if a.natAbs < 1000000 ∧ b.natAbs < 1000000 ∧ c = -1 then some (a, b, c) else none
  | _ => none
theorem rgF1 {n : Int} (h : n.natAbs < 1000000) : rangeF [.int n] = some (0, n, 1) := if_pos h
theorem rgF2 {a b : Int} (h : a.natAbs < 1000000 ∧ b.natAbs < 1000000) : rangeF [.int a, .int b] = some (a, b, 1) := if_pos h
theorem rgF3 {a b : Int} (h : a.natAbs < 1000000 ∧ b.natAbs < 1000000) : rangeF [.int a, .int b, .int (-1)] = some (a, b, -1) := if_pos ⟨h.1, h.2, rfl⟩
noncomputable def rangeLen (a b c : Int) : Nat := if c = 1 then (b - a).toNat else (a - b).toNat
noncomputable def forR (k : Nat) (f : St → Option (List PV × St)) (b : St → Option (Fl × St)) (st : St) : Option (Fl × St) :=
  match f st with
  | some (l, st1) => (match rangeF l with
    | some (x, y, c) => forB k b (rangeL x c (rangeLen x y c)) st1
    | none => none)
  | none => none
theorem rangeSize_c {a b c : Int} (hc : c = 1 ∨ c = -1) : (Builtin.Range.rangeSize a b c).toNat = rangeLen a b c := by
  rcases hc with rfl | rfl
  · rw [rangeSize_one]; unfold rangeLen; simp only [if_true]; split <;> omega
  · unfold Builtin.Range.rangeSize rangeLen
    have h1 : ¬ ((-1 : Int) > 0) := by decide
    have h2 : ¬ ((-1 : Int) = 1) := by decide
    simp only [h1, h2, if_false, Int.neg_neg, Int.ediv_one]
    split <;> omega
theorem small_c {a b c : Int} (hc : c = 1 ∨ c = -1) (ha : a.natAbs < 1000000) (hb : b.natAbs < 1000000) : Builtin.Range.small a b c = true := by
  rcases hc with rfl | rfl
  · exact small_one (by omega) (by omega) (by omega) (by omega)
  · unfold Builtin.Range.small
    have hs : Builtin.Range.rangeSize a b (-1) = if b < a then a - b else 0 := by
      unfold Builtin.Range.rangeSize
      have h1 : ¬ ((-1 : Int) > 0) := by decide
      simp only [h1, if_false, Int.neg_neg, Int.ediv_one]
      split <;> omega
    rw [hs]
    simp only [Builtin.Range.rangeFitsLong, Bool.and_eq_true, Bool.or_eq_true, decide_eq_true_eq, beq_iff_eq]
    have h1 : ¬ ((-1 : Int) > 0) := by decide
    simp only [h1, if_false, Bool.and_eq_true, decide_eq_true_eq]
    split <;> omega
inductive RgV (a b c : Int) : List Value → Prop
  | one {t : Tok} : a = 0 → c = 1 → RgV a b c [.int b t]
  | two {t u : Tok} : c = 1 → RgV a b c [.int a t, .int b u]
  | three {t u v : Tok} : c = -1 → RgV a b c [.int a t, .int b u, .int c v]
theorem rangeF_c {G : List (Addr × Obj)} {l : List PV} {vs : List Value} {a b c : Int} (V : VRs g G l vs) (h : rangeF l = some (a, b, c)) : (c = 1 ∨ c = -1) ∧ a.natAbs < 1000000 ∧ b.natAbs < 1000000 ∧ RgV a b c vs := by
  match l, h, V with
  | [x], h, W =>
    obtain ⟨v, rfl, Va⟩ := W.o1
    obtain ⟨n, hn, h⟩ := Option.bind_eq_some_iff.mp h
    obtain ⟨t, rfl⟩ := Va.ofI hn
    obtain ⟨q, e⟩ := ifs h
    cases e
    exact ⟨.inl rfl, by decide, q, .one rfl rfl⟩
  | [x, y], h, W =>
    obtain ⟨v, vs, rfl, Va, R⟩ := W.c1
    obtain ⟨w, rfl, V'⟩ := R.o1
    obtain ⟨n, hn, h⟩ := Option.bind_eq_some_iff.mp h
    obtain ⟨t, rfl⟩ := Va.ofI hn
    obtain ⟨m, hm, h⟩ := Option.bind_eq_some_iff.mp h
    obtain ⟨t, rfl⟩ := V'.ofI hm
    obtain ⟨q, e⟩ := ifs h
    cases e
    exact ⟨.inl rfl, q.1, q.2, .two rfl⟩
  | [x, y, z], h, W =>
    obtain ⟨v, vs, rfl, Va, R⟩ := W.c1
    obtain ⟨v', vs, rfl, V', R⟩ := R.c1
    obtain ⟨w, rfl, V''⟩ := R.o1
    obtain ⟨n, hn, h⟩ := Option.bind_eq_some_iff.mp h
    obtain ⟨t, rfl⟩ := Va.ofI hn
    obtain ⟨m, hm, h⟩ := Option.bind_eq_some_iff.mp h
    obtain ⟨t, rfl⟩ := V'.ofI hm
    obtain ⟨k, hk, h⟩ := Option.bind_eq_some_iff.mp h
    obtain ⟨t, rfl⟩ := V''.ofI hk
    obtain ⟨q, e⟩ := ifs h
    cases e
    exact ⟨.inr q.2.2, q.1, q.2.1, .three q.2.2⟩
noncomputable abbrev rangeIt (x left step : Int) : Obj := { cls := .type "range_iterator", dict := none, data := .fields #[rawInt x, rawInt left, rawInt step], slots := #[] }
inductive RgI (g : Gd) (fi : FI) (L : Addr) (fs : List Env) (G X : List (Addr × Obj)) (it : Addr) (c : Int) (k : Nat) (fb : St → Option (Fl × St)) (fl : Fl) (st' : St) (s : Shared) (n : Nat) (s1 : Shared) : Prop
  | mk (G1 X1 : List (Addr × Obj)) (st1 : St) (h1 : Heap) (tk1 : Nat) (a1 : Int) (e : s1 = { s with heap := h1, toks := tk1 }) (hG1 : ∀ p ∈ G, p ∈ G1) (hX1 : UpS X X1) (I1 : Inv g fi L fs G1 ((it, rangeIt a1 n c) :: X1) st1 h1) (q : forB k fb (rangeL a1 c n) st1 = some (fl, st'))
theorem range_loop {x : PySem.Str} {px : Pos} {body : List Stmt} {k : Nat} {fb} (hx : NameAt fi k x) (h : SemB g fi d body fb) {A : Around} {L fa : Addr} {fs : List Env} {G X : List (Addr × Obj)} {st : St} {fl : Fl} {st' : St} (s : Shared) {R : Result → Shared → Prop} {it : Addr} {a c : Int} (n : Nat)
    (hA : AOK d A (fi.env L fa) fs) (fr : FrX fs X) (hI : Inv g fi L fs G ((it, rangeIt a n c) :: X) st s.heap) (hf : forB k fb (rangeL a c n) st = some (fl, st'))
    (hR : ∀ G' X' v h' tk, (∀ p ∈ G, p ∈ G') → UpS X X' → Inv g fi L fs G' X' st' h' → FlR g G' fl v → R (.ok v) { s with heap := h', toks := tk }) :
    codeAny (model g.prog g.w) A (.forLoop (.Name x px) (.ref it) body [] (fi.env L fa)) R s := by
  refine codeAny_forLoop_any (I := RgI g fi L fs G X it c k fb fl st' s) ?_ n ⟨G, X, st, s.heap, s.toks, a, rfl, fun _ h => h, .refl X, hI, hf⟩
  rintro n s1 ⟨G1, X1, st1, h1, tk1, a1, rfl, hG1, hX1, I1, q⟩
  have fr1 := hX1.fr fr
  have hit : IsRangeIter h1 it a1 n c := I1.getX
  cases n with
  | zero =>
    simp only [rangeL, forB] at q
    cases q
    refine wpAny_pyNext_range_end (s := { s with heap := h1, toks := tk1 }) hA.handled hit (by simp) fun h2 he => ?_
    refine wpAny_execs_nil ?_
    have I2 := I1.extX he fr1
    exact hR G1 X1 _ h2 tk1 hG1 hX1 I2 .next
  | succ n =>
    simp only [rangeL, forB] at q
    refine wpAny_pyNext_range_item (s := { s with heap := h1, toks := tk1 }) hit (by omega) fun h2 hit2 hsb => ?_
    have I2 := I1.updX hsb hit2 fr1
    refine wpAny_pure (PyProof.Rows.assign_Name (store_ok hx (s := { s with heap := h2, toks := tk1 + 1 }) I2 (.int a1 tk1) fun h3 tk3 I3 => ?_))
    rcases q3 : fb ⟨upd st1.loc k (.int a1), st1.att⟩ with _ | ⟨fl2, st3⟩
    · rw [q3] at q; exact nos q
    rw [q3] at q
    refine h { s with heap := h3, toks := tk3 } hA I3 q3 (fun G4 X4 v h4 tk4 hG4 hX4 I4 V4 => ?_) fun i hi => by subst hi; exact nos q
    cases hX4 with
    | @cons _ _ o4 _ X5 hu hX4 =>
      rcases hu with rfl | ⟨_, es, ep, e⟩
      · have I5 : Inv g fi L fs G4 ((it, rangeIt (a1 + c) n c) :: X5) st3 h4 := by
          have e : ((n + 1 : Nat) : Int) - 1 = n := by omega
          rw [e] at I4
          exact I4
        have hG := fun p hp => hG4 p (hG1 p hp)
        have hX := hX1.trans hX4
        cases V4 with
        | next => exact LPost.nx (Q := fun f s => R (.ok f) s) ⟨G4, X5, st3, h4, tk4, _, rfl, hG, hX, I5, q⟩
        | cont => exact LPost.ct (Q := fun f s => R (.ok f) s) ⟨G4, X5, st3, h4, tk4, _, rfl, hG, hX, I5, q⟩
        | brk => cases q; exact hR G4 X5 _ h4 tk4 hG hX (I5.dropX (hX.fr fr)) .next
        | ret V5 => cases q; exact hR G4 X5 _ h4 tk4 hG hX (I5.dropX (hX.fr fr)) (.ret V5)
      · cases e
theorem sem_forR {x : PySem.Str} {px rp rn pos : Pos} {e : Expr} {es : List Expr} {body : List Stmt} {f fb} (k : Nat) (ok : g.Ok) (hx : NameAt fi k x) (e0 : nsIn g.K mainGlobals "range" = some none)
    (hr : (fi.env 0 0).kindOf "range" = some .globalImplicit) (hp : (e :: es).all plainX = true) (he : SemL g fi d (e :: es) f) (h : SemB g fi d body fb) :
    SemS g fi d (.For (.Name x px) (.Call (.Name "range" rn) (e :: es) [] rp) body [] pos) (forR k f fb) := by
  intro s A L fa fs G X st fl st' Q E hA hI hf kk kE
  refine ul hf fun l st1 q hf => ?_
  refine u3 hf fun a b c hr' hf => ?_
  rw [List.all_cons, Bool.and_eq_true] at hp
  refine wpAny_For ?_
  obtain ⟨m, sl, F, N, S, R, nd, fr⟩ := id hI
  refine PyProof.Rows.Call_Name rfl (name_B F ok.X ok.T e0 PyProof.Rows.Boot.«range» (by decide) ?_ hx.fn hr (by decide))
  refine PyProof.Rows.callWith_type1 ?_ (star_plain hp.1 _) (plain_any hp.2 _ _)
  refine he rp s hA hI q fun G1 X1 vs h1 tk1 hG1 hX1 I1 V1 => ?_
  obtain ⟨hc, ha, hb, hv⟩ := rangeF_c V1 hr'
  have fin : ∀ {t u v : Tok} (tk2 : Nat) (h2 : Heap), (∃ o, h2 = h1.push o ∧ o = ({ cls := .type "range", data := .fields #[.int a t, .int b u, .int c v] } : Obj)) → wpAny (model g.prog g.w) A (pyIter (.ref h1.objs.size)) (fun it s₂ =>
      codeAny (model g.prog g.w) A (.forLoop (.Name x px) it body [] (fi.env L fa)) (fun r s' => match r with | .ok f => Q f s' | .error e => cameBackBy (model g.prog g.w) A (fi.env L fa) E e s') s₂) E { s with heap := h2, toks := tk2 } := by
    rintro t u v tk2 h2 ⟨o, rfl, rfl⟩
    refine wpAny_pyIter_range (s := { s with heap := h1.push _, toks := tk2 }) (IsRange.new h1 a b c t u v) (small_c hc ha hb) ?_
    have I2 := (I1.push { cls := .type "range", data := .fields #[.int a t, .int b u, .int c v] }).addX { cls := .type "range_iterator", data := .fields #[rawInt a, rawInt (Builtin.Range.rangeSize a b c), rawInt c] } rfl
    have e1 : Builtin.Range.rangeSize a b c = ((rangeLen a b c : Nat) : Int) := by
      rw [← rangeSize_c hc]
      have : 0 ≤ Builtin.Range.rangeSize a b c := by
        unfold Builtin.Range.rangeSize
        rcases hc with rfl | rfl
        · simp only [show (1 : Int) > 0 by decide, if_true, Int.ediv_one]; split <;> omega
        · have h1 : ¬ ((-1 : Int) > 0) := by decide
          simp only [h1, if_false, Int.neg_neg, Int.ediv_one]; split <;> omega
      omega
    rw [e1] at I2 ⊢
    refine range_loop hx h (s := { s with heap := (h1.push _).push _, toks := tk2 }) (rangeLen a b c) hA I1.fr I2 hf fun G' X' v h' tk hG' hX' I' V' => ?_
    exact kk G' X' v h' tk (fun p hp => hG' _ (hG1 _ hp)) (hX1.trans hX') I' V'
  cases hv with
  | one e1 e2 => subst e1 e2; exact call_range_1 (fin _ _ ⟨_, rfl, rfl⟩)
  | two e2 => subst e2; exact call_range_2 (fin _ _ ⟨_, rfl, rfl⟩)
  | three e => exact call_range_3 (by omega) (fin _ _ ⟨_, rfl, rfl⟩) (.inl (PyProof.noPylong_small (by omega)))
end
section
variable {g : Gd} {fi : FI} {d : Nat}
noncomputable def forLB (k : Nat) (f : St → Option (PV × St)) (b : St → Option (Fl × St)) (st : St) : Option (Fl × St) :=
  match f st with
  | some (.seq false xs, st1) => forB k b xs st1
  | _ => none
theorem VRs.drop {G : List (Addr × Obj)} {xs : List PV} {vs : List Value} (V : VRs g G xs vs) : ∀ i, VRs g G (xs.drop i) (vs.drop i) :=
  V.ind (P := fun xs vs => ∀ i, VRs g G (xs.drop i) (vs.drop i)) (fun i => by rw [List.drop_nil, List.drop_nil]; exact .nil) fun a r ih i => by
    cases i with
    | zero => exact .cons a r
    | succ i => exact ih i
inductive LsI (g : Gd) (fi : FI) (L : Addr) (fs : List Env) (G X : List (Addr × Obj)) (it l : Addr) (xs : List PV) (k : Nat) (fb : St → Option (Fl × St)) (fl : Fl) (st' : St) (s : Shared) (n : Nat) (s1 : Shared) : Prop
  | mk (G1 X1 : List (Addr × Obj)) (st1 : St) (h1 : Heap) (tk1 i : Nat) (io1 : Obj) (e : s1 = { s with heap := h1, toks := tk1 }) (hG1 : ∀ p ∈ G, p ∈ G1) (hX1 : UpS X X1) (I1 : Inv g fi L fs G1 ((it, io1) :: X1) st1 h1) (hit1 : h1.IsListIter it l i) (hio1 : ∀ es ep, io1.data ≠ .dict es ep) (hn : i + n = xs.length) (q : forB k fb (xs.drop i) st1 = some (fl, st'))
theorem list_loop {x : PySem.Str} {px : Pos} {body : List Stmt} {k : Nat} {fb} (hx : NameAt fi k x) (h : SemB g fi d body fb) {A : Around} {L fa : Addr} {fs : List Env} {G X : List (Addr × Obj)} {st : St} {fl : Fl} {st' : St} (s : Shared) {R : Result → Shared → Prop} {it l : Addr} {io : Obj} {items : List Value} {xs : List PV} {ln : Nat}
    (hA : AOK d A (fi.env L fa) fs) (fr : FrX fs X) (hI : Inv g fi L fs G ((it, io) :: X) st s.heap) (hit : s.heap.IsListIter it l 0) (hl : (l, seqObj false items ln) ∈ G) (V : VRs g G xs items) (hio : ∀ es ep, io.data ≠ .dict es ep) (hf : forB k fb xs st = some (fl, st'))
    (hR : ∀ G' X' v h' tk, (∀ p ∈ G, p ∈ G') → UpS X X' → Inv g fi L fs G' X' st' h' → FlR g G' fl v → R (.ok v) { s with heap := h', toks := tk }) :
    codeAny (model g.prog g.w) A (.forLoop (.Name x px) (.ref it) body [] (fi.env L fa)) R s := by
  refine codeAny_forLoop_any (I := LsI g fi L fs G X it l xs k fb fl st' s) ?_ xs.length
    ⟨G, X, st, s.heap, s.toks, 0, io, rfl, fun _ h => h, .refl X, hI, hit, hio, by simp, hf⟩
  rintro n s1 ⟨G1, X1, st1, h1, tk1, i, io1, rfl, hG1, hX1, I1, hit1, hio1, hn, q⟩
  have fr1 := hX1.fr fr
  have hL : h1.IsList l items.toArray := ⟨_, I1.getG _ (hG1 _ hl), rfl, ln, rfl⟩
  have hlen : xs.length = items.length := V.length
  cases n with
  | zero =>
    rw [List.drop_eq_nil_of_le (by omega)] at q
    simp only [forB] at q
    cases q
    refine wpAny_pyNext_list_end (s := { s with heap := h1, toks := tk1 }) hA.handled hit1 hL (by rw [List.getElem?_toArray]; exact List.getElem?_eq_none (by omega)) fun h2 he => ?_
    exact wpAny_execs_nil (hR G1 X1 _ h2 tk1 hG1 hX1 (I1.extX he fr1) .next)
  | succ n =>
    have hi : i < xs.length := by omega
    rw [List.drop_eq_getElem_cons hi] at q
    simp only [forB] at q
    obtain ⟨u, hu, Vu⟩ := V.get i xs[i] (List.getElem?_eq_getElem hi)
    refine wpAny_pyNext_list_item (s := { s with heap := h1, toks := tk1 }) hit1 hL (by rw [List.getElem?_toArray]; exact hu) fun h2 hit2 hsb => ?_
    obtain ⟨io2, ho2, hc2, hd2⟩ := id hit2
    have I2 := I1.updX hsb ho2 fr1
    have hio2 : ∀ es ep, io2.data ≠ .dict es ep := fun es ep e => by rw [hd2] at e; cases e
    refine wpAny_pure (PyProof.Rows.assign_Name (store_ok hx (s := { s with heap := h2, toks := tk1 }) I2 (Vu.mono hG1) fun h3 tk3 I3 => ?_))
    rcases q3 : fb ⟨upd st1.loc k xs[i], st1.att⟩ with _ | ⟨fl2, st3⟩
    · rw [q3] at q; exact nos q
    rw [q3] at q
    refine h { s with heap := h3, toks := tk3 } hA I3 q3 (fun G4 X4 v h4 tk4 hG4 hX4 I4 V4 => ?_) fun i hi => by subst hi; exact nos q
    cases hX4 with
    | @cons _ _ o4 _ X5 hu hX4 =>
      rcases hu with rfl | ⟨_, es, ep, e⟩
      · have hit4 : h4.IsListIter it l (i + 1) := ⟨_, I4.getX, hc2, hd2⟩
        have hG := fun p hp => hG4 p (hG1 p hp)
        have hX := hX1.trans hX4
        cases V4 with
        | next => exact LPost.nx (Q := fun f s => R (.ok f) s) ⟨G4, X5, st3, h4, tk4, i + 1, _, rfl, hG, hX, I4, hit4, hio2, by omega, q⟩
        | cont => exact LPost.ct (Q := fun f s => R (.ok f) s) ⟨G4, X5, st3, h4, tk4, i + 1, _, rfl, hG, hX, I4, hit4, hio2, by omega, q⟩
        | brk => cases q; exact hR G4 X5 _ h4 tk4 hG hX (I4.dropX (hX.fr fr)) .next
        | ret V5 => cases q; exact hR G4 X5 _ h4 tk4 hG hX (I4.dropX (hX.fr fr)) (.ret V5)
      · exact absurd e (hio2 es ep)
theorem sem_forL {x : PySem.Str} {px pos : Pos} {e : Expr} {body : List Stmt} {f fb} (k : Nat) (hx : NameAt fi k x) (hs : ∀ env v, foldedSetIterable e env v = pure v) (he : SemE g fi d e f) (h : SemB g fi d body fb) :
    SemS g fi d (.For (.Name x px) e body [] pos) (forLB k f fb) := by
  intro s A L fa fs G X st fl st' Q E hA hI hf kk kE
  refine uq hf fun xs st1 q hf => ?_
  refine wpAny_For (he s hA hI q fun G1 X1 u h1 tk1 hG1 hX1 I1 V1 => ?_) (hs _)
  obtain ⟨a, items, n, rfl, hm, hv⟩ := V1.q
  refine wpAny_pyIter_list (s := { s with heap := h1, toks := tk1 }) ⟨_, I1.getG _ hm, rfl, n, rfl⟩ ?_
  have I2 := I1.addX { cls := .type "list_iterator", data := .fields #[.ref a, .int 0 0] } rfl
  refine list_loop hx h (s := { s with heap := h1.push _, toks := tk1 }) hA I1.fr I2 ⟨_, I2.getX, rfl, rfl⟩ hm hv (fun es ep e => by cases e) hf fun G' X' v h' tk hG' hX' I' V' => ?_
  exact kk G' X' v h' tk (fun p hp => hG' _ (hG1 _ hp)) (hX1.trans hX') I' V'
noncomputable def namesX : List PySem.Str → List Pos → List Expr
  | x :: xs, p :: ps => .Name x p :: namesX xs ps
  | _, _ => []
noncomputable def updL (loc : Nat → Option PV) : List Nat → List PV → Nat → Option PV
  | k :: ks, v :: vs => updL (upd loc k v) ks vs
  | _, _ => loc
noncomputable def asgT (ks : List Nat) (T : Addr → Option TO) (f : St → Option (PV × St)) (st : St) : Option (Fl × St) :=
  match f st with
  | some (.seq true xs, st1) => if xs.length = ks.length then some (.next, ⟨updL st1.loc ks xs, st1.att⟩) else none
  | some (.top a, st1) => (match T a with
    | some (.seq true xs) => if xs.length = ks.length then some (.next, ⟨updL st1.loc ks xs, st1.att⟩) else none
    | _ => none)
  | _ => none
inductive Names (fi : FI) : List Nat → List Expr → Prop
  | nil : Names fi [] []
  | cons {k : Nat} {ks : List Nat} {x : PySem.Str} {p : Pos} {es : List Expr} : NameAt fi k x → Names fi ks es → Names fi (k :: ks) (.Name x p :: es)
theorem Names.len {ks es} (h : Names fi ks es) : ∀ env, (assignEach es env).length = ks.length := by
  induction h with
  | nil => exact fun _ => rfl
  | cons _ _ ih => exact fun env => congrArg (· + 1) (ih env)
theorem Names.star {ks es} (h : Names fi ks es) : ∀ env, (assignEach es env).findIdx? (·.1) = none := by
  induction h with
  | nil => exact fun _ => rfl
  | @cons k ks x p es _ _ ih =>
    intro env
    have e : assignEach (.Name x p :: es) env = (false, assign (.Name x p) env) :: assignEach es env := rfl
    rw [e, List.findIdx?_cons, if_neg (by simp), ih env]; rfl
theorem names_ok {ks es} (hn : Names fi ks es) : ∀ {xs : List PV} {vs : List Value} {L fa fs G X st} {A : Around} {s : Shared} {Q : Unit → Shared → Prop} {E : Value → Shared → Prop}, VRs g G xs vs → xs.length = ks.length → Inv g fi L fs G X st s.heap →
    (∀ h' tk, Inv g fi L fs G X ⟨updL st.loc ks xs, st.att⟩ h' → Q () { s with heap := h', toks := tk }) → wpAny (model g.prog g.w) A (assignInOrder ((assignEach es (fi.env L fa)).map (·.2)) vs) Q E s := by
  induction hn with
  | nil =>
    intro xs vs L fa fs G X st A s Q E V hl I h
    cases V with
    | nil => exact assignInOrder_nil (h s.heap s.toks I)
    | cons => cases hl
  | cons hx r ih =>
    intro xs vs L fa fs G X st A s Q E V hl I h
    cases V with
    | nil => cases hl
    | cons V Vs =>
      refine assignInOrder_cons (PyProof.Rows.assign_Name (store_ok hx I V fun h1 tk1 I1 => ?_))
      exact ih (s := { s with heap := h1, toks := tk1 }) Vs (by simpa using hl) I1 fun h2 tk2 I2 => h h2 tk2 I2
theorem sem_asgT {es : List Expr} {e : Expr} {k0 tp pos f} (ks : List Nat) (_ok : g.Ok) (hT : ∀ a t, g.tobj a = some t → TOk g a t) (hn : Names fi ks es) (h : SemE g fi d e f)
    (hs : ∀ env, swapsWithSole [.Tuple es k0 tp] e pos.line env = pure false) (hw : ∀ env, swappedStores [.Tuple es k0 tp] e env = pure none) : SemS g fi d (.Assign [.Tuple es k0 tp] e pos) (asgT ks g.tobj f) := by
  intro s A L fa fs G X st fl st' Q E hA hI hf kk kE
  refine Assign_Tuple ?_ (hs _) (hw _)
  have fin : ∀ {xs : List PV} {items : List Value} {G1 X1 st1 h1 tk1 a}, (∀ p ∈ G, p ∈ G1) → UpS X X1 → Inv g fi L fs G1 X1 st1 h1 → VRs g G1 xs items → IsTup h1 a items.toArray → xs.length = ks.length → fl = .next → st' = ⟨updL st1.loc ks xs, st1.att⟩ →
      wpAny (model g.prog g.w) A (assign (.Tuple es k0 tp) (fi.env L fa) (.ref a)) (fun _ => Q .next) E { s with heap := h1, toks := tk1 } := by
    intro xs items G1 X1 st1 h1 tk1 a hG1 hX1 I1 V ht hl e1 e2
    subst e1 e2
    obtain ⟨m, sl, F, N, S, R, nd, fr⟩ := I1
    refine unpackN_ (s := { s with heap := h1, toks := tk1 }) F N ht hA.handled (by rw [hn.len, ← hl, V.length]; simp) (hn.star _) fun h2 F2 N2 => ?_
    have I2 : Inv g fi L fs G1 X1 st1 h2 := ⟨m, sl, F2, N2, S, R, nd, fr⟩
    exact names_ok hn (s := { s with heap := h2, toks := tk1 }) V hl I2 fun h3 tk3 I3 => kk G1 X1 _ h3 tk3 hG1 hX1 I3 .next
  refine uts hf (fun xs st1 q hf => ?_) fun a st1 q hf => ?_
  · obtain ⟨hl, e⟩ := ifs hf
    cases e
    refine h s hA hI q fun G1 X1 u h1 tk1 hG1 hX1 I1 V1 => ?_
    obtain ⟨a, items, n, rfl, hm, hv⟩ := V1.q
    exact fin hG1 hX1 I1 hv ⟨_, I1.getG _ hm, rfl, n, rfl⟩ hl rfl rfl
  · refine uqt hf fun xs ht hf => ?_
    refine ifk hf fun hl e => ?_
    cases e
    refine h s hA hI q fun G1 X1 u h1 tk1 hG1 hX1 I1 V1 => ?_
    obtain rfl := V1.t
    obtain ⟨items, n, o, h1', h2, h3, h4, h5⟩ := hT _ _ ht
    exact fin hG1 hX1 I1 h4.up ⟨o, I1.keep _ _ h1', h2, n, h3⟩ hl rfl rfl
end
structure SE (g : Gd) (fi : FI) (d : Nat) (e : Expr) (f : St → Option (PV × St)) : Prop where
  h : SemE g fi d e f
structure STt (g : Gd) (fi : FI) (d : Nat) (e : Expr) (f : St → Option (Bool × St)) : Prop where
  h : SemT g fi d e f
structure SL (g : Gd) (fi : FI) (d : Nat) (e : List Expr) (f : St → Option (List PV × St)) : Prop where
  h : SemL g fi d e f
structure SS (g : Gd) (fi : FI) (d : Nat) (e : Stmt) (f : St → Option (Fl × St)) : Prop where
  h : SemS g fi d e f
structure SB (g : Gd) (fi : FI) (d : Nat) (e : List Stmt) (f : St → Option (Fl × St)) : Prop where
  h : SemB g fi d e f
structure SF (g : Gd) (d : Nat) (f : Addr) (F : List PV → List (Nat × PV) → Option (PV × List (Nat × PV))) : Prop where
  h : SemF g d f F
section
variable {g : Gd} {fi : FI} {d : Nat}
theorem s_int {i : Int} {k pos} : SE g fi d (.Constant (.int i) k pos) (fun st => some (.int i, st)) := ⟨sem_int ⟩
theorem s_bool {b : Bool} {k pos} : SE g fi d (.Constant (.bool b) k pos) (fun st => some (.bool b, st)) := ⟨sem_bool ⟩
theorem s_str {x : PySem.Str} {l : List Nat} {k pos} (hx : x = toStr l) : SE g fi d (.Constant (.str x) k pos) (fun st => some (.str l, st)) := ⟨sem_str hx⟩
theorem s_attr {e : Expr} {f} {attr : PySem.Str} {pos} (i : Nat) (ha : anm i = attr) (hS : SAttr g i) (ok : g.Ok) (hb : ∀ env, attributeBase e attr env (eval e env) = eval e env) (he : SE g fi d e f) : SE g fi d (.Attribute e attr pos) (selfGet i f) := ⟨sem_attr i ha hS ok hb he.h⟩
theorem s_s {e f pos} (ok : g.Ok) (hT : ∀ a t, g.tobj a = some t → TOk g a t) (hb : ∀ env, attributeBase e "s" env (eval e env) = eval e env) (he : SE g fi d e f) : SE g fi d (.Attribute e "s" pos) (amgGet (fun s _ _ => .str s) g.tobj f) := ⟨sem_s ok hT hb he.h⟩
theorem s_sub {e f pos} (ok : g.Ok) (hT : ∀ a t, g.tobj a = some t → TOk g a t) (hb : ∀ env, attributeBase e "substring_i" env (eval e env) = eval e env) (he : SE g fi d e f) : SE g fi d (.Attribute e "substring_i" pos) (amgGet (fun _ i _ => .int i) g.tobj f) := ⟨sem_sub ok hT hb he.h⟩
theorem s_res {e f pos} (ok : g.Ok) (hT : ∀ a t, g.tobj a = some t → TOk g a t) (hb : ∀ env, attributeBase e "result" env (eval e env) = eval e env) (he : SE g fi d e f) : SE g fi d (.Attribute e "result" pos) (amgGet (fun _ _ i => .int i) g.tobj f) := ⟨sem_res ok hT hb he.h⟩
theorem s_glob {x : PySem.Str} {pos} {v : Value} {pv : PV} (ok : g.Ok) (e : nsIn g.K mainGlobals x = some (some v)) (hv : VR g [] pv v) (hk : fi.scope.kind = .function) (hx : (fi.env 0 0).kindOf x = some .globalImplicit) (hd : (x == ("__debug__" : PySem.Str)) = false) :
    SE g fi d (.Name x pos) (fun st => some (pv, st)) := ⟨sem_glob ok e hv hk hx hd⟩
theorem s_cattr {x attr : PySem.Str} {xp pos} {C a : Addr} {mc : Value} (ok : g.Ok) (e : nsIn g.K mainGlobals x = some (some (.ref C))) (hm : typeIn g.K (.ref C) = some mc) (hr : readsIn g.K C mc = true) (hc : findCls g.K (.ref C) mc attr = some (.val (.ref a))) (hh : handedIn (.ref a) = true)
    (hk : fi.scope.kind = .function) (hx : (fi.env 0 0).kindOf x = some .globalImplicit) (hd : (x == ("__debug__" : PySem.Str)) = false) : SE g fi d (.Attribute (.Name x xp) attr pos) (fun st => some (.top a, st)) := ⟨sem_cattr ok e hm hr hc hh hk hx hd⟩
theorem s_bin {op : Operator} {l r : Expr} {pos} {f1 f2} (h1 : SE g fi d l f1) (h2 : SE g fi d r f2) : SE g fi d (.BinOp l op r pos) (binE op f1 f2) := ⟨sem_bin h1.h h2.h⟩
theorem s_cmp {op : CmpOp} {l r : Expr} {pos} {f1 f2} (hT : ∀ a t, g.tobj a = some t → TOk g a t) (h1 : SE g fi d l f1) (h2 : SE g fi d r f2) (hm : behindInMarks op r = false) :
    SE g fi d (.Compare l [op] [r] pos) (fun st => (cmpE g.tobj op f1 f2 st).map fun x => (.bool x.1, x.2)) := ⟨sem_cmp hT h1.h h2.h hm⟩
theorem s_tcmp {op : CmpOp} {l r : Expr} {pos} {f1 f2} (hT : ∀ a t, g.tobj a = some t → TOk g a t) (h1 : SE g fi d l f1) (h2 : SE g fi d r f2) (hm : behindInMarks op r = false) :
    STt g fi d (.Compare l [op] [r] pos) (cmpE g.tobj op f1 f2) := ⟨sem_tcmp hT h1.h h2.h hm⟩
theorem s_tnot {x : Expr} {pos} {f} (h : STt g fi d x f) : STt g fi d (.UnaryOp .Not x pos) (notT f) := ⟨sem_tnot h.h⟩
theorem s_tand {x y : Expr} {pos} {f1 f2} (h1 : STt g fi d x f1) (h2 : STt g fi d y f2) : STt g fi d (.BoolOp .And [x, y] pos) (andT f1 f2) := ⟨sem_tand h1.h h2.h⟩
theorem s_tor {x y : Expr} {pos} {f1 f2} (h1 : STt g fi d x f1) (h2 : STt g fi d y f2) : STt g fi d (.BoolOp .Or [x, y] pos) (orT f1 f2) := ⟨sem_tor h1.h h2.h⟩
theorem s_tval {e : Expr} {f} (he : ∀ env whole, isTrue e env whole = (do let v ← whole; standAt e.pos; holding [v] (truthy v))) (h : SE g fi d e f) : STt g fi d e (boolT f) := ⟨sem_tval he h.h⟩
theorem s_neg {e : Expr} {pos} {f} (h : SE g fi d e f) : SE g fi d (.UnaryOp .USub e pos) (negE f) := ⟨sem_neg h.h⟩
theorem s_idx {l r : Expr} {pos} {f1 f2} (ok : g.Ok) (hT : ∀ a t, g.tobj a = some t → TOk g a t) (h1 : SE g fi d l f1) (h2 : SE g fi d r f2) (hs : ∀ o i, subscripted r false o i = operate [o, i] (getItem o i)) :
    SE g fi d (.Subscript l r pos) (idxE g.tobj f1 f2) := ⟨sem_idx ok hT h1.h h2.h hs⟩
theorem s_cut {l a b : Expr} {p pos} {fv f1 f2} (h0 : SE g fi d l fv) (h1 : SE g fi d a f1) (h2 : SE g fi d b f2) (ht : ∀ x t r, letTemporaryGo l (.str x t) r = pure ()) :
    SE g fi d (.Subscript l (.Slice (some a) (some b) none p) pos) (cutE fv f1 f2) := ⟨sem_cut h0.h h1.h h2.h ht⟩
theorem s_from {l a : Expr} {p pos} {fv f1} (h0 : SE g fi d l fv) (h1 : SE g fi d a f1) (ht : ∀ x t r, letTemporaryGo l (.str x t) r = pure ()) :
    SE g fi d (.Subscript l (.Slice (some a) none none p) pos) (fromE fv f1) := ⟨sem_from h0.h h1.h ht⟩
theorem s_nilL : SL g fi d [] nilL := ⟨sem_nilL ⟩
theorem s_consL {e : Expr} {es : List Expr} {f r} (hp : plainX e = true) (h1 : SE g fi d e f) (h2 : SL g fi d es r) : SL g fi d (e :: es) (consL f r) := ⟨sem_consL hp h1.h h2.h⟩
theorem s_tuple {es : List Expr} {k0 pos f} (h : SL g fi d es f) : SE g fi d (.Tuple es k0 pos) (dispE true f) := ⟨sem_tuple h.h⟩
theorem s_list {es : List Expr} {pos f} (h : SL g fi d es f) : SE g fi d (.List es pos) (dispE false f) := ⟨sem_list h.h⟩
theorem s_bi {x : PySem.Str} {xp pos} {e : Expr} {es : List Expr} {f} (b : Bi) (ok : g.Ok) (hT : ∀ a t, g.tobj a = some t → TOk g a t) (e0 : nsIn g.K mainGlobals x = some none) (hv : bootBuiltins x = some (.builtin b.id)) (hn : x ≠ "__name__")
    (hk : fi.scope.kind = .function) (hx : (fi.env 0 0).kindOf x = some .globalImplicit) (hd : (x == ("__debug__" : PySem.Str)) = false) (hp : (e :: es).all plainX = true) (h : SL g fi d (e :: es) f) : SE g fi d (.Call (.Name x xp) (e :: es) [] pos) (biE g.tobj b f) := ⟨sem_bi b ok hT e0 hv hn hk hx hd hp h.h⟩
theorem s_ends {l e : Expr} {ap pos} {fv f1} (h0 : SE g fi d l fv) (h1 : SE g fi d e f1) (hp : plainX e = true)
    (hb : ∀ env, attributeBase l "endswith" env (eval l env) = eval l env) (hl : (ap.endLine == pos.line) = true) : SE g fi d (.Call (.Attribute l "endswith" ap) [e] [] pos) (endsE fv f1) := ⟨sem_ends h0.h h1.h hp hb hl⟩
theorem s_nilB : SB g fi d [] skipB := ⟨sem_nilB ⟩
theorem s_consB {e : Stmt} {r : List Stmt} {f1 f2} (h1 : SS g fi d e f1) (h2 : SB g fi d r f2) : SB g fi d (e :: r) (seqB f1 f2) := ⟨sem_consB h1.h h2.h⟩
theorem s_oneB {e : Stmt} {f1} (h1 : SS g fi d e f1) : SB g fi d [e] f1 := ⟨sem_oneB h1.h⟩
theorem s_break {pos} : SS g fi d (.Break pos) (fun st => some (.brk, st)) := ⟨sem_break ⟩
theorem s_cont {pos} : SS g fi d (.Continue pos) (fun st => some (.cont, st)) := ⟨sem_cont ⟩
theorem s_ret {e : Expr} {pos f} (h : SE g fi d e f) : SS g fi d (.Return (some e) pos) (retB f) := ⟨sem_ret h.h⟩
theorem s_if {t : Expr} {a b : List Stmt} {pos ft fa' fb} (h : STt g fi d t ft) (h1 : SB g fi d a fa') (h2 : SB g fi d b fb) : SS g fi d (.If t a b pos) (ifB ft fa' fb) := ⟨sem_if h.h h1.h h2.h⟩
theorem s_assert {t : Expr} {msg pos ft} (h : STt g fi d t ft) : SS g fi d (.Assert t msg pos) (assertB ft) := ⟨sem_assert h.h⟩
theorem s_expr {e : Expr} {pos f} (hi : ∀ L fa, interactive (fi.env L fa) = false) (h : SE g fi d e f) (hs : ∀ env, swapsWith e none pos.line env = pure false) : SS g fi d (.Expr e pos) (exprB f) := ⟨sem_expr hi h.h hs⟩
theorem s_asgN {x : PySem.Str} {e : Expr} {xp pos f} (k : Nat) (hx : NameAt fi k x) (h : SE g fi d e f) (hs : ∀ env, swapsWith e (some (.Name x xp)) pos.line env = pure false) : SS g fi d (.Assign [.Name x xp] e pos) (asgN k f) := ⟨sem_asgN k hx h.h hs⟩
theorem s_asgA {attr : PySem.Str} {o e : Expr} {ap pos fo f} (i : Nat) (ha : anm i = attr) (hS : SAttr g i) (ok : g.Ok) (h0 : SE g fi d o fo) (h : SE g fi d e f) (hs : ∀ env, swapsWith e (some (.Attribute o attr ap)) pos.line env = pure false) :
    SS g fi d (.Assign [.Attribute o attr ap] e pos) (asgA i fo f) := ⟨sem_asgA i ha hS ok h0.h h.h hs⟩
theorem s_augN {op : Operator} {x : PySem.Str} {e : Expr} {xp pos f} (k : Nat) (hop : op = .Add ∨ op = .Sub) (hx : NameAt fi k x) (h : SE g fi d e f) : SS g fi d (.AugAssign (.Name x xp) op e pos) (augN op k f) := ⟨sem_augN k hop hx h.h⟩
theorem s_augA {op : Operator} {attr : PySem.Str} {o e : Expr} {ap pos fo f} (i : Nat) (ha : anm i = attr) (hS : SAttr g i) (ok : g.Ok) (hop : op = .Add ∨ op = .Sub) (h0 : SE g fi d o fo) (h : SE g fi d e f) : SS g fi d (.AugAssign (.Attribute o attr ap) op e pos) (augA op i fo f) := ⟨sem_augA i ha hS ok hop h0.h h.h⟩
theorem sF_of {d : Nat} {f : Addr} {fi' : FI} {pn : List PySem.Str} {body : List Stmt} {fB} (ok : g.Ok) (hf : FnAt g f fi' pn body) (hb : SB g fi' d body fB) : SF g (d + 1) f (runF pn.length fB) := ⟨semF_of ok hf hb.h⟩
theorem s_call {x : PySem.Str} {xp pos} {es : List Expr} {f F} {fd : Addr} {d' : Nat} (ok : g.Ok) (hF : SF g d' fd F) (hd' : d' ≤ d) (e0 : nsIn g.K mainGlobals x = some (some (.ref fd))) (hkp : keepIn g.K (.ref fd) = true)
    (hk : fi.scope.kind = .function) (hx : (fi.env 0 0).kindOf x = some .globalImplicit) (hd : (x == ("__debug__" : PySem.Str)) = false) (hp : es.all plainX = true) (h : SL g fi d es f) : SE g fi d (.Call (.Name x xp) es [] pos) (callE F f) := ⟨sem_call ok hF.h hd' e0 hkp hk hx hd hp h.h⟩
theorem s_meth {o : Expr} {name : PySem.Str} {ap pos} {es : List Expr} {fo f F} {fd : Addr} {d' : Nat} (ok : g.Ok) (hF : SF g d' fd F) (hd' : d' ≤ d) (hM : MethAt g name fd)
    (hk : fi.scope.kind = .function) (hp : es.all plainX = true) (ho : SE g fi d o fo) (h : SL g fi d es f)
    (hb : ∀ env, attributeBase o name env (eval o env) = eval o env) (hn : es.length < 20) (hl : (ap.endLine == pos.line) = true) : SE g fi d (.Call (.Attribute o name ap) es [] pos) (methE F fo f) := ⟨sem_meth ok hF.h hd' hM hk hp ho.h h.h hb hn hl⟩
theorem s_raise {x : PySem.Str} {np cp pos} (i : Fin 4) (ok : g.Ok) (hl : LabAt g i x) (hk : fi.scope.kind = .function) (hx : (fi.env 0 0).kindOf x = some .globalImplicit) : SS g fi d (.Raise (some (.Call (.Name x np) [] [] cp)) none pos) (raiseB i) := ⟨sem_raise i ok hl hk hx⟩
theorem s_try {x : PySem.Str} {np hp pp pos} {body : List Stmt} {f} (j : Fin 4) (ok : g.Ok) (hl : LabAt g j x) (hs : ∀ i, subIn g.K (.ref (g.labA i)) (.ref (g.labA j)) = some (decide (i = j)))
    (hk : fi.scope.kind = .function) (hx : (fi.env 0 0).kindOf x = some .globalImplicit) (h : SB g fi d body f) :
    SS g fi d (.Try body [.ExceptHandler (some (.Name x np)) none [.Pass pp] hp] [] [] pos) (tryB j f) := ⟨sem_try j ok hl hs hk hx h.h⟩
theorem s_while {t : Expr} {b : List Stmt} {pos ft fb} (n : Nat) (hk : fi.scope.kind = .function) (h : STt g fi d t ft) (hb : SB g fi d b fb) : SS g fi d (.While t b [] pos) (whileB ft fb n) := ⟨sem_while n hk h.h hb.h⟩
theorem s_forR {x : PySem.Str} {px rp rn pos : Pos} {e : Expr} {es : List Expr} {body : List Stmt} {f fb} (k : Nat) (ok : g.Ok) (hx : NameAt fi k x) (e0 : nsIn g.K mainGlobals "range" = some none)
    (hr : (fi.env 0 0).kindOf "range" = some .globalImplicit) (hp : (e :: es).all plainX = true) (he : SL g fi d (e :: es) f) (h : SB g fi d body fb) :
    SS g fi d (.For (.Name x px) (.Call (.Name "range" rn) (e :: es) [] rp) body [] pos) (forR k f fb) := ⟨sem_forR k ok hx e0 hr hp he.h h.h⟩
theorem s_forL {x : PySem.Str} {px pos : Pos} {e : Expr} {body : List Stmt} {f fb} (k : Nat) (hx : NameAt fi k x) (hs : ∀ env v, foldedSetIterable e env v = pure v) (he : SE g fi d e f) (h : SB g fi d body fb) :
    SS g fi d (.For (.Name x px) e body [] pos) (forLB k f fb) := ⟨sem_forL k hx hs he.h h.h⟩
theorem s_asgT {es : List Expr} {e : Expr} {k0 tp pos f} (ks : List Nat) (_ok : g.Ok) (hT : ∀ a t, g.tobj a = some t → TOk g a t) (hn : Names fi ks es) (h : SE g fi d e f)
    (hs : ∀ env, swapsWithSole [.Tuple es k0 tp] e pos.line env = pure false) (hw : ∀ env, swappedStores [.Tuple es k0 tp] e env = pure none) : SS g fi d (.Assign [.Tuple es k0 tp] e pos) (asgT ks g.tobj f) := ⟨sem_asgT ks _ok hT hn h.h hs hw⟩
theorem s_nm {k : Nat} {x : PySem.Str} {pos} (hx : NameAt fi k x) : SE g fi d (.Name x pos) (fun st => (st.loc k).map fun v => (v, st)) := ⟨sem_loc k hx.at_ hx.fn hx.loc hx.nd⟩
end
noncomputable def cI (i : Int) (st : St) : Option (PV × St) := some (.int i, st)
noncomputable def cB (b : Bool) (st : St) : Option (PV × St) := some (.bool b, st)
noncomputable def cS (s : List Nat) (st : St) : Option (PV × St) := some (.str s, st)
noncomputable def cT (a : Addr) (st : St) : Option (PV × St) := some (.top a, st)
noncomputable def lo (k : Nat) (st : St) : Option (PV × St) := (st.loc k).map fun v => (v, st)
noncomputable def cmpV (T : Addr → Option TO) (op : CmpOp) (f1 f2 : St → Option (PV × St)) (st : St) : Option (PV × St) := (cmpE T op f1 f2 st).map fun x => (.bool x.1, x.2)
structure WD where
  fa : Nat → Addr
  cd : Nat → Value
  ta : Nat → Addr
  fams : Addr
  snd : Value
  cls : Value
  mc : Value
noncomputable def sounds : List Nat := [98, 99, 100, 102, 103, 104, 106, 107, 108, 109, 110, 112, 113, 114, 115, 116, 118, 119, 120, 122]
noncomputable def closes : List Nat := [98, 100, 102, 103, 104, 107, 108, 109, 110, 112, 113, 114, 116, 118, 119, 120, 122]
noncomputable def f_set_current (T : Addr → Option TO) (D : WD) (n : Nat) : St → Option (Fl × St) :=
  (seqB (asgA 0 (lo 0) (lo 1)) (seqB (asgA 1 (lo 0) (cI 0)) (seqB (asgA 2 (lo 0) (biE T .len (consL (selfGet 0 (lo 0)) nilL))) (seqB (asgA 3 (lo 0) (cI 0)) (seqB (asgA 4 (lo 0) (selfGet 1 (lo 0))) (asgA 5 (lo 0) (selfGet 2 (lo 0))))))))
noncomputable def F_set_current (T : Addr → Option TO) (D : WD) (n : Nat) : List PV → List (Nat × PV) → Option (PV × List (Nat × PV)) := runF 2 (f_set_current T D n)
noncomputable def f_init (T : Addr → Option TO) (D : WD) (n : Nat) : St → Option (Fl × St) :=
  (exprB (methE (F_set_current T D n) (lo 0) (consL (cS []) nilL)))
noncomputable def F_init (T : Addr → Option TO) (D : WD) (n : Nat) : List PV → List (Nat × PV) → Option (PV × List (Nat × PV)) := runF 1 (f_init T D n)
noncomputable def f_get_current (T : Addr → Option TO) (D : WD) (n : Nat) : St → Option (Fl × St) :=
  (retB (selfGet 0 (lo 0)))
noncomputable def F_get_current (T : Addr → Option TO) (D : WD) (n : Nat) : List PV → List (Nat × PV) → Option (PV × List (Nat × PV)) := runF 1 (f_get_current T D n)
noncomputable def f_in_grouping (T : Addr → Option TO) (D : WD) (n : Nat) : St → Option (Fl × St) :=
  (seqB (ifB (cmpE T .GtE (selfGet 1 (lo 0)) (selfGet 2 (lo 0))) (retB (cB false)) skipB) (seqB (ifB (cmpE T .NotIn (idxE T (selfGet 0 (lo 0)) (selfGet 1 (lo 0))) (lo 1)) (retB (cB false)) skipB) (seqB (augA .Add 1 (lo 0) (cI 1)) (retB (cB true)))))
noncomputable def F_in_grouping (T : Addr → Option TO) (D : WD) (n : Nat) : List PV → List (Nat × PV) → Option (PV × List (Nat × PV)) := runF 2 (f_in_grouping T D n)
noncomputable def f_go_in_grouping (T : Addr → Option TO) (D : WD) (n : Nat) : St → Option (Fl × St) :=
  (seqB (whileB (cmpE T .Lt (selfGet 1 (lo 0)) (selfGet 2 (lo 0))) (seqB (ifB (cmpE T .NotIn (idxE T (selfGet 0 (lo 0)) (selfGet 1 (lo 0))) (lo 1)) (retB (cB true)) skipB) (augA .Add 1 (lo 0) (cI 1))) n) (retB (cB false)))
noncomputable def F_go_in_grouping (T : Addr → Option TO) (D : WD) (n : Nat) : List PV → List (Nat × PV) → Option (PV × List (Nat × PV)) := runF 2 (f_go_in_grouping T D n)
noncomputable def f_go_out_grouping (T : Addr → Option TO) (D : WD) (n : Nat) : St → Option (Fl × St) :=
  (seqB (whileB (cmpE T .Lt (selfGet 1 (lo 0)) (selfGet 2 (lo 0))) (seqB (ifB (cmpE T .In (idxE T (selfGet 0 (lo 0)) (selfGet 1 (lo 0))) (lo 1)) (retB (cB true)) skipB) (augA .Add 1 (lo 0) (cI 1))) n) (retB (cB false)))
noncomputable def F_go_out_grouping (T : Addr → Option TO) (D : WD) (n : Nat) : List PV → List (Nat × PV) → Option (PV × List (Nat × PV)) := runF 2 (f_go_out_grouping T D n)
noncomputable def f_out_grouping_b (T : Addr → Option TO) (D : WD) (n : Nat) : St → Option (Fl × St) :=
  (seqB (ifB (cmpE T .LtE (selfGet 1 (lo 0)) (selfGet 3 (lo 0))) (retB (cB false)) skipB) (seqB (ifB (cmpE T .NotIn (idxE T (selfGet 0 (lo 0)) (binE .Sub (selfGet 1 (lo 0)) (cI 1))) (lo 1)) (seqB (augA .Sub 1 (lo 0) (cI 1)) (retB (cB true))) skipB) (retB (cB false))))
noncomputable def F_out_grouping_b (T : Addr → Option TO) (D : WD) (n : Nat) : List PV → List (Nat × PV) → Option (PV × List (Nat × PV)) := runF 2 (f_out_grouping_b T D n)
noncomputable def f_eq_s_b (T : Addr → Option TO) (D : WD) (n : Nat) : St → Option (Fl × St) :=
  (seqB (ifB (boolT (endsE (cutE (selfGet 0 (lo 0)) (selfGet 3 (lo 0)) (selfGet 1 (lo 0))) (lo 1))) (seqB (augA .Sub 1 (lo 0) (biE T .len (consL (lo 1) nilL))) (retB (cB true))) skipB) (retB (cB false)))
noncomputable def F_eq_s_b (T : Addr → Option TO) (D : WD) (n : Nat) : List PV → List (Nat × PV) → Option (PV × List (Nat × PV)) := runF 2 (f_eq_s_b T D n)
noncomputable def f_find_among (T : Addr → Option TO) (D : WD) (n : Nat) : St → Option (Fl × St) :=
  (seqB (asgN 2 (cI 0)) (seqB (asgN 3 (biE T .len (consL (lo 1) nilL))) (seqB (asgN 4 (selfGet 1 (lo 0))) (seqB (asgN 5 (selfGet 2 (lo 0))) (seqB (asgN 6 (cI 0)) (seqB (asgN 7 (cI 0)) (seqB (asgN 8 (cB false)) (seqB (whileB (boolT (cB true)) (seqB (asgN 9 (binE .Add (lo 2) (binE .RShift (binE .Sub (lo 3) (lo 2)) (cI 1)))) (seqB (asgN 10 (cI 0)) (seqB (asgN 11 (biE T .min (consL (lo 6) (consL (lo 7) nilL)))) (seqB (asgN 12 (idxE T (lo 1) (lo 9))) (seqB (forR 13 (consL (lo 11) (consL (biE T .len (consL (amgGet (fun s _ _ => .str s) T (lo 12)) nilL)) nilL)) (seqB (ifB (cmpE T .Eq (binE .Add (lo 4) (lo 11)) (lo 5)) (seqB (asgN 10 (negE (cI 1))) (fun st => some (.brk, st))) skipB) (seqB (asgN 10 (binE .Sub (biE T .ord (consL (idxE T (selfGet 0 (lo 0)) (binE .Add (lo 4) (lo 11))) nilL)) (biE T .ord (consL (idxE T (amgGet (fun s _ _ => .str s) T (lo 12)) (lo 13)) nilL)))) (seqB (ifB (cmpE T .NotEq (lo 10) (cI 0)) (fun st => some (.brk, st)) skipB) (augN .Add 11 (cI 1)))))) (seqB (ifB (cmpE T .Lt (lo 10) (cI 0)) (seqB (asgN 3 (lo 9)) (asgN 7 (lo 11))) (seqB (asgN 2 (lo 9)) (asgN 6 (lo 11)))) (ifB (cmpE T .LtE (binE .Sub (lo 3) (lo 2)) (cI 1)) (seqB (ifB (cmpE T .Gt (lo 2) (cI 0)) (fun st => some (.brk, st)) skipB) (seqB (ifB (cmpE T .Eq (lo 3) (lo 2)) (fun st => some (.brk, st)) skipB) (seqB (ifB (boolT (lo 8)) (fun st => some (.brk, st)) skipB) (asgN 8 (cB true))))) skipB))))))) n) (seqB (whileB (boolT (cB true)) (seqB (asgN 12 (idxE T (lo 1) (lo 2))) (seqB (ifB (cmpE T .GtE (lo 6) (biE T .len (consL (amgGet (fun s _ _ => .str s) T (lo 12)) nilL))) (seqB (asgA 1 (lo 0) (binE .Add (lo 4) (biE T .len (consL (amgGet (fun s _ _ => .str s) T (lo 12)) nilL)))) (retB (amgGet (fun _ _ i => .int i) T (lo 12)))) skipB) (seqB (asgN 2 (amgGet (fun _ i _ => .int i) T (lo 12))) (ifB (cmpE T .Lt (lo 2) (cI 0)) (retB (cI 0)) skipB)))) n) (retB (negE (cI 1))))))))))))
noncomputable def F_find_among (T : Addr → Option TO) (D : WD) (n : Nat) : List PV → List (Nat × PV) → Option (PV × List (Nat × PV)) := runF 2 (f_find_among T D n)
noncomputable def f_find_among_b (T : Addr → Option TO) (D : WD) (n : Nat) : St → Option (Fl × St) :=
  (seqB (asgN 2 (cI 0)) (seqB (asgN 3 (biE T .len (consL (lo 1) nilL))) (seqB (asgN 4 (selfGet 1 (lo 0))) (seqB (asgN 5 (selfGet 3 (lo 0))) (seqB (asgN 6 (cI 0)) (seqB (asgN 7 (cI 0)) (seqB (asgN 8 (cB false)) (seqB (whileB (boolT (cB true)) (seqB (asgN 9 (binE .Add (lo 2) (binE .RShift (binE .Sub (lo 3) (lo 2)) (cI 1)))) (seqB (asgN 10 (cI 0)) (seqB (asgN 11 (biE T .min (consL (lo 6) (consL (lo 7) nilL)))) (seqB (asgN 12 (idxE T (lo 1) (lo 9))) (seqB (forR 13 (consL (binE .Sub (binE .Sub (biE T .len (consL (amgGet (fun s _ _ => .str s) T (lo 12)) nilL)) (cI 1)) (lo 11)) (consL (negE (cI 1)) (consL (negE (cI 1)) nilL))) (seqB (ifB (cmpE T .Eq (binE .Sub (lo 4) (lo 11)) (lo 5)) (seqB (asgN 10 (negE (cI 1))) (fun st => some (.brk, st))) skipB) (seqB (asgN 10 (binE .Sub (biE T .ord (consL (idxE T (selfGet 0 (lo 0)) (binE .Sub (binE .Sub (lo 4) (cI 1)) (lo 11))) nilL)) (biE T .ord (consL (idxE T (amgGet (fun s _ _ => .str s) T (lo 12)) (lo 13)) nilL)))) (seqB (ifB (cmpE T .NotEq (lo 10) (cI 0)) (fun st => some (.brk, st)) skipB) (augN .Add 11 (cI 1)))))) (seqB (ifB (cmpE T .Lt (lo 10) (cI 0)) (seqB (asgN 3 (lo 9)) (asgN 7 (lo 11))) (seqB (asgN 2 (lo 9)) (asgN 6 (lo 11)))) (ifB (cmpE T .LtE (binE .Sub (lo 3) (lo 2)) (cI 1)) (seqB (ifB (cmpE T .Gt (lo 2) (cI 0)) (fun st => some (.brk, st)) skipB) (seqB (ifB (cmpE T .Eq (lo 3) (lo 2)) (fun st => some (.brk, st)) skipB) (seqB (ifB (boolT (lo 8)) (fun st => some (.brk, st)) skipB) (asgN 8 (cB true))))) skipB))))))) n) (seqB (whileB (boolT (cB true)) (seqB (asgN 12 (idxE T (lo 1) (lo 2))) (seqB (ifB (cmpE T .GtE (lo 6) (biE T .len (consL (amgGet (fun s _ _ => .str s) T (lo 12)) nilL))) (seqB (asgA 1 (lo 0) (binE .Sub (lo 4) (biE T .len (consL (amgGet (fun s _ _ => .str s) T (lo 12)) nilL)))) (retB (amgGet (fun _ _ i => .int i) T (lo 12)))) skipB) (seqB (asgN 2 (amgGet (fun _ i _ => .int i) T (lo 12))) (ifB (cmpE T .Lt (lo 2) (cI 0)) (retB (cI 0)) skipB)))) n) (retB (negE (cI 1))))))))))))
noncomputable def F_find_among_b (T : Addr → Option TO) (D : WD) (n : Nat) : List PV → List (Nat × PV) → Option (PV × List (Nat × PV)) := runF 2 (f_find_among_b T D n)
noncomputable def f_replace_s (T : Addr → Option TO) (D : WD) (n : Nat) : St → Option (Fl × St) :=
  (seqB (asgN 4 (binE .Sub (biE T .len (consL (lo 3) nilL)) (binE .Sub (lo 2) (lo 1)))) (seqB (asgA 0 (lo 0) (binE .Add (binE .Add (cutE (selfGet 0 (lo 0)) (cI 0) (lo 1)) (lo 3)) (fromE (selfGet 0 (lo 0)) (lo 2)))) (seqB (augA .Add 2 (lo 0) (lo 4)) (seqB (ifB (cmpE T .GtE (selfGet 1 (lo 0)) (lo 2)) (augA .Add 1 (lo 0) (lo 4)) (ifB (cmpE T .Gt (selfGet 1 (lo 0)) (lo 1)) (asgA 1 (lo 0) (lo 1)) skipB)) (retB (lo 4))))))
noncomputable def F_replace_s (T : Addr → Option TO) (D : WD) (n : Nat) : List PV → List (Nat × PV) → Option (PV × List (Nat × PV)) := runF 4 (f_replace_s T D n)
noncomputable def f_slice_from (T : Addr → Option TO) (D : WD) (n : Nat) : St → Option (Fl × St) :=
  (seqB (assertB (cmpE T .GtE (selfGet 4 (lo 0)) (cI 0))) (seqB (assertB (cmpE T .LtE (selfGet 4 (lo 0)) (selfGet 5 (lo 0)))) (seqB (assertB (cmpE T .LtE (selfGet 5 (lo 0)) (selfGet 2 (lo 0)))) (seqB (assertB (cmpE T .LtE (selfGet 2 (lo 0)) (biE T .len (consL (selfGet 0 (lo 0)) nilL)))) (seqB (exprB (methE (F_replace_s T D n) (lo 0) (consL (selfGet 4 (lo 0)) (consL (selfGet 5 (lo 0)) (consL (lo 1) nilL))))) (asgA 5 (lo 0) (binE .Add (selfGet 4 (lo 0)) (biE T .len (consL (lo 1) nilL)))))))))
noncomputable def F_slice_from (T : Addr → Option TO) (D : WD) (n : Nat) : List PV → List (Nat × PV) → Option (PV × List (Nat × PV)) := runF 2 (f_slice_from T D n)
noncomputable def f_slice_del (T : Addr → Option TO) (D : WD) (n : Nat) : St → Option (Fl × St) :=
  (retB (methE (F_slice_from T D n) (lo 0) (consL (cS []) nilL)))
noncomputable def F_slice_del (T : Addr → Option TO) (D : WD) (n : Nat) : List PV → List (Nat × PV) → Option (PV × List (Nat × PV)) := runF 1 (f_slice_del T D n)
noncomputable def f_r_prelude (T : Addr → Option TO) (D : WD) (n : Nat) : St → Option (Fl × St) :=
  (seqB (asgN 1 (selfGet 1 (lo 0))) (seqB (whileB (boolT (cB true)) (seqB (asgN 2 (selfGet 1 (lo 0))) (seqB (tryB 0 (seqB (asgA 4 (lo 0) (selfGet 1 (lo 0))) (seqB (asgN 3 (methE (F_find_among T D n) (lo 0) (consL (cT (D.ta 0)) nilL))) (seqB (asgA 5 (lo 0) (selfGet 1 (lo 0))) (seqB (ifB (cmpE T .Eq (lo 3) (cI 1)) (exprB (methE (F_slice_from T D n) (lo 0) (consL (cS [97]) nilL))) (ifB (cmpE T .Eq (lo 3) (cI 2)) (exprB (methE (F_slice_from T D n) (lo 0) (consL (cS [101]) nilL))) (ifB (cmpE T .Eq (lo 3) (cI 3)) (exprB (methE (F_slice_from T D n) (lo 0) (consL (cS [105]) nilL))) (ifB (cmpE T .Eq (lo 3) (cI 4)) (exprB (methE (F_slice_from T D n) (lo 0) (consL (cS [111]) nilL))) (ifB (cmpE T .Eq (lo 3) (cI 5)) (exprB (methE (F_slice_from T D n) (lo 0) (consL (cS [117]) nilL))) (seqB (ifB (cmpE T .GtE (selfGet 1 (lo 0)) (selfGet 2 (lo 0))) (raiseB 0) skipB) (augA .Add 1 (lo 0) (cI 1)))))))) (fun st => some (.cont, st))))))) (seqB (asgA 1 (lo 0) (lo 2)) (fun st => some (.brk, st))))) n) (seqB (asgA 1 (lo 0) (lo 1)) (seqB (asgN 4 (selfGet 1 (lo 0))) (seqB (tryB 0 (seqB (asgA 4 (lo 0) (selfGet 1 (lo 0))) (seqB (ifB (orT (cmpE T .Eq (selfGet 1 (lo 0)) (selfGet 2 (lo 0))) (cmpE T .NotEq (idxE T (selfGet 0 (lo 0)) (selfGet 1 (lo 0))) (cS [121]))) (seqB (asgA 1 (lo 0) (lo 4)) (raiseB 0)) skipB) (seqB (augA .Add 1 (lo 0) (cI 1)) (seqB (asgA 5 (lo 0) (selfGet 1 (lo 0))) (exprB (methE (F_slice_from T D n) (lo 0) (consL (cS [89]) nilL)))))))) (seqB (whileB (boolT (cB true)) (seqB (asgN 5 (selfGet 1 (lo 0))) (seqB (tryB 0 (seqB (ifB (notT (boolT (methE (F_go_out_grouping T D n) (lo 0) (consL (cT (D.ta 6)) nilL)))) (raiseB 0) skipB) (seqB (augA .Add 1 (lo 0) (cI 1)) (seqB (asgN 6 (selfGet 1 (lo 0))) (seqB (tryB 1 (seqB (asgA 4 (lo 0) (selfGet 1 (lo 0))) (whileB (boolT (cB true)) (seqB (asgN 7 (selfGet 1 (lo 0))) (seqB (tryB 2 (seqB (ifB (orT (cmpE T .Eq (selfGet 1 (lo 0)) (selfGet 2 (lo 0))) (cmpE T .NotEq (idxE T (selfGet 0 (lo 0)) (selfGet 1 (lo 0))) (cS [105]))) (raiseB 2) skipB) (seqB (augA .Add 1 (lo 0) (cI 1)) (seqB (asgA 5 (lo 0) (selfGet 1 (lo 0))) (seqB (asgN 8 (selfGet 1 (lo 0))) (seqB (tryB 3 (seqB (ifB (notT (boolT (methE (F_in_grouping T D n) (lo 0) (consL (cT (D.ta 6)) nilL)))) (raiseB 3) skipB) (exprB (methE (F_slice_from T D n) (lo 0) (consL (cS [73]) nilL))))) (seqB (asgA 1 (lo 0) (lo 8)) (fun st => some (.brk, st))))))))) (seqB (asgA 1 (lo 0) (lo 7)) (seqB (ifB (orT (cmpE T .Eq (selfGet 1 (lo 0)) (selfGet 2 (lo 0))) (cmpE T .NotEq (idxE T (selfGet 0 (lo 0)) (selfGet 1 (lo 0))) (cS [121]))) (seqB (asgA 1 (lo 0) (lo 6)) (raiseB 1)) skipB) (seqB (augA .Add 1 (lo 0) (cI 1)) (seqB (asgA 5 (lo 0) (selfGet 1 (lo 0))) (seqB (exprB (methE (F_slice_from T D n) (lo 0) (consL (cS [89]) nilL))) (fun st => some (.brk, st))))))))) n))) (fun st => some (.cont, st))))))) (seqB (asgA 1 (lo 0) (lo 5)) (fun st => some (.brk, st))))) n) (retB (cB true))))))))
noncomputable def F_r_prelude (T : Addr → Option TO) (D : WD) (n : Nat) : List PV → List (Nat × PV) → Option (PV × List (Nat × PV)) := runF 1 (f_r_prelude T D n)
noncomputable def f_r_mark_regions (T : Addr → Option TO) (D : WD) (n : Nat) : St → Option (Fl × St) :=
  (seqB (asgA 6 (lo 0) (selfGet 2 (lo 0))) (seqB (asgA 7 (lo 0) (selfGet 2 (lo 0))) (seqB (asgN 1 (selfGet 1 (lo 0))) (seqB (ifB (cmpE T .Gt (binE .Add (selfGet 1 (lo 0)) (cI 3)) (selfGet 2 (lo 0))) (retB (cB false)) skipB) (seqB (augA .Add 1 (lo 0) (cI 3)) (seqB (asgN 2 (selfGet 1 (lo 0))) (seqB (asgA 1 (lo 0) (lo 1)) (seqB (ifB (notT (boolT (methE (F_go_out_grouping T D n) (lo 0) (consL (cT (D.ta 6)) nilL)))) (retB (cB false)) skipB) (seqB (augA .Add 1 (lo 0) (cI 1)) (seqB (ifB (notT (boolT (methE (F_go_in_grouping T D n) (lo 0) (consL (cT (D.ta 6)) nilL)))) (retB (cB false)) skipB) (seqB (augA .Add 1 (lo 0) (cI 1)) (seqB (asgA 6 (lo 0) (selfGet 1 (lo 0))) (seqB (tryB 0 (seqB (ifB (cmpE T .GtE (selfGet 6 (lo 0)) (lo 2)) (raiseB 0) skipB) (asgA 6 (lo 0) (lo 2)))) (seqB (ifB (notT (boolT (methE (F_go_out_grouping T D n) (lo 0) (consL (cT (D.ta 6)) nilL)))) (retB (cB false)) skipB) (seqB (augA .Add 1 (lo 0) (cI 1)) (seqB (ifB (notT (boolT (methE (F_go_in_grouping T D n) (lo 0) (consL (cT (D.ta 6)) nilL)))) (retB (cB false)) skipB) (seqB (augA .Add 1 (lo 0) (cI 1)) (seqB (asgA 7 (lo 0) (selfGet 1 (lo 0))) (retB (cB true))))))))))))))))))))
noncomputable def F_r_mark_regions (T : Addr → Option TO) (D : WD) (n : Nat) : List PV → List (Nat × PV) → Option (PV × List (Nat × PV)) := runF 1 (f_r_mark_regions T D n)
noncomputable def f_r_postlude (T : Addr → Option TO) (D : WD) (n : Nat) : St → Option (Fl × St) :=
  (seqB (whileB (boolT (cB true)) (seqB (asgN 1 (selfGet 1 (lo 0))) (seqB (tryB 0 (seqB (asgA 4 (lo 0) (selfGet 1 (lo 0))) (seqB (asgN 2 (methE (F_find_among T D n) (lo 0) (consL (cT (D.ta 1)) nilL))) (seqB (asgA 5 (lo 0) (selfGet 1 (lo 0))) (seqB (ifB (cmpE T .Eq (lo 2) (cI 1)) (exprB (methE (F_slice_from T D n) (lo 0) (consL (cS [121]) nilL))) (ifB (cmpE T .Eq (lo 2) (cI 2)) (exprB (methE (F_slice_from T D n) (lo 0) (consL (cS [105]) nilL))) (seqB (ifB (cmpE T .GtE (selfGet 1 (lo 0)) (selfGet 2 (lo 0))) (raiseB 0) skipB) (augA .Add 1 (lo 0) (cI 1))))) (fun st => some (.cont, st))))))) (seqB (asgA 1 (lo 0) (lo 1)) (fun st => some (.brk, st))))) n) (retB (cB true)))
noncomputable def F_r_postlude (T : Addr → Option TO) (D : WD) (n : Nat) : List PV → List (Nat × PV) → Option (PV × List (Nat × PV)) := runF 1 (f_r_postlude T D n)
noncomputable def f_r_R1 (T : Addr → Option TO) (D : WD) (n : Nat) : St → Option (Fl × St) :=
  (retB (cmpV T .LtE (selfGet 6 (lo 0)) (selfGet 1 (lo 0))))
noncomputable def F_r_R1 (T : Addr → Option TO) (D : WD) (n : Nat) : List PV → List (Nat × PV) → Option (PV × List (Nat × PV)) := runF 1 (f_r_R1 T D n)
noncomputable def f_r_R2 (T : Addr → Option TO) (D : WD) (n : Nat) : St → Option (Fl × St) :=
  (retB (cmpV T .LtE (selfGet 7 (lo 0)) (selfGet 1 (lo 0))))
noncomputable def F_r_R2 (T : Addr → Option TO) (D : WD) (n : Nat) : List PV → List (Nat × PV) → Option (PV × List (Nat × PV)) := runF 1 (f_r_R2 T D n)
noncomputable def f_r_undouble (T : Addr → Option TO) (D : WD) (n : Nat) : St → Option (Fl × St) :=
  (seqB (asgN 1 (binE .Sub (selfGet 2 (lo 0)) (selfGet 1 (lo 0)))) (seqB (ifB (cmpE T .Eq (methE (F_find_among_b T D n) (lo 0) (consL (cT (D.ta 2)) nilL)) (cI 0)) (retB (cB false)) skipB) (seqB (asgA 1 (lo 0) (binE .Sub (selfGet 2 (lo 0)) (lo 1))) (seqB (asgA 5 (lo 0) (selfGet 1 (lo 0))) (seqB (ifB (cmpE T .LtE (selfGet 1 (lo 0)) (selfGet 3 (lo 0))) (retB (cB false)) skipB) (seqB (augA .Sub 1 (lo 0) (cI 1)) (seqB (asgA 4 (lo 0) (selfGet 1 (lo 0))) (seqB (exprB (methE (F_slice_del T D n) (lo 0) nilL)) (retB (cB true))))))))))
noncomputable def F_r_undouble (T : Addr → Option TO) (D : WD) (n : Nat) : List PV → List (Nat × PV) → Option (PV × List (Nat × PV)) := runF 1 (f_r_undouble T D n)
noncomputable def f_r_e_ending (T : Addr → Option TO) (D : WD) (n : Nat) : St → Option (Fl × St) :=
  (seqB (asgA 8 (lo 0) (cB false)) (seqB (asgA 5 (lo 0) (selfGet 1 (lo 0))) (seqB (ifB (orT (cmpE T .LtE (selfGet 1 (lo 0)) (selfGet 3 (lo 0))) (cmpE T .NotEq (idxE T (selfGet 0 (lo 0)) (binE .Sub (selfGet 1 (lo 0)) (cI 1))) (cS [101]))) (retB (cB false)) skipB) (seqB (augA .Sub 1 (lo 0) (cI 1)) (seqB (asgA 4 (lo 0) (selfGet 1 (lo 0))) (seqB (ifB (notT (boolT (methE (F_r_R1 T D n) (lo 0) nilL))) (retB (cB false)) skipB) (seqB (asgN 1 (binE .Sub (selfGet 2 (lo 0)) (selfGet 1 (lo 0)))) (seqB (ifB (notT (boolT (methE (F_out_grouping_b T D n) (lo 0) (consL (cT (D.ta 6)) nilL)))) (retB (cB false)) skipB) (seqB (asgA 1 (lo 0) (binE .Sub (selfGet 2 (lo 0)) (lo 1))) (seqB (exprB (methE (F_slice_del T D n) (lo 0) nilL)) (seqB (asgA 8 (lo 0) (cB true)) (retB (methE (F_r_undouble T D n) (lo 0) nilL)))))))))))))
noncomputable def F_r_e_ending (T : Addr → Option TO) (D : WD) (n : Nat) : List PV → List (Nat × PV) → Option (PV × List (Nat × PV)) := runF 1 (f_r_e_ending T D n)
noncomputable def f_r_en_ending (T : Addr → Option TO) (D : WD) (n : Nat) : St → Option (Fl × St) :=
  (seqB (ifB (notT (boolT (methE (F_r_R1 T D n) (lo 0) nilL))) (retB (cB false)) skipB) (seqB (asgN 1 (binE .Sub (selfGet 2 (lo 0)) (selfGet 1 (lo 0)))) (seqB (ifB (notT (boolT (methE (F_out_grouping_b T D n) (lo 0) (consL (cT (D.ta 6)) nilL)))) (retB (cB false)) skipB) (seqB (asgA 1 (lo 0) (binE .Sub (selfGet 2 (lo 0)) (lo 1))) (seqB (tryB 0 (seqB (ifB (notT (boolT (methE (F_eq_s_b T D n) (lo 0) (consL (cS [103, 101, 109]) nilL)))) (raiseB 0) skipB) (retB (cB false)))) (seqB (exprB (methE (F_slice_del T D n) (lo 0) nilL)) (retB (methE (F_r_undouble T D n) (lo 0) nilL))))))))
noncomputable def F_r_en_ending (T : Addr → Option TO) (D : WD) (n : Nat) : List PV → List (Nat × PV) → Option (PV × List (Nat × PV)) := runF 1 (f_r_en_ending T D n)
noncomputable def f_r_standard_suffix (T : Addr → Option TO) (D : WD) (n : Nat) : St → Option (Fl × St) :=
  (seqB (asgN 1 (binE .Sub (selfGet 2 (lo 0)) (selfGet 1 (lo 0)))) (seqB (tryB 0 (seqB (asgA 5 (lo 0) (selfGet 1 (lo 0))) (seqB (asgN 2 (methE (F_find_among_b T D n) (lo 0) (consL (cT (D.ta 3)) nilL))) (seqB (ifB (cmpE T .Eq (lo 2) (cI 0)) (raiseB 0) skipB) (seqB (asgA 4 (lo 0) (selfGet 1 (lo 0))) (ifB (cmpE T .Eq (lo 2) (cI 1)) (seqB (ifB (notT (boolT (methE (F_r_R1 T D n) (lo 0) nilL))) (raiseB 0) skipB) (exprB (methE (F_slice_from T D n) (lo 0) (consL (cS [104, 101, 105, 100]) nilL)))) (ifB (cmpE T .Eq (lo 2) (cI 2)) (ifB (notT (boolT (methE (F_r_en_ending T D n) (lo 0) nilL))) (raiseB 0) skipB) (seqB (ifB (notT (boolT (methE (F_r_R1 T D n) (lo 0) nilL))) (raiseB 0) skipB) (seqB (ifB (notT (boolT (methE (F_out_grouping_b T D n) (lo 0) (consL (cT (D.ta 8)) nilL)))) (raiseB 0) skipB) (exprB (methE (F_slice_del T D n) (lo 0) nilL))))))))))) (seqB (asgA 1 (lo 0) (binE .Sub (selfGet 2 (lo 0)) (lo 1))) (seqB (asgN 3 (binE .Sub (selfGet 2 (lo 0)) (selfGet 1 (lo 0)))) (seqB (exprB (methE (F_r_e_ending T D n) (lo 0) nilL)) (seqB (asgA 1 (lo 0) (binE .Sub (selfGet 2 (lo 0)) (lo 3))) (seqB (asgN 4 (binE .Sub (selfGet 2 (lo 0)) (selfGet 1 (lo 0)))) (seqB (tryB 0 (seqB (asgA 5 (lo 0) (selfGet 1 (lo 0))) (seqB (ifB (notT (boolT (methE (F_eq_s_b T D n) (lo 0) (consL (cS [104, 101, 105, 100]) nilL)))) (raiseB 0) skipB) (seqB (asgA 4 (lo 0) (selfGet 1 (lo 0))) (seqB (ifB (notT (boolT (methE (F_r_R2 T D n) (lo 0) nilL))) (raiseB 0) skipB) (seqB (tryB 1 (seqB (ifB (orT (cmpE T .LtE (selfGet 1 (lo 0)) (selfGet 3 (lo 0))) (cmpE T .NotEq (idxE T (selfGet 0 (lo 0)) (binE .Sub (selfGet 1 (lo 0)) (cI 1))) (cS [99]))) (raiseB 1) skipB) (seqB (augA .Sub 1 (lo 0) (cI 1)) (raiseB 0)))) (seqB (exprB (methE (F_slice_del T D n) (lo 0) nilL)) (seqB (asgA 5 (lo 0) (selfGet 1 (lo 0))) (seqB (ifB (notT (boolT (methE (F_eq_s_b T D n) (lo 0) (consL (cS [101, 110]) nilL)))) (raiseB 0) skipB) (seqB (asgA 4 (lo 0) (selfGet 1 (lo 0))) (ifB (notT (boolT (methE (F_r_en_ending T D n) (lo 0) nilL))) (raiseB 0) skipB))))))))))) (seqB (asgA 1 (lo 0) (binE .Sub (selfGet 2 (lo 0)) (lo 4))) (seqB (asgN 5 (binE .Sub (selfGet 2 (lo 0)) (selfGet 1 (lo 0)))) (seqB (tryB 0 (seqB (asgA 5 (lo 0) (selfGet 1 (lo 0))) (seqB (asgN 2 (methE (F_find_among_b T D n) (lo 0) (consL (cT (D.ta 4)) nilL))) (seqB (ifB (cmpE T .Eq (lo 2) (cI 0)) (raiseB 0) skipB) (seqB (asgA 4 (lo 0) (selfGet 1 (lo 0))) (ifB (cmpE T .Eq (lo 2) (cI 1)) (seqB (ifB (notT (boolT (methE (F_r_R2 T D n) (lo 0) nilL))) (raiseB 0) skipB) (seqB (exprB (methE (F_slice_del T D n) (lo 0) nilL)) (whileB (boolT (cB true)) (seqB (asgN 6 (binE .Sub (selfGet 2 (lo 0)) (selfGet 1 (lo 0)))) (seqB (tryB 1 (seqB (asgA 5 (lo 0) (selfGet 1 (lo 0))) (seqB (ifB (notT (boolT (methE (F_eq_s_b T D n) (lo 0) (consL (cS [105, 103]) nilL)))) (raiseB 1) skipB) (seqB (asgA 4 (lo 0) (selfGet 1 (lo 0))) (seqB (ifB (notT (boolT (methE (F_r_R2 T D n) (lo 0) nilL))) (raiseB 1) skipB) (seqB (tryB 2 (seqB (ifB (orT (cmpE T .LtE (selfGet 1 (lo 0)) (selfGet 3 (lo 0))) (cmpE T .NotEq (idxE T (selfGet 0 (lo 0)) (binE .Sub (selfGet 1 (lo 0)) (cI 1))) (cS [101]))) (raiseB 2) skipB) (seqB (augA .Sub 1 (lo 0) (cI 1)) (raiseB 1)))) (seqB (exprB (methE (F_slice_del T D n) (lo 0) nilL)) (fun st => some (.brk, st))))))))) (seqB (asgA 1 (lo 0) (binE .Sub (selfGet 2 (lo 0)) (lo 6))) (seqB (ifB (notT (boolT (methE (F_r_undouble T D n) (lo 0) nilL))) (raiseB 0) skipB) (fun st => some (.brk, st)))))) n))) (ifB (cmpE T .Eq (lo 2) (cI 2)) (seqB (ifB (notT (boolT (methE (F_r_R2 T D n) (lo 0) nilL))) (raiseB 0) skipB) (seqB (tryB 1 (seqB (ifB (orT (cmpE T .LtE (selfGet 1 (lo 0)) (selfGet 3 (lo 0))) (cmpE T .NotEq (idxE T (selfGet 0 (lo 0)) (binE .Sub (selfGet 1 (lo 0)) (cI 1))) (cS [101]))) (raiseB 1) skipB) (seqB (augA .Sub 1 (lo 0) (cI 1)) (raiseB 0)))) (exprB (methE (F_slice_del T D n) (lo 0) nilL)))) (ifB (cmpE T .Eq (lo 2) (cI 3)) (seqB (ifB (notT (boolT (methE (F_r_R2 T D n) (lo 0) nilL))) (raiseB 0) skipB) (seqB (exprB (methE (F_slice_del T D n) (lo 0) nilL)) (ifB (notT (boolT (methE (F_r_e_ending T D n) (lo 0) nilL))) (raiseB 0) skipB))) (ifB (cmpE T .Eq (lo 2) (cI 4)) (seqB (ifB (notT (boolT (methE (F_r_R2 T D n) (lo 0) nilL))) (raiseB 0) skipB) (exprB (methE (F_slice_del T D n) (lo 0) nilL))) (seqB (ifB (notT (boolT (methE (F_r_R2 T D n) (lo 0) nilL))) (raiseB 0) skipB) (seqB (ifB (notT (boolT (selfGet 8 (lo 0)))) (raiseB 0) skipB) (exprB (methE (F_slice_del T D n) (lo 0) nilL))))))))))))) (seqB (asgA 1 (lo 0) (binE .Sub (selfGet 2 (lo 0)) (lo 5))) (seqB (asgN 7 (binE .Sub (selfGet 2 (lo 0)) (selfGet 1 (lo 0)))) (seqB (tryB 0 (seqB (ifB (notT (boolT (methE (F_out_grouping_b T D n) (lo 0) (consL (cT (D.ta 7)) nilL)))) (raiseB 0) skipB) (seqB (asgN 8 (binE .Sub (selfGet 2 (lo 0)) (selfGet 1 (lo 0)))) (seqB (ifB (cmpE T .Eq (methE (F_find_among_b T D n) (lo 0) (consL (cT (D.ta 5)) nilL)) (cI 0)) (raiseB 0) skipB) (seqB (ifB (notT (boolT (methE (F_out_grouping_b T D n) (lo 0) (consL (cT (D.ta 6)) nilL)))) (raiseB 0) skipB) (seqB (asgA 1 (lo 0) (binE .Sub (selfGet 2 (lo 0)) (lo 8))) (seqB (asgA 5 (lo 0) (selfGet 1 (lo 0))) (seqB (ifB (cmpE T .LtE (selfGet 1 (lo 0)) (selfGet 3 (lo 0))) (raiseB 0) skipB) (seqB (augA .Sub 1 (lo 0) (cI 1)) (seqB (asgA 4 (lo 0) (selfGet 1 (lo 0))) (exprB (methE (F_slice_del T D n) (lo 0) nilL)))))))))))) (seqB (asgA 1 (lo 0) (binE .Sub (selfGet 2 (lo 0)) (lo 7))) (retB (cB true)))))))))))))))))
noncomputable def F_r_standard_suffix (T : Addr → Option TO) (D : WD) (n : Nat) : List PV → List (Nat × PV) → Option (PV × List (Nat × PV)) := runF 1 (f_r_standard_suffix T D n)
noncomputable def f_stem (T : Addr → Option TO) (D : WD) (n : Nat) : St → Option (Fl × St) :=
  (seqB (asgN 1 (selfGet 1 (lo 0))) (seqB (exprB (methE (F_r_prelude T D n) (lo 0) nilL)) (seqB (asgA 1 (lo 0) (lo 1)) (seqB (asgN 2 (selfGet 1 (lo 0))) (seqB (exprB (methE (F_r_mark_regions T D n) (lo 0) nilL)) (seqB (asgA 1 (lo 0) (lo 2)) (seqB (asgA 3 (lo 0) (selfGet 1 (lo 0))) (seqB (asgA 1 (lo 0) (selfGet 2 (lo 0))) (seqB (exprB (methE (F_r_standard_suffix T D n) (lo 0) nilL)) (seqB (asgA 1 (lo 0) (selfGet 3 (lo 0))) (seqB (asgN 3 (selfGet 1 (lo 0))) (seqB (exprB (methE (F_r_postlude T D n) (lo 0) nilL)) (seqB (asgA 1 (lo 0) (lo 3)) (retB (cB true)))))))))))))))
noncomputable def F_stem (T : Addr → Option TO) (D : WD) (n : Nat) : List PV → List (Nat × PV) → Option (PV × List (Nat × PV)) := runF 1 (f_stem T D n)
noncomputable def f_stemWord (T : Addr → Option TO) (D : WD) (n : Nat) : St → Option (Fl × St) :=
  (seqB (exprB (methE (F_set_current T D n) (lo 0) (consL (lo 1) nilL))) (seqB (exprB (methE (F_stem T D n) (lo 0) nilL)) (retB (methE (F_get_current T D n) (lo 0) nilL))))
noncomputable def F_stemWord (T : Addr → Option TO) (D : WD) (n : Nat) : List PV → List (Nat × PV) → Option (PV × List (Nat × PV)) := runF 2 (f_stemWord T D n)
noncomputable def f_law_vowels (T : Addr → Option TO) (D : WD) (n : Nat) : St → Option (Fl × St) :=
  (retB (dispE false (consL (dispE true (consL (cS [97]) (consL (cS [97]) nilL))) (consL (dispE true (consL (cS [101]) (consL (cS [101]) nilL))) (consL (dispE true (consL (cS [105]) (consL (cS [105]) nilL))) (consL (dispE true (consL (cS [111]) (consL (cS [111]) nilL))) (consL (dispE true (consL (cS [117]) (consL (cS [117]) nilL))) (consL (dispE true (consL (cS [121]) (consL (cS [121]) nilL))) (consL (dispE true (consL (cS [232]) (consL (cS [232]) nilL))) (consL (dispE true (consL (cS [97, 97]) (consL (cS [97, 97]) nilL))) (consL (dispE true (consL (cS [101, 101]) (consL (cS [101, 101]) nilL))) (consL (dispE true (consL (cS [111, 111]) (consL (cS [111, 111]) nilL))) (consL (dispE true (consL (cS [117, 117]) (consL (cS [117, 117]) nilL))) (consL (dispE true (consL (cS [105, 101]) (consL (cS [105, 101]) nilL))) (consL (dispE true (consL (cS [111, 101]) (consL (cS [111, 101]) nilL))) (consL (dispE true (consL (cS [117, 105]) (consL (cS [117, 105]) nilL))) (consL (dispE true (consL (cS [101, 117]) (consL (cS [101, 117]) nilL))) (consL (dispE true (consL (cS [111, 117]) (consL (cS [111, 117]) nilL))) (consL (dispE true (consL (cS [101, 105]) (consL (cS [101, 105]) nilL))) (consL (dispE true (consL (cS [105, 106]) (consL (cS [105, 106]) nilL))) (consL (dispE true (consL (cS [97, 117]) (consL (cS [97, 117]) nilL))) (consL (dispE true (consL (cS [225]) (consL (cS [97]) nilL))) (consL (dispE true (consL (cS [233]) (consL (cS [101]) nilL))) (consL (dispE true (consL (cS [237]) (consL (cS [105]) nilL))) (consL (dispE true (consL (cS [243]) (consL (cS [111]) nilL))) (consL (dispE true (consL (cS [250]) (consL (cS [117]) nilL))) (consL (dispE true (consL (cS [228]) (consL (cS [97]) nilL))) (consL (dispE true (consL (cS [235]) (consL (cS [101]) nilL))) (consL (dispE true (consL (cS [239]) (consL (cS [105]) nilL))) (consL (dispE true (consL (cS [246]) (consL (cS [111]) nilL))) (consL (dispE true (consL (cS [252]) (consL (cS [117]) nilL))) nilL)))))))))))))))))))))))))))))))
noncomputable def F_law_vowels (T : Addr → Option TO) (D : WD) (n : Nat) : List PV → List (Nat × PV) → Option (PV × List (Nat × PV)) := runF 0 (f_law_vowels T D n)
noncomputable def f_law_two (T : Addr → Option TO) (D : WD) (n : Nat) : St → Option (Fl × St) :=
  (retB (dispE false (consL (cS [105, 101]) (consL (cS [111, 101]) (consL (cS [117, 105]) (consL (cS [101, 117]) (consL (cS [111, 117]) (consL (cS [101, 105]) (consL (cS [105, 106]) (consL (cS [97, 117]) (consL (cS [232]) nilL)))))))))))
noncomputable def F_law_two (T : Addr → Option TO) (D : WD) (n : Nat) : List PV → List (Nat × PV) → Option (PV × List (Nat × PV)) := runF 0 (f_law_two T D n)
noncomputable def f_law_closed (T : Addr → Option TO) (D : WD) (n : Nat) : St → Option (Fl × St) :=
  (retB (dispE false (consL (cS [101, 110]) (consL (cS [101, 110, 100]) (consL (cS [104, 101, 100]) (consL (cS [103, 101, 109]) (consL (cS [104, 101, 105, 100]) (consL (cS [105, 110, 103]) (consL (cS [105, 103]) (consL (cS [108, 105, 106, 107]) (consL (cS [98, 97, 97, 114]) (consL (cS [98, 97, 114]) nilL))))))))))))
noncomputable def F_law_closed (T : Addr → Option TO) (D : WD) (n : Nat) : List PV → List (Nat × PV) → Option (PV × List (Nat × PV)) := runF 0 (f_law_closed T D n)
noncomputable def f_law_at (T : Addr → Option TO) (D : WD) (n : Nat) : St → Option (Fl × St) :=
  (seqB (ifB (cmpE T .Lt (lo 1) (biE T .len (consL (lo 0) nilL))) (retB (binE .Add (idxE T (lo 0) (lo 1)) (binE .Mult (cI 37) (lo 1)))) skipB) (retB (binE .Mult (cI 37) (lo 1))))
noncomputable def F_law_at (T : Addr → Option TO) (D : WD) (n : Nat) : List PV → List (Nat × PV) → Option (PV × List (Nat × PV)) := runF 2 (f_law_at T D n)
noncomputable def f_law_some (T : Addr → Option TO) (D : WD) (n : Nat) : St → Option (Fl × St) :=
  (seqB (asgN 1 (idxE T (cS sounds) (binE .Mod (lo 0) (cI 20)))) (seqB (asgN 0 (binE .FloorDiv (lo 0) (cI 20))) (seqB (ifB (cmpE T .Eq (binE .Mod (lo 0) (cI 2)) (cI 1)) (asgN 1 (binE .Add (lo 1) (idxE T (cS sounds) (binE .Mod (binE .FloorDiv (lo 0) (cI 2)) (cI 20))))) skipB) (retB (lo 1)))))
noncomputable def F_law_some (T : Addr → Option TO) (D : WD) (n : Nat) : List PV → List (Nat × PV) → Option (PV × List (Nat × PV)) := runF 1 (f_law_some T D n)
noncomputable def f_law_last (T : Addr → Option TO) (D : WD) (n : Nat) : St → Option (Fl × St) :=
  (seqB (asgN 2 (binE .Mod (lo 0) (cI 4))) (seqB (asgN 0 (binE .FloorDiv (lo 0) (cI 4))) (seqB (asgN 3 (idxE T (cS closes) (binE .Mod (lo 1) (cI 17)))) (seqB (asgN 1 (binE .FloorDiv (lo 1) (cI 17))) (seqB (ifB (cmpE T .Eq (lo 2) (cI 0)) (seqB (asgN 4 (idxE T (cS [97, 101, 111, 117]) (binE .Mod (lo 0) (cI 4)))) (retB (dispE true (consL (binE .Add (binE .Add (lo 4) (lo 4)) (lo 3)) (consL (binE .Add (lo 4) (lo 3)) (consL (binE .Add (lo 4) (lo 3)) (consL (binE .Add (lo 4) (lo 3)) nilL))))))) skipB) (seqB (ifB (cmpE T .Eq (lo 2) (cI 1)) (seqB (asgN 4 (idxE T (cS [97, 101, 105, 111, 117]) (binE .Mod (lo 0) (cI 5)))) (seqB (asgN 5 (binE .Add (lo 4) (lo 3))) (seqB (ifB (cmpE T .In (lo 3) (cS [100, 107, 116])) (retB (dispE true (consL (lo 5) (consL (binE .Add (lo 5) (lo 3)) (consL (lo 5) (consL (lo 5) nilL)))))) skipB) (retB (dispE true (consL (lo 5) (consL (binE .Add (lo 5) (lo 3)) (consL (lo 5) (consL (binE .Add (lo 5) (lo 3)) nilL))))))))) skipB) (seqB (ifB (cmpE T .Eq (lo 2) (cI 2)) (seqB (asgN 4 (idxE T (callE (F_law_two T D n) nilL) (binE .Mod (lo 0) (cI 9)))) (retB (dispE true (consL (binE .Add (lo 4) (lo 3)) (consL (binE .Add (lo 4) (lo 3)) (consL (binE .Add (lo 4) (lo 3)) (consL (binE .Add (lo 4) (lo 3)) nilL))))))) skipB) (seqB (asgN 4 (idxE T (cS [97, 101, 105, 111, 117]) (binE .Mod (lo 0) (cI 5)))) (seqB (ifB (andT (cmpE T .NotEq (lo 4) (cS [105])) (cmpE T .Eq (binE .Mod (binE .FloorDiv (lo 0) (cI 5)) (cI 2)) (cI 1))) (asgN 4 (binE .Add (lo 4) (lo 4))) skipB) (seqB (asgN 6 (idxE T (cS sounds) (binE .Mod (lo 1) (cI 20)))) (seqB (ifB (cmpE T .Eq (lo 6) (lo 3)) (asgN 6 (cS [115])) skipB) (seqB (asgN 7 (binE .Add (binE .Add (lo 4) (lo 6)) (lo 3))) (retB (dispE true (consL (lo 7) (consL (lo 7) (consL (lo 7) (consL (lo 7) nilL))))))))))))))))))
noncomputable def F_law_last (T : Addr → Option TO) (D : WD) (n : Nat) : List PV → List (Nat × PV) → Option (PV × List (Nat × PV)) := runF 2 (f_law_last T D n)
noncomputable def f_law_root (T : Addr → Option TO) (D : WD) (n : Nat) : St → Option (Fl × St) :=
  (seqB (asgN 3 (callE (F_law_last T D n) (consL (lo 1) (consL (lo 2) nilL)))) (seqB (forLB 4 (callE (F_law_closed T D n) nilL) (ifB (orT (boolT (endsE (binE .Add (lo 0) (idxE T (lo 3) (cI 0))) (lo 4))) (boolT (endsE (binE .Add (lo 0) (idxE T (lo 3) (cI 1))) (lo 4)))) (retB (dispE true (consL (cS [111, 111, 112]) (consL (cS [111, 112]) (consL (cS [111, 112]) (consL (cS [111, 112]) nilL)))))) skipB)) (retB (lo 3))))
noncomputable def F_law_root (T : Addr → Option TO) (D : WD) (n : Nat) : List PV → List (Nat × PV) → Option (PV × List (Nat × PV)) := runF 3 (f_law_root T D n)
noncomputable def f_law_word (T : Addr → Option TO) (D : WD) (n : Nat) : St → Option (Fl × St) :=
  (seqB (asgT [5, 6, 7, 8] T (lo 2)) (seqB (asgT [9, 10, 11, 12, 13, 14] T (idxE T (cT D.fams) (binE .Mod (lo 4) (cI 29)))) (seqB (asgT [15, 16] T (idxE T (lo 14) (binE .Mod (binE .FloorDiv (lo 4) (cI 29)) (biE T .len (consL (lo 14) nilL))))) (seqB (ifB (cmpE T .Eq (lo 9) (cI 0)) (asgN 17 (binE .Add (binE .Add (lo 0) (lo 5)) (lo 15))) (asgN 17 (binE .Add (binE .Add (lo 0) (lo 6)) (lo 15)))) (seqB (ifB (cmpE T .Eq (lo 3) (cI 0)) (retB (dispE true (consL (lo 17) (consL (binE .Add (binE .Add (lo 1) (lo 5)) (lo 16)) nilL)))) skipB) (seqB (asgN 18 (dispE false (consL (binE .Add (lo 1) (lo 7)) (consL (binE .Add (lo 1) (lo 5)) (consL (binE .Add (lo 1) (lo 8)) (consL (binE .Add (lo 1) (lo 6)) nilL)))))) (seqB (ifB (orT (andT (cmpE T .Eq (binE .Mod (lo 4) (cI 29)) (cI 1)) (cmpE T .Eq (idxE T (lo 5) (negE (cI 1))) (cS [116]))) (andT (cmpE T .Eq (binE .Mod (lo 4) (cI 29)) (cI 2)) (cmpE T .Eq (idxE T (lo 5) (negE (cI 1))) (cS [100])))) (retB (dispE true (consL (lo 17) (consL (idxE T (lo 18) (cI 0)) nilL)))) skipB) (seqB (ifB (cmpE T .Eq (lo 3) (cI 1)) (retB (dispE true (consL (lo 17) (consL (binE .Add (idxE T (lo 18) (lo 12)) (lo 13)) nilL)))) skipB) (retB (dispE true (consL (lo 17) (consL (binE .Add (idxE T (lo 18) (lo 10)) (lo 11)) nilL))))))))))))
noncomputable def F_law_word (T : Addr → Option TO) (D : WD) (n : Nat) : List PV → List (Nat × PV) → Option (PV × List (Nat × PV)) := runF 5 (f_law_word T D n)
noncomputable def f_law (T : Addr → Option TO) (D : WD) (n : Nat) : St → Option (Fl × St) :=
  (seqB (asgN 1 (callE (F_law_some T D n) (consL (callE (F_law_at T D n) (consL (lo 0) (consL (cI 0) nilL))) nilL))) (seqB (asgN 2 (lo 1)) (seqB (asgN 3 (lo 1)) (seqB (asgN 4 (binE .Mod (callE (F_law_at T D n) (consL (lo 0) (consL (cI 1) nilL))) (cI 3))) (seqB (forR 5 (consL (lo 4) nilL) (seqB (asgN 6 (idxE T (callE (F_law_vowels T D n) nilL) (binE .Mod (callE (F_law_at T D n) (consL (lo 0) (consL (binE .Add (cI 2) (binE .Mult (cI 2) (lo 5))) nilL))) (cI 29)))) (seqB (asgN 7 (callE (F_law_some T D n) (consL (callE (F_law_at T D n) (consL (lo 0) (consL (binE .Add (cI 3) (binE .Mult (cI 2) (lo 5))) nilL))) nilL))) (seqB (asgN 1 (binE .Add (binE .Add (lo 1) (idxE T (lo 6) (cI 0))) (lo 7))) (seqB (asgN 2 (binE .Add (binE .Add (lo 2) (idxE T (lo 6) (cI 1))) (lo 7))) (asgN 3 (binE .Add (lo 3) (lo 7)))))))) (seqB (asgN 8 (callE (F_law_root T D n) (consL (lo 2) (consL (callE (F_law_at T D n) (consL (lo 0) (consL (cI 6) nilL))) (consL (callE (F_law_at T D n) (consL (lo 0) (consL (cI 7) nilL))) nilL))))) (seqB (asgN 9 (biE T .min (consL (binE .Add (lo 4) (cI 1)) (consL (cI 2) nilL)))) (ifB (cmpE T .Eq (binE .Mod (callE (F_law_at T D n) (consL (lo 0) (consL (cI 8) nilL))) (cI 5)) (cI 4)) (seqB (asgN 9 (cI 0)) (seqB (asgN 1 (lo 3)) (seqB (asgN 2 (lo 3)) (seqB (asgN 10 (idxE T (cS closes) (binE .Mod (callE (F_law_at T D n) (consL (lo 0) (consL (cI 7) nilL))) (cI 17)))) (asgN 8 (dispE true (consL (lo 10) (consL (lo 10) (consL (lo 10) (consL (lo 10) nilL)))))))))) skipB))))))))
noncomputable def topS (i : Nat) : Stmt := (PySem.Challenge.pw_ar0042_01.main.body)[i]!
noncomputable def fbody : Stmt → List Stmt
  | .FunctionDef _ _ b _ _ _ _ _ _ _ => b
  | .ClassDef _ _ _ b _ _ _ _ _ _ _ => b
  | _ => []
noncomputable def fscope : Stmt → Scope
  | .FunctionDef _ _ _ _ _ _ s _ _ _ => s
  | _ => default
noncomputable def subS (i j : Nat) : Stmt := (fbody (topS i))[j]!
noncomputable def b_set_current : List Stmt := fbody (subS 2 1)
noncomputable def i_set_current (cd : Value) : FI := ⟨"BaseStemmer.set_current", fscope (subS 2 1), cd, ["self", "value"]⟩
noncomputable def p_set_current : List PySem.Str := ["self", "value"]
noncomputable def b_init : List Stmt := fbody (subS 2 0)
noncomputable def i_init (cd : Value) : FI := ⟨"BaseStemmer.__init__", fscope (subS 2 0), cd, ["self"]⟩
noncomputable def p_init : List PySem.Str := ["self"]
noncomputable def b_get_current : List Stmt := fbody (subS 2 2)
noncomputable def i_get_current (cd : Value) : FI := ⟨"BaseStemmer.get_current", fscope (subS 2 2), cd, ["self"]⟩
noncomputable def p_get_current : List PySem.Str := ["self"]
noncomputable def b_in_grouping : List Stmt := fbody (subS 2 4)
noncomputable def i_in_grouping (cd : Value) : FI := ⟨"BaseStemmer.in_grouping", fscope (subS 2 4), cd, ["self", "s"]⟩
noncomputable def p_in_grouping : List PySem.Str := ["self", "s"]
noncomputable def b_go_in_grouping : List Stmt := fbody (subS 2 5)
noncomputable def i_go_in_grouping (cd : Value) : FI := ⟨"BaseStemmer.go_in_grouping", fscope (subS 2 5), cd, ["self", "s"]⟩
noncomputable def p_go_in_grouping : List PySem.Str := ["self", "s"]
noncomputable def b_go_out_grouping : List Stmt := fbody (subS 2 9)
noncomputable def i_go_out_grouping (cd : Value) : FI := ⟨"BaseStemmer.go_out_grouping", fscope (subS 2 9), cd, ["self", "s"]⟩
noncomputable def p_go_out_grouping : List PySem.Str := ["self", "s"]
noncomputable def b_out_grouping_b : List Stmt := fbody (subS 2 10)
noncomputable def i_out_grouping_b (cd : Value) : FI := ⟨"BaseStemmer.out_grouping_b", fscope (subS 2 10), cd, ["self", "s"]⟩
noncomputable def p_out_grouping_b : List PySem.Str := ["self", "s"]
noncomputable def b_eq_s_b : List Stmt := fbody (subS 2 13)
noncomputable def i_eq_s_b (cd : Value) : FI := ⟨"BaseStemmer.eq_s_b", fscope (subS 2 13), cd, ["self", "s"]⟩
noncomputable def p_eq_s_b : List PySem.Str := ["self", "s"]
noncomputable def b_find_among : List Stmt := fbody (subS 2 14)
noncomputable def i_find_among (cd : Value) : FI := ⟨"BaseStemmer.find_among", fscope (subS 2 14), cd, ["self", "v", "i", "j", "c", "l", "common_i", "common_j", "first_key_inspected", "k", "diff", "common", "w", "i2"]⟩
noncomputable def p_find_among : List PySem.Str := ["self", "v"]
noncomputable def b_find_among_b : List Stmt := fbody (subS 2 15)
noncomputable def i_find_among_b (cd : Value) : FI := ⟨"BaseStemmer.find_among_b", fscope (subS 2 15), cd, ["self", "v", "i", "j", "c", "lb", "common_i", "common_j", "first_key_inspected", "k", "diff", "common", "w", "i2"]⟩
noncomputable def p_find_among_b : List PySem.Str := ["self", "v"]
noncomputable def b_replace_s : List Stmt := fbody (subS 2 16)
noncomputable def i_replace_s (cd : Value) : FI := ⟨"BaseStemmer.replace_s", fscope (subS 2 16), cd, ["self", "c_bra", "c_ket", "s", "adjustment"]⟩
noncomputable def p_replace_s : List PySem.Str := ["self", "c_bra", "c_ket", "s"]
noncomputable def b_slice_from : List Stmt := fbody (subS 2 17)
noncomputable def i_slice_from (cd : Value) : FI := ⟨"BaseStemmer.slice_from", fscope (subS 2 17), cd, ["self", "s"]⟩
noncomputable def p_slice_from : List PySem.Str := ["self", "s"]
noncomputable def b_slice_del : List Stmt := fbody (subS 2 18)
noncomputable def i_slice_del (cd : Value) : FI := ⟨"BaseStemmer.slice_del", fscope (subS 2 18), cd, ["self"]⟩
noncomputable def p_slice_del : List PySem.Str := ["self"]
noncomputable def b_r_prelude : List Stmt := fbody (subS 6 6)
noncomputable def i_r_prelude (cd : Value) : FI := ⟨"DutchPorterStemmer.r_prelude", fscope (subS 6 6), cd, ["self", "v_1", "v_2", "among_var", "v_3", "v_4", "v_5", "v_6", "v_7"]⟩
noncomputable def p_r_prelude : List PySem.Str := ["self"]
noncomputable def b_r_mark_regions : List Stmt := fbody (subS 6 7)
noncomputable def i_r_mark_regions (cd : Value) : FI := ⟨"DutchPorterStemmer.r_mark_regions", fscope (subS 6 7), cd, ["self", "v_1", "I_x"]⟩
noncomputable def p_r_mark_regions : List PySem.Str := ["self"]
noncomputable def b_r_postlude : List Stmt := fbody (subS 6 8)
noncomputable def i_r_postlude (cd : Value) : FI := ⟨"DutchPorterStemmer.r_postlude", fscope (subS 6 8), cd, ["self", "v_1", "among_var"]⟩
noncomputable def p_r_postlude : List PySem.Str := ["self"]
noncomputable def b_r_R1 : List Stmt := fbody (subS 6 9)
noncomputable def i_r_R1 (cd : Value) : FI := ⟨"DutchPorterStemmer.r_R1", fscope (subS 6 9), cd, ["self"]⟩
noncomputable def p_r_R1 : List PySem.Str := ["self"]
noncomputable def b_r_R2 : List Stmt := fbody (subS 6 10)
noncomputable def i_r_R2 (cd : Value) : FI := ⟨"DutchPorterStemmer.r_R2", fscope (subS 6 10), cd, ["self"]⟩
noncomputable def p_r_R2 : List PySem.Str := ["self"]
noncomputable def b_r_undouble : List Stmt := fbody (subS 6 11)
noncomputable def i_r_undouble (cd : Value) : FI := ⟨"DutchPorterStemmer.r_undouble", fscope (subS 6 11), cd, ["self", "v_1"]⟩
noncomputable def p_r_undouble : List PySem.Str := ["self"]
noncomputable def b_r_e_ending : List Stmt := fbody (subS 6 12)
noncomputable def i_r_e_ending (cd : Value) : FI := ⟨"DutchPorterStemmer.r_e_ending", fscope (subS 6 12), cd, ["self", "v_1"]⟩
noncomputable def p_r_e_ending : List PySem.Str := ["self"]
noncomputable def b_r_en_ending : List Stmt := fbody (subS 6 13)
noncomputable def i_r_en_ending (cd : Value) : FI := ⟨"DutchPorterStemmer.r_en_ending", fscope (subS 6 13), cd, ["self", "v_1"]⟩
noncomputable def p_r_en_ending : List PySem.Str := ["self"]
noncomputable def b_r_standard_suffix : List Stmt := fbody (subS 6 14)
noncomputable def i_r_standard_suffix (cd : Value) : FI := ⟨"DutchPorterStemmer.r_standard_suffix", fscope (subS 6 14), cd, ["self", "v_1", "among_var", "v_2", "v_3", "v_4", "v_5", "v_6", "v_7"]⟩
noncomputable def p_r_standard_suffix : List PySem.Str := ["self"]
noncomputable def b_stem : List Stmt := fbody (subS 6 15)
noncomputable def i_stem (cd : Value) : FI := ⟨"DutchPorterStemmer._stem", fscope (subS 6 15), cd, ["self", "v_1", "v_2", "v_3"]⟩
noncomputable def p_stem : List PySem.Str := ["self"]
noncomputable def b_stemWord : List Stmt := fbody (subS 2 22)
noncomputable def i_stemWord (cd : Value) : FI := ⟨"BaseStemmer.stemWord", fscope (subS 2 22), cd, ["self", "word"]⟩
noncomputable def p_stemWord : List PySem.Str := ["self", "word"]
noncomputable def b_law_vowels : List Stmt := fbody (topS 14)
noncomputable def i_law_vowels (cd : Value) : FI := ⟨"_law_vowels", fscope (topS 14), cd, []⟩
noncomputable def p_law_vowels : List PySem.Str := []
noncomputable def b_law_two : List Stmt := fbody (topS 15)
noncomputable def i_law_two (cd : Value) : FI := ⟨"_law_two", fscope (topS 15), cd, []⟩
noncomputable def p_law_two : List PySem.Str := []
noncomputable def b_law_closed : List Stmt := fbody (topS 16)
noncomputable def i_law_closed (cd : Value) : FI := ⟨"_law_closed", fscope (topS 16), cd, []⟩
noncomputable def p_law_closed : List PySem.Str := []
noncomputable def b_law_at : List Stmt := fbody (topS 18)
noncomputable def i_law_at (cd : Value) : FI := ⟨"_law_at", fscope (topS 18), cd, ["script", "i"]⟩
noncomputable def p_law_at : List PySem.Str := ["script", "i"]
noncomputable def b_law_some : List Stmt := fbody (topS 19)
noncomputable def i_law_some (cd : Value) : FI := ⟨"_law_some", fscope (topS 19), cd, ["n", "some"]⟩
noncomputable def p_law_some : List PySem.Str := ["n"]
noncomputable def b_law_last : List Stmt := fbody (topS 20)
noncomputable def i_law_last (cd : Value) : FI := ⟨"_law_last", fscope (topS 20), cd, ["n", "m", "kind", "close", "vowel", "single", "before", "whole"]⟩
noncomputable def p_law_last : List PySem.Str := ["n", "m"]
noncomputable def b_law_root : List Stmt := fbody (topS 21)
noncomputable def i_law_root (cd : Value) : FI := ⟨"_law_root", fscope (topS 21), cd, ["told", "n", "m", "last", "end"]⟩
noncomputable def p_law_root : List PySem.Str := ["told", "n", "m"]
noncomputable def b_law_word : List Stmt := fbody (topS 22)
noncomputable def i_law_word (cd : Value) : FI := ⟨"_law_word", fscope (topS 22), cd, ["front", "told", "last", "depth", "x", "closed", "spread", "short", "plain", "where", "deep", "deep_rest", "low", "low_rest", "forms", "ending", "none", "word", "bases"]⟩
noncomputable def p_law_word : List PySem.Str := ["front", "told", "last", "depth", "x"]
noncomputable def b_law : List Stmt := fbody (topS 23)
noncomputable def i_law (cd : Value) : FI := ⟨"law", fscope (topS 23), cd, ["script", "front", "told", "bare", "count", "i", "vowel", "close", "last", "depth", "end", "words", "stems", "word", "stem"]⟩
noncomputable def labN (i : Fin 4) : PySem.Str := ["lab0", "lab1", "lab2", "lab3"].getD i.1 ""
structure WK (g : Gd) (D : WD) : Prop where
  ok : g.Ok
  hT : ∀ a t, g.tobj a = some t → TOk g a t
  attr : ∀ i, i < 9 → SAttr g i
  lab : ∀ i : Fin 4, LabAt g i (labN i)
  sub : ∀ i j, subIn g.K (.ref (g.labA i)) (.ref (g.labA j)) = some (decide (i = j))
  b_len : nsIn g.K mainGlobals "len" = some none
  b_ord : nsIn g.K mainGlobals "ord" = some none
  b_min : nsIn g.K mainGlobals "min" = some none
  b_range : nsIn g.K mainGlobals "range" = some none
  dps : nsIn g.K mainGlobals "DutchPorterStemmer" = some (some (.ref g.C))
  dmeta : typeIn g.K (.ref g.C) = some D.mc
  dreads : readsIn g.K g.C D.mc = true
  tab0 : findCls g.K (.ref g.C) D.mc "a_0" = some (.val (.ref (D.ta 0)))
  tab1 : findCls g.K (.ref g.C) D.mc "a_1" = some (.val (.ref (D.ta 1)))
  tab2 : findCls g.K (.ref g.C) D.mc "a_2" = some (.val (.ref (D.ta 2)))
  tab3 : findCls g.K (.ref g.C) D.mc "a_3" = some (.val (.ref (D.ta 3)))
  tab4 : findCls g.K (.ref g.C) D.mc "a_4" = some (.val (.ref (D.ta 4)))
  tab5 : findCls g.K (.ref g.C) D.mc "a_5" = some (.val (.ref (D.ta 5)))
  tab6 : findCls g.K (.ref g.C) D.mc "g_v" = some (.val (.ref (D.ta 6)))
  tab7 : findCls g.K (.ref g.C) D.mc "g_v_I" = some (.val (.ref (D.ta 7)))
  tab8 : findCls g.K (.ref g.C) D.mc "g_v_j" = some (.val (.ref (D.ta 8)))
  e_sounds : nsIn g.K mainGlobals "_law_sounds" = some (some D.snd)
  v_sounds : VR g [] (.str sounds) D.snd
  e_closes : nsIn g.K mainGlobals "_law_closes" = some (some D.cls)
  v_closes : VR g [] (.str closes) D.cls
  e_fams : nsIn g.K mainGlobals "_law_families" = some (some (.ref D.fams))
  fn_set_current : FnAt g (D.fa 0) (i_set_current (D.cd 0)) p_set_current b_set_current
  m_set_current : MethAt g "set_current" (D.fa 0)
  fn_init : FnAt g (D.fa 1) (i_init (D.cd 1)) p_init b_init
  m_init : MethAt g "__init__" (D.fa 1)
  fn_get_current : FnAt g (D.fa 2) (i_get_current (D.cd 2)) p_get_current b_get_current
  m_get_current : MethAt g "get_current" (D.fa 2)
  fn_in_grouping : FnAt g (D.fa 3) (i_in_grouping (D.cd 3)) p_in_grouping b_in_grouping
  m_in_grouping : MethAt g "in_grouping" (D.fa 3)
  fn_go_in_grouping : FnAt g (D.fa 4) (i_go_in_grouping (D.cd 4)) p_go_in_grouping b_go_in_grouping
  m_go_in_grouping : MethAt g "go_in_grouping" (D.fa 4)
  fn_go_out_grouping : FnAt g (D.fa 5) (i_go_out_grouping (D.cd 5)) p_go_out_grouping b_go_out_grouping
  m_go_out_grouping : MethAt g "go_out_grouping" (D.fa 5)
  fn_out_grouping_b : FnAt g (D.fa 6) (i_out_grouping_b (D.cd 6)) p_out_grouping_b b_out_grouping_b
  m_out_grouping_b : MethAt g "out_grouping_b" (D.fa 6)
  fn_eq_s_b : FnAt g (D.fa 7) (i_eq_s_b (D.cd 7)) p_eq_s_b b_eq_s_b
  m_eq_s_b : MethAt g "eq_s_b" (D.fa 7)
  fn_find_among : FnAt g (D.fa 8) (i_find_among (D.cd 8)) p_find_among b_find_among
  m_find_among : MethAt g "find_among" (D.fa 8)
  fn_find_among_b : FnAt g (D.fa 9) (i_find_among_b (D.cd 9)) p_find_among_b b_find_among_b
  m_find_among_b : MethAt g "find_among_b" (D.fa 9)
  fn_replace_s : FnAt g (D.fa 10) (i_replace_s (D.cd 10)) p_replace_s b_replace_s
  m_replace_s : MethAt g "replace_s" (D.fa 10)
  fn_slice_from : FnAt g (D.fa 11) (i_slice_from (D.cd 11)) p_slice_from b_slice_from
  m_slice_from : MethAt g "slice_from" (D.fa 11)
  fn_slice_del : FnAt g (D.fa 12) (i_slice_del (D.cd 12)) p_slice_del b_slice_del
  m_slice_del : MethAt g "slice_del" (D.fa 12)
  fn_r_prelude : FnAt g (D.fa 13) (i_r_prelude (D.cd 13)) p_r_prelude b_r_prelude
  m_r_prelude : MethAt g "r_prelude" (D.fa 13)
  fn_r_mark_regions : FnAt g (D.fa 14) (i_r_mark_regions (D.cd 14)) p_r_mark_regions b_r_mark_regions
  m_r_mark_regions : MethAt g "r_mark_regions" (D.fa 14)
  fn_r_postlude : FnAt g (D.fa 15) (i_r_postlude (D.cd 15)) p_r_postlude b_r_postlude
  m_r_postlude : MethAt g "r_postlude" (D.fa 15)
  fn_r_R1 : FnAt g (D.fa 16) (i_r_R1 (D.cd 16)) p_r_R1 b_r_R1
  m_r_R1 : MethAt g "r_R1" (D.fa 16)
  fn_r_R2 : FnAt g (D.fa 17) (i_r_R2 (D.cd 17)) p_r_R2 b_r_R2
  m_r_R2 : MethAt g "r_R2" (D.fa 17)
  fn_r_undouble : FnAt g (D.fa 18) (i_r_undouble (D.cd 18)) p_r_undouble b_r_undouble
  m_r_undouble : MethAt g "r_undouble" (D.fa 18)
  fn_r_e_ending : FnAt g (D.fa 19) (i_r_e_ending (D.cd 19)) p_r_e_ending b_r_e_ending
  m_r_e_ending : MethAt g "r_e_ending" (D.fa 19)
  fn_r_en_ending : FnAt g (D.fa 20) (i_r_en_ending (D.cd 20)) p_r_en_ending b_r_en_ending
  m_r_en_ending : MethAt g "r_en_ending" (D.fa 20)
  fn_r_standard_suffix : FnAt g (D.fa 21) (i_r_standard_suffix (D.cd 21)) p_r_standard_suffix b_r_standard_suffix
  m_r_standard_suffix : MethAt g "r_standard_suffix" (D.fa 21)
  fn_stem : FnAt g (D.fa 22) (i_stem (D.cd 22)) p_stem b_stem
  m_stem : MethAt g "_stem" (D.fa 22)
  fn_stemWord : FnAt g (D.fa 23) (i_stemWord (D.cd 23)) p_stemWord b_stemWord
  m_stemWord : MethAt g "stemWord" (D.fa 23)
  fn_law_vowels : FnAt g (D.fa 24) (i_law_vowels (D.cd 24)) p_law_vowels b_law_vowels
  g_law_vowels : nsIn g.K mainGlobals "_law_vowels" = some (some (.ref (D.fa 24)))
  k_law_vowels : keepIn g.K (.ref (D.fa 24)) = true
  fn_law_two : FnAt g (D.fa 25) (i_law_two (D.cd 25)) p_law_two b_law_two
  g_law_two : nsIn g.K mainGlobals "_law_two" = some (some (.ref (D.fa 25)))
  k_law_two : keepIn g.K (.ref (D.fa 25)) = true
  fn_law_closed : FnAt g (D.fa 26) (i_law_closed (D.cd 26)) p_law_closed b_law_closed
  g_law_closed : nsIn g.K mainGlobals "_law_closed" = some (some (.ref (D.fa 26)))
  k_law_closed : keepIn g.K (.ref (D.fa 26)) = true
  fn_law_at : FnAt g (D.fa 27) (i_law_at (D.cd 27)) p_law_at b_law_at
  g_law_at : nsIn g.K mainGlobals "_law_at" = some (some (.ref (D.fa 27)))
  k_law_at : keepIn g.K (.ref (D.fa 27)) = true
  fn_law_some : FnAt g (D.fa 28) (i_law_some (D.cd 28)) p_law_some b_law_some
  g_law_some : nsIn g.K mainGlobals "_law_some" = some (some (.ref (D.fa 28)))
  k_law_some : keepIn g.K (.ref (D.fa 28)) = true
  fn_law_last : FnAt g (D.fa 29) (i_law_last (D.cd 29)) p_law_last b_law_last
  g_law_last : nsIn g.K mainGlobals "_law_last" = some (some (.ref (D.fa 29)))
  k_law_last : keepIn g.K (.ref (D.fa 29)) = true
  fn_law_root : FnAt g (D.fa 30) (i_law_root (D.cd 30)) p_law_root b_law_root
  g_law_root : nsIn g.K mainGlobals "_law_root" = some (some (.ref (D.fa 30)))
  k_law_root : keepIn g.K (.ref (D.fa 30)) = true
  fn_law_word : FnAt g (D.fa 31) (i_law_word (D.cd 31)) p_law_word b_law_word
  g_law_word : nsIn g.K mainGlobals "_law_word" = some (some (.ref (D.fa 31)))
  k_law_word : keepIn g.K (.ref (D.fa 31)) = true
noncomputable def fiChk (fi : FI) : Bool := decide fi.names.Nodup && decide (fi.scope.kind = .function) && fi.names.all fun x => decide ((fi.env 0 0).kindOf x = some .local) && !(x == ("__debug__" : PySem.Str))
theorem NameAt.of {fi : FI} (h : fiChk fi = true) (k : Nat) {x : PySem.Str} (hk : fi.names[k]? = some x) : NameAt fi k x := by
  unfold fiChk at h
  simp only [Bool.and_eq_true, decide_eq_true_eq, List.all_eq_true, Bool.not_eq_true'] at h
  have := h.2 x (List.mem_of_getElem? hk)
  exact ⟨h.1.1, hk, h.1.2, this.1, this.2⟩
theorem fiChk.kind {fi : FI} (h : fiChk fi = true) : fi.scope.kind = .function := by
  unfold fiChk at h
  simp only [Bool.and_eq_true, decide_eq_true_eq] at h
  exact h.1.2
noncomputable def glChk (fi : FI) (xs : List PySem.Str) : Bool := xs.all fun x => decide ((fi.env 0 0).kindOf x = some .globalImplicit) && !(x == ("__debug__" : PySem.Str))
theorem glChk.at_ {fi : FI} {xs : List PySem.Str} (h0 : fiChk fi = true) (h : glChk fi xs = true) (k : Nat) {x : PySem.Str} (hk : xs[k]? = some x) : fi.scope.kind = .function ∧ (fi.env 0 0).kindOf x = some .globalImplicit ∧ (x == ("__debug__" : PySem.Str)) = false := by
  unfold glChk at h
  simp only [Bool.and_eq_true, decide_eq_true_eq, List.all_eq_true, Bool.not_eq_true'] at h
  have := h x (List.mem_of_getElem? hk)
  exact ⟨fiChk.kind h0, this.1, this.2⟩
theorem bv_len : bootBuiltins "len" = some (.builtin Bi.len.id) := by kernel_rfl
theorem bv_ord : bootBuiltins "ord" = some (.builtin Bi.ord.id) := by kernel_rfl
theorem bv_min : bootBuiltins "min" = some (.builtin Bi.min.id) := by kernel_rfl
theorem bn_len : ("len" : PySem.Str) ≠ "__name__" := by decide
theorem bn_ord : ("ord" : PySem.Str) ≠ "__name__" := by decide
theorem bn_min : ("min" : PySem.Str) ≠ "__name__" := by decide
noncomputable def nsw : Expr → Bool
  | .ListComp .. | .SetComp .. | .DictComp .. => false
  | _ => true
theorem nsw_of {e : Expr} (h : nsw e = true) (t : Option Expr) (l : Nat) (env : Env) : swapsWith e t l env = pure false := by
  cases e <;> first | rfl | cases h
noncomputable def tvb : Expr → Bool
  | .Name .. | .Call .. | .Constant .. | .Attribute .. => true
  | _ => false
theorem tvb_of {e : Expr} (h : tvb e = true) (env : Env) (whole : Sem Value) : isTrue e env whole = (do let v ← whole; standAt e.pos; holding [v] (truthy v)) := by
  cases e <;> first | rfl | cases h
noncomputable def isAS : Operator → Bool
  | .Add | .Sub => true
  | _ => false
theorem isAS_of {op : Operator} (h : isAS op = true) : op = .Add ∨ op = .Sub := by
  cases op <;> first | exact .inl rfl | exact .inr rfl | cases h
structure CX (g : Gd) (D : WD) (fi : FI) (xs : List PySem.Str) : Prop where
  W : WK g D
  c : fiChk fi = true
  gc : glChk fi xs = true
section
variable {g : Gd} {D : WD} {fi : FI} {xs : List PySem.Str} {d : Nat}
theorem CX.na (C : CX g D fi xs) (k : Nat) {x : PySem.Str} (h : fi.names[k]? = some x) : NameAt fi k x := NameAt.of C.c k h
theorem CX.ga (C : CX g D fi xs) (k : Nat) {x : PySem.Str} (h : xs[k]? = some x) : fi.scope.kind = .function ∧ (fi.env 0 0).kindOf x = some .globalImplicit ∧ (x == ("__debug__" : PySem.Str)) = false := glChk.at_ C.c C.gc k h
theorem t_nm (C : CX g D fi xs) (k : Nat) {x : PySem.Str} {p} (h : fi.names[k]? = some x) : SE g fi d (.Name x p) (lo k) := s_nm (C.na k h)
theorem t_gl (C : CX g D fi xs) (j : Nat) {x : PySem.Str} {pos} {v : Value} {pv : PV} (e : nsIn g.K mainGlobals x = some (some v)) (hv : VR g [] pv v) (hx : xs[j]? = some x) : SE g fi d (.Name x pos) (fun st => some (pv, st)) :=
  s_glob C.W.ok e hv (C.ga j hx).1 (C.ga j hx).2.1 (C.ga j hx).2.2
theorem t_ct (C : CX g D fi xs) (j : Nat) {attr : PySem.Str} {xp pos} {a : Addr} (hc : findCls g.K (.ref g.C) D.mc attr = some (.val (.ref a))) (hx : xs[j]? = some "DutchPorterStemmer") : SE g fi d (.Attribute (.Name "DutchPorterStemmer" xp) attr pos) (fun st => some (.top a, st)) :=
  s_cattr C.W.ok C.W.dps C.W.dmeta C.W.dreads hc rfl (C.ga j hx).1 (C.ga j hx).2.1 (C.ga j hx).2.2
variable (C : CX g D fi xs) (S : fi.names[(0 : Nat)]? = some ("self" : PySem.Str))
include C S
theorem t_sa (k : Nat) {attr : PySem.Str} {p q} (ha : anm k = attr) (hk : Nat.blt k 9 = true) : SE g fi d (.Attribute (.Name "self" p) attr q) (selfGet k (lo 0)) :=
  s_attr k ha (C.W.attr k (Nat.blt_eq.mp hk)) C.W.ok (fun _ => rfl) (t_nm C 0 S)
theorem t_me {name : PySem.Str} {p ap pos} {es : List Expr} {f F} {fd : Addr} {d' : Nat} (hF : SF g d' fd F) (hM : MethAt g name fd) (h : (Nat.ble d' d && es.all plainX && Nat.blt es.length 20 && (ap.endLine == pos.line)) = true)
    (hl : SL g fi d es f) : SE g fi d (.Call (.Attribute (.Name "self" p) name ap) es [] pos) (methE F (lo 0) f) := by
  simp only [Bool.and_eq_true] at h
  exact s_meth C.W.ok hF (Nat.le_of_ble_eq_true h.1.1.1) hM (C.na 0 S).fn h.1.1.2 (t_nm C 0 S) hl (fun _ => rfl) (Nat.blt_eq.mp h.1.2) h.2
theorem t_as (k : Nat) {attr : PySem.Str} {e : Expr} {p ap pos f} (ha : anm k = attr) (h : (Nat.blt k 9 && nsw e) = true) (he : SE g fi d e f) : SS g fi d (.Assign [.Attribute (.Name "self" p) attr ap] e pos) (asgA k (lo 0) f) := by
  rw [Bool.and_eq_true] at h
  exact s_asgA k ha (C.W.attr k (Nat.blt_eq.mp h.1)) C.W.ok (t_nm C 0 S) he fun _ => nsw_of h.2 _ _ _
theorem t_au (k : Nat) {op : Operator} {attr : PySem.Str} {e : Expr} {p ap pos f} (ha : anm k = attr) (h : (Nat.blt k 9 && isAS op) = true) (he : SE g fi d e f) : SS g fi d (.AugAssign (.Attribute (.Name "self" p) attr ap) op e pos) (augA op k (lo 0) f) := by
  rw [Bool.and_eq_true] at h
  exact s_augA k ha (C.W.attr k (Nat.blt_eq.mp h.1)) C.W.ok (isAS_of h.2) (t_nm C 0 S) he
omit S
theorem t_cm {op : CmpOp} {l r : Expr} {pos} {f1 f2} (h1 : SE g fi d l f1) (h2 : SE g fi d r f2) (hm : behindInMarks op r = false) : SE g fi d (.Compare l [op] [r] pos) (cmpV g.tobj op f1 f2) := s_cmp C.W.hT h1 h2 hm
theorem t_tc {op : CmpOp} {l r : Expr} {pos} {f1 f2} (h1 : SE g fi d l f1) (h2 : SE g fi d r f2) (hm : behindInMarks op r = false) : STt g fi d (.Compare l [op] [r] pos) (cmpE g.tobj op f1 f2) := s_tcmp C.W.hT h1 h2 hm
theorem t_ix {l r : Expr} {pos} {f1 f2} (h1 : SE g fi d l f1) (h2 : SE g fi d r f2) (hs : ∀ o i, subscripted r false o i = operate [o, i] (getItem o i)) : SE g fi d (.Subscript l r pos) (idxE g.tobj f1 f2) := s_idx C.W.ok C.W.hT h1 h2 hs
theorem t_bi (j : Nat) {x : PySem.Str} {xp pos} {e : Expr} {es : List Expr} {f} (b : Bi) (e0 : nsIn g.K mainGlobals x = some none) (hv : bootBuiltins x = some (.builtin b.id)) (hn : x ≠ "__name__") (hx : xs[j]? = some x) (hp : (e :: es).all plainX = true) (h : SL g fi d (e :: es) f) :
    SE g fi d (.Call (.Name x xp) (e :: es) [] pos) (biE g.tobj b f) := s_bi b C.W.ok C.W.hT e0 hv hn (C.ga j hx).1 (C.ga j hx).2.1 (C.ga j hx).2.2 hp h
theorem t_ca (j : Nat) {x : PySem.Str} {xp pos} {es : List Expr} {f F} {fd : Addr} {d' : Nat} (hF : SF g d' fd F) (e0 : nsIn g.K mainGlobals x = some (some (.ref fd))) (hkp : keepIn g.K (.ref fd) = true) (hx : xs[j]? = some x) (h : (Nat.ble d' d && es.all plainX) = true) (hl : SL g fi d es f) :
    SE g fi d (.Call (.Name x xp) es [] pos) (callE F f) := by
  rw [Bool.and_eq_true] at h
  exact s_call C.W.ok hF (Nat.le_of_ble_eq_true h.1) e0 hkp (C.ga j hx).1 (C.ga j hx).2.1 (C.ga j hx).2.2 h.2 hl
theorem t_an (k : Nat) {x : PySem.Str} {e : Expr} {xp pos f} (hx : fi.names[k]? = some x) (he : SE g fi d e f) (h : nsw e = true) : SS g fi d (.Assign [.Name x xp] e pos) (asgN k f) := s_asgN k (C.na k hx) he fun _ => nsw_of h _ _ _
theorem t_ax (k : Nat) {op : Operator} {x : PySem.Str} {e : Expr} {xp pos f} (hx : fi.names[k]? = some x) (h : isAS op = true) (he : SE g fi d e f) : SS g fi d (.AugAssign (.Name x xp) op e pos) (augN op k f) := s_augN k (isAS_of h) (C.na k hx) he
theorem t_ex {e : Expr} {pos f} (he : SE g fi d e f) (h : nsw e = true) : SS g fi d (.Expr e pos) (exprB f) :=
  s_expr (fun L fa => by show ((fi.scope.kind == .module) && _) = false; rw [fiChk.kind C.c]; rfl) he fun _ => nsw_of h _ _ _
theorem t_wh {t : Expr} {b : List Stmt} {pos ft fb} (n : Nat) (h : STt g fi d t ft) (hb : SB g fi d b fb) : SS g fi d (.While t b [] pos) (whileB ft fb n) := s_while n (fiChk.kind C.c) h hb
theorem t_ra (j : Nat) {np cp pos} (i : Fin 4) (hx : xs[j]? = some (labN i)) : SS g fi d (.Raise (some (.Call (.Name (labN i) np) [] [] cp)) none pos) (raiseB i) := s_raise i C.W.ok (C.W.lab i) (C.ga j hx).1 (C.ga j hx).2.1
theorem t_tr (j : Nat) {np hp pp pos} {body : List Stmt} {f} (i : Fin 4) (hx : xs[j]? = some (labN i)) (h : SB g fi d body f) : SS g fi d (.Try body [.ExceptHandler (some (.Name (labN i) np)) none [.Pass pp] hp] [] [] pos) (tryB i f) :=
  s_try i C.W.ok (C.W.lab i) (fun k => C.W.sub k i) (C.ga j hx).1 (C.ga j hx).2.1 h
theorem t_fr (j k : Nat) {x : PySem.Str} {px rp rn pos : Pos} {e : Expr} {es : List Expr} {body : List Stmt} {f fb} (hx : fi.names[k]? = some x) (hr : xs[j]? = some "range") (hp : (e :: es).all plainX = true) (he : SL g fi d (e :: es) f) (h : SB g fi d body fb) :
    SS g fi d (.For (.Name x px) (.Call (.Name "range" rn) (e :: es) [] rp) body [] pos) (forR k f fb) := s_forR k C.W.ok (C.na k hx) C.W.b_range (C.ga j hr).2.1 hp he h
omit C
theorem t_tv {e : Expr} {f} (he : SE g fi d e f) (h : tvb e = true) : STt g fi d e (boolT f) := s_tval (fun _ _ => tvb_of h _ _) he
end
section
variable {g : Gd} {D : WD}
theorem c_set_current (cd : Value) : fiChk (i_set_current cd) = true := by kernel_rfl
theorem gc_set_current (cd : Value) : glChk (i_set_current cd) ["len"] = true := by kernel_rfl
theorem w_set_current (W : WK g D) (n : Nat) : SF g 1 (D.fa 0) (F_set_current g.tobj D n) :=
  have C : CX g D (i_set_current (D.cd 0)) _ := ⟨W, c_set_current (D.cd 0), gc_set_current (D.cd 0)⟩
  have S : (i_set_current (D.cd 0)).names[(0 : Nat)]? = some "self" := rfl
  sF_of W.ok W.fn_set_current (d := 0) (s_consB (t_as C S 0 rfl rfl (t_nm C 1 rfl)) (s_consB (t_as C S 1 rfl rfl s_int) (s_consB (t_as C S 2 rfl rfl (t_bi C 0 .len W.b_len bv_len bn_len rfl rfl (s_consL rfl (t_sa C S 0 rfl rfl) s_nilL))) (s_consB (t_as C S 3 rfl rfl s_int) (s_consB (t_as C S 4 rfl rfl (t_sa C S 1 rfl rfl)) (s_oneB (t_as C S 5 rfl rfl (t_sa C S 2 rfl rfl))))))))
theorem c_init (cd : Value) : fiChk (i_init cd) = true := by kernel_rfl
theorem gc_init (cd : Value) : glChk (i_init cd) [] = true := by kernel_rfl
theorem c_get_current (cd : Value) : fiChk (i_get_current cd) = true := by kernel_rfl
theorem gc_get_current (cd : Value) : glChk (i_get_current cd) [] = true := by kernel_rfl
theorem w_get_current (W : WK g D) (n : Nat) : SF g 1 (D.fa 2) (F_get_current g.tobj D n) :=
  have C : CX g D (i_get_current (D.cd 2)) _ := ⟨W, c_get_current (D.cd 2), gc_get_current (D.cd 2)⟩
  have S : (i_get_current (D.cd 2)).names[(0 : Nat)]? = some "self" := rfl
  sF_of W.ok W.fn_get_current (d := 0) (s_oneB (s_ret (t_sa C S 0 rfl rfl)))
theorem c_in_grouping (cd : Value) : fiChk (i_in_grouping cd) = true := by kernel_rfl
theorem gc_in_grouping (cd : Value) : glChk (i_in_grouping cd) [] = true := by kernel_rfl
theorem w_in_grouping (W : WK g D) (n : Nat) : SF g 1 (D.fa 3) (F_in_grouping g.tobj D n) :=
  have C : CX g D (i_in_grouping (D.cd 3)) _ := ⟨W, c_in_grouping (D.cd 3), gc_in_grouping (D.cd 3)⟩
  have S : (i_in_grouping (D.cd 3)).names[(0 : Nat)]? = some "self" := rfl
  sF_of W.ok W.fn_in_grouping (d := 0) (s_consB (s_if (t_tc C (t_sa C S 1 rfl rfl) (t_sa C S 2 rfl rfl) rfl) (s_oneB (s_ret s_bool)) s_nilB) (s_consB (s_if (t_tc C (t_ix C (t_sa C S 0 rfl rfl) (t_sa C S 1 rfl rfl) (fun _ _ => rfl)) (t_nm C 1 rfl) rfl) (s_oneB (s_ret s_bool)) s_nilB) (s_consB (t_au C S 1 rfl rfl s_int) (s_oneB (s_ret s_bool)))))
theorem c_go_in_grouping (cd : Value) : fiChk (i_go_in_grouping cd) = true := by kernel_rfl
theorem gc_go_in_grouping (cd : Value) : glChk (i_go_in_grouping cd) [] = true := by kernel_rfl
theorem w_go_in_grouping (W : WK g D) (n : Nat) : SF g 1 (D.fa 4) (F_go_in_grouping g.tobj D n) :=
  have C : CX g D (i_go_in_grouping (D.cd 4)) _ := ⟨W, c_go_in_grouping (D.cd 4), gc_go_in_grouping (D.cd 4)⟩
  have S : (i_go_in_grouping (D.cd 4)).names[(0 : Nat)]? = some "self" := rfl
  sF_of W.ok W.fn_go_in_grouping (d := 0) (s_consB (t_wh C n (t_tc C (t_sa C S 1 rfl rfl) (t_sa C S 2 rfl rfl) rfl) (s_consB (s_if (t_tc C (t_ix C (t_sa C S 0 rfl rfl) (t_sa C S 1 rfl rfl) (fun _ _ => rfl)) (t_nm C 1 rfl) rfl) (s_oneB (s_ret s_bool)) s_nilB) (s_oneB (t_au C S 1 rfl rfl s_int)))) (s_oneB (s_ret s_bool)))
theorem c_go_out_grouping (cd : Value) : fiChk (i_go_out_grouping cd) = true := by kernel_rfl
theorem gc_go_out_grouping (cd : Value) : glChk (i_go_out_grouping cd) [] = true := by kernel_rfl
theorem w_go_out_grouping (W : WK g D) (n : Nat) : SF g 1 (D.fa 5) (F_go_out_grouping g.tobj D n) :=
  have C : CX g D (i_go_out_grouping (D.cd 5)) _ := ⟨W, c_go_out_grouping (D.cd 5), gc_go_out_grouping (D.cd 5)⟩
  have S : (i_go_out_grouping (D.cd 5)).names[(0 : Nat)]? = some "self" := rfl
  sF_of W.ok W.fn_go_out_grouping (d := 0) (s_consB (t_wh C n (t_tc C (t_sa C S 1 rfl rfl) (t_sa C S 2 rfl rfl) rfl) (s_consB (s_if (t_tc C (t_ix C (t_sa C S 0 rfl rfl) (t_sa C S 1 rfl rfl) (fun _ _ => rfl)) (t_nm C 1 rfl) rfl) (s_oneB (s_ret s_bool)) s_nilB) (s_oneB (t_au C S 1 rfl rfl s_int)))) (s_oneB (s_ret s_bool)))
theorem c_out_grouping_b (cd : Value) : fiChk (i_out_grouping_b cd) = true := by kernel_rfl
theorem gc_out_grouping_b (cd : Value) : glChk (i_out_grouping_b cd) [] = true := by kernel_rfl
theorem w_out_grouping_b (W : WK g D) (n : Nat) : SF g 1 (D.fa 6) (F_out_grouping_b g.tobj D n) :=
  have C : CX g D (i_out_grouping_b (D.cd 6)) _ := ⟨W, c_out_grouping_b (D.cd 6), gc_out_grouping_b (D.cd 6)⟩
  have S : (i_out_grouping_b (D.cd 6)).names[(0 : Nat)]? = some "self" := rfl
  sF_of W.ok W.fn_out_grouping_b (d := 0) (s_consB (s_if (t_tc C (t_sa C S 1 rfl rfl) (t_sa C S 3 rfl rfl) rfl) (s_oneB (s_ret s_bool)) s_nilB) (s_consB (s_if (t_tc C (t_ix C (t_sa C S 0 rfl rfl) (s_bin (t_sa C S 1 rfl rfl) s_int) (fun _ _ => rfl)) (t_nm C 1 rfl) rfl) (s_consB (t_au C S 1 rfl rfl s_int) (s_oneB (s_ret s_bool))) s_nilB) (s_oneB (s_ret s_bool))))
theorem c_eq_s_b (cd : Value) : fiChk (i_eq_s_b cd) = true := by kernel_rfl
theorem gc_eq_s_b (cd : Value) : glChk (i_eq_s_b cd) ["len"] = true := by kernel_rfl
theorem w_eq_s_b (W : WK g D) (n : Nat) : SF g 1 (D.fa 7) (F_eq_s_b g.tobj D n) :=
  have C : CX g D (i_eq_s_b (D.cd 7)) _ := ⟨W, c_eq_s_b (D.cd 7), gc_eq_s_b (D.cd 7)⟩
  have S : (i_eq_s_b (D.cd 7)).names[(0 : Nat)]? = some "self" := rfl
  sF_of W.ok W.fn_eq_s_b (d := 0) (s_consB (s_if (t_tv (s_ends (s_cut (t_sa C S 0 rfl rfl) (t_sa C S 3 rfl rfl) (t_sa C S 1 rfl rfl) (fun _ _ _ => rfl)) (t_nm C 1 rfl) rfl (fun _ => rfl) rfl) rfl) (s_consB (t_au C S 1 rfl rfl (t_bi C 0 .len W.b_len bv_len bn_len rfl rfl (s_consL rfl (t_nm C 1 rfl) s_nilL))) (s_oneB (s_ret s_bool))) s_nilB) (s_oneB (s_ret s_bool)))
theorem c_find_among (cd : Value) : fiChk (i_find_among cd) = true := by kernel_rfl
theorem gc_find_among (cd : Value) : glChk (i_find_among cd) ["len", "min", "ord", "range"] = true := by kernel_rfl
theorem w_find_among (W : WK g D) (n : Nat) : SF g 1 (D.fa 8) (F_find_among g.tobj D n) :=
  have C : CX g D (i_find_among (D.cd 8)) _ := ⟨W, c_find_among (D.cd 8), gc_find_among (D.cd 8)⟩
  have S : (i_find_among (D.cd 8)).names[(0 : Nat)]? = some "self" := rfl
  sF_of W.ok W.fn_find_among (d := 0) (s_consB (t_an C 2 rfl s_int rfl) (s_consB (t_an C 3 rfl (t_bi C 0 .len W.b_len bv_len bn_len rfl rfl (s_consL rfl (t_nm C 1 rfl) s_nilL)) rfl) (s_consB (t_an C 4 rfl (t_sa C S 1 rfl rfl) rfl) (s_consB (t_an C 5 rfl (t_sa C S 2 rfl rfl) rfl) (s_consB (t_an C 6 rfl s_int rfl) (s_consB (t_an C 7 rfl s_int rfl) (s_consB (t_an C 8 rfl s_bool rfl) (s_consB (t_wh C n (t_tv s_bool rfl) (s_consB (t_an C 9 rfl (s_bin (t_nm C 2 rfl) (s_bin (s_bin (t_nm C 3 rfl) (t_nm C 2 rfl)) s_int)) rfl) (s_consB (t_an C 10 rfl s_int rfl) (s_consB (t_an C 11 rfl (t_bi C 1 .min W.b_min bv_min bn_min rfl rfl (s_consL rfl (t_nm C 6 rfl) (s_consL rfl (t_nm C 7 rfl) s_nilL))) rfl) (s_consB (t_an C 12 rfl (t_ix C (t_nm C 1 rfl) (t_nm C 9 rfl) (fun _ _ => rfl)) rfl) (s_consB (t_fr C 3 13 rfl rfl rfl (s_consL rfl (t_nm C 11 rfl) (s_consL rfl (t_bi C 0 .len W.b_len bv_len bn_len rfl rfl (s_consL rfl (s_s W.ok W.hT (fun _ => rfl) (t_nm C 12 rfl)) s_nilL)) s_nilL)) (s_consB (s_if (t_tc C (s_bin (t_nm C 4 rfl) (t_nm C 11 rfl)) (t_nm C 5 rfl) rfl) (s_consB (t_an C 10 rfl (s_neg s_int) rfl) (s_oneB s_break)) s_nilB) (s_consB (t_an C 10 rfl (s_bin (t_bi C 2 .ord W.b_ord bv_ord bn_ord rfl rfl (s_consL rfl (t_ix C (t_sa C S 0 rfl rfl) (s_bin (t_nm C 4 rfl) (t_nm C 11 rfl)) (fun _ _ => rfl)) s_nilL)) (t_bi C 2 .ord W.b_ord bv_ord bn_ord rfl rfl (s_consL rfl (t_ix C (s_s W.ok W.hT (fun _ => rfl) (t_nm C 12 rfl)) (t_nm C 13 rfl) (fun _ _ => rfl)) s_nilL))) rfl) (s_consB (s_if (t_tc C (t_nm C 10 rfl) s_int rfl) (s_oneB s_break) s_nilB) (s_oneB (t_ax C 11 rfl rfl s_int)))))) (s_consB (s_if (t_tc C (t_nm C 10 rfl) s_int rfl) (s_consB (t_an C 3 rfl (t_nm C 9 rfl) rfl) (s_oneB (t_an C 7 rfl (t_nm C 11 rfl) rfl))) (s_consB (t_an C 2 rfl (t_nm C 9 rfl) rfl) (s_oneB (t_an C 6 rfl (t_nm C 11 rfl) rfl)))) (s_oneB (s_if (t_tc C (s_bin (t_nm C 3 rfl) (t_nm C 2 rfl)) s_int rfl) (s_consB (s_if (t_tc C (t_nm C 2 rfl) s_int rfl) (s_oneB s_break) s_nilB) (s_consB (s_if (t_tc C (t_nm C 3 rfl) (t_nm C 2 rfl) rfl) (s_oneB s_break) s_nilB) (s_consB (s_if (t_tv (t_nm C 8 rfl) rfl) (s_oneB s_break) s_nilB) (s_oneB (t_an C 8 rfl s_bool rfl))))) s_nilB))))))))) (s_consB (t_wh C n (t_tv s_bool rfl) (s_consB (t_an C 12 rfl (t_ix C (t_nm C 1 rfl) (t_nm C 2 rfl) (fun _ _ => rfl)) rfl) (s_consB (s_if (t_tc C (t_nm C 6 rfl) (t_bi C 0 .len W.b_len bv_len bn_len rfl rfl (s_consL rfl (s_s W.ok W.hT (fun _ => rfl) (t_nm C 12 rfl)) s_nilL)) rfl) (s_consB (t_as C S 1 rfl rfl (s_bin (t_nm C 4 rfl) (t_bi C 0 .len W.b_len bv_len bn_len rfl rfl (s_consL rfl (s_s W.ok W.hT (fun _ => rfl) (t_nm C 12 rfl)) s_nilL)))) (s_oneB (s_ret (s_res W.ok W.hT (fun _ => rfl) (t_nm C 12 rfl))))) s_nilB) (s_consB (t_an C 2 rfl (s_sub W.ok W.hT (fun _ => rfl) (t_nm C 12 rfl)) rfl) (s_oneB (s_if (t_tc C (t_nm C 2 rfl) s_int rfl) (s_oneB (s_ret s_int)) s_nilB)))))) (s_oneB (s_ret (s_neg s_int))))))))))))
theorem c_find_among_b (cd : Value) : fiChk (i_find_among_b cd) = true := by kernel_rfl
theorem gc_find_among_b (cd : Value) : glChk (i_find_among_b cd) ["len", "min", "ord", "range"] = true := by kernel_rfl
theorem w_find_among_b (W : WK g D) (n : Nat) : SF g 1 (D.fa 9) (F_find_among_b g.tobj D n) :=
  have C : CX g D (i_find_among_b (D.cd 9)) _ := ⟨W, c_find_among_b (D.cd 9), gc_find_among_b (D.cd 9)⟩
  have S : (i_find_among_b (D.cd 9)).names[(0 : Nat)]? = some "self" := rfl
  sF_of W.ok W.fn_find_among_b (d := 0) (s_consB (t_an C 2 rfl s_int rfl) (s_consB (t_an C 3 rfl (t_bi C 0 .len W.b_len bv_len bn_len rfl rfl (s_consL rfl (t_nm C 1 rfl) s_nilL)) rfl) (s_consB (t_an C 4 rfl (t_sa C S 1 rfl rfl) rfl) (s_consB (t_an C 5 rfl (t_sa C S 3 rfl rfl) rfl) (s_consB (t_an C 6 rfl s_int rfl) (s_consB (t_an C 7 rfl s_int rfl) (s_consB (t_an C 8 rfl s_bool rfl) (s_consB (t_wh C n (t_tv s_bool rfl) (s_consB (t_an C 9 rfl (s_bin (t_nm C 2 rfl) (s_bin (s_bin (t_nm C 3 rfl) (t_nm C 2 rfl)) s_int)) rfl) (s_consB (t_an C 10 rfl s_int rfl) (s_consB (t_an C 11 rfl (t_bi C 1 .min W.b_min bv_min bn_min rfl rfl (s_consL rfl (t_nm C 6 rfl) (s_consL rfl (t_nm C 7 rfl) s_nilL))) rfl) (s_consB (t_an C 12 rfl (t_ix C (t_nm C 1 rfl) (t_nm C 9 rfl) (fun _ _ => rfl)) rfl) (s_consB (t_fr C 3 13 rfl rfl rfl (s_consL rfl (s_bin (s_bin (t_bi C 0 .len W.b_len bv_len bn_len rfl rfl (s_consL rfl (s_s W.ok W.hT (fun _ => rfl) (t_nm C 12 rfl)) s_nilL)) s_int) (t_nm C 11 rfl)) (s_consL rfl (s_neg s_int) (s_consL rfl (s_neg s_int) s_nilL))) (s_consB (s_if (t_tc C (s_bin (t_nm C 4 rfl) (t_nm C 11 rfl)) (t_nm C 5 rfl) rfl) (s_consB (t_an C 10 rfl (s_neg s_int) rfl) (s_oneB s_break)) s_nilB) (s_consB (t_an C 10 rfl (s_bin (t_bi C 2 .ord W.b_ord bv_ord bn_ord rfl rfl (s_consL rfl (t_ix C (t_sa C S 0 rfl rfl) (s_bin (s_bin (t_nm C 4 rfl) s_int) (t_nm C 11 rfl)) (fun _ _ => rfl)) s_nilL)) (t_bi C 2 .ord W.b_ord bv_ord bn_ord rfl rfl (s_consL rfl (t_ix C (s_s W.ok W.hT (fun _ => rfl) (t_nm C 12 rfl)) (t_nm C 13 rfl) (fun _ _ => rfl)) s_nilL))) rfl) (s_consB (s_if (t_tc C (t_nm C 10 rfl) s_int rfl) (s_oneB s_break) s_nilB) (s_oneB (t_ax C 11 rfl rfl s_int)))))) (s_consB (s_if (t_tc C (t_nm C 10 rfl) s_int rfl) (s_consB (t_an C 3 rfl (t_nm C 9 rfl) rfl) (s_oneB (t_an C 7 rfl (t_nm C 11 rfl) rfl))) (s_consB (t_an C 2 rfl (t_nm C 9 rfl) rfl) (s_oneB (t_an C 6 rfl (t_nm C 11 rfl) rfl)))) (s_oneB (s_if (t_tc C (s_bin (t_nm C 3 rfl) (t_nm C 2 rfl)) s_int rfl) (s_consB (s_if (t_tc C (t_nm C 2 rfl) s_int rfl) (s_oneB s_break) s_nilB) (s_consB (s_if (t_tc C (t_nm C 3 rfl) (t_nm C 2 rfl) rfl) (s_oneB s_break) s_nilB) (s_consB (s_if (t_tv (t_nm C 8 rfl) rfl) (s_oneB s_break) s_nilB) (s_oneB (t_an C 8 rfl s_bool rfl))))) s_nilB))))))))) (s_consB (t_wh C n (t_tv s_bool rfl) (s_consB (t_an C 12 rfl (t_ix C (t_nm C 1 rfl) (t_nm C 2 rfl) (fun _ _ => rfl)) rfl) (s_consB (s_if (t_tc C (t_nm C 6 rfl) (t_bi C 0 .len W.b_len bv_len bn_len rfl rfl (s_consL rfl (s_s W.ok W.hT (fun _ => rfl) (t_nm C 12 rfl)) s_nilL)) rfl) (s_consB (t_as C S 1 rfl rfl (s_bin (t_nm C 4 rfl) (t_bi C 0 .len W.b_len bv_len bn_len rfl rfl (s_consL rfl (s_s W.ok W.hT (fun _ => rfl) (t_nm C 12 rfl)) s_nilL)))) (s_oneB (s_ret (s_res W.ok W.hT (fun _ => rfl) (t_nm C 12 rfl))))) s_nilB) (s_consB (t_an C 2 rfl (s_sub W.ok W.hT (fun _ => rfl) (t_nm C 12 rfl)) rfl) (s_oneB (s_if (t_tc C (t_nm C 2 rfl) s_int rfl) (s_oneB (s_ret s_int)) s_nilB)))))) (s_oneB (s_ret (s_neg s_int))))))))))))
theorem c_replace_s (cd : Value) : fiChk (i_replace_s cd) = true := by kernel_rfl
theorem gc_replace_s (cd : Value) : glChk (i_replace_s cd) ["len"] = true := by kernel_rfl
theorem w_replace_s (W : WK g D) (n : Nat) : SF g 1 (D.fa 10) (F_replace_s g.tobj D n) :=
  have C : CX g D (i_replace_s (D.cd 10)) _ := ⟨W, c_replace_s (D.cd 10), gc_replace_s (D.cd 10)⟩
  have S : (i_replace_s (D.cd 10)).names[(0 : Nat)]? = some "self" := rfl
  sF_of W.ok W.fn_replace_s (d := 0) (s_consB (t_an C 4 rfl (s_bin (t_bi C 0 .len W.b_len bv_len bn_len rfl rfl (s_consL rfl (t_nm C 3 rfl) s_nilL)) (s_bin (t_nm C 2 rfl) (t_nm C 1 rfl))) rfl) (s_consB (t_as C S 0 rfl rfl (s_bin (s_bin (s_cut (t_sa C S 0 rfl rfl) s_int (t_nm C 1 rfl) (fun _ _ _ => rfl)) (t_nm C 3 rfl)) (s_from (t_sa C S 0 rfl rfl) (t_nm C 2 rfl) (fun _ _ _ => rfl)))) (s_consB (t_au C S 2 rfl rfl (t_nm C 4 rfl)) (s_consB (s_if (t_tc C (t_sa C S 1 rfl rfl) (t_nm C 2 rfl) rfl) (s_oneB (t_au C S 1 rfl rfl (t_nm C 4 rfl))) (s_oneB (s_if (t_tc C (t_sa C S 1 rfl rfl) (t_nm C 1 rfl) rfl) (s_oneB (t_as C S 1 rfl rfl (t_nm C 1 rfl))) s_nilB))) (s_oneB (s_ret (t_nm C 4 rfl)))))))
theorem c_slice_from (cd : Value) : fiChk (i_slice_from cd) = true := by kernel_rfl
theorem gc_slice_from (cd : Value) : glChk (i_slice_from cd) ["len"] = true := by kernel_rfl
theorem w_slice_from (W : WK g D) (n : Nat) : SF g 2 (D.fa 11) (F_slice_from g.tobj D n) :=
  have C : CX g D (i_slice_from (D.cd 11)) _ := ⟨W, c_slice_from (D.cd 11), gc_slice_from (D.cd 11)⟩
  have S : (i_slice_from (D.cd 11)).names[(0 : Nat)]? = some "self" := rfl
  sF_of W.ok W.fn_slice_from (d := 1) (s_consB (s_assert (t_tc C (t_sa C S 4 rfl rfl) s_int rfl)) (s_consB (s_assert (t_tc C (t_sa C S 4 rfl rfl) (t_sa C S 5 rfl rfl) rfl)) (s_consB (s_assert (t_tc C (t_sa C S 5 rfl rfl) (t_sa C S 2 rfl rfl) rfl)) (s_consB (s_assert (t_tc C (t_sa C S 2 rfl rfl) (t_bi C 0 .len W.b_len bv_len bn_len rfl rfl (s_consL rfl (t_sa C S 0 rfl rfl) s_nilL)) rfl)) (s_consB (t_ex C (t_me C S (w_replace_s W n) W.m_replace_s rfl (s_consL rfl (t_sa C S 4 rfl rfl) (s_consL rfl (t_sa C S 5 rfl rfl) (s_consL rfl (t_nm C 1 rfl) s_nilL)))) rfl) (s_oneB (t_as C S 5 rfl rfl (s_bin (t_sa C S 4 rfl rfl) (t_bi C 0 .len W.b_len bv_len bn_len rfl rfl (s_consL rfl (t_nm C 1 rfl) s_nilL))))))))))
theorem c_slice_del (cd : Value) : fiChk (i_slice_del cd) = true := by kernel_rfl
theorem gc_slice_del (cd : Value) : glChk (i_slice_del cd) [] = true := by kernel_rfl
theorem w_slice_del (W : WK g D) (n : Nat) : SF g 3 (D.fa 12) (F_slice_del g.tobj D n) :=
  have C : CX g D (i_slice_del (D.cd 12)) _ := ⟨W, c_slice_del (D.cd 12), gc_slice_del (D.cd 12)⟩
  have S : (i_slice_del (D.cd 12)).names[(0 : Nat)]? = some "self" := rfl
  sF_of W.ok W.fn_slice_del (d := 2) (s_oneB (s_ret (t_me C S (w_slice_from W n) W.m_slice_from rfl (s_consL rfl (s_str (by kernel_rfl)) s_nilL))))
theorem c_r_prelude (cd : Value) : fiChk (i_r_prelude cd) = true := by kernel_rfl
theorem gc_r_prelude (cd : Value) : glChk (i_r_prelude cd) ["DutchPorterStemmer", "lab0", "lab2", "lab3", "lab1"] = true := by kernel_rfl
theorem w_r_prelude (W : WK g D) (n : Nat) : SF g 3 (D.fa 13) (F_r_prelude g.tobj D n) :=
  have C : CX g D (i_r_prelude (D.cd 13)) _ := ⟨W, c_r_prelude (D.cd 13), gc_r_prelude (D.cd 13)⟩
  have S : (i_r_prelude (D.cd 13)).names[(0 : Nat)]? = some "self" := rfl
  sF_of W.ok W.fn_r_prelude (d := 2) (s_consB (t_an C 1 rfl (t_sa C S 1 rfl rfl) rfl) (s_consB (t_wh C n (t_tv s_bool rfl) (s_consB (t_an C 2 rfl (t_sa C S 1 rfl rfl) rfl) (s_consB (t_tr C 1 0 rfl (s_consB (t_as C S 4 rfl rfl (t_sa C S 1 rfl rfl)) (s_consB (t_an C 3 rfl (t_me C S (w_find_among W n) W.m_find_among rfl (s_consL rfl (t_ct C 0 W.tab0 rfl) s_nilL)) rfl) (s_consB (t_as C S 5 rfl rfl (t_sa C S 1 rfl rfl)) (s_consB (s_if (t_tc C (t_nm C 3 rfl) s_int rfl) (s_oneB (t_ex C (t_me C S (w_slice_from W n) W.m_slice_from rfl (s_consL rfl (s_str (by kernel_rfl)) s_nilL)) rfl)) (s_oneB (s_if (t_tc C (t_nm C 3 rfl) s_int rfl) (s_oneB (t_ex C (t_me C S (w_slice_from W n) W.m_slice_from rfl (s_consL rfl (s_str (by kernel_rfl)) s_nilL)) rfl)) (s_oneB (s_if (t_tc C (t_nm C 3 rfl) s_int rfl) (s_oneB (t_ex C (t_me C S (w_slice_from W n) W.m_slice_from rfl (s_consL rfl (s_str (by kernel_rfl)) s_nilL)) rfl)) (s_oneB (s_if (t_tc C (t_nm C 3 rfl) s_int rfl) (s_oneB (t_ex C (t_me C S (w_slice_from W n) W.m_slice_from rfl (s_consL rfl (s_str (by kernel_rfl)) s_nilL)) rfl)) (s_oneB (s_if (t_tc C (t_nm C 3 rfl) s_int rfl) (s_oneB (t_ex C (t_me C S (w_slice_from W n) W.m_slice_from rfl (s_consL rfl (s_str (by kernel_rfl)) s_nilL)) rfl)) (s_consB (s_if (t_tc C (t_sa C S 1 rfl rfl) (t_sa C S 2 rfl rfl) rfl) (s_oneB (t_ra C 1 0 rfl)) s_nilB) (s_oneB (t_au C S 1 rfl rfl s_int)))))))))))) (s_oneB s_cont)))))) (s_consB (t_as C S 1 rfl rfl (t_nm C 2 rfl)) (s_oneB s_break))))) (s_consB (t_as C S 1 rfl rfl (t_nm C 1 rfl)) (s_consB (t_an C 4 rfl (t_sa C S 1 rfl rfl) rfl) (s_consB (t_tr C 1 0 rfl (s_consB (t_as C S 4 rfl rfl (t_sa C S 1 rfl rfl)) (s_consB (s_if (s_tor (t_tc C (t_sa C S 1 rfl rfl) (t_sa C S 2 rfl rfl) rfl) (t_tc C (t_ix C (t_sa C S 0 rfl rfl) (t_sa C S 1 rfl rfl) (fun _ _ => rfl)) (s_str (by kernel_rfl)) rfl)) (s_consB (t_as C S 1 rfl rfl (t_nm C 4 rfl)) (s_oneB (t_ra C 1 0 rfl))) s_nilB) (s_consB (t_au C S 1 rfl rfl s_int) (s_consB (t_as C S 5 rfl rfl (t_sa C S 1 rfl rfl)) (s_oneB (t_ex C (t_me C S (w_slice_from W n) W.m_slice_from rfl (s_consL rfl (s_str (by kernel_rfl)) s_nilL)) rfl))))))) (s_consB (t_wh C n (t_tv s_bool rfl) (s_consB (t_an C 5 rfl (t_sa C S 1 rfl rfl) rfl) (s_consB (t_tr C 1 0 rfl (s_consB (s_if (s_tnot (t_tv (t_me C S (w_go_out_grouping W n) W.m_go_out_grouping rfl (s_consL rfl (t_ct C 0 W.tab6 rfl) s_nilL)) rfl)) (s_oneB (t_ra C 1 0 rfl)) s_nilB) (s_consB (t_au C S 1 rfl rfl s_int) (s_consB (t_an C 6 rfl (t_sa C S 1 rfl rfl) rfl) (s_consB (t_tr C 4 1 rfl (s_consB (t_as C S 4 rfl rfl (t_sa C S 1 rfl rfl)) (s_oneB (t_wh C n (t_tv s_bool rfl) (s_consB (t_an C 7 rfl (t_sa C S 1 rfl rfl) rfl) (s_consB (t_tr C 2 2 rfl (s_consB (s_if (s_tor (t_tc C (t_sa C S 1 rfl rfl) (t_sa C S 2 rfl rfl) rfl) (t_tc C (t_ix C (t_sa C S 0 rfl rfl) (t_sa C S 1 rfl rfl) (fun _ _ => rfl)) (s_str (by kernel_rfl)) rfl)) (s_oneB (t_ra C 2 2 rfl)) s_nilB) (s_consB (t_au C S 1 rfl rfl s_int) (s_consB (t_as C S 5 rfl rfl (t_sa C S 1 rfl rfl)) (s_consB (t_an C 8 rfl (t_sa C S 1 rfl rfl) rfl) (s_consB (t_tr C 3 3 rfl (s_consB (s_if (s_tnot (t_tv (t_me C S (w_in_grouping W n) W.m_in_grouping rfl (s_consL rfl (t_ct C 0 W.tab6 rfl) s_nilL)) rfl)) (s_oneB (t_ra C 3 3 rfl)) s_nilB) (s_oneB (t_ex C (t_me C S (w_slice_from W n) W.m_slice_from rfl (s_consL rfl (s_str (by kernel_rfl)) s_nilL)) rfl)))) (s_consB (t_as C S 1 rfl rfl (t_nm C 8 rfl)) (s_oneB s_break)))))))) (s_consB (t_as C S 1 rfl rfl (t_nm C 7 rfl)) (s_consB (s_if (s_tor (t_tc C (t_sa C S 1 rfl rfl) (t_sa C S 2 rfl rfl) rfl) (t_tc C (t_ix C (t_sa C S 0 rfl rfl) (t_sa C S 1 rfl rfl) (fun _ _ => rfl)) (s_str (by kernel_rfl)) rfl)) (s_consB (t_as C S 1 rfl rfl (t_nm C 6 rfl)) (s_oneB (t_ra C 4 1 rfl))) s_nilB) (s_consB (t_au C S 1 rfl rfl s_int) (s_consB (t_as C S 5 rfl rfl (t_sa C S 1 rfl rfl)) (s_consB (t_ex C (t_me C S (w_slice_from W n) W.m_slice_from rfl (s_consL rfl (s_str (by kernel_rfl)) s_nilL)) rfl) (s_oneB s_break)))))))))))) (s_oneB s_cont)))))) (s_consB (t_as C S 1 rfl rfl (t_nm C 5 rfl)) (s_oneB s_break))))) (s_oneB (s_ret s_bool))))))))
theorem c_r_mark_regions (cd : Value) : fiChk (i_r_mark_regions cd) = true := by kernel_rfl
theorem gc_r_mark_regions (cd : Value) : glChk (i_r_mark_regions cd) ["DutchPorterStemmer", "lab0"] = true := by kernel_rfl
theorem w_r_mark_regions (W : WK g D) (n : Nat) : SF g 2 (D.fa 14) (F_r_mark_regions g.tobj D n) :=
  have C : CX g D (i_r_mark_regions (D.cd 14)) _ := ⟨W, c_r_mark_regions (D.cd 14), gc_r_mark_regions (D.cd 14)⟩
  have S : (i_r_mark_regions (D.cd 14)).names[(0 : Nat)]? = some "self" := rfl
  sF_of W.ok W.fn_r_mark_regions (d := 1) (s_consB (t_as C S 6 rfl rfl (t_sa C S 2 rfl rfl)) (s_consB (t_as C S 7 rfl rfl (t_sa C S 2 rfl rfl)) (s_consB (t_an C 1 rfl (t_sa C S 1 rfl rfl) rfl) (s_consB (s_if (t_tc C (s_bin (t_sa C S 1 rfl rfl) s_int) (t_sa C S 2 rfl rfl) rfl) (s_oneB (s_ret s_bool)) s_nilB) (s_consB (t_au C S 1 rfl rfl s_int) (s_consB (t_an C 2 rfl (t_sa C S 1 rfl rfl) rfl) (s_consB (t_as C S 1 rfl rfl (t_nm C 1 rfl)) (s_consB (s_if (s_tnot (t_tv (t_me C S (w_go_out_grouping W n) W.m_go_out_grouping rfl (s_consL rfl (t_ct C 0 W.tab6 rfl) s_nilL)) rfl)) (s_oneB (s_ret s_bool)) s_nilB) (s_consB (t_au C S 1 rfl rfl s_int) (s_consB (s_if (s_tnot (t_tv (t_me C S (w_go_in_grouping W n) W.m_go_in_grouping rfl (s_consL rfl (t_ct C 0 W.tab6 rfl) s_nilL)) rfl)) (s_oneB (s_ret s_bool)) s_nilB) (s_consB (t_au C S 1 rfl rfl s_int) (s_consB (t_as C S 6 rfl rfl (t_sa C S 1 rfl rfl)) (s_consB (t_tr C 1 0 rfl (s_consB (s_if (t_tc C (t_sa C S 6 rfl rfl) (t_nm C 2 rfl) rfl) (s_oneB (t_ra C 1 0 rfl)) s_nilB) (s_oneB (t_as C S 6 rfl rfl (t_nm C 2 rfl))))) (s_consB (s_if (s_tnot (t_tv (t_me C S (w_go_out_grouping W n) W.m_go_out_grouping rfl (s_consL rfl (t_ct C 0 W.tab6 rfl) s_nilL)) rfl)) (s_oneB (s_ret s_bool)) s_nilB) (s_consB (t_au C S 1 rfl rfl s_int) (s_consB (s_if (s_tnot (t_tv (t_me C S (w_go_in_grouping W n) W.m_go_in_grouping rfl (s_consL rfl (t_ct C 0 W.tab6 rfl) s_nilL)) rfl)) (s_oneB (s_ret s_bool)) s_nilB) (s_consB (t_au C S 1 rfl rfl s_int) (s_consB (t_as C S 7 rfl rfl (t_sa C S 1 rfl rfl)) (s_oneB (s_ret s_bool))))))))))))))))))))
theorem c_r_postlude (cd : Value) : fiChk (i_r_postlude cd) = true := by kernel_rfl
theorem gc_r_postlude (cd : Value) : glChk (i_r_postlude cd) ["DutchPorterStemmer", "lab0"] = true := by kernel_rfl
theorem w_r_postlude (W : WK g D) (n : Nat) : SF g 3 (D.fa 15) (F_r_postlude g.tobj D n) :=
  have C : CX g D (i_r_postlude (D.cd 15)) _ := ⟨W, c_r_postlude (D.cd 15), gc_r_postlude (D.cd 15)⟩
  have S : (i_r_postlude (D.cd 15)).names[(0 : Nat)]? = some "self" := rfl
  sF_of W.ok W.fn_r_postlude (d := 2) (s_consB (t_wh C n (t_tv s_bool rfl) (s_consB (t_an C 1 rfl (t_sa C S 1 rfl rfl) rfl) (s_consB (t_tr C 1 0 rfl (s_consB (t_as C S 4 rfl rfl (t_sa C S 1 rfl rfl)) (s_consB (t_an C 2 rfl (t_me C S (w_find_among W n) W.m_find_among rfl (s_consL rfl (t_ct C 0 W.tab1 rfl) s_nilL)) rfl) (s_consB (t_as C S 5 rfl rfl (t_sa C S 1 rfl rfl)) (s_consB (s_if (t_tc C (t_nm C 2 rfl) s_int rfl) (s_oneB (t_ex C (t_me C S (w_slice_from W n) W.m_slice_from rfl (s_consL rfl (s_str (by kernel_rfl)) s_nilL)) rfl)) (s_oneB (s_if (t_tc C (t_nm C 2 rfl) s_int rfl) (s_oneB (t_ex C (t_me C S (w_slice_from W n) W.m_slice_from rfl (s_consL rfl (s_str (by kernel_rfl)) s_nilL)) rfl)) (s_consB (s_if (t_tc C (t_sa C S 1 rfl rfl) (t_sa C S 2 rfl rfl) rfl) (s_oneB (t_ra C 1 0 rfl)) s_nilB) (s_oneB (t_au C S 1 rfl rfl s_int)))))) (s_oneB s_cont)))))) (s_consB (t_as C S 1 rfl rfl (t_nm C 1 rfl)) (s_oneB s_break))))) (s_oneB (s_ret s_bool)))
theorem c_r_R1 (cd : Value) : fiChk (i_r_R1 cd) = true := by kernel_rfl
theorem gc_r_R1 (cd : Value) : glChk (i_r_R1 cd) [] = true := by kernel_rfl
theorem w_r_R1 (W : WK g D) (n : Nat) : SF g 1 (D.fa 16) (F_r_R1 g.tobj D n) :=
  have C : CX g D (i_r_R1 (D.cd 16)) _ := ⟨W, c_r_R1 (D.cd 16), gc_r_R1 (D.cd 16)⟩
  have S : (i_r_R1 (D.cd 16)).names[(0 : Nat)]? = some "self" := rfl
  sF_of W.ok W.fn_r_R1 (d := 0) (s_oneB (s_ret (t_cm C (t_sa C S 6 rfl rfl) (t_sa C S 1 rfl rfl) rfl)))
theorem c_r_R2 (cd : Value) : fiChk (i_r_R2 cd) = true := by kernel_rfl
theorem gc_r_R2 (cd : Value) : glChk (i_r_R2 cd) [] = true := by kernel_rfl
theorem w_r_R2 (W : WK g D) (n : Nat) : SF g 1 (D.fa 17) (F_r_R2 g.tobj D n) :=
  have C : CX g D (i_r_R2 (D.cd 17)) _ := ⟨W, c_r_R2 (D.cd 17), gc_r_R2 (D.cd 17)⟩
  have S : (i_r_R2 (D.cd 17)).names[(0 : Nat)]? = some "self" := rfl
  sF_of W.ok W.fn_r_R2 (d := 0) (s_oneB (s_ret (t_cm C (t_sa C S 7 rfl rfl) (t_sa C S 1 rfl rfl) rfl)))
theorem c_r_undouble (cd : Value) : fiChk (i_r_undouble cd) = true := by kernel_rfl
theorem gc_r_undouble (cd : Value) : glChk (i_r_undouble cd) ["DutchPorterStemmer"] = true := by kernel_rfl
theorem w_r_undouble (W : WK g D) (n : Nat) : SF g 4 (D.fa 18) (F_r_undouble g.tobj D n) :=
  have C : CX g D (i_r_undouble (D.cd 18)) _ := ⟨W, c_r_undouble (D.cd 18), gc_r_undouble (D.cd 18)⟩
  have S : (i_r_undouble (D.cd 18)).names[(0 : Nat)]? = some "self" := rfl
  sF_of W.ok W.fn_r_undouble (d := 3) (s_consB (t_an C 1 rfl (s_bin (t_sa C S 2 rfl rfl) (t_sa C S 1 rfl rfl)) rfl) (s_consB (s_if (t_tc C (t_me C S (w_find_among_b W n) W.m_find_among_b rfl (s_consL rfl (t_ct C 0 W.tab2 rfl) s_nilL)) s_int rfl) (s_oneB (s_ret s_bool)) s_nilB) (s_consB (t_as C S 1 rfl rfl (s_bin (t_sa C S 2 rfl rfl) (t_nm C 1 rfl))) (s_consB (t_as C S 5 rfl rfl (t_sa C S 1 rfl rfl)) (s_consB (s_if (t_tc C (t_sa C S 1 rfl rfl) (t_sa C S 3 rfl rfl) rfl) (s_oneB (s_ret s_bool)) s_nilB) (s_consB (t_au C S 1 rfl rfl s_int) (s_consB (t_as C S 4 rfl rfl (t_sa C S 1 rfl rfl)) (s_consB (t_ex C (t_me C S (w_slice_del W n) W.m_slice_del rfl s_nilL) rfl) (s_oneB (s_ret s_bool))))))))))
theorem c_r_e_ending (cd : Value) : fiChk (i_r_e_ending cd) = true := by kernel_rfl
theorem gc_r_e_ending (cd : Value) : glChk (i_r_e_ending cd) ["DutchPorterStemmer"] = true := by kernel_rfl
theorem w_r_e_ending (W : WK g D) (n : Nat) : SF g 5 (D.fa 19) (F_r_e_ending g.tobj D n) :=
  have C : CX g D (i_r_e_ending (D.cd 19)) _ := ⟨W, c_r_e_ending (D.cd 19), gc_r_e_ending (D.cd 19)⟩
  have S : (i_r_e_ending (D.cd 19)).names[(0 : Nat)]? = some "self" := rfl
  sF_of W.ok W.fn_r_e_ending (d := 4) (s_consB (t_as C S 8 rfl rfl s_bool) (s_consB (t_as C S 5 rfl rfl (t_sa C S 1 rfl rfl)) (s_consB (s_if (s_tor (t_tc C (t_sa C S 1 rfl rfl) (t_sa C S 3 rfl rfl) rfl) (t_tc C (t_ix C (t_sa C S 0 rfl rfl) (s_bin (t_sa C S 1 rfl rfl) s_int) (fun _ _ => rfl)) (s_str (by kernel_rfl)) rfl)) (s_oneB (s_ret s_bool)) s_nilB) (s_consB (t_au C S 1 rfl rfl s_int) (s_consB (t_as C S 4 rfl rfl (t_sa C S 1 rfl rfl)) (s_consB (s_if (s_tnot (t_tv (t_me C S (w_r_R1 W n) W.m_r_R1 rfl s_nilL) rfl)) (s_oneB (s_ret s_bool)) s_nilB) (s_consB (t_an C 1 rfl (s_bin (t_sa C S 2 rfl rfl) (t_sa C S 1 rfl rfl)) rfl) (s_consB (s_if (s_tnot (t_tv (t_me C S (w_out_grouping_b W n) W.m_out_grouping_b rfl (s_consL rfl (t_ct C 0 W.tab6 rfl) s_nilL)) rfl)) (s_oneB (s_ret s_bool)) s_nilB) (s_consB (t_as C S 1 rfl rfl (s_bin (t_sa C S 2 rfl rfl) (t_nm C 1 rfl))) (s_consB (t_ex C (t_me C S (w_slice_del W n) W.m_slice_del rfl s_nilL) rfl) (s_consB (t_as C S 8 rfl rfl s_bool) (s_oneB (s_ret (t_me C S (w_r_undouble W n) W.m_r_undouble rfl s_nilL))))))))))))))
theorem c_r_en_ending (cd : Value) : fiChk (i_r_en_ending cd) = true := by kernel_rfl
theorem gc_r_en_ending (cd : Value) : glChk (i_r_en_ending cd) ["DutchPorterStemmer", "lab0"] = true := by kernel_rfl
theorem w_r_en_ending (W : WK g D) (n : Nat) : SF g 5 (D.fa 20) (F_r_en_ending g.tobj D n) :=
  have C : CX g D (i_r_en_ending (D.cd 20)) _ := ⟨W, c_r_en_ending (D.cd 20), gc_r_en_ending (D.cd 20)⟩
  have S : (i_r_en_ending (D.cd 20)).names[(0 : Nat)]? = some "self" := rfl
  sF_of W.ok W.fn_r_en_ending (d := 4) (s_consB (s_if (s_tnot (t_tv (t_me C S (w_r_R1 W n) W.m_r_R1 rfl s_nilL) rfl)) (s_oneB (s_ret s_bool)) s_nilB) (s_consB (t_an C 1 rfl (s_bin (t_sa C S 2 rfl rfl) (t_sa C S 1 rfl rfl)) rfl) (s_consB (s_if (s_tnot (t_tv (t_me C S (w_out_grouping_b W n) W.m_out_grouping_b rfl (s_consL rfl (t_ct C 0 W.tab6 rfl) s_nilL)) rfl)) (s_oneB (s_ret s_bool)) s_nilB) (s_consB (t_as C S 1 rfl rfl (s_bin (t_sa C S 2 rfl rfl) (t_nm C 1 rfl))) (s_consB (t_tr C 1 0 rfl (s_consB (s_if (s_tnot (t_tv (t_me C S (w_eq_s_b W n) W.m_eq_s_b rfl (s_consL rfl (s_str (by kernel_rfl)) s_nilL)) rfl)) (s_oneB (t_ra C 1 0 rfl)) s_nilB) (s_oneB (s_ret s_bool)))) (s_consB (t_ex C (t_me C S (w_slice_del W n) W.m_slice_del rfl s_nilL) rfl) (s_oneB (s_ret (t_me C S (w_r_undouble W n) W.m_r_undouble rfl s_nilL)))))))))
theorem c_r_standard_suffix (cd : Value) : fiChk (i_r_standard_suffix cd) = true := by kernel_rfl
theorem gc_r_standard_suffix (cd : Value) : glChk (i_r_standard_suffix cd) ["DutchPorterStemmer", "lab0", "lab1", "lab2"] = true := by kernel_rfl
theorem w_r_standard_suffix (W : WK g D) (n : Nat) : SF g 6 (D.fa 21) (F_r_standard_suffix g.tobj D n) :=
  have C : CX g D (i_r_standard_suffix (D.cd 21)) _ := ⟨W, c_r_standard_suffix (D.cd 21), gc_r_standard_suffix (D.cd 21)⟩
  have S : (i_r_standard_suffix (D.cd 21)).names[(0 : Nat)]? = some "self" := rfl
  sF_of W.ok W.fn_r_standard_suffix (d := 5) (s_consB (t_an C 1 rfl (s_bin (t_sa C S 2 rfl rfl) (t_sa C S 1 rfl rfl)) rfl) (s_consB (t_tr C 1 0 rfl (s_consB (t_as C S 5 rfl rfl (t_sa C S 1 rfl rfl)) (s_consB (t_an C 2 rfl (t_me C S (w_find_among_b W n) W.m_find_among_b rfl (s_consL rfl (t_ct C 0 W.tab3 rfl) s_nilL)) rfl) (s_consB (s_if (t_tc C (t_nm C 2 rfl) s_int rfl) (s_oneB (t_ra C 1 0 rfl)) s_nilB) (s_consB (t_as C S 4 rfl rfl (t_sa C S 1 rfl rfl)) (s_oneB (s_if (t_tc C (t_nm C 2 rfl) s_int rfl) (s_consB (s_if (s_tnot (t_tv (t_me C S (w_r_R1 W n) W.m_r_R1 rfl s_nilL) rfl)) (s_oneB (t_ra C 1 0 rfl)) s_nilB) (s_oneB (t_ex C (t_me C S (w_slice_from W n) W.m_slice_from rfl (s_consL rfl (s_str (by kernel_rfl)) s_nilL)) rfl))) (s_oneB (s_if (t_tc C (t_nm C 2 rfl) s_int rfl) (s_oneB (s_if (s_tnot (t_tv (t_me C S (w_r_en_ending W n) W.m_r_en_ending rfl s_nilL) rfl)) (s_oneB (t_ra C 1 0 rfl)) s_nilB)) (s_consB (s_if (s_tnot (t_tv (t_me C S (w_r_R1 W n) W.m_r_R1 rfl s_nilL) rfl)) (s_oneB (t_ra C 1 0 rfl)) s_nilB) (s_consB (s_if (s_tnot (t_tv (t_me C S (w_out_grouping_b W n) W.m_out_grouping_b rfl (s_consL rfl (t_ct C 0 W.tab8 rfl) s_nilL)) rfl)) (s_oneB (t_ra C 1 0 rfl)) s_nilB) (s_oneB (t_ex C (t_me C S (w_slice_del W n) W.m_slice_del rfl s_nilL) rfl))))))))))))) (s_consB (t_as C S 1 rfl rfl (s_bin (t_sa C S 2 rfl rfl) (t_nm C 1 rfl))) (s_consB (t_an C 3 rfl (s_bin (t_sa C S 2 rfl rfl) (t_sa C S 1 rfl rfl)) rfl) (s_consB (t_ex C (t_me C S (w_r_e_ending W n) W.m_r_e_ending rfl s_nilL) rfl) (s_consB (t_as C S 1 rfl rfl (s_bin (t_sa C S 2 rfl rfl) (t_nm C 3 rfl))) (s_consB (t_an C 4 rfl (s_bin (t_sa C S 2 rfl rfl) (t_sa C S 1 rfl rfl)) rfl) (s_consB (t_tr C 1 0 rfl (s_consB (t_as C S 5 rfl rfl (t_sa C S 1 rfl rfl)) (s_consB (s_if (s_tnot (t_tv (t_me C S (w_eq_s_b W n) W.m_eq_s_b rfl (s_consL rfl (s_str (by kernel_rfl)) s_nilL)) rfl)) (s_oneB (t_ra C 1 0 rfl)) s_nilB) (s_consB (t_as C S 4 rfl rfl (t_sa C S 1 rfl rfl)) (s_consB (s_if (s_tnot (t_tv (t_me C S (w_r_R2 W n) W.m_r_R2 rfl s_nilL) rfl)) (s_oneB (t_ra C 1 0 rfl)) s_nilB) (s_consB (t_tr C 2 1 rfl (s_consB (s_if (s_tor (t_tc C (t_sa C S 1 rfl rfl) (t_sa C S 3 rfl rfl) rfl) (t_tc C (t_ix C (t_sa C S 0 rfl rfl) (s_bin (t_sa C S 1 rfl rfl) s_int) (fun _ _ => rfl)) (s_str (by kernel_rfl)) rfl)) (s_oneB (t_ra C 2 1 rfl)) s_nilB) (s_consB (t_au C S 1 rfl rfl s_int) (s_oneB (t_ra C 1 0 rfl))))) (s_consB (t_ex C (t_me C S (w_slice_del W n) W.m_slice_del rfl s_nilL) rfl) (s_consB (t_as C S 5 rfl rfl (t_sa C S 1 rfl rfl)) (s_consB (s_if (s_tnot (t_tv (t_me C S (w_eq_s_b W n) W.m_eq_s_b rfl (s_consL rfl (s_str (by kernel_rfl)) s_nilL)) rfl)) (s_oneB (t_ra C 1 0 rfl)) s_nilB) (s_consB (t_as C S 4 rfl rfl (t_sa C S 1 rfl rfl)) (s_oneB (s_if (s_tnot (t_tv (t_me C S (w_r_en_ending W n) W.m_r_en_ending rfl s_nilL) rfl)) (s_oneB (t_ra C 1 0 rfl)) s_nilB)))))))))))) (s_consB (t_as C S 1 rfl rfl (s_bin (t_sa C S 2 rfl rfl) (t_nm C 4 rfl))) (s_consB (t_an C 5 rfl (s_bin (t_sa C S 2 rfl rfl) (t_sa C S 1 rfl rfl)) rfl) (s_consB (t_tr C 1 0 rfl (s_consB (t_as C S 5 rfl rfl (t_sa C S 1 rfl rfl)) (s_consB (t_an C 2 rfl (t_me C S (w_find_among_b W n) W.m_find_among_b rfl (s_consL rfl (t_ct C 0 W.tab4 rfl) s_nilL)) rfl) (s_consB (s_if (t_tc C (t_nm C 2 rfl) s_int rfl) (s_oneB (t_ra C 1 0 rfl)) s_nilB) (s_consB (t_as C S 4 rfl rfl (t_sa C S 1 rfl rfl)) (s_oneB (s_if (t_tc C (t_nm C 2 rfl) s_int rfl) (s_consB (s_if (s_tnot (t_tv (t_me C S (w_r_R2 W n) W.m_r_R2 rfl s_nilL) rfl)) (s_oneB (t_ra C 1 0 rfl)) s_nilB) (s_consB (t_ex C (t_me C S (w_slice_del W n) W.m_slice_del rfl s_nilL) rfl) (s_oneB (t_wh C n (t_tv s_bool rfl) (s_consB (t_an C 6 rfl (s_bin (t_sa C S 2 rfl rfl) (t_sa C S 1 rfl rfl)) rfl) (s_consB (t_tr C 2 1 rfl (s_consB (t_as C S 5 rfl rfl (t_sa C S 1 rfl rfl)) (s_consB (s_if (s_tnot (t_tv (t_me C S (w_eq_s_b W n) W.m_eq_s_b rfl (s_consL rfl (s_str (by kernel_rfl)) s_nilL)) rfl)) (s_oneB (t_ra C 2 1 rfl)) s_nilB) (s_consB (t_as C S 4 rfl rfl (t_sa C S 1 rfl rfl)) (s_consB (s_if (s_tnot (t_tv (t_me C S (w_r_R2 W n) W.m_r_R2 rfl s_nilL) rfl)) (s_oneB (t_ra C 2 1 rfl)) s_nilB) (s_consB (t_tr C 3 2 rfl (s_consB (s_if (s_tor (t_tc C (t_sa C S 1 rfl rfl) (t_sa C S 3 rfl rfl) rfl) (t_tc C (t_ix C (t_sa C S 0 rfl rfl) (s_bin (t_sa C S 1 rfl rfl) s_int) (fun _ _ => rfl)) (s_str (by kernel_rfl)) rfl)) (s_oneB (t_ra C 3 2 rfl)) s_nilB) (s_consB (t_au C S 1 rfl rfl s_int) (s_oneB (t_ra C 2 1 rfl))))) (s_consB (t_ex C (t_me C S (w_slice_del W n) W.m_slice_del rfl s_nilL) rfl) (s_oneB s_break)))))))) (s_consB (t_as C S 1 rfl rfl (s_bin (t_sa C S 2 rfl rfl) (t_nm C 6 rfl))) (s_consB (s_if (s_tnot (t_tv (t_me C S (w_r_undouble W n) W.m_r_undouble rfl s_nilL) rfl)) (s_oneB (t_ra C 1 0 rfl)) s_nilB) (s_oneB s_break))))))))) (s_oneB (s_if (t_tc C (t_nm C 2 rfl) s_int rfl) (s_consB (s_if (s_tnot (t_tv (t_me C S (w_r_R2 W n) W.m_r_R2 rfl s_nilL) rfl)) (s_oneB (t_ra C 1 0 rfl)) s_nilB) (s_consB (t_tr C 2 1 rfl (s_consB (s_if (s_tor (t_tc C (t_sa C S 1 rfl rfl) (t_sa C S 3 rfl rfl) rfl) (t_tc C (t_ix C (t_sa C S 0 rfl rfl) (s_bin (t_sa C S 1 rfl rfl) s_int) (fun _ _ => rfl)) (s_str (by kernel_rfl)) rfl)) (s_oneB (t_ra C 2 1 rfl)) s_nilB) (s_consB (t_au C S 1 rfl rfl s_int) (s_oneB (t_ra C 1 0 rfl))))) (s_oneB (t_ex C (t_me C S (w_slice_del W n) W.m_slice_del rfl s_nilL) rfl)))) (s_oneB (s_if (t_tc C (t_nm C 2 rfl) s_int rfl) (s_consB (s_if (s_tnot (t_tv (t_me C S (w_r_R2 W n) W.m_r_R2 rfl s_nilL) rfl)) (s_oneB (t_ra C 1 0 rfl)) s_nilB) (s_consB (t_ex C (t_me C S (w_slice_del W n) W.m_slice_del rfl s_nilL) rfl) (s_oneB (s_if (s_tnot (t_tv (t_me C S (w_r_e_ending W n) W.m_r_e_ending rfl s_nilL) rfl)) (s_oneB (t_ra C 1 0 rfl)) s_nilB)))) (s_oneB (s_if (t_tc C (t_nm C 2 rfl) s_int rfl) (s_consB (s_if (s_tnot (t_tv (t_me C S (w_r_R2 W n) W.m_r_R2 rfl s_nilL) rfl)) (s_oneB (t_ra C 1 0 rfl)) s_nilB) (s_oneB (t_ex C (t_me C S (w_slice_del W n) W.m_slice_del rfl s_nilL) rfl))) (s_consB (s_if (s_tnot (t_tv (t_me C S (w_r_R2 W n) W.m_r_R2 rfl s_nilL) rfl)) (s_oneB (t_ra C 1 0 rfl)) s_nilB) (s_consB (s_if (s_tnot (t_tv (t_sa C S 8 rfl rfl) rfl)) (s_oneB (t_ra C 1 0 rfl)) s_nilB) (s_oneB (t_ex C (t_me C S (w_slice_del W n) W.m_slice_del rfl s_nilL) rfl))))))))))))))))) (s_consB (t_as C S 1 rfl rfl (s_bin (t_sa C S 2 rfl rfl) (t_nm C 5 rfl))) (s_consB (t_an C 7 rfl (s_bin (t_sa C S 2 rfl rfl) (t_sa C S 1 rfl rfl)) rfl) (s_consB (t_tr C 1 0 rfl (s_consB (s_if (s_tnot (t_tv (t_me C S (w_out_grouping_b W n) W.m_out_grouping_b rfl (s_consL rfl (t_ct C 0 W.tab7 rfl) s_nilL)) rfl)) (s_oneB (t_ra C 1 0 rfl)) s_nilB) (s_consB (t_an C 8 rfl (s_bin (t_sa C S 2 rfl rfl) (t_sa C S 1 rfl rfl)) rfl) (s_consB (s_if (t_tc C (t_me C S (w_find_among_b W n) W.m_find_among_b rfl (s_consL rfl (t_ct C 0 W.tab5 rfl) s_nilL)) s_int rfl) (s_oneB (t_ra C 1 0 rfl)) s_nilB) (s_consB (s_if (s_tnot (t_tv (t_me C S (w_out_grouping_b W n) W.m_out_grouping_b rfl (s_consL rfl (t_ct C 0 W.tab6 rfl) s_nilL)) rfl)) (s_oneB (t_ra C 1 0 rfl)) s_nilB) (s_consB (t_as C S 1 rfl rfl (s_bin (t_sa C S 2 rfl rfl) (t_nm C 8 rfl))) (s_consB (t_as C S 5 rfl rfl (t_sa C S 1 rfl rfl)) (s_consB (s_if (t_tc C (t_sa C S 1 rfl rfl) (t_sa C S 3 rfl rfl) rfl) (s_oneB (t_ra C 1 0 rfl)) s_nilB) (s_consB (t_au C S 1 rfl rfl s_int) (s_consB (t_as C S 4 rfl rfl (t_sa C S 1 rfl rfl)) (s_oneB (t_ex C (t_me C S (w_slice_del W n) W.m_slice_del rfl s_nilL) rfl)))))))))))) (s_consB (t_as C S 1 rfl rfl (s_bin (t_sa C S 2 rfl rfl) (t_nm C 7 rfl))) (s_oneB (s_ret s_bool)))))))))))))))))
theorem c_stem (cd : Value) : fiChk (i_stem cd) = true := by kernel_rfl
theorem gc_stem (cd : Value) : glChk (i_stem cd) [] = true := by kernel_rfl
theorem w_stem (W : WK g D) (n : Nat) : SF g 7 (D.fa 22) (F_stem g.tobj D n) :=
  have C : CX g D (i_stem (D.cd 22)) _ := ⟨W, c_stem (D.cd 22), gc_stem (D.cd 22)⟩
  have S : (i_stem (D.cd 22)).names[(0 : Nat)]? = some "self" := rfl
  sF_of W.ok W.fn_stem (d := 6) (s_consB (t_an C 1 rfl (t_sa C S 1 rfl rfl) rfl) (s_consB (t_ex C (t_me C S (w_r_prelude W n) W.m_r_prelude rfl s_nilL) rfl) (s_consB (t_as C S 1 rfl rfl (t_nm C 1 rfl)) (s_consB (t_an C 2 rfl (t_sa C S 1 rfl rfl) rfl) (s_consB (t_ex C (t_me C S (w_r_mark_regions W n) W.m_r_mark_regions rfl s_nilL) rfl) (s_consB (t_as C S 1 rfl rfl (t_nm C 2 rfl)) (s_consB (t_as C S 3 rfl rfl (t_sa C S 1 rfl rfl)) (s_consB (t_as C S 1 rfl rfl (t_sa C S 2 rfl rfl)) (s_consB (t_ex C (t_me C S (w_r_standard_suffix W n) W.m_r_standard_suffix rfl s_nilL) rfl) (s_consB (t_as C S 1 rfl rfl (t_sa C S 3 rfl rfl)) (s_consB (t_an C 3 rfl (t_sa C S 1 rfl rfl) rfl) (s_consB (t_ex C (t_me C S (w_r_postlude W n) W.m_r_postlude rfl s_nilL) rfl) (s_consB (t_as C S 1 rfl rfl (t_nm C 3 rfl)) (s_oneB (s_ret s_bool)))))))))))))))
theorem c_stemWord (cd : Value) : fiChk (i_stemWord cd) = true := by kernel_rfl
theorem gc_stemWord (cd : Value) : glChk (i_stemWord cd) [] = true := by kernel_rfl
theorem w_stemWord (W : WK g D) (n : Nat) : SF g 8 (D.fa 23) (F_stemWord g.tobj D n) :=
  have C : CX g D (i_stemWord (D.cd 23)) _ := ⟨W, c_stemWord (D.cd 23), gc_stemWord (D.cd 23)⟩
  have S : (i_stemWord (D.cd 23)).names[(0 : Nat)]? = some "self" := rfl
  sF_of W.ok W.fn_stemWord (d := 7) (s_consB (t_ex C (t_me C S (w_set_current W n) W.m_set_current rfl (s_consL rfl (t_nm C 1 rfl) s_nilL)) rfl) (s_consB (t_ex C (t_me C S (w_stem W n) W.m_stem rfl s_nilL) rfl) (s_oneB (s_ret (t_me C S (w_get_current W n) W.m_get_current rfl s_nilL)))))
theorem c_law_vowels (cd : Value) : fiChk (i_law_vowels cd) = true := by kernel_rfl
theorem gc_law_vowels (cd : Value) : glChk (i_law_vowels cd) [] = true := by kernel_rfl
theorem w_law_vowels (W : WK g D) (n : Nat) : SF g 1 (D.fa 24) (F_law_vowels g.tobj D n) :=
  have C : CX g D (i_law_vowels (D.cd 24)) _ := ⟨W, c_law_vowels (D.cd 24), gc_law_vowels (D.cd 24)⟩
  sF_of W.ok W.fn_law_vowels (d := 0) (s_oneB (s_ret (s_list (s_consL rfl (s_tuple (s_consL rfl (s_str (by kernel_rfl)) (s_consL rfl (s_str (by kernel_rfl)) s_nilL))) (s_consL rfl (s_tuple (s_consL rfl (s_str (by kernel_rfl)) (s_consL rfl (s_str (by kernel_rfl)) s_nilL))) (s_consL rfl (s_tuple (s_consL rfl (s_str (by kernel_rfl)) (s_consL rfl (s_str (by kernel_rfl)) s_nilL))) (s_consL rfl (s_tuple (s_consL rfl (s_str (by kernel_rfl)) (s_consL rfl (s_str (by kernel_rfl)) s_nilL))) (s_consL rfl (s_tuple (s_consL rfl (s_str (by kernel_rfl)) (s_consL rfl (s_str (by kernel_rfl)) s_nilL))) (s_consL rfl (s_tuple (s_consL rfl (s_str (by kernel_rfl)) (s_consL rfl (s_str (by kernel_rfl)) s_nilL))) (s_consL rfl (s_tuple (s_consL rfl (s_str (by kernel_rfl)) (s_consL rfl (s_str (by kernel_rfl)) s_nilL))) (s_consL rfl (s_tuple (s_consL rfl (s_str (by kernel_rfl)) (s_consL rfl (s_str (by kernel_rfl)) s_nilL))) (s_consL rfl (s_tuple (s_consL rfl (s_str (by kernel_rfl)) (s_consL rfl (s_str (by kernel_rfl)) s_nilL))) (s_consL rfl (s_tuple (s_consL rfl (s_str (by kernel_rfl)) (s_consL rfl (s_str (by kernel_rfl)) s_nilL))) (s_consL rfl (s_tuple (s_consL rfl (s_str (by kernel_rfl)) (s_consL rfl (s_str (by kernel_rfl)) s_nilL))) (s_consL rfl (s_tuple (s_consL rfl (s_str (by kernel_rfl)) (s_consL rfl (s_str (by kernel_rfl)) s_nilL))) (s_consL rfl (s_tuple (s_consL rfl (s_str (by kernel_rfl)) (s_consL rfl (s_str (by kernel_rfl)) s_nilL))) (s_consL rfl (s_tuple (s_consL rfl (s_str (by kernel_rfl)) (s_consL rfl (s_str (by kernel_rfl)) s_nilL))) (s_consL rfl (s_tuple (s_consL rfl (s_str (by kernel_rfl)) (s_consL rfl (s_str (by kernel_rfl)) s_nilL))) (s_consL rfl (s_tuple (s_consL rfl (s_str (by kernel_rfl)) (s_consL rfl (s_str (by kernel_rfl)) s_nilL))) (s_consL rfl (s_tuple (s_consL rfl (s_str (by kernel_rfl)) (s_consL rfl (s_str (by kernel_rfl)) s_nilL))) (s_consL rfl (s_tuple (s_consL rfl (s_str (by kernel_rfl)) (s_consL rfl (s_str (by kernel_rfl)) s_nilL))) (s_consL rfl (s_tuple (s_consL rfl (s_str (by kernel_rfl)) (s_consL rfl (s_str (by kernel_rfl)) s_nilL))) (s_consL rfl (s_tuple (s_consL rfl (s_str (by kernel_rfl)) (s_consL rfl (s_str (by kernel_rfl)) s_nilL))) (s_consL rfl (s_tuple (s_consL rfl (s_str (by kernel_rfl)) (s_consL rfl (s_str (by kernel_rfl)) s_nilL))) (s_consL rfl (s_tuple (s_consL rfl (s_str (by kernel_rfl)) (s_consL rfl (s_str (by kernel_rfl)) s_nilL))) (s_consL rfl (s_tuple (s_consL rfl (s_str (by kernel_rfl)) (s_consL rfl (s_str (by kernel_rfl)) s_nilL))) (s_consL rfl (s_tuple (s_consL rfl (s_str (by kernel_rfl)) (s_consL rfl (s_str (by kernel_rfl)) s_nilL))) (s_consL rfl (s_tuple (s_consL rfl (s_str (by kernel_rfl)) (s_consL rfl (s_str (by kernel_rfl)) s_nilL))) (s_consL rfl (s_tuple (s_consL rfl (s_str (by kernel_rfl)) (s_consL rfl (s_str (by kernel_rfl)) s_nilL))) (s_consL rfl (s_tuple (s_consL rfl (s_str (by kernel_rfl)) (s_consL rfl (s_str (by kernel_rfl)) s_nilL))) (s_consL rfl (s_tuple (s_consL rfl (s_str (by kernel_rfl)) (s_consL rfl (s_str (by kernel_rfl)) s_nilL))) (s_consL rfl (s_tuple (s_consL rfl (s_str (by kernel_rfl)) (s_consL rfl (s_str (by kernel_rfl)) s_nilL))) s_nilL))))))))))))))))))))))))))))))))
theorem c_law_two (cd : Value) : fiChk (i_law_two cd) = true := by kernel_rfl
theorem gc_law_two (cd : Value) : glChk (i_law_two cd) [] = true := by kernel_rfl
theorem w_law_two (W : WK g D) (n : Nat) : SF g 1 (D.fa 25) (F_law_two g.tobj D n) :=
  have C : CX g D (i_law_two (D.cd 25)) _ := ⟨W, c_law_two (D.cd 25), gc_law_two (D.cd 25)⟩
  sF_of W.ok W.fn_law_two (d := 0) (s_oneB (s_ret (s_list (s_consL rfl (s_str (by kernel_rfl)) (s_consL rfl (s_str (by kernel_rfl)) (s_consL rfl (s_str (by kernel_rfl)) (s_consL rfl (s_str (by kernel_rfl)) (s_consL rfl (s_str (by kernel_rfl)) (s_consL rfl (s_str (by kernel_rfl)) (s_consL rfl (s_str (by kernel_rfl)) (s_consL rfl (s_str (by kernel_rfl)) (s_consL rfl (s_str (by kernel_rfl)) s_nilL))))))))))))
theorem c_law_closed (cd : Value) : fiChk (i_law_closed cd) = true := by kernel_rfl
theorem gc_law_closed (cd : Value) : glChk (i_law_closed cd) [] = true := by kernel_rfl
theorem w_law_closed (W : WK g D) (n : Nat) : SF g 1 (D.fa 26) (F_law_closed g.tobj D n) :=
  have C : CX g D (i_law_closed (D.cd 26)) _ := ⟨W, c_law_closed (D.cd 26), gc_law_closed (D.cd 26)⟩
  sF_of W.ok W.fn_law_closed (d := 0) (s_oneB (s_ret (s_list (s_consL rfl (s_str (by kernel_rfl)) (s_consL rfl (s_str (by kernel_rfl)) (s_consL rfl (s_str (by kernel_rfl)) (s_consL rfl (s_str (by kernel_rfl)) (s_consL rfl (s_str (by kernel_rfl)) (s_consL rfl (s_str (by kernel_rfl)) (s_consL rfl (s_str (by kernel_rfl)) (s_consL rfl (s_str (by kernel_rfl)) (s_consL rfl (s_str (by kernel_rfl)) (s_consL rfl (s_str (by kernel_rfl)) s_nilL)))))))))))))
theorem c_law_at (cd : Value) : fiChk (i_law_at cd) = true := by kernel_rfl
theorem gc_law_at (cd : Value) : glChk (i_law_at cd) ["len"] = true := by kernel_rfl
theorem w_law_at (W : WK g D) (n : Nat) : SF g 1 (D.fa 27) (F_law_at g.tobj D n) :=
  have C : CX g D (i_law_at (D.cd 27)) _ := ⟨W, c_law_at (D.cd 27), gc_law_at (D.cd 27)⟩
  sF_of W.ok W.fn_law_at (d := 0) (s_consB (s_if (t_tc C (t_nm C 1 rfl) (t_bi C 0 .len W.b_len bv_len bn_len rfl rfl (s_consL rfl (t_nm C 0 rfl) s_nilL)) rfl) (s_oneB (s_ret (s_bin (t_ix C (t_nm C 0 rfl) (t_nm C 1 rfl) (fun _ _ => rfl)) (s_bin s_int (t_nm C 1 rfl))))) s_nilB) (s_oneB (s_ret (s_bin s_int (t_nm C 1 rfl)))))
theorem c_law_some (cd : Value) : fiChk (i_law_some cd) = true := by kernel_rfl
theorem gc_law_some (cd : Value) : glChk (i_law_some cd) ["_law_sounds"] = true := by kernel_rfl
theorem w_law_some (W : WK g D) (n : Nat) : SF g 1 (D.fa 28) (F_law_some g.tobj D n) :=
  have C : CX g D (i_law_some (D.cd 28)) _ := ⟨W, c_law_some (D.cd 28), gc_law_some (D.cd 28)⟩
  sF_of W.ok W.fn_law_some (d := 0) (s_consB (t_an C 1 rfl (t_ix C (t_gl C 0 W.e_sounds W.v_sounds rfl) (s_bin (t_nm C 0 rfl) s_int) (fun _ _ => rfl)) rfl) (s_consB (t_an C 0 rfl (s_bin (t_nm C 0 rfl) s_int) rfl) (s_consB (s_if (t_tc C (s_bin (t_nm C 0 rfl) s_int) s_int rfl) (s_oneB (t_an C 1 rfl (s_bin (t_nm C 1 rfl) (t_ix C (t_gl C 0 W.e_sounds W.v_sounds rfl) (s_bin (s_bin (t_nm C 0 rfl) s_int) s_int) (fun _ _ => rfl))) rfl)) s_nilB) (s_oneB (s_ret (t_nm C 1 rfl))))))
theorem c_law_last (cd : Value) : fiChk (i_law_last cd) = true := by kernel_rfl
theorem gc_law_last (cd : Value) : glChk (i_law_last cd) ["_law_closes", "_law_two", "_law_sounds"] = true := by kernel_rfl
theorem w_law_last (W : WK g D) (n : Nat) : SF g 2 (D.fa 29) (F_law_last g.tobj D n) :=
  have C : CX g D (i_law_last (D.cd 29)) _ := ⟨W, c_law_last (D.cd 29), gc_law_last (D.cd 29)⟩
  sF_of W.ok W.fn_law_last (d := 1) (s_consB (t_an C 2 rfl (s_bin (t_nm C 0 rfl) s_int) rfl) (s_consB (t_an C 0 rfl (s_bin (t_nm C 0 rfl) s_int) rfl) (s_consB (t_an C 3 rfl (t_ix C (t_gl C 0 W.e_closes W.v_closes rfl) (s_bin (t_nm C 1 rfl) s_int) (fun _ _ => rfl)) rfl) (s_consB (t_an C 1 rfl (s_bin (t_nm C 1 rfl) s_int) rfl) (s_consB (s_if (t_tc C (t_nm C 2 rfl) s_int rfl) (s_consB (t_an C 4 rfl (t_ix C (s_str (by kernel_rfl)) (s_bin (t_nm C 0 rfl) s_int) (fun _ _ => rfl)) rfl) (s_oneB (s_ret (s_tuple (s_consL rfl (s_bin (s_bin (t_nm C 4 rfl) (t_nm C 4 rfl)) (t_nm C 3 rfl)) (s_consL rfl (s_bin (t_nm C 4 rfl) (t_nm C 3 rfl)) (s_consL rfl (s_bin (t_nm C 4 rfl) (t_nm C 3 rfl)) (s_consL rfl (s_bin (t_nm C 4 rfl) (t_nm C 3 rfl)) s_nilL)))))))) s_nilB) (s_consB (s_if (t_tc C (t_nm C 2 rfl) s_int rfl) (s_consB (t_an C 4 rfl (t_ix C (s_str (by kernel_rfl)) (s_bin (t_nm C 0 rfl) s_int) (fun _ _ => rfl)) rfl) (s_consB (t_an C 5 rfl (s_bin (t_nm C 4 rfl) (t_nm C 3 rfl)) rfl) (s_consB (s_if (t_tc C (t_nm C 3 rfl) (s_str (by kernel_rfl)) rfl) (s_oneB (s_ret (s_tuple (s_consL rfl (t_nm C 5 rfl) (s_consL rfl (s_bin (t_nm C 5 rfl) (t_nm C 3 rfl)) (s_consL rfl (t_nm C 5 rfl) (s_consL rfl (t_nm C 5 rfl) s_nilL))))))) s_nilB) (s_oneB (s_ret (s_tuple (s_consL rfl (t_nm C 5 rfl) (s_consL rfl (s_bin (t_nm C 5 rfl) (t_nm C 3 rfl)) (s_consL rfl (t_nm C 5 rfl) (s_consL rfl (s_bin (t_nm C 5 rfl) (t_nm C 3 rfl)) s_nilL)))))))))) s_nilB) (s_consB (s_if (t_tc C (t_nm C 2 rfl) s_int rfl) (s_consB (t_an C 4 rfl (t_ix C (t_ca C 1 (w_law_two W n) W.g_law_two W.k_law_two rfl rfl s_nilL) (s_bin (t_nm C 0 rfl) s_int) (fun _ _ => rfl)) rfl) (s_oneB (s_ret (s_tuple (s_consL rfl (s_bin (t_nm C 4 rfl) (t_nm C 3 rfl)) (s_consL rfl (s_bin (t_nm C 4 rfl) (t_nm C 3 rfl)) (s_consL rfl (s_bin (t_nm C 4 rfl) (t_nm C 3 rfl)) (s_consL rfl (s_bin (t_nm C 4 rfl) (t_nm C 3 rfl)) s_nilL)))))))) s_nilB) (s_consB (t_an C 4 rfl (t_ix C (s_str (by kernel_rfl)) (s_bin (t_nm C 0 rfl) s_int) (fun _ _ => rfl)) rfl) (s_consB (s_if (s_tand (t_tc C (t_nm C 4 rfl) (s_str (by kernel_rfl)) rfl) (t_tc C (s_bin (s_bin (t_nm C 0 rfl) s_int) s_int) s_int rfl)) (s_oneB (t_an C 4 rfl (s_bin (t_nm C 4 rfl) (t_nm C 4 rfl)) rfl)) s_nilB) (s_consB (t_an C 6 rfl (t_ix C (t_gl C 2 W.e_sounds W.v_sounds rfl) (s_bin (t_nm C 1 rfl) s_int) (fun _ _ => rfl)) rfl) (s_consB (s_if (t_tc C (t_nm C 6 rfl) (t_nm C 3 rfl) rfl) (s_oneB (t_an C 6 rfl (s_str (by kernel_rfl)) rfl)) s_nilB) (s_consB (t_an C 7 rfl (s_bin (s_bin (t_nm C 4 rfl) (t_nm C 6 rfl)) (t_nm C 3 rfl)) rfl) (s_oneB (s_ret (s_tuple (s_consL rfl (t_nm C 7 rfl) (s_consL rfl (t_nm C 7 rfl) (s_consL rfl (t_nm C 7 rfl) (s_consL rfl (t_nm C 7 rfl) s_nilL)))))))))))))))))))
theorem c_law_root (cd : Value) : fiChk (i_law_root cd) = true := by kernel_rfl
theorem gc_law_root (cd : Value) : glChk (i_law_root cd) ["_law_last", "_law_closed"] = true := by kernel_rfl
theorem w_law_root (W : WK g D) (n : Nat) : SF g 3 (D.fa 30) (F_law_root g.tobj D n) :=
  have C : CX g D (i_law_root (D.cd 30)) _ := ⟨W, c_law_root (D.cd 30), gc_law_root (D.cd 30)⟩
  sF_of W.ok W.fn_law_root (d := 2) (s_consB (t_an C 3 rfl (t_ca C 0 (w_law_last W n) W.g_law_last W.k_law_last rfl rfl (s_consL rfl (t_nm C 1 rfl) (s_consL rfl (t_nm C 2 rfl) s_nilL))) rfl) (s_consB (s_forL 4 (C.na 4 rfl) (fun _ _ => rfl) (t_ca C 1 (w_law_closed W n) W.g_law_closed W.k_law_closed rfl rfl s_nilL) (s_oneB (s_if (s_tor (t_tv (s_ends (s_bin (t_nm C 0 rfl) (t_ix C (t_nm C 3 rfl) s_int (fun _ _ => rfl))) (t_nm C 4 rfl) rfl (fun _ => rfl) rfl) rfl) (t_tv (s_ends (s_bin (t_nm C 0 rfl) (t_ix C (t_nm C 3 rfl) s_int (fun _ _ => rfl))) (t_nm C 4 rfl) rfl (fun _ => rfl) rfl) rfl)) (s_oneB (s_ret (s_tuple (s_consL rfl (s_str (by kernel_rfl)) (s_consL rfl (s_str (by kernel_rfl)) (s_consL rfl (s_str (by kernel_rfl)) (s_consL rfl (s_str (by kernel_rfl)) s_nilL))))))) s_nilB))) (s_oneB (s_ret (t_nm C 3 rfl)))))
theorem c_law_word (cd : Value) : fiChk (i_law_word cd) = true := by kernel_rfl
theorem gc_law_word (cd : Value) : glChk (i_law_word cd) ["_law_families", "len"] = true := by kernel_rfl
theorem w_law_word (W : WK g D) (n : Nat) : SF g 1 (D.fa 31) (F_law_word g.tobj D n) :=
  have C : CX g D (i_law_word (D.cd 31)) _ := ⟨W, c_law_word (D.cd 31), gc_law_word (D.cd 31)⟩
  sF_of W.ok W.fn_law_word (d := 0) (s_consB (s_asgT [5, 6, 7, 8] W.ok W.hT (.cons (C.na 5 rfl) (.cons (C.na 6 rfl) (.cons (C.na 7 rfl) (.cons (C.na 8 rfl) .nil)))) (t_nm C 2 rfl) (fun _ => rfl) (fun _ => rfl)) (s_consB (s_asgT [9, 10, 11, 12, 13, 14] W.ok W.hT (.cons (C.na 9 rfl) (.cons (C.na 10 rfl) (.cons (C.na 11 rfl) (.cons (C.na 12 rfl) (.cons (C.na 13 rfl) (.cons (C.na 14 rfl) .nil)))))) (t_ix C (t_gl C 0 W.e_fams (.top _) rfl) (s_bin (t_nm C 4 rfl) s_int) (fun _ _ => rfl)) (fun _ => rfl) (fun _ => rfl)) (s_consB (s_asgT [15, 16] W.ok W.hT (.cons (C.na 15 rfl) (.cons (C.na 16 rfl) .nil)) (t_ix C (t_nm C 14 rfl) (s_bin (s_bin (t_nm C 4 rfl) s_int) (t_bi C 1 .len W.b_len bv_len bn_len rfl rfl (s_consL rfl (t_nm C 14 rfl) s_nilL))) (fun _ _ => rfl)) (fun _ => rfl) (fun _ => rfl)) (s_consB (s_if (t_tc C (t_nm C 9 rfl) s_int rfl) (s_oneB (t_an C 17 rfl (s_bin (s_bin (t_nm C 0 rfl) (t_nm C 5 rfl)) (t_nm C 15 rfl)) rfl)) (s_oneB (t_an C 17 rfl (s_bin (s_bin (t_nm C 0 rfl) (t_nm C 6 rfl)) (t_nm C 15 rfl)) rfl))) (s_consB (s_if (t_tc C (t_nm C 3 rfl) s_int rfl) (s_oneB (s_ret (s_tuple (s_consL rfl (t_nm C 17 rfl) (s_consL rfl (s_bin (s_bin (t_nm C 1 rfl) (t_nm C 5 rfl)) (t_nm C 16 rfl)) s_nilL))))) s_nilB) (s_consB (t_an C 18 rfl (s_list (s_consL rfl (s_bin (t_nm C 1 rfl) (t_nm C 7 rfl)) (s_consL rfl (s_bin (t_nm C 1 rfl) (t_nm C 5 rfl)) (s_consL rfl (s_bin (t_nm C 1 rfl) (t_nm C 8 rfl)) (s_consL rfl (s_bin (t_nm C 1 rfl) (t_nm C 6 rfl)) s_nilL))))) rfl) (s_consB (s_if (s_tor (s_tand (t_tc C (s_bin (t_nm C 4 rfl) s_int) s_int rfl) (t_tc C (t_ix C (t_nm C 5 rfl) (s_neg s_int) (fun _ _ => rfl)) (s_str (by kernel_rfl)) rfl)) (s_tand (t_tc C (s_bin (t_nm C 4 rfl) s_int) s_int rfl) (t_tc C (t_ix C (t_nm C 5 rfl) (s_neg s_int) (fun _ _ => rfl)) (s_str (by kernel_rfl)) rfl))) (s_oneB (s_ret (s_tuple (s_consL rfl (t_nm C 17 rfl) (s_consL rfl (t_ix C (t_nm C 18 rfl) s_int (fun _ _ => rfl)) s_nilL))))) s_nilB) (s_consB (s_if (t_tc C (t_nm C 3 rfl) s_int rfl) (s_oneB (s_ret (s_tuple (s_consL rfl (t_nm C 17 rfl) (s_consL rfl (s_bin (t_ix C (t_nm C 18 rfl) (t_nm C 12 rfl) (fun _ _ => rfl)) (t_nm C 13 rfl)) s_nilL))))) s_nilB) (s_oneB (s_ret (s_tuple (s_consL rfl (t_nm C 17 rfl) (s_consL rfl (s_bin (t_ix C (t_nm C 18 rfl) (t_nm C 10 rfl) (fun _ _ => rfl)) (t_nm C 11 rfl)) s_nilL)))))))))))))
theorem c_law (cd : Value) : fiChk (i_law cd) = true := by kernel_rfl
theorem gc_law (cd : Value) : glChk (i_law cd) ["_law_at", "_law_some", "_law_vowels", "range", "_law_root", "min", "_law_closes"] = true := by kernel_rfl
noncomputable def b_law0 : List Stmt := b_law.take 8
theorem w_law (W : WK g D) (n : Nat) (cd : Value) : SB g (i_law cd) 4 b_law0 (f_law g.tobj D n) :=
  have C : CX g D (i_law cd) _ := ⟨W, c_law cd, gc_law cd⟩
  (s_consB (t_an C 1 rfl (t_ca C 1 (w_law_some W n) W.g_law_some W.k_law_some rfl rfl (s_consL rfl (t_ca C 0 (w_law_at W n) W.g_law_at W.k_law_at rfl rfl (s_consL rfl (t_nm C 0 rfl) (s_consL rfl s_int s_nilL))) s_nilL)) rfl) (s_consB (t_an C 2 rfl (t_nm C 1 rfl) rfl) (s_consB (t_an C 3 rfl (t_nm C 1 rfl) rfl) (s_consB (t_an C 4 rfl (s_bin (t_ca C 0 (w_law_at W n) W.g_law_at W.k_law_at rfl rfl (s_consL rfl (t_nm C 0 rfl) (s_consL rfl s_int s_nilL))) s_int) rfl) (s_consB (t_fr C 3 5 rfl rfl rfl (s_consL rfl (t_nm C 4 rfl) s_nilL) (s_consB (t_an C 6 rfl (t_ix C (t_ca C 2 (w_law_vowels W n) W.g_law_vowels W.k_law_vowels rfl rfl s_nilL) (s_bin (t_ca C 0 (w_law_at W n) W.g_law_at W.k_law_at rfl rfl (s_consL rfl (t_nm C 0 rfl) (s_consL rfl (s_bin s_int (s_bin s_int (t_nm C 5 rfl))) s_nilL))) s_int) (fun _ _ => rfl)) rfl) (s_consB (t_an C 7 rfl (t_ca C 1 (w_law_some W n) W.g_law_some W.k_law_some rfl rfl (s_consL rfl (t_ca C 0 (w_law_at W n) W.g_law_at W.k_law_at rfl rfl (s_consL rfl (t_nm C 0 rfl) (s_consL rfl (s_bin s_int (s_bin s_int (t_nm C 5 rfl))) s_nilL))) s_nilL)) rfl) (s_consB (t_an C 1 rfl (s_bin (s_bin (t_nm C 1 rfl) (t_ix C (t_nm C 6 rfl) s_int (fun _ _ => rfl))) (t_nm C 7 rfl)) rfl) (s_consB (t_an C 2 rfl (s_bin (s_bin (t_nm C 2 rfl) (t_ix C (t_nm C 6 rfl) s_int (fun _ _ => rfl))) (t_nm C 7 rfl)) rfl) (s_oneB (t_an C 3 rfl (s_bin (t_nm C 3 rfl) (t_nm C 7 rfl)) rfl))))))) (s_consB (t_an C 8 rfl (t_ca C 4 (w_law_root W n) W.g_law_root W.k_law_root rfl rfl (s_consL rfl (t_nm C 2 rfl) (s_consL rfl (t_ca C 0 (w_law_at W n) W.g_law_at W.k_law_at rfl rfl (s_consL rfl (t_nm C 0 rfl) (s_consL rfl s_int s_nilL))) (s_consL rfl (t_ca C 0 (w_law_at W n) W.g_law_at W.k_law_at rfl rfl (s_consL rfl (t_nm C 0 rfl) (s_consL rfl s_int s_nilL))) s_nilL)))) rfl) (s_consB (t_an C 9 rfl (t_bi C 5 .min W.b_min bv_min bn_min rfl rfl (s_consL rfl (s_bin (t_nm C 4 rfl) s_int) (s_consL rfl s_int s_nilL))) rfl) (s_oneB (s_if (t_tc C (s_bin (t_ca C 0 (w_law_at W n) W.g_law_at W.k_law_at rfl rfl (s_consL rfl (t_nm C 0 rfl) (s_consL rfl s_int s_nilL))) s_int) s_int rfl) (s_consB (t_an C 9 rfl s_int rfl) (s_consB (t_an C 1 rfl (t_nm C 3 rfl) rfl) (s_consB (t_an C 2 rfl (t_nm C 3 rfl) rfl) (s_consB (t_an C 10 rfl (t_ix C (t_gl C 6 W.e_closes W.v_closes rfl) (s_bin (t_ca C 0 (w_law_at W n) W.g_law_at W.k_law_at rfl rfl (s_consL rfl (t_nm C 0 rfl) (s_consL rfl s_int s_nilL))) s_int) (fun _ _ => rfl)) rfl) (s_oneB (t_an C 8 rfl (s_tuple (s_consL rfl (t_nm C 10 rfl) (s_consL rfl (t_nm C 10 rfl) (s_consL rfl (t_nm C 10 rfl) (s_consL rfl (t_nm C 10 rfl) s_nilL))))) rfl)))))) s_nilB)))))))))
end
section
variable {p : Program} {w : World} {n₀ : Nat} {ann : Option Value}
theorem topGo_add : ∀ {n m : Nat} {s s' : Shared} {t t' : Thread} {r}, topGo treeTable p w n₀ ann n s t = some (s', t') → topGo treeTable p w n₀ ann m s' t' = r → topGo treeTable p w n₀ ann (n + m) s t = r
  | 0, m, s, s', t, t', r, h, k => by
    obtain ⟨rfl, rfl⟩ : s = s' ∧ t = t' := by simpa [topGo] using h
    rw [Nat.zero_add]; exact k
  | n + 1, m, s, s', t, t', r, h, k => by
    rw [show n + 1 + m = n + m + 1 by omega]
    unfold topGo at h ⊢
    cases ht : through t with
    | true => rw [ht] at h; cases h
    | false =>
      rw [ht] at h
      cases hk : stepOk n₀ ann t with
      | false => rw [hk] at h; cases h
      | true =>
        rw [hk] at h
        cases hs : step (denote treeTable) p w s t with
        | halt o s₂ => rw [hs] at h; cases h
        | go s₂ t₂ => rw [hs] at h; exact topGo_add h k
noncomputable def Runs {α : Type} (p : Program) (w : World) (n₀ : Nat) (ann : Option Value) (m : Sem α) (s : Shared) (n : Nat) (a : α) (s' : Shared) (pe : Pos → Pos) : Prop :=
  ∀ (K : α → Sem Fin) (H : Value → Sem Fin) (gd : Bool → Bool) (lv : List Value → List Value) (code : Code) (pos : Pos) (f : Frame) (r : List Frame),
    topGo treeTable p w n₀ ann n s ⟨m.wrap K H gd lv, code, pos, f :: r⟩ = some (s', ⟨K a, code, pe pos, f :: r⟩)
theorem Runs.pure {α : Type} (a : α) (s : Shared) : Runs p w n₀ ann (.pure a) s 0 a s id := fun _ _ _ _ _ _ _ _ => rfl
theorem Runs.bind {α β : Type} {m : Sem α} {f : α → Sem β} {s s' s'' : Shared} {n n' : Nat} {a : α} {b : β} {pe pe' : Pos → Pos} (h : Runs p w n₀ ann m s n a s' pe) (k : Runs p w n₀ ann (f a) s' n' b s'' pe') :
    Runs p w n₀ ann (m >>= f) s (n + n') b s'' (pe' ∘ pe) := by
  intro K H gd lv code pos fr r
  have e : (m >>= f).wrap K H gd lv = m.wrap (fun a => (f a).wrap K H gd lv) H gd lv := by
    rw [Sem.bind_eq_wrap', Sem.wrap_wrap]; rfl
  rw [e]
  exact topGo_add (h _ H gd lv code pos fr r) (k K H gd lv code (pe pos) fr r)
theorem Runs.holding {α : Type} {m : Sem α} {vs : List Value} {s s' : Shared} {n : Nat} {a : α} {pe : Pos → Pos} (h : Runs p w n₀ ann m s n a s' pe) : Runs p w n₀ ann (PySem.holding vs m) s n a s' pe := by
  unfold PySem.holding
  split
  · exact h
  · rename_i refs _
    intro K H gd lv code pos fr r
    rw [Sem.keep_eq_wrap, Sem.wrap_wrap]
    exact h K H gd _ code pos fr r
theorem Runs.rule (tag : String) (s : Shared) : Runs p w n₀ ann (PySem.rule tag) s 1 () s id := by
  intro K H gd lv code pos fr r
  obtain ⟨heap, gens, drawn, toks, os⟩ := s
  rfl
theorem Runs.load {a : Addr} {o : Obj} {s : Shared} (h : s.heap.get? a = some o) : Runs p w n₀ ann (PySem.load a) s 1 o s id := by
  intro K H gd lv code pos fr r
  obtain ⟨heap, gens, drawn, toks, os⟩ := s
  dsimp only at h
  show (match step (denote treeTable) p w ⟨heap, gens, drawn, toks, os⟩ ⟨.load a none fun x => K x, code, pos, fr :: r⟩ with | .go s' t' => some (s', t') | .halt _ _ => none) = _
  simp only [step, h]
  rfl
theorem Runs.update {a : Addr} {o : Obj} {f : Obj → Obj} {s : Shared} (ha : n₀ ≤ a) (h : s.heap.get? a = some o) : Runs p w n₀ ann (PySem.update a f) s 1 () { s with heap := s.heap.update a f } id := by
  intro K H gd lv code pos fr r
  obtain ⟨heap, gens, drawn, toks, os⟩ := s
  dsimp only at h
  have hk : stepOk n₀ ann ⟨.update a none f fun x => K x, code, pos, fr :: r⟩ = true := by
    unfold stepOk
    have : Nat.ble n₀ a = true := Nat.ble_eq_true_of_le ha
    simp [Thread.calm, Thread.atCollectorCode, Thread.yieldsInsideHandler, this]
  show (match stepOk n₀ ann ⟨.update a none f fun x => K x, code, pos, fr :: r⟩ with | false => none | true => match step (denote treeTable) p w ⟨heap, gens, drawn, toks, os⟩ ⟨.update a none f fun x => K x, code, pos, fr :: r⟩ with | .go s' t' => some (s', t') | .halt _ _ => none) = _
  rw [hk]
  simp only [step, h, Option.isSome_some, if_true]
  rfl
theorem Runs.alloc (o : Obj) (s : Shared) : Runs p w n₀ ann (PySem.alloc o) s 1 s.heap.objs.size { s with heap := s.heap.push o } id := by
  intro K H gd lv code pos fr r
  obtain ⟨heap, gens, drawn, toks, os⟩ := s
  rfl
theorem Runs.ask (s : Shared) : Runs p w n₀ ann PySem.ask s 1 ⟨p, w.params⟩ s id := by
  intro K H gd lv code pos fr r
  obtain ⟨heap, gens, drawn, toks, os⟩ := s
  rfl
theorem Runs.fresh (s : Shared) : Runs p w n₀ ann (.fresh .pure) s 1 s.toks { s with toks := s.toks + 1 } id := by
  intro K H gd lv code pos fr r
  obtain ⟨heap, gens, drawn, toks, os⟩ := s
  rfl
theorem Runs.cast {α : Type} {m : Sem α} {s s' s₂ : Shared} {n n' : Nat} {a a' : α} {pe pe' : Pos → Pos} (h : Runs p w n₀ ann m s n a s' pe) (e : n = n' := by rfl) (e2 : a = a' := by rfl) (e3 : s' = s₂ := by rfl) (e4 : pe = pe' := by rfl) : Runs p w n₀ ann m s n' a' s₂ pe' := by
  subst e e2 e3 e4; exact h
theorem Runs.bind0 {α β : Type} {m : Sem α} {f : α → Sem β} {s s' s'' : Shared} {n n' : Nat} {a : α} {b : β} (h : Runs p w n₀ ann m s n a s' id) (k : Runs p w n₀ ann (f a) s' n' b s'' id) :
    Runs p w n₀ ann (m >>= f) s (n + n') b s'' id := Runs.bind h k
theorem hash_runs (c : Nat) (t : Tok) (s : Shared) : Runs p w n₀ ann (pyHash (.str ⟨#[c]⟩ t)) s 7 (hashStr w ⟨#[c]⟩) { s with toks := s.toks + 1 } id := by
  refine byRow2 "special-get-raises" (P := fun w => Runs p w n₀ ann (pyHash (.str ⟨#[c]⟩ t)) s 7 (hashStr w ⟨#[c]⟩) { s with toks := s.toks + 1 } id) ?_ ?_ w
  · intro w K H gd lv code pos fr r
    obtain ⟨heap, gens, drawn, toks, os⟩ := s
    kernel_rfl
  · intro w K H gd lv code pos fr r
    obtain ⟨heap, gens, drawn, toks, os⟩ := s
    kernel_rfl
theorem setState_runs {a : Addr} {o : Obj} {es : Array (Int × Value)} {ep : Nat} {t : SetTable} {s : Shared} (h : s.heap.get? a = some o) (hd : o.data = .set es ep t) (hf : t.fits es.size = true) : Runs p w n₀ ann (setState a) s 1 (es, ep, t) s id := by
  have hc : (t.place.size != es.size || decide (t.fill > t.mask)) = false := by
    unfold SetTable.fits at hf
    simp only [Bool.and_eq_true, beq_iff_eq, decide_eq_true_eq] at hf
    simp [hf.1, Nat.not_lt.mpr hf.2]
  unfold setState
  refine (Runs.bind0 (n' := 0) (Runs.load h) ?_)
  rw [hd]
  dsimp only
  rw [hc]
  exact Runs.pure _ _
theorem storeSet_runs {a : Addr} {o : Obj} {es es' : Array (Int × Value)} {ep : Nat} {t t' : SetTable} {s : Shared} (ha : n₀ ≤ a) (h : s.heap.get? a = some o) (hd : o.data = .set es ep t) (hz : es'.size < scanBound) :
    Runs p w n₀ ann (storeSet a es' t') s 2 () { s with heap := s.heap.update a (Obj.putSet es' t') } id := by
  unfold storeSet
  refine (Runs.bind0 (n' := 1) (Runs.load h) ?_)
  rw [hd]
  dsimp only
  have : ¬ (es'.size > sizeLine) := by
    have := fits_of_scanBound hz
    omega
  rw [if_neg this]
  exact Runs.update ha h
end
section
variable {p : Program} {w : World} {n₀ : Nat} {ann : Option Value}
theorem push_get (h : Heap) (o : Obj) (hf : o.isFreed = false) : (h.push o).get? h.objs.size = some o := by
  exact Heap.get?_push_size _ hf
theorem push_update (h : Heap) (o : Obj) (f : Obj → Obj) : (h.push o).update h.objs.size f = h.push (f o) := by
  obtain ⟨objs, life⟩ := h
  show Heap.mk _ _ = Heap.mk _ _
  congr 1
  show (objs.push o).modify objs.size f = objs.push (f o)
  apply Array.ext_getElem?
  intro i
  rw [Array.getElem?_modify, Array.getElem?_push, Array.getElem?_push]
  by_cases e : i = objs.size
  · subst e; simp
  · simp [e, Ne.symm e]
theorem isStrOf_exact {k : PySem.Str} {v : Value} (h : Value.isStrOf k v = true) : isExactStrKey v = true := by
  obtain ⟨t, rfl⟩ := Value.isStrOf_shape h; rfl
theorem isStr_isStrOf (v : Value) (k : PySem.Str) (h : isExactStrKey v = true) : v.isStr k = Value.isStrOf k v := by
  cases v <;> first | rfl | (cases h; done) | skip
noncomputable def gaveM (b : Bool) : Sem Unit := match b with | true => PySem.rule "set.scan.the-table-gave-way" | false => pure ()
theorem gave_runs (b : Bool) (s : Shared) : ∃ k, k ≤ 1 ∧ Runs p w n₀ ann (gaveM b) s k () s id := by
  cases b
  · exact ⟨0, by omega, Runs.pure _ _⟩
  · exact ⟨1, by omega, Runs.rule _ _⟩
theorem scan_runs {a : Addr} {c : Nat} {tk : Tok} {S : PySem.Str → Bool} {es : Array (Int × Value)} {s : Shared} (hel : ElemsOf (PySem.strKind p w) es.toList) (hmem : ∀ k, S k = true ↔ ∃ e ∈ es.toList, (PySem.strKind p w).is k e.2 = true) (hS : S ⟨#[c]⟩ = false) (h : Int) :
    Runs p w n₀ ann (setScan a (.str ⟨#[c]⟩ tk) h true es) s 0 .absent s id := by
  have hall : es.all (fun e => isExactStrKey e.2) = true := by
    rw [← Array.all_toList, List.all_eq_true]
    intro e he
    obtain ⟨⟨k, hk, _⟩, _⟩ := hel e he
    exact isStrOf_exact hk
  have hnone : es.findIdx? (fun e => e.2.isStr ⟨#[c]⟩) = none := by
    rw [Array.findIdx?_eq_none_iff]
    intro e he'
    have he : e ∈ es.toList := Array.mem_toList_iff.mpr he'
    obtain ⟨⟨k, hk, _⟩, _⟩ := hel e he
    rw [isStr_isStrOf _ _ (isStrOf_exact hk)]
    cases q : Value.isStrOf ⟨#[c]⟩ e.2 with
    | false => rfl
    | true => rw [(hmem _).mpr ⟨e, he, q⟩] at hS; cases hS
  unfold setScan
  dsimp only
  rw [if_pos hall]
  unfold setScanStrs
  rw [hnone]
  exact Runs.pure _ _
theorem setAdd_runs {hb : Heap} {o : Obj} {S : PySem.Str → Bool} {n c : Nat} {tk : Tok} {s : Shared} (hN : n₀ ≤ hb.objs.size) (ho : o.SetObjOf (PySem.strKind p w) S n) (hS : S ⟨#[c]⟩ = false) (hn : n + 1 < 4000) (hh : s.heap = hb.push o) :
    ∃ k o', k ≤ 30 ∧ o'.SetObjOf (PySem.strKind p w) (fun y => S y || decide (y = ⟨#[c]⟩)) (n + 1) ∧
      Runs p w n₀ ann (setAdd hb.objs.size (.str ⟨#[c]⟩ tk)) s k true { s with heap := hb.push o', toks := s.toks + 1 } id := by
  obtain ⟨hex, es, ep, t, hd, hel, hmem, hsz, hf⟩ := ho
  have hfr : o.isFreed = false := by cases o; dsimp only at hd; subst hd; rfl
  have hfr' : ∀ es' ep' t', ({ o with data := .set es' ep' t' } : Obj).isFreed = false := fun _ _ _ => rfl
  let s1 : Shared := { s with toks := s.toks + 1 }
  have hg1 : s1.heap.get? hb.objs.size = some o := by show s.heap.get? _ = _; rw [hh]; exact push_get hb o hfr
  have hb1 : es.size + 1 < scanBound := by rw [hsz]; unfold scanBound; omega
  have hsc : (Value.str ⟨#[c]⟩ tk).scannable = true := rfl
  have hkey : (PySem.strKind p w).is ⟨#[c]⟩ (.str ⟨#[c]⟩ tk) = true := by simp [PySem.strKind, PySem.Value.isStrOf]
  have hperm := layNew_perm t es (hashStr w ⟨#[c]⟩) (.str ⟨#[c]⟩ tk)
  have hfits := layNew_fits t es (hashStr w ⟨#[c]⟩) (.str ⟨#[c]⟩ tk)
  rw [Array.toList_push] at hperm
  generalize hL : layNew t es (hashStr w ⟨#[c]⟩) (.str ⟨#[c]⟩ tk) = LN at hperm hfits
  obtain ⟨es1, t1, wasDummy, gave⟩ := LN
  dsimp only at hperm hfits
  have hel1 : ElemsOf (PySem.strKind p w) es1.toList := (hel.push (knd := PySem.strKind p w) hkey hsc).perm hperm
  have hmem1 : ∀ k', (S k' || decide (k' = ⟨#[c]⟩)) = true ↔ ∃ e ∈ es1.toList, (PySem.strKind p w).is k' e.2 = true := mem_push_iff (knd := PySem.strKind p w) hkey hmem hperm
  have hsz1 : es1.size = n + 1 := by rw [← Array.length_toList, hperm.length_eq, List.length_append, Array.length_toList, hsz]; rfl
  have hb1' : es1.size < scanBound := by rw [hsz1]; unfold scanBound; omega
  have tail : ∀ (t2 : SetTable), t2.fits es1.size = true → ∃ k o', k ≤ 5 ∧ o'.SetObjOf (PySem.strKind p w) (fun y => S y || decide (y = ⟨#[c]⟩)) (n + 1) ∧
      Runs p w n₀ ann (do
        storeSet hb.objs.size es1 t2
        if (!wasDummy && t2.tooFull) = true then do
            gaveM (relayAll t2 es1 (SetTable.grown es1.size)).2.2
            storeSet hb.objs.size (relayAll t2 es1 (SetTable.grown es1.size)).1 (relayAll t2 es1 (SetTable.grown es1.size)).2.1
            pure (some true)
          else pure (some true)) s1 k (some true) { s1 with heap := hb.push o' } id := by
    intro t2 hf2
    have st1 := storeSet_runs (p := p) (w := w) (n₀ := n₀) (ann := ann) (s := s1) (t' := t2) hN hg1 hd hb1'
    have e1 : ({ s1 with heap := s1.heap.update hb.objs.size (Obj.putSet es1 t2) } : Shared) = { s1 with heap := hb.push { o with data := .set es1 (ep + 1) t2 } } := by
      show Shared.mk _ _ _ _ _ = Shared.mk _ _ _ _ _
      congr 1
      show s.heap.update _ _ = _
      rw [hh, push_update, putSet_of es1 t2 hd]
    rw [e1] at st1
    by_cases hc : (!wasDummy && t2.tooFull) = true
    · have hp := relayAll_perm t2 es1 (SetTable.grown es1.size)
      have hfr2 := relayAll_fits t2 es1 (SetTable.grown es1.size)
      generalize hRl : relayAll t2 es1 (SetTable.grown es1.size) = Rl at hp hfr2 ⊢
      obtain ⟨es2, t3, gave2⟩ := Rl
      dsimp only at hp hfr2
      have hsz2 : es2.size = n + 1 := by rw [← Array.length_toList, hp.length_eq, Array.length_toList, hsz1]
      have hb2 : es2.size < scanBound := by rw [hsz2]; unfold scanBound; omega
      obtain ⟨k2, hk2, g2⟩ := gave_runs (p := p) (w := w) (n₀ := n₀) (ann := ann) gave2 { s1 with heap := hb.push { o with data := .set es1 (ep + 1) t2 } }
      have st2 := storeSet_runs (p := p) (w := w) (n₀ := n₀) (ann := ann) (s := { s1 with heap := hb.push { o with data := .set es1 (ep + 1) t2 } }) (es' := es2) (t' := t3) hN (push_get hb _ rfl) rfl hb2
      have e2 : ({ s1 with heap := (hb.push { o with data := .set es1 (ep + 1) t2 }).update hb.objs.size (Obj.putSet es2 t3) } : Shared) = { s1 with heap := hb.push { o with data := .set es2 (ep + 1 + 1) t3 } } := by
        show Shared.mk _ _ _ _ _ = Shared.mk _ _ _ _ _
        congr 1
        rw [push_update]; rfl
      refine ⟨2 + (k2 + (2 + 0)), { o with data := .set es2 (ep + 1 + 1) t3 }, by omega, ?_, ?_⟩
      · refine ⟨⟨hex.1, hex.2.1, hex.2.2⟩, es2, ep + 1 + 1, t3, rfl, hel1.perm hp, fun k' => (hmem1 k').trans ⟨fun ⟨e, he, q⟩ => ⟨e, hp.mem_iff.mpr he, q⟩, fun ⟨e, he, q⟩ => ⟨e, hp.mem_iff.mp he, q⟩⟩, hsz2, by rw [hsz2]; rw [hsz2] at hfr2; exact hfr2⟩
      · refine Runs.bind0 st1 ?_
        rw [if_pos hc]
        refine Runs.bind0 g2 ?_
        refine Runs.bind0 (st2.cast rfl rfl e2 rfl) ?_
        exact Runs.pure _ _
    · refine ⟨2 + 0, { o with data := .set es1 (ep + 1) t2 }, by omega, ⟨⟨hex.1, hex.2.1, hex.2.2⟩, es1, ep + 1, t2, rfl, hel1, hmem1, hsz1, hf2⟩, ?_⟩
      refine Runs.bind0 st1 ?_
      rw [if_neg hc]
      exact Runs.pure _ _
  obtain ⟨kg, hkg, gg⟩ := gave_runs (p := p) (w := w) (n₀ := n₀) (ann := ann) gave s1
  have main : ∃ k o', k ≤ 20 ∧ o'.SetObjOf (PySem.strKind p w) (fun y => S y || decide (y = ⟨#[c]⟩)) (n + 1) ∧
      Runs p w n₀ ann (setAddHashed hb.objs.size (.str ⟨#[c]⟩ tk) (hashStr w ⟨#[c]⟩)) s1 k true { s1 with heap := hb.push o' } id := by
    by_cases hpl : t1.plain = true
    · obtain ⟨k, o', hk, ho', hr⟩ := tail (if plainKind (.str ⟨#[c]⟩ tk) then t1 else { t1 with plain := false }) (by split; exact hfits; exact SetTable.fits_plain_off hfits)
      refine ⟨1 + (1 + (0 + (kg + (0 + k))) + 0), o', by omega, ho', ?_⟩
      unfold setAddHashed setAddHashedIn
      refine Runs.holding (Runs.bind0 (setState_runs hg1 hd hf) ?_)
      dsimp only
      rw [byScan_of hsc (by omega) hel]
      simp only [↓reduceIte]
      refine Runs.bind0 (a := some true) ?_ (Runs.pure true _)
      unfold setAddByScan
      refine Runs.bind0 (Runs.rule _ _) ?_
      refine Runs.bind0 (scan_runs hel hmem hS _) ?_
      dsimp only
      rw [hL]
      dsimp only
      refine Runs.bind0 gg ?_
      rw [if_pos hpl]
      refine Runs.bind0 (by rw [hashByValue_scannable 8 hsc]; exact Runs.pure _ _) ?_
      exact hr
    · obtain ⟨k, o', hk, ho', hr⟩ := tail t1 hfits
      refine ⟨1 + (1 + (0 + (kg + (0 + k))) + 0), o', by omega, ho', ?_⟩
      unfold setAddHashed setAddHashedIn
      refine Runs.holding (Runs.bind0 (setState_runs hg1 hd hf) ?_)
      dsimp only
      rw [byScan_of hsc (by omega) hel]
      simp only [↓reduceIte]
      refine Runs.bind0 (a := some true) ?_ (Runs.pure true _)
      unfold setAddByScan
      refine Runs.bind0 (Runs.rule _ _) ?_
      refine Runs.bind0 (scan_runs hel hmem hS _) ?_
      dsimp only
      rw [hL]
      dsimp only
      refine Runs.bind0 gg ?_
      rw [if_neg hpl]
      refine Runs.bind0 (Runs.pure _ _) ?_
      exact hr
  obtain ⟨k, o', hk, ho', hr⟩ := main
  refine ⟨7 + k, o', by omega, ho', ?_⟩
  unfold setAdd
  exact Runs.holding (Runs.bind0 (hash_runs c tk s) hr)
end
section
variable {p : Program} {w : World} {n₀ : Nat} {ann : Option Value}
noncomputable def cstM (c : Nat) (q : Pos) : Sem Value := do
  let v ← (do let t ← PySem.fresh; pure (.str ⟨#[c]⟩ t) : Sem Value)
  standAt q
  pure v
theorem cst_runs (c : Nat) (q : Pos) (s : Shared) : Runs p w n₀ ann (cstM c q) s 2 (.str ⟨#[c]⟩ s.toks) { s with toks := s.toks + 1 } (fun _ => q) := by
  intro K H gd lv code pos fr r
  obtain ⟨heap, gens, drawn, toks, os⟩ := s
  rfl
noncomputable def valsOf : List Nat → Tok → List Value
  | [], _ => []
  | c :: cs, t => .str ⟨#[c]⟩ t :: valsOf cs (t + 1)
theorem all_runs (q : Pos) : ∀ (cs : List Nat) (s : Shared), ∃ pe, (cs ≠ [] → pe = fun _ => q) ∧ Runs p w n₀ ann (evalAll (cs.map fun c => cstM c q)) s (2 * cs.length) (valsOf cs s.toks) { s with toks := s.toks + cs.length } pe
  | [], s => ⟨id, fun h => absurd rfl h, Runs.pure _ _⟩
  | c :: cs, s => by
    obtain ⟨pe, hpe, ih⟩ := all_runs q cs { s with toks := s.toks + 1 }
    refine ⟨fun _ => q, fun _ => rfl, ?_⟩
    have e : (id ∘ pe) ∘ (fun _ => q) = fun _ : Pos => q := by
      cases cs with
      | nil =>
        have : ∀ x, pe x = x := by
          intro x
          have := ih (fun _ => .raise .none) .raise id id (.builtin "" {}) x (.ret (fun _ => .raise .none) none false [] (.builtin "" {}) x []) []
          simp only [List.map_nil, evalAll, List.length_nil, Nat.mul_zero, topGo, Option.some.injEq, Prod.mk.injEq, Thread.mk.injEq] at this
          exact this.2.2.2.1.symm
        funext x; exact this q
      | cons c' cs' => rw [hpe (by simp)]; rfl
    have := Runs.bind (cst_runs (p := p) (w := w) (n₀ := n₀) (ann := ann) c q s) (f := fun v => do return v :: (← holding [v] (evalAll (cs.map fun c => cstM c q)))) (Runs.bind (f := fun vs => pure (_ :: vs)) (Runs.holding ih) (Runs.pure _ _))
    refine this.cast ?_ rfl ?_ e
    · simp [Nat.mul_add]; omega
    · show Shared.mk _ _ _ _ _ = Shared.mk _ _ _ _ _
      congr 1
      simp only [List.length_cons]; omega
theorem adds_runs {hb : Heap} (hN : n₀ ≤ hb.objs.size) : ∀ (cs done : List Nat) (t : Tok) (s : Shared) (o : Obj), (done ++ cs).Nodup → (done ++ cs).length < 3000 → o.SetObjOf (PySem.strKind p w) (fun y => done.any fun c => decide (y = ⟨#[c]⟩)) done.length → s.heap = hb.push o →
    ∃ k o', k ≤ 40 * cs.length ∧ o'.SetObjOf (PySem.strKind p w) (fun y => (done ++ cs).any fun c => decide (y = ⟨#[c]⟩)) (done ++ cs).length ∧
      Runs p w n₀ ann (forIn (valsOf cs t) PUnit.unit fun x _ => do let _ ← setAdd hb.objs.size x; pure (ForInStep.yield PUnit.unit)) s k PUnit.unit { s with heap := hb.push o', toks := s.toks + cs.length } id
  | [], done, t, s, o, hn, hl, ho, hh => ⟨0, o, by omega, by simpa using ho, (Runs.pure _ _).cast rfl rfl (by rw [← hh]; rfl) rfl⟩
  | c :: cs, done, t, s, o, hn, hl, ho, hh => by
    have hS : (done.any fun c' => decide ((⟨#[c]⟩ : PySem.Str) = ⟨#[c']⟩)) = false := by
      rw [List.any_eq_false]
      intro c' hc' he
      have : c = c' := by simpa using he
      subst this
      rw [List.nodup_append] at hn
      exact hn.2.2 _ hc' _ (List.mem_cons_self ..) rfl
    obtain ⟨k, o', hk, ho', hr⟩ := setAdd_runs (p := p) (w := w) (n₀ := n₀) (ann := ann) (tk := t) (c := c) hN ho hS (by simp at hl; omega) hh
    have ho2 : o'.SetObjOf (PySem.strKind p w) (fun y => (done ++ [c]).any fun c => decide (y = ⟨#[c]⟩)) (done ++ [c]).length := by
      have e : (fun y : PySem.Str => (done ++ [c]).any fun c => decide (y = ⟨#[c]⟩)) = fun y => (done.any fun c => decide (y = ⟨#[c]⟩)) || decide (y = ⟨#[c]⟩) := by funext y; simp
      rw [e, List.length_append]; exact ho'
    obtain ⟨k2, o2, hk2, h2, hr2⟩ := adds_runs hN cs (done ++ [c]) (t + 1) { s with heap := hb.push o', toks := s.toks + 1 } o' (by simpa using hn) (by simpa using hl) ho2 rfl
    refine ⟨(k + 0) + k2, o2, by simp; omega, by simpa using h2, ?_⟩
    show Runs p w n₀ ann (forIn (Value.str ⟨#[c]⟩ t :: valsOf cs (t + 1)) _ _) _ _ _ _ _
    rw [List.forIn_cons]
    refine (Runs.bind0 (a := ForInStep.yield PUnit.unit) (Runs.bind0 hr (Runs.pure (ForInStep.yield PUnit.unit) _)) hr2).cast rfl rfl ?_ rfl
    show Shared.mk _ _ _ _ _ = Shared.mk _ _ _ _ _
    congr 1
    simp only [List.length_cons]; omega
theorem newSet_runs (s : Shared) : ∃ led, Runs p w n₀ ann (newSet (.type "set")) s 2 (.ref s.heap.objs.size) { s with heap := s.heap.push { cls := .type "set", dict := none, data := .set #[] 0 (.fresh 0 0 led) } } id := by
  refine ⟨!w.params.followText "set-order", ?_⟩
  intro K H gd lv code pos fr r
  obtain ⟨heap, gens, drawn, toks, os⟩ := s
  kernel_rfl
theorem unled_runs {hb : Heap} (hN : n₀ ≤ hb.objs.size) {o : Obj} {S : PySem.Str → Bool} {n : Nat} (ho : o.SetObjOf (PySem.strKind p w) S n) (hn : n < 4000) {s : Shared} (hh : s.heap = hb.push o) :
    ∃ o', o'.SetObjOf (PySem.strKind p w) S n ∧ Runs p w n₀ ann (setUnled hb.objs.size) s 3 () { s with heap := hb.push o' } id := by
  obtain ⟨hex, es, ep, t, hd, hel, hmem, hsz, hf⟩ := ho
  have hfr : o.isFreed = false := by cases o; dsimp only at hd; subst hd; rfl
  have hg1 : s.heap.get? hb.objs.size = some o := by rw [hh]; exact push_get hb o hfr
  refine ⟨{ o with data := .set es (ep + 1) { t with led := false } }, ⟨⟨hex.1, hex.2.1, hex.2.2⟩, es, ep + 1, _, rfl, hel, hmem, hsz, by cases t; exact hf⟩, ?_⟩
  unfold setUnled
  refine Runs.bind0 (n := 1) (n' := 2) (setState_runs hg1 hd hf) ?_
  dsimp only
  refine (storeSet_runs hN hg1 hd (by rw [hsz]; unfold scanBound; omega)).cast rfl rfl ?_ rfl
  show Shared.mk _ _ _ _ _ = Shared.mk _ _ _ _ _
  congr 1
  rw [hh, push_update, putSet_of _ _ hd]
theorem display_runs (cs : List Nat) (hne : cs ≠ []) (hnd : cs.Nodup) (hl : cs.length ≤ 30) (q : Pos) (b : Bool) (s : Shared) (hN : n₀ ≤ s.heap.objs.size) :
    ∃ k o', k ≤ 2000 ∧ o'.SetObjOf (PySem.strKind p w) (fun y => cs.any fun c => decide (y = ⟨#[c]⟩)) cs.length ∧
      Runs p w n₀ ann (setDisplay .unsure b (cs.map fun c => (false, cstM c q))) s k (.ref s.heap.objs.size) { s with heap := s.heap.push o', toks := s.toks + 2 * cs.length } (fun _ => q) := by
  obtain ⟨led, h0⟩ := newSet_runs (p := p) (w := w) (n₀ := n₀) (ann := ann) s
  generalize ho0 : ({ cls := .type "set", dict := none, data := .set #[] 0 (.fresh 0 0 led) } : Obj) = o0 at h0
  have hs0 : o0.SetObjOf (PySem.strKind p w) (fun y => ([] : List Nat).any fun c => decide (y = ⟨#[c]⟩)) ([] : List Nat).length := by
    rw [← ho0]; exact setObjOf_fresh led
  obtain ⟨pe, hpe, h1⟩ := all_runs (p := p) (w := w) (n₀ := n₀) (ann := ann) q cs { s with heap := s.heap.push o0 }
  rw [hpe hne] at h1
  obtain ⟨k2, o2, hk2, hs2, h2⟩ := adds_runs (p := p) (w := w) (n₀ := n₀) (ann := ann) (hb := s.heap) hN cs [] s.toks { s with heap := s.heap.push o0, toks := s.toks + cs.length } o0 (by simpa using hnd) (by simp; omega) hs0 rfl
  rw [List.nil_append] at hs2
  obtain ⟨o3, hs3, h3⟩ := unled_runs (p := p) (w := w) (n₀ := n₀) (ann := ann) (hb := s.heap) hN hs2 (by omega) (s := { s with heap := s.heap.push o2, toks := s.toks + cs.length + cs.length }) rfl
  have hfst : ((cs.map fun c => (false, cstM c q)).findIdx? (·.1)).getD (cs.map fun c => (false, cstM c q)).length = cs.length := by
    have : (cs.map fun c => (false, cstM c q)).findIdx? (·.1) = none := by
      rw [List.findIdx?_eq_none_iff]; intro x hx; obtain ⟨c, _, rfl⟩ := List.mem_map.mp hx; rfl
    rw [this]; simp
  have hfirst : ((cs.map fun c => (false, cstM c q)).take cs.length).map (·.2) = cs.map fun c => cstM c q := by
    rw [List.take_of_length_le (by simp), List.map_map]; rfl
  have hdrop : (cs.map fun c => (false, cstM c q)).drop cs.length = [] := List.drop_of_length_le (by simp)
  refine ⟨2 + ((2 * cs.length + ((k2 + (1 + 3)) + 0)) + 0), o3, by omega, hs3, ?_⟩
  unfold setDisplay
  have hr : (DisplayRoad.unsure == DisplayRoad.constants) = false := rfl
  rw [hr]
  simp only [Bool.false_eq_true, if_false]
  refine (Runs.bind (pe' := fun _ => q) h0 ?_).cast rfl rfl rfl rfl
  dsimp only
  have h30 : ¬ ((cs.map fun c => (false, cstM c q)).length > 30) := by simp; omega
  rw [if_neg h30, hfst]
  rw [hfirst, hdrop]
  refine (Runs.bind (pe := fun _ => q) (pe' := id) (a := ()) (f := fun _ => pure (Value.ref s.heap.objs.size)) (Runs.holding (Runs.bind (pe := fun _ => q) (pe' := id) h1 ?_)) (Runs.pure _ { s with heap := s.heap.push o3, toks := s.toks + cs.length + cs.length })).cast rfl rfl ?_ rfl
  · refine Runs.bind0 (n := k2 + (1 + 3)) (a := ()) (s' := { s with heap := s.heap.push o3, toks := s.toks + cs.length + cs.length }) (Runs.holding (Runs.bind0 h2 ?_)) (Runs.pure _ _)
    have hu : (DisplayRoad.unsure == DisplayRoad.unsure) = true := rfl
    rw [if_pos hu]
    exact Runs.bind0 (Runs.rule _ _) h3
  · show Shared.mk _ _ _ _ _ = Shared.mk _ _ _ _ _
    congr 1
    show s.toks + cs.length + cs.length = _
    omega
end
section
variable {p : Program} {w : World} {n₀ : Nat} {ann : Option Value}
noncomputable def goT (p : Program) (w : World) (n₀ : Nat) (ann : Option Value) : Nat → SharedT → Thread → Option (SharedT × Thread)
  | 0, s, t => some (s, t)
  | n + 1, s, t => match through t with
    | true => none
    | false => match stepOk n₀ ann t with
      | false => none
      | true => match stepT (denote treeTable) p w s t with
        | some (s', t') => goT p w n₀ ann n s' t'
        | none => none
theorem goT_of : ∀ {n : Nat} {s s' : SharedT} {t t' : Thread}, goT p w n₀ ann n s t = some (s', t') → topGo treeTable p w n₀ ann n s.abs t = some (s'.abs, t')
  | 0, _, _, _, _, h => by cases h; rfl
  | n + 1, s, s', t, t', h => by
    conv at h => lhs; whnf
    unfold topGo
    cases he : through t with
    | true => rw [he] at h; cases h
    | false =>
      rw [he] at h
      cases hk : stepOk n₀ ann t with
      | false => rw [hk] at h; cases h
      | true =>
        rw [hk] at h
        cases hs : stepT (denote treeTable) p w s t with
        | none => rw [hs] at h; cases h
        | some r => obtain ⟨s₂, t₂⟩ := r; rw [hs] at h; rw [stepT_spec hs]; exact goT_of h
noncomputable def endT (p : Program) (w : World) (n₀ : Nat) (ann : Option Value) : Nat → SharedT → Thread → Option SharedT
  | 0, _, _ => none
  | n + 1, s, t => match through t with
    | true => some s
    | false => match stepOk n₀ ann t with
      | false => none
      | true => match stepT (denote treeTable) p w s t with
        | some (s', t') => endT p w n₀ ann n s' t'
        | none => none
theorem endT_of : ∀ {n : Nat} {s s' : SharedT} {t : Thread}, endT p w n₀ ann n s t = some s' → topRun treeTable p w n₀ ann n s.abs t = some s'.abs
  | 0, _, _, _, h => by cases h
  | n + 1, s, s', t, h => by
    conv at h => lhs; whnf
    unfold topRun
    cases he : through t with
    | true => rw [he] at h; cases h; rfl
    | false =>
      rw [he] at h
      cases hk : stepOk n₀ ann t with
      | false => rw [hk] at h; cases h
      | true =>
        rw [hk] at h
        cases hs : stepT (denote treeTable) p w s t with
        | none => rw [hs] at h; cases h
        | some r => obtain ⟨s₂, t₂⟩ := r; rw [hs] at h; rw [stepT_spec hs]; exact endT_of h
end
noncomputable def evens : List Obj → List Obj
  | [] => []
  | [x] => [x]
  | x :: _ :: r => x :: evens r
noncomputable def odds : List Obj → List Obj
  | [] => []
  | [_] => []
  | _ :: y :: r => y :: odds r
noncomputable def ofL : Nat → List Obj → BT
  | 0, _ => .nil
  | _, [] => .nil
  | n + 1, x :: r => .node x (ofL n (evens r)) (ofL n (odds r))
noncomputable def bootT (P : Params) : BT := ofL 10 (boot_heap P).objs.toList
noncomputable abbrev pw : Program := PySem.Challenge.pw_ar0042_01
noncomputable abbrev ann0 (w : World) : Option Value := (boot_heap w.params).nsMap mainGlobals "__annotations__"
noncomputable def S0 (w : World) (os : OsState) : SharedT := ⟨bootT w.params, 11, (boot_heap w.params).life, #[], boot_drawn, boot_toks, os⟩
theorem S0_abs (w : World) (os : OsState) : (S0 w os).abs = ⟨boot_heap w.params, #[], boot_drawn, boot_toks, os⟩ := by kernel_rfl
noncomputable def cscope : Stmt → Scope
  | .ClassDef _ _ _ _ _ _ s _ _ _ _ => s
  | _ => default
noncomputable def cbody : List Stmt := fbody (topS 6)
noncomputable def cenv : Env := { scope := cscope (topS 6), locals := 225, globals := 3, cells := [], qual := "DutchPorterStemmer.", func := none, code := .ref 228, frame := some 229, builtins := 0 }
noncomputable def targetsOf : Stmt → List Expr
  | .Assign t _ _ => t
  | _ => []
noncomputable def valueOf : Stmt → Expr
  | .Assign _ v _ => v
  | _ => default
noncomputable def cst (i : Nat) : Stmt := cbody[i]!
noncomputable def crest (i : Nat) : List Stmt := cbody.drop (i + 1)
noncomputable def gA (st : Stmt) (v : Value) : Sem Flow := (swappedStores (targetsOf st) (valueOf st) cenv).bind fun sw => assignStores cenv v sw ((assignEach (targetsOf st) cenv).map (·.2))
noncomputable def g2 (rest : List Stmt) (f : Flow) : Sem Flow := match f with
  | .next => execs rest cenv
  | f => .pure f
noncomputable def CT (i : Nat) (m : Sem Value) : Sem Fin := (((m.bind (gA (cst i))).bind (g2 (crest i))).onRaise (leaving cenv)).bind fun f => .pure (.done f)
theorem CT_wrap (i : Nat) (m : Sem Value) : ∃ H gd lv, CT i m = m.wrap (fun v => CT i (.pure v)) H gd lv := by
  unfold CT
  simp only [Sem.bind_eq_wrap, Sem.onRaise_eq_wrap, Sem.wrap_wrap]
  exact ⟨_, _, _, rfl⟩
noncomputable def setPos (i : Nat) : Pos := (valueOf (cst i)).pos
noncomputable def disp (i : Nat) (cs : List Nat) (b : Bool) : Sem Value := setDisplay .unsure b (cs.map fun c => (false, cstM c (setPos i)))
noncomputable def cs0 : List Nat := [97, 101, 105, 111, 117, 121, 232]
noncomputable def cs1 : List Nat := [73, 97, 101, 105, 111, 117, 121, 232]
noncomputable def cs2 : List Nat := [97, 101, 105, 106, 111, 117, 121, 232]
noncomputable def mbody : List Stmt := pw.main.body
noncomputable def menv : Env := { scope := pw.main.scope, locals := mainNs, globals := mainNs, cells := [], code := .ref 13, frame := some 14 }
noncomputable def MT (i : Nat) : Sem Fin := ((execs (mbody.drop i) menv).onRaise (leaving menv)).bind fun f => .pure (.done f)
noncomputable def fargs : Stmt → Arguments
  | .FunctionDef _ a _ _ _ _ _ _ _ _ => a
  | _ => default
noncomputable def de (P : Params) (k : PySem.Str) (t : Tok) (v : Value) : DictEntry := ⟨PyData.keyHash P k, .str k t, v⟩
noncomputable abbrev xt0 : Obj := ⟨.type "tuple", none, .seq #[] 0, #[]⟩
noncomputable abbrev xf0 : Obj := ⟨.none, none, .fields #[], #[]⟩
noncomputable abbrev xi (i : Int) : Value := .int i 0
noncomputable abbrev fo (n q : PySem.Str) (s : Stmt) : Obj := ⟨.none, none, .func ⟨n, q, fargs s, .stmts (fbody s), fscope s, 0, [], .none, .none, .none, .none, none, .none, .none, 0⟩, #[]⟩
noncomputable abbrev fO (n q : PySem.Str) (s : Stmt) (k : Nat) (m : PySem.Str) (t : Tok) (r : Addr) : Obj := ⟨.type "function", none, .func ⟨n, q, fargs s, .stmts (fbody s), fscope s, k, [], .none, .none, .none, .str m t, none, .ref r, .none, 0⟩, #[]⟩
noncomputable abbrev co (n : PySem.Str) (a : Nat) (q : PySem.Str) (l na k : Int) (r : Nat) (b : Bool) (x y z : Value) (u : Nat) : Obj := ⟨.type "code", none, .fields #[.str n a, .str q (a + 1), .str "/claim/cut.py" (a + 2), .int l 0, .int na 0, .int 0 0, .int 0 0, .int k 0, .ref r, .bool b, .int 181 0, .ref (r + 1), .none, x, y, z, .int u 0, .int l 0, .str "/claim/cut.py" (u + 1)], #[]⟩
noncomputable abbrev tt (v : Array Value) : Obj := ⟨.type "tuple", none, .seq v 0, #[]⟩
noncomputable abbrev dd (v : Array DictEntry) (n : Nat) : Obj := ⟨.type "dict", none, .dict v n, #[]⟩
noncomputable abbrev fd (v : Array DictEntry) (n : Nat) : Obj := ⟨.type "frame", none, .dict v n, #[]⟩
noncomputable abbrev ff (v : Array Value) : Obj := ⟨.none, none, .fields v, #[]⟩
noncomputable abbrev db (P : Params) (k : String) (t : Tok) : DictEntry := de P k t (.builtin k)
noncomputable abbrev dt (P : Params) (k : String) (t : Tok) : DictEntry := de P k t (.type k)
noncomputable abbrev dr (P : Params) (k : PySem.Str) (t : Tok) (r : Addr) : DictEntry := de P k t (.ref r)
noncomputable abbrev am (d : Addr) : Obj := ⟨.ref 218, some d, .plain, #[]⟩
noncomputable def hl0 (P : Params) : List Obj := [
  dd #[de P "__name__" 1 (.str "builtins" 160), de P "__doc__" 2 (.builtin "builtins.__doc__:str#opaque"), de P "__package__" 3 (.builtin "builtins.__package__:str#opaque"), de P "__loader__" 4 (.builtin "builtins.__loader__:shared#opaque"), de P "__spec__" 5 (.builtin "builtins.__spec__#opaque"), db P "__build_class__" 6, db P "__import__" 7, db P "abs" 8, db P "all" 9, db P "any" 10, db P "ascii" 11, db P "bin" 12, db P "breakpoint" 13, db P "callable" 14, db P "chr" 15, db P "compile" 16, db P "delattr" 17, db P "dir" 18, db P "divmod" 19, db P "eval" 20, db P "exec" 21, db P "format" 22, db P "getattr" 23, db P "globals" 24, db P "hasattr" 25, db P "hash" 26, db P "hex" 27, db P "id" 28, db P "input" 29, db P "isinstance" 30, db P "issubclass" 31, db P "iter" 32, db P "aiter" 33, db P "len" 34, db P "locals" 35, db P "max" 36, db P "min" 37, db P "next" 38, db P "anext" 39, db P "oct" 40, db P "ord" 41, db P "pow" 42, db P "print" 43, db P "repr" 44, db P "round" 45, db P "setattr" 46, db P "sorted" 47, db P "sum" 48, db P "vars" 49, de P "None" 50 .none, de P "Ellipsis" 51 .ellipsis, de P "NotImplemented" 52 .notImplemented, de P "False" 53 (.bool false), de P "True" 54 (.bool true), dt P "bool" 55, dt P "memoryview" 56, dt P "bytearray" 57, dt P "bytes" 58, dt P "classmethod" 59, dt P "complex" 60, dt P "dict" 61, dt P "enumerate" 62, dt P "filter" 63, dt P "float" 64, dt P "frozenset" 65, dt P "property" 66, dt P "int" 67, dt P "list" 68, dt P "map" 69, dt P "object" 70, dt P "range" 71, dt P "reversed" 72, dt P "set" 73, dt P "slice" 74, dt P "staticmethod" 75, dt P "str" 76, dt P "super" 77, dt P "tuple" 78, dt P "type" 79, dt P "zip" 80, de P "__debug__" 81 (.bool true), dt P "BaseException" 82, dt P "BaseExceptionGroup" 83, dt P "Exception" 84, dt P "GeneratorExit" 85, dt P "KeyboardInterrupt" 86, dt P "SystemExit" 87, dt P "ArithmeticError" 88, dt P "AssertionError" 89, dt P "AttributeError" 90, dt P "BufferError" 91, dt P "EOFError" 92, dt P "ImportError" 93, dt P "LookupError" 94, dt P "MemoryError" 95, dt P "NameError" 96, dt P "OSError" 97, dt P "ReferenceError" 98, dt P "RuntimeError" 99, dt P "StopAsyncIteration" 100, dt P "StopIteration" 101, dt P "SyntaxError" 102, dt P "SystemError" 103, dt P "TypeError" 104, dt P "ValueError" 105, dt P "Warning" 106, dt P "FloatingPointError" 107, dt P "OverflowError" 108, dt P "ZeroDivisionError" 109, dt P "BytesWarning" 110, dt P "DeprecationWarning" 111, dt P "EncodingWarning" 112, dt P "FutureWarning" 113, dt P "ImportWarning" 114, dt P "PendingDeprecationWarning" 115, dt P "ResourceWarning" 116, dt P "RuntimeWarning" 117, dt P "SyntaxWarning" 118, dt P "UnicodeWarning" 119, dt P "UserWarning" 120, dt P "BlockingIOError" 121, dt P "ChildProcessError" 122, dt P "ConnectionError" 123, dt P "FileExistsError" 124, dt P "FileNotFoundError" 125, dt P "InterruptedError" 126, dt P "IsADirectoryError" 127, dt P "NotADirectoryError" 128, dt P "PermissionError" 129, dt P "ProcessLookupError" 130, dt P "TimeoutError" 131, dt P "IndentationError" 132, dt P "_IncompleteInputError" 133, dt P "IndexError" 134, dt P "KeyError" 135, dt P "ModuleNotFoundError" 136, dt P "NotImplementedError" 137, dt P "PythonFinalizationError" 138, dt P "RecursionError" 139, dt P "UnboundLocalError" 140, dt P "UnicodeError" 141, dt P "BrokenPipeError" 142, dt P "ConnectionAbortedError" 143, dt P "ConnectionRefusedError" 144, dt P "ConnectionResetError" 145, dt P "TabError" 146, dt P "UnicodeDecodeError" 147, dt P "UnicodeEncodeError" 148, dt P "UnicodeTranslateError" 149, dt P "ExceptionGroup" 150, de P "EnvironmentError" 151 (.type "OSError"), de P "IOError" 152 (.type "OSError"), db P "open" 153, de P "quit" 154 (.builtin "builtins.quit#opaque"), de P "exit" 155 (.builtin "builtins.exit#opaque"), de P "copyright" 156 (.builtin "builtins.copyright#opaque"), de P "credits" 157 (.builtin "builtins.credits#opaque"), de P "license" 158 (.builtin "builtins.license#opaque"), de P "help" 159 (.builtin "builtins.help#opaque")] 159,
  dd #[dr P "builtins" 162 4, dr P "__main__" 163 5] 2,
  ⟨.none, none, (.dict #[de P "type.__subclasses__.Exception.0" 1110 (xi 419), de P "type.__subclasses__.Exception.n" 1111 (xi 4), de P "type.__subclasses__.Exception.1" 1130 (xi 432), de P "type.__subclasses__.Exception.2" 1150 (xi 445), de P "type.__subclasses__.Exception.3" 1170 (xi 458)] 5), #[]⟩,
  dd #[de P "__name__" 165 (.str "law_ar0042_01" 1174), de P "__doc__" 166 .none, de P "__package__" 167 .none, de P "__loader__" 168 (.builtin "__main__.__loader__#opaque"), de P "__spec__" 169 .none, dr P "__annotations__" 170 6, dr P "__builtins__" 171 4, de P "__file__" 173 (.str "/claim/cut.py" 172), de P "__cached__" 174 .none, dr P "_wall" 193 21, dr P "BaseStemmer" 435 197, dr P "Among" 470 218, dr P "DutchPorterStemmer" 1093 407, dr P "lab0" 1113 419, dr P "lab1" 1133 432, dr P "lab2" 1153 445, dr P "lab3" 1173 458, de P "_law_sounds" 1177 (.str "bcdfghjklmnpqrstvwxz" 1176), de P "_law_closes" 1179 (.str "bdfghklmnpqrtvwxz" 1178), dr P "_law_vowels" 1185 468, dr P "_law_two" 1191 475, dr P "_law_closed" 1197 482, dr P "_law_families" 1495 617, dr P "_law_at" 1503 624, dr P "_law_some" 1511 631, dr P "_law_last" 1525 638, dr P "_law_root" 1536 645, dr P "_law_word" 1561 652, dr P "law" 1582 659] 29,
  ⟨(.type "module"), (some 0), .plain, #[]⟩,
  ⟨(.type "module"), (some 3), .plain, #[]⟩,
  dd #[] 0,
  xt0,
  xf0,
  ⟨(.type "code"), none, (.fields #[(.str "<module>" 176), (.str "<module>" 177), (.str "/claim/cut.py" 178), (xi 1), (xi 0), (xi 0), (xi 0), (xi 0), (.ref 7), (.bool false), (xi 175), (.ref 8), .none, .none, .none, .none, (xi 179), (xi 1), (.str "/claim/cut.py" 180)]), #[]⟩,
  ⟨(.type "frame"), none, .plain, #[(some (.ref 9)), (some (.ref 3)), (some (.ref 3)), none, (some (.str "__main__" 164)), none, (some (.ref 0))]⟩,
  xt0,
  ff #[(xi 1), (xi 0), (.ref 20), (xi 5), (xi 0), (.ref 27), (xi 203), (xi 0), (.ref 207), (xi 210), (xi 0), (.ref 228), (xi 565), (xi 0), (.ref 415), (xi 567), (xi 0), (.ref 428), (xi 569), (xi 0), (.ref 441), (xi 571), (xi 0), (.ref 454), (xi 576), (xi 0), (.ref 467), (xi 578), (xi 0), (.ref 474), (xi 580), (xi 0), (.ref 481), (xi 583), (xi 0), (.ref 623), (xi 587), (xi 0), (.ref 630), (xi 593), (xi 0), (.ref 637), (xi 618), (xi 0), (.ref 644), (xi 624), (xi 0), (.ref 651), (xi 640), (xi 0), (.ref 658)],
  co "<module>" 182 "<module>" 1 0 0 11 false .none .none .none 185,
  ⟨(.type "frame"), none, .plain, #[(some (.ref 13)), (some (.ref 3)), (some (.ref 3)), none, (some (.str "__main__" 164)), none, (some (.ref 0))]⟩,
  xt0,
  xf0,
  tt #[(.str "k" 190)],
  xt0,
  fo "_wall" "_wall" (topS 0),
  co "_wall" 187 "_wall" 1 1 3 15 true (.ref 17) (.ref 18) (.ref 19) 191,
  fO "_wall" "_wall" (topS 0) 3 "__main__" 164 20,
  xt0,
  ⟨(.type "builtin_function_or_method"), none, (.fields #[(.builtin "type.__prepare__"), (.type "type")]), #[]⟩,
  dd #[de P "__module__" 203 (.str "snowballstemmer.basestemmer" 194), de P "__qualname__" 205 (.str "BaseStemmer" 204), de P "__firstlineno__" 207 (.int 5 206), dr P "__init__" 214 35, dr P "set_current" 222 42, dr P "get_current" 229 49, dr P "copy_from" 237 56, dr P "in_grouping" 245 63, dr P "go_in_grouping" 253 70, dr P "in_grouping_b" 261 77, dr P "go_in_grouping_b" 269 84, dr P "out_grouping" 277 91, dr P "go_out_grouping" 285 98, dr P "out_grouping_b" 293 105, dr P "go_out_grouping_b" 301 112, dr P "eq_s" 309 119, dr P "eq_s_b" 317 126, dr P "find_among" 337 133, dr P "find_among_b" 357 140, dr P "replace_s" 368 147, dr P "slice_from" 376 154, dr P "slice_del" 383 161, dr P "insert" 393 168, dr P "slice_to" 400 175, dr P "assign_to" 407 182, dr P "stemWord" 415 189, dr P "stemWords" 421 194, dr P "__static_attributes__" 428 195] 28,
  xt0,
  ff #[(xi 7), (xi 4), (.ref 34), (xi 10), (xi 4), (.ref 41), (xi 18), (xi 4), (.ref 48), (xi 21), (xi 4), (.ref 55), (xi 24), (xi 4), (.ref 62), (xi 32), (xi 4), (.ref 69), (xi 39), (xi 4), (.ref 76), (xi 42), (xi 4), (.ref 83), (xi 45), (xi 4), (.ref 90), (xi 48), (xi 4), (.ref 97), (xi 55), (xi 4), (.ref 104), (xi 63), (xi 4), (.ref 111), (xi 66), (xi 4), (.ref 118), (xi 69), (xi 4), (.ref 125), (xi 75), (xi 4), (.ref 132), (xi 120), (xi 4), (.ref 139), (xi 165), (xi 4), (.ref 146), (xi 175), (xi 4), (.ref 153), (xi 183), (xi 4), (.ref 160), (xi 186), (xi 4), (.ref 167), (xi 189), (xi 4), (.ref 174), (xi 192), (xi 4), (.ref 181), (xi 195), (xi 4), (.ref 188), (xi 200), (xi 4), (.ref 193)],
  co "BaseStemmer" 198 "BaseStemmer" 5 0 0 25 false .none .none .none 201,
  ⟨(.type "frame"), none, .plain, #[(some (.ref 27)), (some (.ref 3)), (some (.ref 24)), none, (some (.str "snowballstemmer.basestemmer" 194)), none, (some (.ref 0))]⟩,
  xt0,
  xf0,
  tt #[(.str "self" 211)],
  xt0,
  fo "__init__" "BaseStemmer.__init__" (subS 2 0),
  co "__init__" 208 "BaseStemmer.__init__" 7 1 3 29 true (.ref 31) (.ref 32) (.ref 33) 212,
  fO "__init__" "BaseStemmer.__init__" (subS 2 0) 3 "snowballstemmer.basestemmer" 194 34,
  xt0,
  xf0,
  tt #[(.str "self" 218), (.str "value" 219)],
  xt0,
  fo "set_current" "BaseStemmer.set_current" (subS 2 1),
  co "set_current" 215 "BaseStemmer.set_current" 10 2 3 36 true (.ref 38) (.ref 39) (.ref 40) 220,
  fO "set_current" "BaseStemmer.set_current" (subS 2 1) 3 "snowballstemmer.basestemmer" 194 41,
  xt0,
  xf0,
  tt #[(.str "self" 226)],
  xt0,
  fo "get_current" "BaseStemmer.get_current" (subS 2 2),
  co "get_current" 223 "BaseStemmer.get_current" 18 1 3 43 true (.ref 45) (.ref 46) (.ref 47) 227,
  fO "get_current" "BaseStemmer.get_current" (subS 2 2) 3 "snowballstemmer.basestemmer" 194 48,
  xt0,
  xf0,
  tt #[(.str "self" 233), (.str "other" 234)],
  xt0,
  fo "copy_from" "BaseStemmer.copy_from" (subS 2 3),
  co "copy_from" 230 "BaseStemmer.copy_from" 21 2 3 50 true (.ref 52) (.ref 53) (.ref 54) 235,
  fO "copy_from" "BaseStemmer.copy_from" (subS 2 3) 3 "snowballstemmer.basestemmer" 194 55,
  xt0,
  xf0,
  tt #[(.str "self" 241), (.str "s" 242)]]
noncomputable def hl1 (P : Params) : List Obj := [
  xt0,
  fo "in_grouping" "BaseStemmer.in_grouping" (subS 2 4),
  co "in_grouping" 238 "BaseStemmer.in_grouping" 24 2 3 57 true (.ref 59) (.ref 60) (.ref 61) 243,
  fO "in_grouping" "BaseStemmer.in_grouping" (subS 2 4) 3 "snowballstemmer.basestemmer" 194 62,
  xt0,
  xf0,
  tt #[(.str "self" 249), (.str "s" 250)],
  xt0,
  fo "go_in_grouping" "BaseStemmer.go_in_grouping" (subS 2 5),
  co "go_in_grouping" 246 "BaseStemmer.go_in_grouping" 32 2 3 64 true (.ref 66) (.ref 67) (.ref 68) 251,
  fO "go_in_grouping" "BaseStemmer.go_in_grouping" (subS 2 5) 3 "snowballstemmer.basestemmer" 194 69,
  xt0,
  xf0,
  tt #[(.str "self" 257), (.str "s" 258)],
  xt0,
  fo "in_grouping_b" "BaseStemmer.in_grouping_b" (subS 2 6),
  co "in_grouping_b" 254 "BaseStemmer.in_grouping_b" 39 2 3 71 true (.ref 73) (.ref 74) (.ref 75) 259,
  fO "in_grouping_b" "BaseStemmer.in_grouping_b" (subS 2 6) 3 "snowballstemmer.basestemmer" 194 76,
  xt0,
  xf0,
  tt #[(.str "self" 265), (.str "s" 266)],
  xt0,
  fo "go_in_grouping_b" "BaseStemmer.go_in_grouping_b" (subS 2 7),
  co "go_in_grouping_b" 262 "BaseStemmer.go_in_grouping_b" 42 2 3 78 true (.ref 80) (.ref 81) (.ref 82) 267,
  fO "go_in_grouping_b" "BaseStemmer.go_in_grouping_b" (subS 2 7) 3 "snowballstemmer.basestemmer" 194 83,
  xt0,
  xf0,
  tt #[(.str "self" 273), (.str "s" 274)],
  xt0,
  fo "out_grouping" "BaseStemmer.out_grouping" (subS 2 8),
  co "out_grouping" 270 "BaseStemmer.out_grouping" 45 2 3 85 true (.ref 87) (.ref 88) (.ref 89) 275,
  fO "out_grouping" "BaseStemmer.out_grouping" (subS 2 8) 3 "snowballstemmer.basestemmer" 194 90,
  xt0,
  xf0,
  tt #[(.str "self" 281), (.str "s" 282)],
  xt0,
  fo "go_out_grouping" "BaseStemmer.go_out_grouping" (subS 2 9),
  co "go_out_grouping" 278 "BaseStemmer.go_out_grouping" 48 2 3 92 true (.ref 94) (.ref 95) (.ref 96) 283,
  fO "go_out_grouping" "BaseStemmer.go_out_grouping" (subS 2 9) 3 "snowballstemmer.basestemmer" 194 97,
  xt0,
  xf0,
  tt #[(.str "self" 289), (.str "s" 290)],
  xt0,
  fo "out_grouping_b" "BaseStemmer.out_grouping_b" (subS 2 10),
  co "out_grouping_b" 286 "BaseStemmer.out_grouping_b" 55 2 3 99 true (.ref 101) (.ref 102) (.ref 103) 291,
  fO "out_grouping_b" "BaseStemmer.out_grouping_b" (subS 2 10) 3 "snowballstemmer.basestemmer" 194 104,
  xt0,
  xf0,
  tt #[(.str "self" 297), (.str "s" 298)],
  xt0,
  fo "go_out_grouping_b" "BaseStemmer.go_out_grouping_b" (subS 2 11),
  co "go_out_grouping_b" 294 "BaseStemmer.go_out_grouping_b" 63 2 3 106 true (.ref 108) (.ref 109) (.ref 110) 299,
  fO "go_out_grouping_b" "BaseStemmer.go_out_grouping_b" (subS 2 11) 3 "snowballstemmer.basestemmer" 194 111,
  xt0,
  xf0,
  tt #[(.str "self" 305), (.str "s" 306)],
  xt0,
  fo "eq_s" "BaseStemmer.eq_s" (subS 2 12),
  co "eq_s" 302 "BaseStemmer.eq_s" 66 2 3 113 true (.ref 115) (.ref 116) (.ref 117) 307,
  fO "eq_s" "BaseStemmer.eq_s" (subS 2 12) 3 "snowballstemmer.basestemmer" 194 118]
noncomputable def hl2 (P : Params) : List Obj := [
  xt0,
  xf0,
  tt #[(.str "self" 313), (.str "s" 314)],
  xt0,
  fo "eq_s_b" "BaseStemmer.eq_s_b" (subS 2 13),
  co "eq_s_b" 310 "BaseStemmer.eq_s_b" 69 2 3 120 true (.ref 122) (.ref 123) (.ref 124) 315,
  fO "eq_s_b" "BaseStemmer.eq_s_b" (subS 2 13) 3 "snowballstemmer.basestemmer" 194 125,
  xt0,
  xf0,
  tt #[(.str "self" 321), (.str "v" 322), (.str "i" 323), (.str "j" 324), (.str "c" 325), (.str "l" 326), (.str "common_i" 327), (.str "common_j" 328), (.str "first_key_inspected" 329), (.str "k" 330), (.str "diff" 331), (.str "common" 332), (.str "w" 333), (.str "i2" 334)],
  xt0,
  fo "find_among" "BaseStemmer.find_among" (subS 2 14),
  co "find_among" 318 "BaseStemmer.find_among" 75 2 3 127 true (.ref 129) (.ref 130) (.ref 131) 335,
  fO "find_among" "BaseStemmer.find_among" (subS 2 14) 3 "snowballstemmer.basestemmer" 194 132,
  xt0,
  xf0,
  tt #[(.str "self" 341), (.str "v" 342), (.str "i" 343), (.str "j" 344), (.str "c" 345), (.str "lb" 346), (.str "common_i" 347), (.str "common_j" 348), (.str "first_key_inspected" 349), (.str "k" 350), (.str "diff" 351), (.str "common" 352), (.str "w" 353), (.str "i2" 354)],
  xt0,
  fo "find_among_b" "BaseStemmer.find_among_b" (subS 2 15),
  co "find_among_b" 338 "BaseStemmer.find_among_b" 120 2 3 134 true (.ref 136) (.ref 137) (.ref 138) 355,
  fO "find_among_b" "BaseStemmer.find_among_b" (subS 2 15) 3 "snowballstemmer.basestemmer" 194 139,
  xt0,
  xf0,
  tt #[(.str "self" 361), (.str "c_bra" 362), (.str "c_ket" 363), (.str "s" 364), (.str "adjustment" 365)],
  xt0,
  fo "replace_s" "BaseStemmer.replace_s" (subS 2 16),
  co "replace_s" 358 "BaseStemmer.replace_s" 165 4 3 141 true (.ref 143) (.ref 144) (.ref 145) 366,
  fO "replace_s" "BaseStemmer.replace_s" (subS 2 16) 3 "snowballstemmer.basestemmer" 194 146,
  xt0,
  xf0,
  tt #[(.str "self" 372), (.str "s" 373)],
  xt0,
  fo "slice_from" "BaseStemmer.slice_from" (subS 2 17),
  co "slice_from" 369 "BaseStemmer.slice_from" 175 2 3 148 true (.ref 150) (.ref 151) (.ref 152) 374,
  fO "slice_from" "BaseStemmer.slice_from" (subS 2 17) 3 "snowballstemmer.basestemmer" 194 153,
  xt0,
  xf0,
  tt #[(.str "self" 380)],
  xt0,
  fo "slice_del" "BaseStemmer.slice_del" (subS 2 18),
  co "slice_del" 377 "BaseStemmer.slice_del" 183 1 3 155 true (.ref 157) (.ref 158) (.ref 159) 381,
  fO "slice_del" "BaseStemmer.slice_del" (subS 2 18) 3 "snowballstemmer.basestemmer" 194 160,
  xt0,
  xf0,
  tt #[(.str "self" 387), (.str "c_bra" 388), (.str "c_ket" 389), (.str "s" 390)],
  xt0,
  fo "insert" "BaseStemmer.insert" (subS 2 19),
  co "insert" 384 "BaseStemmer.insert" 186 4 3 162 true (.ref 164) (.ref 165) (.ref 166) 391,
  fO "insert" "BaseStemmer.insert" (subS 2 19) 3 "snowballstemmer.basestemmer" 194 167,
  xt0,
  xf0,
  tt #[(.str "self" 397)],
  xt0,
  fo "slice_to" "BaseStemmer.slice_to" (subS 2 20),
  co "slice_to" 394 "BaseStemmer.slice_to" 189 1 3 169 true (.ref 171) (.ref 172) (.ref 173) 398,
  fO "slice_to" "BaseStemmer.slice_to" (subS 2 20) 3 "snowballstemmer.basestemmer" 194 174,
  xt0,
  xf0,
  tt #[(.str "self" 404)],
  xt0]
noncomputable def hl3 (P : Params) (o1 o2 o3 : Obj) : List Obj := [
  fo "assign_to" "BaseStemmer.assign_to" (subS 2 21),
  co "assign_to" 401 "BaseStemmer.assign_to" 192 1 3 176 true (.ref 178) (.ref 179) (.ref 180) 405,
  fO "assign_to" "BaseStemmer.assign_to" (subS 2 21) 3 "snowballstemmer.basestemmer" 194 181,
  xt0,
  xf0,
  tt #[(.str "self" 411), (.str "word" 412)],
  xt0,
  fo "stemWord" "BaseStemmer.stemWord" (subS 2 22),
  co "stemWord" 408 "BaseStemmer.stemWord" 195 2 3 183 true (.ref 185) (.ref 186) (.ref 187) 413,
  fO "stemWord" "BaseStemmer.stemWord" (subS 2 22) 3 "snowballstemmer.basestemmer" 194 188,
  xt0,
  xf0,
  fo "stemWords" "BaseStemmer.stemWords" (subS 2 23),
  co "stemWords" 416 "BaseStemmer.stemWords" 200 2 3 190 true .none .none (.ref 192) 419,
  fO "stemWords" "BaseStemmer.stemWords" (subS 2 23) 3 "snowballstemmer.basestemmer" 194 193,
  tt #[(.str "bra" 422), (.str "current" 423), (.str "cursor" 424), (.str "ket" 425), (.str "limit" 426), (.str "limit_backward" 427)],
  dd #[de P "__module__" 203 (.str "snowballstemmer.basestemmer" 194), de P "__firstlineno__" 207 (.int 5 206), dr P "__init__" 214 35, dr P "set_current" 222 42, dr P "get_current" 229 49, dr P "copy_from" 237 56, dr P "in_grouping" 245 63, dr P "go_in_grouping" 253 70, dr P "in_grouping_b" 261 77, dr P "go_in_grouping_b" 269 84, dr P "out_grouping" 277 91, dr P "go_out_grouping" 285 98, dr P "out_grouping_b" 293 105, dr P "go_out_grouping_b" 301 112, dr P "eq_s" 309 119, dr P "eq_s_b" 317 126, dr P "find_among" 337 133, dr P "find_among_b" 357 140, dr P "replace_s" 368 147, dr P "slice_from" 376 154, dr P "slice_del" 383 161, dr P "insert" 393 168, dr P "slice_to" 400 175, dr P "assign_to" 407 182, dr P "stemWord" 415 189, dr P "stemWords" 421 194, dr P "__static_attributes__" 428 195, dr P "__dict__" 430 198, dr P "__weakref__" 432 199, de P "__doc__" 433 .none] 4,
  ⟨(.type "type"), none, (.cls ⟨"BaseStemmer", [(.type "object")], [(.ref 197), (.type "object")], 196, "BaseStemmer", true, [], [(.ref 407)], false, none, false⟩), #[none, none, (some (.str "BaseStemmer" 196)), (some (.str "BaseStemmer" 204)), (some (.builtin "object.__new__")), (some (.bool true))]⟩,
  ⟨(.type "getset_descriptor"), none, (.fields #[(.str "__dict__" 429), (.ref 197), (.builtin "function.__dict__"), (.builtin "function.__dict__#set")]), #[]⟩,
  ⟨(.type "getset_descriptor"), none, (.fields #[(.str "__weakref__" 431), (.ref 197), (.builtin "ExceptionGroup.__weakref__"), .none]), #[]⟩,
  ⟨(.type "super"), none, (.fields #[(.ref 197), (.ref 197), (.ref 197)]), #[]⟩,
  ⟨(.type "builtin_function_or_method"), none, (.fields #[(.builtin "object.__init_subclass__"), (.ref 197)]), #[]⟩,
  xt0,
  ⟨(.type "builtin_function_or_method"), none, (.fields #[(.builtin "type.__prepare__"), (.type "type")]), #[]⟩,
  dd #[de P "__module__" 445 (.str "snowballstemmer.among" 436), de P "__qualname__" 447 (.str "Among" 446), de P "__firstlineno__" 449 (.int 203 448), dr P "__init__" 459 215, dr P "__static_attributes__" 463 216] 5,
  xt0,
  ff #[(xi 205), (xi 4), (.ref 214)],
  co "Among" 440 "Among" 203 0 0 205 false .none .none .none 443,
  ⟨(.type "frame"), none, .plain, #[(some (.ref 207)), (some (.ref 3)), (some (.ref 204)), none, (some (.str "snowballstemmer.among" 436)), none, (some (.ref 0))]⟩,
  xt0,
  xf0,
  tt #[(.str "self" 453), (.str "s" 454), (.str "substring_i" 455), (.str "result" 456)],
  xt0,
  fo "__init__" "Among.__init__" (subS 4 0),
  co "__init__" 450 "Among.__init__" 205 4 3 209 true (.ref 211) (.ref 212) (.ref 213) 457,
  fO "__init__" "Among.__init__" (subS 4 0) 3 "snowballstemmer.among" 436 214,
  tt #[(.str "result" 460), (.str "s" 461), (.str "substring_i" 462)],
  dd #[de P "__module__" 445 (.str "snowballstemmer.among" 436), de P "__firstlineno__" 449 (.int 203 448), dr P "__init__" 459 215, dr P "__static_attributes__" 463 216, dr P "__dict__" 465 219, dr P "__weakref__" 467 220, de P "__doc__" 468 .none] 4,
  ⟨(.type "type"), none, (.cls ⟨"Among", [(.type "object")], [(.ref 218), (.type "object")], 217, "Among", true, [], [], false, none, false⟩), #[none, none, (some (.str "Among" 438)), (some (.str "Among" 446)), (some (.builtin "object.__new__")), (some (.bool true))]⟩,
  ⟨(.type "getset_descriptor"), none, (.fields #[(.str "__dict__" 464), (.ref 218), (.builtin "function.__dict__"), (.builtin "function.__dict__#set")]), #[]⟩,
  ⟨(.type "getset_descriptor"), none, (.fields #[(.str "__weakref__" 466), (.ref 218), (.builtin "ExceptionGroup.__weakref__"), .none]), #[]⟩,
  ⟨(.type "super"), none, (.fields #[(.ref 218), (.ref 218), (.ref 218)]), #[]⟩,
  ⟨(.type "builtin_function_or_method"), none, (.fields #[(.builtin "object.__init_subclass__"), (.ref 218)]), #[]⟩,
  tt #[(.ref 197)],
  ⟨(.type "builtin_function_or_method"), none, (.fields #[(.builtin "type.__prepare__"), (.type "type")]), #[]⟩,
  dd #[de P "__module__" 480 (.str "snowballstemmer.dutch_porter_stemmer" 471), de P "__qualname__" 482 (.str "DutchPorterStemmer" 481), de P "__firstlineno__" 484 (.int 210 483), dr P "g_v" 499 230, dr P "g_v_I" 516 231, dr P "g_v_j" 533 232, de P "I_p2" 535 (.int 0 534), de P "I_p1" 537 (.int 0 536), de P "B_e_found" 538 (.bool false), dr P "r_prelude" 553 239, dr P "r_mark_regions" 562 246, dr P "r_postlude" 571 253, dr P "r_R1" 578 260, dr P "r_R2" 585 267, dr P "r_undouble" 593 274, dr P "r_e_ending" 601 281, dr P "r_en_ending" 609 288, dr P "r_standard_suffix" 624 295, dr P "_stem" 634 302, dr P "a_0" 779 336, dr P "a_1" 820 346, dr P "a_2" 866 356, dr P "a_3" 936 372, dr P "a_4" 1021 391, dr P "a_5" 1082 404, dr P "__static_attributes__" 1090 405] 26,
  xt0,
  ff #[(xi 218), (xi 4), (.ref 238), (xi 301), (xi 4), (.ref 245), (xi 332), (xi 4), (.ref 252), (xi 354), (xi 4), (.ref 259), (xi 357), (xi 4), (.ref 266), (xi 360), (xi 4), (.ref 273), (xi 373), (xi 4), (.ref 280), (xi 390), (xi 4), (.ref 287), (xi 406), (xi 4), (.ref 294), (xi 544), (xi 4), (.ref 301)],
  co "DutchPorterStemmer" 475 "DutchPorterStemmer" 210 0 0 226 false .none .none .none 478,
  ⟨(.type "frame"), none, .plain, #[(some (.ref 228)), (some (.ref 3)), (some (.ref 225)), none, (some (.str "snowballstemmer.dutch_porter_stemmer" 471)), none, (some (.ref 0))]⟩,
  o1,
  o2,
  o3,
  xt0,
  xf0,
  tt #[(.str "self" 542), (.str "v_1" 543), (.str "v_2" 544), (.str "among_var" 545), (.str "v_3" 546), (.str "v_4" 547), (.str "v_5" 548), (.str "v_6" 549), (.str "v_7" 550)],
  xt0,
  fo "r_prelude" "DutchPorterStemmer.r_prelude" (subS 6 6),
  co "r_prelude" 539 "DutchPorterStemmer.r_prelude" 218 1 3 233 true (.ref 235) (.ref 236) (.ref 237) 551,
  fO "r_prelude" "DutchPorterStemmer.r_prelude" (subS 6 6) 3 "snowballstemmer.dutch_porter_stemmer" 471 238]
noncomputable def hl4 (P : Params) : List Obj := [
  xt0,
  xf0,
  tt #[(.str "self" 557), (.str "v_1" 558), (.str "I_x" 559)],
  xt0,
  fo "r_mark_regions" "DutchPorterStemmer.r_mark_regions" (subS 6 7),
  co "r_mark_regions" 554 "DutchPorterStemmer.r_mark_regions" 301 1 3 240 true (.ref 242) (.ref 243) (.ref 244) 560,
  fO "r_mark_regions" "DutchPorterStemmer.r_mark_regions" (subS 6 7) 3 "snowballstemmer.dutch_porter_stemmer" 471 245,
  xt0,
  xf0,
  tt #[(.str "self" 566), (.str "v_1" 567), (.str "among_var" 568)],
  xt0,
  fo "r_postlude" "DutchPorterStemmer.r_postlude" (subS 6 8),
  co "r_postlude" 563 "DutchPorterStemmer.r_postlude" 332 1 3 247 true (.ref 249) (.ref 250) (.ref 251) 569,
  fO "r_postlude" "DutchPorterStemmer.r_postlude" (subS 6 8) 3 "snowballstemmer.dutch_porter_stemmer" 471 252,
  xt0,
  xf0,
  tt #[(.str "self" 575)],
  xt0,
  fo "r_R1" "DutchPorterStemmer.r_R1" (subS 6 9),
  co "r_R1" 572 "DutchPorterStemmer.r_R1" 354 1 3 254 true (.ref 256) (.ref 257) (.ref 258) 576,
  fO "r_R1" "DutchPorterStemmer.r_R1" (subS 6 9) 3 "snowballstemmer.dutch_porter_stemmer" 471 259,
  xt0,
  xf0,
  tt #[(.str "self" 582)],
  xt0,
  fo "r_R2" "DutchPorterStemmer.r_R2" (subS 6 10),
  co "r_R2" 579 "DutchPorterStemmer.r_R2" 357 1 3 261 true (.ref 263) (.ref 264) (.ref 265) 583,
  fO "r_R2" "DutchPorterStemmer.r_R2" (subS 6 10) 3 "snowballstemmer.dutch_porter_stemmer" 471 266,
  xt0,
  xf0,
  tt #[(.str "self" 589), (.str "v_1" 590)],
  xt0,
  fo "r_undouble" "DutchPorterStemmer.r_undouble" (subS 6 11),
  co "r_undouble" 586 "DutchPorterStemmer.r_undouble" 360 1 3 268 true (.ref 270) (.ref 271) (.ref 272) 591,
  fO "r_undouble" "DutchPorterStemmer.r_undouble" (subS 6 11) 3 "snowballstemmer.dutch_porter_stemmer" 471 273,
  xt0,
  xf0,
  tt #[(.str "self" 597), (.str "v_1" 598)],
  xt0,
  fo "r_e_ending" "DutchPorterStemmer.r_e_ending" (subS 6 12),
  co "r_e_ending" 594 "DutchPorterStemmer.r_e_ending" 373 1 3 275 true (.ref 277) (.ref 278) (.ref 279) 599,
  fO "r_e_ending" "DutchPorterStemmer.r_e_ending" (subS 6 12) 3 "snowballstemmer.dutch_porter_stemmer" 471 280,
  xt0,
  xf0,
  tt #[(.str "self" 605), (.str "v_1" 606)],
  xt0,
  fo "r_en_ending" "DutchPorterStemmer.r_en_ending" (subS 6 13),
  co "r_en_ending" 602 "DutchPorterStemmer.r_en_ending" 390 1 3 282 true (.ref 284) (.ref 285) (.ref 286) 607,
  fO "r_en_ending" "DutchPorterStemmer.r_en_ending" (subS 6 13) 3 "snowballstemmer.dutch_porter_stemmer" 471 287,
  xt0,
  xf0,
  tt #[(.str "self" 613), (.str "v_1" 614), (.str "among_var" 615), (.str "v_2" 616), (.str "v_3" 617), (.str "v_4" 618), (.str "v_5" 619), (.str "v_6" 620), (.str "v_7" 621)],
  xt0,
  fo "r_standard_suffix" "DutchPorterStemmer.r_standard_suffix" (subS 6 14),
  co "r_standard_suffix" 610 "DutchPorterStemmer.r_standard_suffix" 406 1 3 289 true (.ref 291) (.ref 292) (.ref 293) 622,
  fO "r_standard_suffix" "DutchPorterStemmer.r_standard_suffix" (subS 6 14) 3 "snowballstemmer.dutch_porter_stemmer" 471 294,
  xt0,
  xf0,
  tt #[(.str "self" 628), (.str "v_1" 629), (.str "v_2" 630), (.str "v_3" 631)],
  xt0]
noncomputable def hl5 (P : Params) : List Obj := [
  fo "_stem" "DutchPorterStemmer._stem" (subS 6 15),
  co "_stem" 625 "DutchPorterStemmer._stem" 544 1 3 296 true (.ref 298) (.ref 299) (.ref 300) 632,
  fO "_stem" "DutchPorterStemmer._stem" (subS 6 15) 3 "snowballstemmer.dutch_porter_stemmer" 471 301,
  dd #[de P "s" 644 (.str "" 635), de P "substring_i" 646 (.int (-1) 637), de P "result" 648 (.int 6 638)] 3,
  am 303,
  fd #[dr P "self" 639 304, de P "s" 640 (.str "" 635), de P "substring_i" 641 (.int (-1) 637), de P "result" 642 (.int 6 638)] 4,
  dd #[de P "s" 657 (.str "á" 649), de P "substring_i" 659 (.int 0 650), de P "result" 661 (.int 1 651)] 3,
  am 306,
  fd #[dr P "self" 652 307, de P "s" 653 (.str "á" 649), de P "substring_i" 654 (.int 0 650), de P "result" 655 (.int 1 651)] 4,
  dd #[de P "s" 670 (.str "ä" 662), de P "substring_i" 672 (.int 0 663), de P "result" 674 (.int 1 664)] 3,
  am 309,
  fd #[dr P "self" 665 310, de P "s" 666 (.str "ä" 662), de P "substring_i" 667 (.int 0 663), de P "result" 668 (.int 1 664)] 4,
  dd #[de P "s" 683 (.str "é" 675), de P "substring_i" 685 (.int 0 676), de P "result" 687 (.int 2 677)] 3,
  am 312,
  fd #[dr P "self" 678 313, de P "s" 679 (.str "é" 675), de P "substring_i" 680 (.int 0 676), de P "result" 681 (.int 2 677)] 4,
  dd #[de P "s" 696 (.str "ë" 688), de P "substring_i" 698 (.int 0 689), de P "result" 700 (.int 2 690)] 3,
  am 315,
  fd #[dr P "self" 691 316, de P "s" 692 (.str "ë" 688), de P "substring_i" 693 (.int 0 689), de P "result" 694 (.int 2 690)] 4,
  dd #[de P "s" 709 (.str "í" 701), de P "substring_i" 711 (.int 0 702), de P "result" 713 (.int 3 703)] 3,
  am 318,
  fd #[dr P "self" 704 319, de P "s" 705 (.str "í" 701), de P "substring_i" 706 (.int 0 702), de P "result" 707 (.int 3 703)] 4,
  dd #[de P "s" 722 (.str "ï" 714), de P "substring_i" 724 (.int 0 715), de P "result" 726 (.int 3 716)] 3,
  am 321,
  fd #[dr P "self" 717 322, de P "s" 718 (.str "ï" 714), de P "substring_i" 719 (.int 0 715), de P "result" 720 (.int 3 716)] 4,
  dd #[de P "s" 735 (.str "ó" 727), de P "substring_i" 737 (.int 0 728), de P "result" 739 (.int 4 729)] 3,
  am 324,
  fd #[dr P "self" 730 325, de P "s" 731 (.str "ó" 727), de P "substring_i" 732 (.int 0 728), de P "result" 733 (.int 4 729)] 4,
  dd #[de P "s" 748 (.str "ö" 740), de P "substring_i" 750 (.int 0 741), de P "result" 752 (.int 4 742)] 3,
  am 327,
  fd #[dr P "self" 743 328, de P "s" 744 (.str "ö" 740), de P "substring_i" 745 (.int 0 741), de P "result" 746 (.int 4 742)] 4,
  dd #[de P "s" 761 (.str "ú" 753), de P "substring_i" 763 (.int 0 754), de P "result" 765 (.int 5 755)] 3,
  am 330,
  fd #[dr P "self" 756 331, de P "s" 757 (.str "ú" 753), de P "substring_i" 758 (.int 0 754), de P "result" 759 (.int 5 755)] 4,
  dd #[de P "s" 774 (.str "ü" 766), de P "substring_i" 776 (.int 0 767), de P "result" 778 (.int 5 768)] 3,
  am 333,
  fd #[dr P "self" 769 334, de P "s" 770 (.str "ü" 766), de P "substring_i" 771 (.int 0 767), de P "result" 772 (.int 5 768)] 4,
  ⟨(.type "list"), none, (.seq #[(.ref 304), (.ref 307), (.ref 310), (.ref 313), (.ref 316), (.ref 319), (.ref 322), (.ref 325), (.ref 328), (.ref 331), (.ref 334)] 0), #[]⟩,
  dd #[de P "s" 789 (.str "" 780), de P "substring_i" 791 (.int (-1) 782), de P "result" 793 (.int 3 783)] 3,
  am 337,
  fd #[dr P "self" 784 338, de P "s" 785 (.str "" 780), de P "substring_i" 786 (.int (-1) 782), de P "result" 787 (.int 3 783)] 4,
  dd #[de P "s" 802 (.str "I" 794), de P "substring_i" 804 (.int 0 795), de P "result" 806 (.int 2 796)] 3,
  am 340,
  fd #[dr P "self" 797 341, de P "s" 798 (.str "I" 794), de P "substring_i" 799 (.int 0 795), de P "result" 800 (.int 2 796)] 4,
  dd #[de P "s" 815 (.str "Y" 807), de P "substring_i" 817 (.int 0 808), de P "result" 819 (.int 1 809)] 3,
  am 343,
  fd #[dr P "self" 810 344, de P "s" 811 (.str "Y" 807), de P "substring_i" 812 (.int 0 808), de P "result" 813 (.int 1 809)] 4,
  ⟨(.type "list"), none, (.seq #[(.ref 338), (.ref 341), (.ref 344)] 0), #[]⟩,
  dd #[de P "s" 831 (.str "dd" 821), de P "substring_i" 833 (.int (-1) 823), de P "result" 835 (.int (-1) 825)] 3,
  am 347,
  fd #[dr P "self" 826 348, de P "s" 827 (.str "dd" 821), de P "substring_i" 828 (.int (-1) 823), de P "result" 829 (.int (-1) 825)] 4,
  dd #[de P "s" 846 (.str "kk" 836), de P "substring_i" 848 (.int (-1) 838), de P "result" 850 (.int (-1) 840)] 3,
  am 350,
  fd #[dr P "self" 841 351, de P "s" 842 (.str "kk" 836), de P "substring_i" 843 (.int (-1) 838), de P "result" 844 (.int (-1) 840)] 4,
  dd #[de P "s" 861 (.str "tt" 851), de P "substring_i" 863 (.int (-1) 853), de P "result" 865 (.int (-1) 855)] 3,
  am 353,
  fd #[dr P "self" 856 354, de P "s" 857 (.str "tt" 851), de P "substring_i" 858 (.int (-1) 853), de P "result" 859 (.int (-1) 855)] 4,
  ⟨(.type "list"), none, (.seq #[(.ref 348), (.ref 351), (.ref 354)] 0), #[]⟩,
  dd #[de P "s" 876 (.str "ene" 867), de P "substring_i" 878 (.int (-1) 869), de P "result" 880 (.int 2 870)] 3,
  am 357,
  fd #[dr P "self" 871 358, de P "s" 872 (.str "ene" 867), de P "substring_i" 873 (.int (-1) 869), de P "result" 874 (.int 2 870)] 4]
noncomputable def hl6 (P : Params) : List Obj := [
  dd #[de P "s" 890 (.str "se" 881), de P "substring_i" 892 (.int (-1) 883), de P "result" 894 (.int 3 884)] 3,
  am 360,
  fd #[dr P "self" 885 361, de P "s" 886 (.str "se" 881), de P "substring_i" 887 (.int (-1) 883), de P "result" 888 (.int 3 884)] 4,
  dd #[de P "s" 904 (.str "en" 895), de P "substring_i" 906 (.int (-1) 897), de P "result" 908 (.int 2 898)] 3,
  am 363,
  fd #[dr P "self" 899 364, de P "s" 900 (.str "en" 895), de P "substring_i" 901 (.int (-1) 897), de P "result" 902 (.int 2 898)] 4,
  dd #[de P "s" 917 (.str "heden" 909), de P "substring_i" 919 (.int 2 910), de P "result" 921 (.int 1 911)] 3,
  am 366,
  fd #[dr P "self" 912 367, de P "s" 913 (.str "heden" 909), de P "substring_i" 914 (.int 2 910), de P "result" 915 (.int 1 911)] 4,
  dd #[de P "s" 931 (.str "s" 922), de P "substring_i" 933 (.int (-1) 924), de P "result" 935 (.int 3 925)] 3,
  am 369,
  fd #[dr P "self" 926 370, de P "s" 927 (.str "s" 922), de P "substring_i" 928 (.int (-1) 924), de P "result" 929 (.int 3 925)] 4,
  ⟨(.type "list"), none, (.seq #[(.ref 358), (.ref 361), (.ref 364), (.ref 367), (.ref 370)] 0), #[]⟩,
  dd #[de P "s" 946 (.str "end" 937), de P "substring_i" 948 (.int (-1) 939), de P "result" 950 (.int 1 940)] 3,
  am 373,
  fd #[dr P "self" 941 374, de P "s" 942 (.str "end" 937), de P "substring_i" 943 (.int (-1) 939), de P "result" 944 (.int 1 940)] 4,
  dd #[de P "s" 960 (.str "ig" 951), de P "substring_i" 962 (.int (-1) 953), de P "result" 964 (.int 2 954)] 3,
  am 376,
  fd #[dr P "self" 955 377, de P "s" 956 (.str "ig" 951), de P "substring_i" 957 (.int (-1) 953), de P "result" 958 (.int 2 954)] 4,
  dd #[de P "s" 974 (.str "ing" 965), de P "substring_i" 976 (.int (-1) 967), de P "result" 978 (.int 1 968)] 3,
  am 379,
  fd #[dr P "self" 969 380, de P "s" 970 (.str "ing" 965), de P "substring_i" 971 (.int (-1) 967), de P "result" 972 (.int 1 968)] 4,
  dd #[de P "s" 988 (.str "lijk" 979), de P "substring_i" 990 (.int (-1) 981), de P "result" 992 (.int 3 982)] 3,
  am 382,
  fd #[dr P "self" 983 383, de P "s" 984 (.str "lijk" 979), de P "substring_i" 985 (.int (-1) 981), de P "result" 986 (.int 3 982)] 4,
  dd #[de P "s" 1002 (.str "baar" 993), de P "substring_i" 1004 (.int (-1) 995), de P "result" 1006 (.int 4 996)] 3,
  am 385,
  fd #[dr P "self" 997 386, de P "s" 998 (.str "baar" 993), de P "substring_i" 999 (.int (-1) 995), de P "result" 1000 (.int 4 996)] 4,
  dd #[de P "s" 1016 (.str "bar" 1007), de P "substring_i" 1018 (.int (-1) 1009), de P "result" 1020 (.int 5 1010)] 3,
  am 388,
  fd #[dr P "self" 1011 389, de P "s" 1012 (.str "bar" 1007), de P "substring_i" 1013 (.int (-1) 1009), de P "result" 1014 (.int 5 1010)] 4,
  ⟨(.type "list"), none, (.seq #[(.ref 374), (.ref 377), (.ref 380), (.ref 383), (.ref 386), (.ref 389)] 0), #[]⟩,
  dd #[de P "s" 1032 (.str "aa" 1022), de P "substring_i" 1034 (.int (-1) 1024), de P "result" 1036 (.int (-1) 1026)] 3,
  am 392,
  fd #[dr P "self" 1027 393, de P "s" 1028 (.str "aa" 1022), de P "substring_i" 1029 (.int (-1) 1024), de P "result" 1030 (.int (-1) 1026)] 4,
  dd #[de P "s" 1047 (.str "ee" 1037), de P "substring_i" 1049 (.int (-1) 1039), de P "result" 1051 (.int (-1) 1041)] 3,
  am 395,
  fd #[dr P "self" 1042 396, de P "s" 1043 (.str "ee" 1037), de P "substring_i" 1044 (.int (-1) 1039), de P "result" 1045 (.int (-1) 1041)] 4,
  dd #[de P "s" 1062 (.str "oo" 1052), de P "substring_i" 1064 (.int (-1) 1054), de P "result" 1066 (.int (-1) 1056)] 3,
  am 398,
  fd #[dr P "self" 1057 399, de P "s" 1058 (.str "oo" 1052), de P "substring_i" 1059 (.int (-1) 1054), de P "result" 1060 (.int (-1) 1056)] 4,
  dd #[de P "s" 1077 (.str "uu" 1067), de P "substring_i" 1079 (.int (-1) 1069), de P "result" 1081 (.int (-1) 1071)] 3,
  am 401,
  fd #[dr P "self" 1072 402, de P "s" 1073 (.str "uu" 1067), de P "substring_i" 1074 (.int (-1) 1069), de P "result" 1075 (.int (-1) 1071)] 4,
  ⟨(.type "list"), none, (.seq #[(.ref 393), (.ref 396), (.ref 399), (.ref 402)] 0), #[]⟩,
  tt #[(.str "B_e_found" 1083), (.str "I_p1" 1084), (.str "I_p2" 1085), (.str "bra" 1086), (.str "cursor" 1087), (.str "ket" 1088), (.str "limit_backward" 1089)],
  dd #[de P "__module__" 480 (.str "snowballstemmer.dutch_porter_stemmer" 471), de P "__firstlineno__" 484 (.int 210 483), dr P "g_v" 499 230, dr P "g_v_I" 516 231, dr P "g_v_j" 533 232, de P "I_p2" 535 (.int 0 534), de P "I_p1" 537 (.int 0 536), de P "B_e_found" 538 (.bool false), dr P "r_prelude" 553 239, dr P "r_mark_regions" 562 246, dr P "r_postlude" 571 253, dr P "r_R1" 578 260, dr P "r_R2" 585 267, dr P "r_undouble" 593 274, dr P "r_e_ending" 601 281, dr P "r_en_ending" 609 288, dr P "r_standard_suffix" 624 295, dr P "_stem" 634 302, dr P "a_0" 779 336, dr P "a_1" 820 346, dr P "a_2" 866 356, dr P "a_3" 936 372, dr P "a_4" 1021 391, dr P "a_5" 1082 404, dr P "__static_attributes__" 1090 405, de P "__doc__" 1091 .none] 2,
  ⟨(.type "type"), none, (.cls ⟨"DutchPorterStemmer", [(.ref 197)], [(.ref 407), (.ref 197), (.type "object")], 406, "DutchPorterStemmer", true, [], [], false, none, false⟩), #[(some (.ref 223)), none, (some (.str "DutchPorterStemmer" 473)), (some (.str "DutchPorterStemmer" 481)), (some (.builtin "object.__new__")), (some (.bool true))]⟩,
  ⟨(.type "super"), none, (.fields #[(.ref 407), (.ref 407), (.ref 407)]), #[]⟩,
  ⟨(.type "builtin_function_or_method"), none, (.fields #[(.builtin "object.__init_subclass__"), (.ref 407)]), #[]⟩,
  tt #[(.type "Exception")],
  ⟨(.type "builtin_function_or_method"), none, (.fields #[(.builtin "type.__prepare__"), (.type "type")]), #[]⟩,
  dd #[de P "__module__" 1101 (.str "snowballstemmer.dutch_porter_stemmer" 471), de P "__qualname__" 1103 (.str "lab0" 1102), de P "__firstlineno__" 1105 (.int 565 1104), dr P "__static_attributes__" 1106 417] 4,
  xt0,
  xf0,
  co "lab0" 1096 "lab0" 565 0 0 413 false .none .none .none 1099,
  ⟨(.type "frame"), none, .plain, #[(some (.ref 415)), (some (.ref 3)), (some (.ref 412)), none, (some (.str "snowballstemmer.dutch_porter_stemmer" 471)), none, (some (.ref 0))]⟩,
  xt0,
  dd #[de P "__module__" 1101 (.str "snowballstemmer.dutch_porter_stemmer" 471), de P "__firstlineno__" 1105 (.int 565 1104), dr P "__static_attributes__" 1106 417, dr P "__weakref__" 1108 420, de P "__doc__" 1109 .none] 3,
  ⟨(.type "type"), none, (.cls ⟨"lab0", [(.type "Exception")], [(.ref 419), (.type "Exception"), (.type "BaseException"), (.type "object")], 418, "lab0", true, [], [], false, none, false⟩), #[(some (.ref 410)), none, (some (.str "lab0" 1094)), (some (.str "lab0" 1102)), (some (.builtin "Exception.__new__")), (some (.bool true))]⟩]
noncomputable def hl7 (P : Params) : List Obj := [
  ⟨(.type "getset_descriptor"), none, (.fields #[(.str "__weakref__" 1107), (.ref 419), (.builtin "ExceptionGroup.__weakref__"), .none]), #[]⟩,
  ⟨(.type "super"), none, (.fields #[(.ref 419), (.ref 419), (.ref 419)]), #[]⟩,
  ⟨(.type "builtin_function_or_method"), none, (.fields #[(.builtin "object.__init_subclass__"), (.ref 419)]), #[]⟩,
  tt #[(.type "Exception")],
  ⟨(.type "builtin_function_or_method"), none, (.fields #[(.builtin "type.__prepare__"), (.type "type")]), #[]⟩,
  dd #[de P "__module__" 1121 (.str "snowballstemmer.dutch_porter_stemmer" 471), de P "__qualname__" 1123 (.str "lab1" 1122), de P "__firstlineno__" 1125 (.int 567 1124), dr P "__static_attributes__" 1126 430] 4,
  xt0,
  xf0,
  co "lab1" 1116 "lab1" 567 0 0 426 false .none .none .none 1119,
  ⟨(.type "frame"), none, .plain, #[(some (.ref 428)), (some (.ref 3)), (some (.ref 425)), none, (some (.str "snowballstemmer.dutch_porter_stemmer" 471)), none, (some (.ref 0))]⟩,
  xt0,
  dd #[de P "__module__" 1121 (.str "snowballstemmer.dutch_porter_stemmer" 471), de P "__firstlineno__" 1125 (.int 567 1124), dr P "__static_attributes__" 1126 430, dr P "__weakref__" 1128 433, de P "__doc__" 1129 .none] 3,
  ⟨(.type "type"), none, (.cls ⟨"lab1", [(.type "Exception")], [(.ref 432), (.type "Exception"), (.type "BaseException"), (.type "object")], 431, "lab1", true, [], [], false, none, false⟩), #[(some (.ref 423)), none, (some (.str "lab1" 1114)), (some (.str "lab1" 1122)), (some (.builtin "Exception.__new__")), (some (.bool true))]⟩,
  ⟨(.type "getset_descriptor"), none, (.fields #[(.str "__weakref__" 1127), (.ref 432), (.builtin "ExceptionGroup.__weakref__"), .none]), #[]⟩,
  ⟨(.type "super"), none, (.fields #[(.ref 432), (.ref 432), (.ref 432)]), #[]⟩,
  ⟨(.type "builtin_function_or_method"), none, (.fields #[(.builtin "object.__init_subclass__"), (.ref 432)]), #[]⟩,
  tt #[(.type "Exception")],
  ⟨(.type "builtin_function_or_method"), none, (.fields #[(.builtin "type.__prepare__"), (.type "type")]), #[]⟩,
  dd #[de P "__module__" 1141 (.str "snowballstemmer.dutch_porter_stemmer" 471), de P "__qualname__" 1143 (.str "lab2" 1142), de P "__firstlineno__" 1145 (.int 569 1144), dr P "__static_attributes__" 1146 443] 4,
  xt0,
  xf0,
  co "lab2" 1136 "lab2" 569 0 0 439 false .none .none .none 1139,
  ⟨(.type "frame"), none, .plain, #[(some (.ref 441)), (some (.ref 3)), (some (.ref 438)), none, (some (.str "snowballstemmer.dutch_porter_stemmer" 471)), none, (some (.ref 0))]⟩,
  xt0,
  dd #[de P "__module__" 1141 (.str "snowballstemmer.dutch_porter_stemmer" 471), de P "__firstlineno__" 1145 (.int 569 1144), dr P "__static_attributes__" 1146 443, dr P "__weakref__" 1148 446, de P "__doc__" 1149 .none] 3,
  ⟨(.type "type"), none, (.cls ⟨"lab2", [(.type "Exception")], [(.ref 445), (.type "Exception"), (.type "BaseException"), (.type "object")], 444, "lab2", true, [], [], false, none, false⟩), #[(some (.ref 436)), none, (some (.str "lab2" 1134)), (some (.str "lab2" 1142)), (some (.builtin "Exception.__new__")), (some (.bool true))]⟩,
  ⟨(.type "getset_descriptor"), none, (.fields #[(.str "__weakref__" 1147), (.ref 445), (.builtin "ExceptionGroup.__weakref__"), .none]), #[]⟩,
  ⟨(.type "super"), none, (.fields #[(.ref 445), (.ref 445), (.ref 445)]), #[]⟩,
  ⟨(.type "builtin_function_or_method"), none, (.fields #[(.builtin "object.__init_subclass__"), (.ref 445)]), #[]⟩,
  tt #[(.type "Exception")],
  ⟨(.type "builtin_function_or_method"), none, (.fields #[(.builtin "type.__prepare__"), (.type "type")]), #[]⟩,
  dd #[de P "__module__" 1161 (.str "snowballstemmer.dutch_porter_stemmer" 471), de P "__qualname__" 1163 (.str "lab3" 1162), de P "__firstlineno__" 1165 (.int 571 1164), dr P "__static_attributes__" 1166 456] 4,
  xt0,
  xf0,
  co "lab3" 1156 "lab3" 571 0 0 452 false .none .none .none 1159,
  ⟨(.type "frame"), none, .plain, #[(some (.ref 454)), (some (.ref 3)), (some (.ref 451)), none, (some (.str "snowballstemmer.dutch_porter_stemmer" 471)), none, (some (.ref 0))]⟩,
  xt0,
  dd #[de P "__module__" 1161 (.str "snowballstemmer.dutch_porter_stemmer" 471), de P "__firstlineno__" 1165 (.int 571 1164), dr P "__static_attributes__" 1166 456, dr P "__weakref__" 1168 459, de P "__doc__" 1169 .none] 3,
  ⟨(.type "type"), none, (.cls ⟨"lab3", [(.type "Exception")], [(.ref 458), (.type "Exception"), (.type "BaseException"), (.type "object")], 457, "lab3", true, [], [], false, none, false⟩), #[(some (.ref 449)), none, (some (.str "lab3" 1154)), (some (.str "lab3" 1162)), (some (.builtin "Exception.__new__")), (some (.bool true))]⟩,
  ⟨(.type "getset_descriptor"), none, (.fields #[(.str "__weakref__" 1167), (.ref 458), (.builtin "ExceptionGroup.__weakref__"), .none]), #[]⟩,
  ⟨(.type "super"), none, (.fields #[(.ref 458), (.ref 458), (.ref 458)]), #[]⟩,
  ⟨(.type "builtin_function_or_method"), none, (.fields #[(.builtin "object.__init_subclass__"), (.ref 458)]), #[]⟩,
  xt0,
  xf0,
  xt0,
  xt0,
  fo "_law_vowels" "_law_vowels" (topS 14),
  co "_law_vowels" 1180 "_law_vowels" 576 0 3 462 true (.ref 464) (.ref 465) (.ref 466) 1183,
  fO "_law_vowels" "_law_vowels" (topS 14) 3 "law_ar0042_01" 1174 467,
  xt0,
  xf0,
  xt0,
  xt0,
  fo "_law_two" "_law_two" (topS 15),
  co "_law_two" 1186 "_law_two" 578 0 3 469 true (.ref 471) (.ref 472) (.ref 473) 1189,
  fO "_law_two" "_law_two" (topS 15) 3 "law_ar0042_01" 1174 474,
  xt0,
  xf0,
  xt0,
  xt0]
noncomputable def hl8 (P : Params) : List Obj := [
  fo "_law_closed" "_law_closed" (topS 16),
  co "_law_closed" 1192 "_law_closed" 580 0 3 476 true (.ref 478) (.ref 479) (.ref 480) 1195,
  fO "_law_closed" "_law_closed" (topS 16) 3 "law_ar0042_01" 1174 481,
  tt #[(.str "" 1203), (.str "" 1204)],
  tt #[(.str "s" 1205), (.str "s" 1206)],
  ⟨(.type "list"), none, (.seq #[(.ref 483), (.ref 484)] 0), #[]⟩,
  tt #[(.int 0 1198), (.int 0 1199), (.str "" 1200), (.int 0 1201), (.str "" 1202), (.ref 485)],
  tt #[(.str "te" 1212), (.str "te" 1213)],
  tt #[(.str "ten" 1214), (.str "ten" 1215)],
  ⟨(.type "list"), none, (.seq #[(.ref 487), (.ref 488)] 0), #[]⟩,
  tt #[(.int 0 1207), (.int 1 1208), (.str "t" 1209), (.int 1 1210), (.str "t" 1211), (.ref 489)],
  tt #[(.str "de" 1221), (.str "de" 1222)],
  tt #[(.str "den" 1223), (.str "den" 1224)],
  ⟨(.type "list"), none, (.seq #[(.ref 491), (.ref 492)] 0), #[]⟩,
  tt #[(.int 0 1216), (.int 1 1217), (.str "d" 1218), (.int 1 1219), (.str "d" 1220), (.ref 493)],
  tt #[(.str "t" 1230), (.str "t" 1231)],
  ⟨(.type "list"), none, (.seq #[(.ref 495)] 0), #[]⟩,
  tt #[(.int 0 1225), (.int 1 1226), (.str "t" 1227), (.int 1 1228), (.str "t" 1229), (.ref 496)],
  tt #[(.str "je" 1237), (.str "je" 1238)],
  ⟨(.type "list"), none, (.seq #[(.ref 498)] 0), #[]⟩,
  tt #[(.int 0 1232), (.int 1 1233), (.str "j" 1234), (.int 1 1235), (.str "j" 1236), (.ref 499)],
  tt #[(.str "jes" 1244), (.str "jes" 1245)],
  ⟨(.type "list"), none, (.seq #[(.ref 501)] 0), #[]⟩,
  tt #[(.int 0 1239), (.int 1 1240), (.str "jes" 1241), (.int 1 1242), (.str "jes" 1243), (.ref 502)],
  tt #[(.str "heid" 1251), (.str "heid" 1252)],
  tt #[(.str "heden" 1253), (.str "heden" 1254)],
  tt #[(.str "heids" 1255), (.str "heid" 1256)],
  ⟨(.type "list"), none, (.seq #[(.ref 504), (.ref 505), (.ref 506)] 0), #[]⟩,
  tt #[(.int 0 1246), (.int 0 1247), (.str "" 1248), (.int 1 1249), (.str "heid" 1250), (.ref 507)],
  tt #[(.str "lijk" 1262), (.str "lijk" 1263)],
  tt #[(.str "lijke" 1264), (.str "lijk" 1265)],
  tt #[(.str "lijken" 1266), (.str "lijk" 1267)],
  tt #[(.str "lijks" 1268), (.str "lijk" 1269)],
  tt #[(.str "lijkheid" 1270), (.str "lijkheid" 1271)],
  ⟨(.type "list"), none, (.seq #[(.ref 509), (.ref 510), (.ref 511), (.ref 512), (.ref 513)] 0), #[]⟩,
  tt #[(.int 0 1257), (.int 0 1258), (.str "" 1259), (.int 1 1260), (.str "lijk" 1261), (.ref 514)],
  tt #[(.str "baar" 1277), (.str "bar" 1278)],
  tt #[(.str "bare" 1279), (.str "bar" 1280)],
  tt #[(.str "baarheid" 1281), (.str "baarheid" 1282)],
  ⟨(.type "list"), none, (.seq #[(.ref 516), (.ref 517), (.ref 518)] 0), #[]⟩,
  tt #[(.int 0 1272), (.int 0 1273), (.str "" 1274), (.int 1 1275), (.str "bar" 1276), (.ref 519)],
  tt #[(.str "bar" 1288), (.str "bar" 1289)],
  tt #[(.str "baren" 1290), (.str "bar" 1291)],
  ⟨(.type "list"), none, (.seq #[(.ref 521), (.ref 522)] 0), #[]⟩,
  tt #[(.int 0 1283), (.int 1 1284), (.str "bar" 1285), (.int 1 1286), (.str "bar" 1287), (.ref 523)],
  tt #[(.str "loos" 1297), (.str "los" 1298)],
  tt #[(.str "loosheid" 1299), (.str "loosheid" 1300)],
  ⟨(.type "list"), none, (.seq #[(.ref 525), (.ref 526)] 0), #[]⟩,
  tt #[(.int 0 1292), (.int 1 1293), (.str "los" 1294), (.int 1 1295), (.str "los" 1296), (.ref 527)],
  tt #[(.str "loze" 1306), (.str "loz" 1307)],
  tt #[(.str "lozen" 1308), (.str "loz" 1309)],
  ⟨(.type "list"), none, (.seq #[(.ref 529), (.ref 530)] 0), #[]⟩,
  tt #[(.int 0 1301), (.int 1 1302), (.str "loz" 1303), (.int 1 1304), (.str "loz" 1305), (.ref 531)],
  tt #[(.str "zaam" 1315), (.str "zam" 1316)],
  tt #[(.str "zame" 1317), (.str "zam" 1318)],
  tt #[(.str "zaamheid" 1319), (.str "zaamheid" 1320)],
  ⟨(.type "list"), none, (.seq #[(.ref 533), (.ref 534), (.ref 535)] 0), #[]⟩,
  tt #[(.int 0 1310), (.int 1 1311), (.str "zam" 1312), (.int 1 1313), (.str "zam" 1314), (.ref 536)],
  tt #[(.str "achtig" 1326), (.str "achtig" 1327)],
  tt #[(.str "achtige" 1328), (.str "achtig" 1329)]]
noncomputable def hl9 (P : Params) : List Obj := [
  tt #[(.str "achtigheid" 1330), (.str "achtig" 1331)],
  ⟨(.type "list"), none, (.seq #[(.ref 538), (.ref 539), (.ref 540)] 0), #[]⟩,
  tt #[(.int 0 1321), (.int 1 1322), (.str "acht" 1323), (.int 1 1324), (.str "acht" 1325), (.ref 541)],
  tt #[(.str "schap" 1337), (.str "schap" 1338)],
  tt #[(.str "schaps" 1339), (.str "schap" 1340)],
  ⟨(.type "list"), none, (.seq #[(.ref 543), (.ref 544)] 0), #[]⟩,
  tt #[(.int 0 1332), (.int 1 1333), (.str "schap" 1334), (.int 1 1335), (.str "schap" 1336), (.ref 545)],
  tt #[(.str "schappen" 1346), (.str "schapp" 1347)],
  ⟨(.type "list"), none, (.seq #[(.ref 547)] 0), #[]⟩,
  tt #[(.int 0 1341), (.int 1 1342), (.str "schapp" 1343), (.int 1 1344), (.str "schapp" 1345), (.ref 548)],
  tt #[(.str "dom" 1353), (.str "dom" 1354)],
  ⟨(.type "list"), none, (.seq #[(.ref 550)] 0), #[]⟩,
  tt #[(.int 0 1348), (.int 1 1349), (.str "dom" 1350), (.int 1 1351), (.str "dom" 1352), (.ref 551)],
  tt #[(.str "dommen" 1360), (.str "domm" 1361)],
  ⟨(.type "list"), none, (.seq #[(.ref 553)] 0), #[]⟩,
  tt #[(.int 0 1355), (.int 1 1356), (.str "domm" 1357), (.int 1 1358), (.str "domm" 1359), (.ref 554)],
  tt #[(.str "ster" 1367), (.str "ster" 1368)],
  tt #[(.str "sters" 1369), (.str "ster" 1370)],
  ⟨(.type "list"), none, (.seq #[(.ref 556), (.ref 557)] 0), #[]⟩,
  tt #[(.int 0 1362), (.int 1 1363), (.str "ster" 1364), (.int 1 1365), (.str "ster" 1366), (.ref 558)],
  tt #[(.str "st" 1376), (.str "st" 1377)],
  tt #[(.str "ste" 1378), (.str "ste" 1379)],
  tt #[(.str "sten" 1380), (.str "sten" 1381)],
  ⟨(.type "list"), none, (.seq #[(.ref 560), (.ref 561), (.ref 562)] 0), #[]⟩,
  tt #[(.int 0 1371), (.int 1 1372), (.str "st" 1373), (.int 1 1374), (.str "st" 1375), (.ref 563)],
  tt #[(.str "en" 1387), (.str "en" 1388)],
  tt #[(.str "e" 1389), (.str "e" 1390)],
  tt #[(.str "enheid" 1391), (.str "enheid" 1392)],
  tt #[(.str "enheden" 1393), (.str "enheid" 1394)],
  ⟨(.type "list"), none, (.seq #[(.ref 565), (.ref 566), (.ref 567), (.ref 568)] 0), #[]⟩,
  tt #[(.int 1 1382), (.int 2 1383), (.str "" 1384), (.int 2 1385), (.str "" 1386), (.ref 569)],
  tt #[(.str "end" 1400), (.str "end" 1401)],
  tt #[(.str "ende" 1402), (.str "end" 1403)],
  tt #[(.str "enden" 1404), (.str "end" 1405)],
  ⟨(.type "list"), none, (.seq #[(.ref 571), (.ref 572), (.ref 573)] 0), #[]⟩,
  tt #[(.int 1 1395), (.int 2 1396), (.str "" 1397), (.int 3 1398), (.str "end" 1399), (.ref 574)],
  tt #[(.str "ing" 1411), (.str "ing" 1412)],
  tt #[(.str "ingen" 1413), (.str "ing" 1414)],
  tt #[(.str "ings" 1415), (.str "ing" 1416)],
  ⟨(.type "list"), none, (.seq #[(.ref 576), (.ref 577), (.ref 578)] 0), #[]⟩,
  tt #[(.int 1 1406), (.int 2 1407), (.str "" 1408), (.int 3 1409), (.str "ing" 1410), (.ref 579)],
  tt #[(.str "ig" 1422), (.str "ig" 1423)],
  tt #[(.str "ige" 1424), (.str "ig" 1425)],
  tt #[(.str "igen" 1426), (.str "ig" 1427)],
  tt #[(.str "igheid" 1428), (.str "igheid" 1429)],
  tt #[(.str "igheden" 1430), (.str "igheid" 1431)],
  tt #[(.str "igend" 1432), (.str "igend" 1433)],
  tt #[(.str "igende" 1434), (.str "igend" 1435)],
  tt #[(.str "iging" 1436), (.str "iging" 1437)],
  tt #[(.str "igingen" 1438), (.str "iging" 1439)],
  ⟨(.type "list"), none, (.seq #[(.ref 581), (.ref 582), (.ref 583), (.ref 584), (.ref 585), (.ref 586), (.ref 587), (.ref 588), (.ref 589)] 0), #[]⟩,
  tt #[(.int 1 1417), (.int 3 1418), (.str "" 1419), (.int 3 1420), (.str "ig" 1421), (.ref 590)],
  tt #[(.str "er" 1445), (.str "er" 1446)],
  tt #[(.str "ers" 1447), (.str "er" 1448)],
  tt #[(.str "eren" 1449), (.str "er" 1450)],
  tt #[(.str "ere" 1451), (.str "er" 1452)],
  ⟨(.type "list"), none, (.seq #[(.ref 592), (.ref 593), (.ref 594), (.ref 595)] 0), #[]⟩,
  tt #[(.int 1 1440), (.int 3 1441), (.str "er" 1442), (.int 3 1443), (.str "er" 1444), (.ref 596)],
  tt #[(.str "elijk" 1458), (.str "elijk" 1459)],
  tt #[(.str "elijke" 1460), (.str "elijk" 1461)]]
noncomputable def hl10 (P : Params) : List Obj := [
  tt #[(.str "elijken" 1462), (.str "elijk" 1463)],
  tt #[(.str "elijkheid" 1464), (.str "elijk" 1465)],
  ⟨(.type "list"), none, (.seq #[(.ref 598), (.ref 599), (.ref 600), (.ref 601)] 0), #[]⟩,
  tt #[(.int 1 1453), (.int 2 1454), (.str "" 1455), (.int 3 1456), (.str "elijk" 1457), (.ref 602)],
  tt #[(.str "eling" 1471), (.str "eling" 1472)],
  tt #[(.str "elingen" 1473), (.str "eling" 1474)],
  tt #[(.str "el" 1475), (.str "el" 1476)],
  tt #[(.str "els" 1477), (.str "el" 1478)],
  tt #[(.str "elen" 1479), (.str "el" 1480)],
  ⟨(.type "list"), none, (.seq #[(.ref 604), (.ref 605), (.ref 606), (.ref 607), (.ref 608)] 0), #[]⟩,
  tt #[(.int 1 1466), (.int 3 1467), (.str "el" 1468), (.int 3 1469), (.str "el" 1470), (.ref 609)],
  tt #[(.str "ens" 1486), (.str "en" 1487)],
  ⟨(.type "list"), none, (.seq #[(.ref 611)] 0), #[]⟩,
  tt #[(.int 1 1481), (.int 3 1482), (.str "en" 1483), (.int 3 1484), (.str "en" 1485), (.ref 612)],
  tt #[(.str "erij" 1493), (.str "erij" 1494)],
  ⟨(.type "list"), none, (.seq #[(.ref 614)] 0), #[]⟩,
  tt #[(.int 1 1488), (.int 3 1489), (.str "erij" 1490), (.int 3 1491), (.str "erij" 1492), (.ref 615)],
  ⟨(.type "list"), none, (.seq #[(.ref 486), (.ref 490), (.ref 494), (.ref 497), (.ref 500), (.ref 503), (.ref 508), (.ref 515), (.ref 520), (.ref 524), (.ref 528), (.ref 532), (.ref 537), (.ref 542), (.ref 546), (.ref 549), (.ref 552), (.ref 555), (.ref 559), (.ref 564), (.ref 570), (.ref 575), (.ref 580), (.ref 591), (.ref 597), (.ref 603), (.ref 610), (.ref 613), (.ref 616)] 0), #[]⟩,
  xt0,
  xf0,
  tt #[(.str "script" 1499), (.str "i" 1500)],
  xt0,
  fo "_law_at" "_law_at" (topS 18),
  co "_law_at" 1496 "_law_at" 583 2 3 618 true (.ref 620) (.ref 621) (.ref 622) 1501,
  fO "_law_at" "_law_at" (topS 18) 3 "law_ar0042_01" 1174 623,
  xt0,
  xf0,
  tt #[(.str "n" 1507), (.str "some" 1508)],
  xt0,
  fo "_law_some" "_law_some" (topS 19),
  co "_law_some" 1504 "_law_some" 587 1 3 625 true (.ref 627) (.ref 628) (.ref 629) 1509,
  fO "_law_some" "_law_some" (topS 19) 3 "law_ar0042_01" 1174 630,
  xt0,
  xf0,
  tt #[(.str "n" 1515), (.str "m" 1516), (.str "kind" 1517), (.str "close" 1518), (.str "vowel" 1519), (.str "single" 1520), (.str "before" 1521), (.str "whole" 1522)],
  xt0,
  fo "_law_last" "_law_last" (topS 20),
  co "_law_last" 1512 "_law_last" 593 2 3 632 true (.ref 634) (.ref 635) (.ref 636) 1523,
  fO "_law_last" "_law_last" (topS 20) 3 "law_ar0042_01" 1174 637,
  xt0,
  xf0,
  tt #[(.str "told" 1529), (.str "n" 1530), (.str "m" 1531), (.str "last" 1532), (.str "end" 1533)],
  xt0,
  fo "_law_root" "_law_root" (topS 21),
  co "_law_root" 1526 "_law_root" 618 3 3 639 true (.ref 641) (.ref 642) (.ref 643) 1534,
  fO "_law_root" "_law_root" (topS 21) 3 "law_ar0042_01" 1174 644,
  xt0,
  xf0,
  tt #[(.str "front" 1540), (.str "told" 1541), (.str "last" 1542), (.str "depth" 1543), (.str "x" 1544), (.str "closed" 1545), (.str "spread" 1546), (.str "short" 1547), (.str "plain" 1548), (.str "where" 1549), (.str "deep" 1550), (.str "deep_rest" 1551), (.str "low" 1552), (.str "low_rest" 1553), (.str "forms" 1554), (.str "ending" 1555), (.str "none" 1556), (.str "word" 1557), (.str "bases" 1558)],
  xt0,
  fo "_law_word" "_law_word" (topS 22),
  co "_law_word" 1537 "_law_word" 624 5 3 646 true (.ref 648) (.ref 649) (.ref 650) 1559,
  fO "_law_word" "_law_word" (topS 22) 3 "law_ar0042_01" 1174 651,
  xt0,
  xf0,
  tt #[(.str "script" 1565), (.str "front" 1566), (.str "told" 1567), (.str "bare" 1568), (.str "count" 1569), (.str "i" 1570), (.str "vowel" 1571), (.str "close" 1572), (.str "last" 1573), (.str "depth" 1574), (.str "end" 1575), (.str "words" 1576), (.str "stems" 1577), (.str "word" 1578), (.str "stem" 1579)],
  xt0,
  fo "law" "law" (topS 23),
  co "law" 1562 "law" 640 1 3 653 true (.ref 655) (.ref 656) (.ref 657) 1580,
  fO "law" "law" (topS 23) 3 "law_ar0042_01" 1174 658]
noncomputable def heapL (P : Params) (o1 o2 o3 : Obj) : List Obj := hl0 P ++ (hl1 P ++ (hl2 P ++ (hl3 P o1 o2 o3 ++ (hl4 P ++ (hl5 P ++ (hl6 P ++ (hl7 P ++ (hl8 P ++ (hl9 P ++ (hl10 P))))))))))
noncomputable def HT (P : Params) (o1 o2 o3 : Obj) : BT := ofL 11 (heapL P o1 o2 o3)
noncomputable abbrev so (x : Array (Int × Value) × Nat × SetTable) : Obj := ⟨.type "set", none, .set x.1 x.2.1 x.2.2, #[]⟩
noncomputable def TA (P : Params) : BT := ((((ofL 11 ((heapL P default default default).take 223)).set 2 fun _ => ⟨.none, none, (.dict #[] 0), #[]⟩).set 3 fun _ => ⟨(.type "dict"), none, (.dict #[de P "__name__" 165 (.str "snowballstemmer.dutch_porter_stemmer" 471), de P "__doc__" 166 .none, de P "__package__" 167 .none, de P "__loader__" 168 (.builtin "__main__.__loader__#opaque"), de P "__spec__" 169 .none, de P "__annotations__" 170 (.ref 6), de P "__builtins__" 171 (.ref 4), de P "__file__" 173 (.str "/claim/cut.py" 172), de P "__cached__" 174 .none, de P "_wall" 193 (.ref 21), de P "BaseStemmer" 435 (.ref 197), de P "Among" 470 (.ref 218)] 12), #[]⟩).set 12 fun _ => ⟨.none, none, (.fields #[(.int 1 0), (.int 0 0), (.ref 20), (.int 5 0), (.int 0 0), (.ref 27), (.int 203 0), (.int 0 0), (.ref 207)]), #[]⟩).set 197 fun _ => ⟨(.type "type"), none, (.cls ⟨"BaseStemmer", [(.type "object")], [(.ref 197), (.type "object")], 196, "BaseStemmer", true, [], [], false, none, false⟩), #[none, none, (some (.str "BaseStemmer" 196)), (some (.str "BaseStemmer" 204)), (some (.builtin "object.__new__")), (some (.bool true))]⟩
noncomputable def TD (P : Params) (o1 o2 o3 : Obj) : BT := (((ofL 11 ((heapL P o1 o2 o3).take 410)).set 2 fun _ => ⟨.none, none, (.dict #[] 0), #[]⟩).set 3 fun _ => ⟨(.type "dict"), none, (.dict #[de P "__name__" 165 (.str "snowballstemmer.dutch_porter_stemmer" 471), de P "__doc__" 166 .none, de P "__package__" 167 .none, de P "__loader__" 168 (.builtin "__main__.__loader__#opaque"), de P "__spec__" 169 .none, de P "__annotations__" 170 (.ref 6), de P "__builtins__" 171 (.ref 4), de P "__file__" 173 (.str "/claim/cut.py" 172), de P "__cached__" 174 .none, de P "_wall" 193 (.ref 21), de P "BaseStemmer" 435 (.ref 197), de P "Among" 470 (.ref 218), de P "DutchPorterStemmer" 1093 (.ref 407)] 13), #[]⟩).set 12 fun _ => ⟨.none, none, (.fields #[(.int 1 0), (.int 0 0), (.ref 20), (.int 5 0), (.int 0 0), (.ref 27), (.int 203 0), (.int 0 0), (.ref 207), (.int 210 0), (.int 0 0), (.ref 228)]), #[]⟩
noncomputable abbrev posA : Pos := ⟨209, 0, 209, 8⟩
noncomputable abbrev lf (w : World) : Life := (boot_heap w.params).life
theorem segA (w : World) (os : OsState) : goT pw w 11 (ann0 w) 1277 (S0 w os) (topStub pw) = some (⟨TA w.params, 223, lf w, #[], boot_drawn, 473, os⟩, ⟨MT 6, .body mbody menv, posA, [topFrame default]⟩) := by kernel_rfl
noncomputable def r1 (w : World) (os : OsState) := goT pw w 11 (ann0 w) 68 ⟨TA w.params, 223, lf w, #[], boot_drawn, 473, os⟩ ⟨MT 6, .body mbody menv, posA, [topFrame default]⟩
noncomputable def T1 (w : World) (os : OsState) : BT := match r1 w os with
  | some (s, _) => s.tree
  | none => .nil
noncomputable def fr1 (w : World) (os : OsState) : Frame := match r1 w os with
  | some (_, ⟨_, _, _, f :: _⟩) => f
  | _ => topFrame default
noncomputable def r2 (w : World) (os : OsState) (o1 : Obj) := goT pw w 11 (ann0 w) 12 ⟨(T1 w os).ins 230 o1, 231, lf w, #[], boot_drawn, 499, os⟩ ⟨CT 0 (.pure (.ref 230)), .body cbody cenv, setPos 0, [fr1 w os, topFrame default]⟩
noncomputable def T2 (w : World) (os : OsState) (o1 : Obj) : BT := match r2 w os o1 with
  | some (s, _) => s.tree
  | none => .nil
noncomputable def r3 (w : World) (os : OsState) (o1 o2 : Obj) := goT pw w 11 (ann0 w) 12 ⟨(T2 w os o1).ins 231 o2, 232, lf w, #[], boot_drawn, 516, os⟩ ⟨CT 1 (.pure (.ref 231)), .body cbody cenv, setPos 1, [fr1 w os, topFrame default]⟩
noncomputable def T3 (w : World) (os : OsState) (o1 o2 : Obj) : BT := match r3 w os o1 o2 with
  | some (s, _) => s.tree
  | none => .nil
theorem seg1 (w : World) (os : OsState) : r1 w os = some (⟨T1 w os, 230, lf w, #[], boot_drawn, 485, os⟩, ⟨CT 0 (disp 0 cs0 true), .body cbody cenv, setPos 0, [fr1 w os, topFrame default]⟩) := by kernel_rfl
theorem ins1 (w : World) (os : OsState) (o1 : Obj) : (((T1 w os).ins 230 o1).get 230).isSome = true := by kernel_rfl
theorem seg2 (w : World) (os : OsState) (o1 : Obj) : r2 w os o1 = some (⟨T2 w os o1, 231, lf w, #[], boot_drawn, 500, os⟩, ⟨CT 1 (disp 1 cs1 true), .body cbody cenv, setPos 1, [fr1 w os, topFrame default]⟩) := by kernel_rfl
theorem ins2 (w : World) (os : OsState) (o1 o2 : Obj) : (((T2 w os o1).ins 231 o2).get 231).isSome = true := by kernel_rfl
theorem seg3 (w : World) (os : OsState) (o1 o2 : Obj) : r3 w os o1 o2 = some (⟨T3 w os o1 o2, 232, lf w, #[], boot_drawn, 517, os⟩, ⟨CT 2 (disp 2 cs2 true), .body cbody cenv, setPos 2, [fr1 w os, topFrame default]⟩) := by kernel_rfl
theorem ins3 (w : World) (os : OsState) (o1 o2 o3 : Obj) : (((T3 w os o1 o2).ins 232 o3).get 232).isSome = true := by kernel_rfl
noncomputable abbrev posD : Pos := ⟨210, 0, 564, 94⟩
theorem seg4 (w : World) (os : OsState) (x1 x2 x3 : Array (Int × Value) × Nat × SetTable) : goT pw w 11 (ann0 w) 6013 ⟨(T3 w os (so x1) (so x2)).ins 232 (so x3), 233, lf w, #[], boot_drawn, 533, os⟩ ⟨CT 2 (.pure (.ref 232)), .body cbody cenv, setPos 2, [fr1 w os, topFrame default]⟩ = some (⟨TD w.params (so x1) (so x2) (so x3), 410, lf w, #[], boot_drawn, 1094, os⟩, ⟨MT 7, .body mbody menv, posD, [topFrame default]⟩) := by kernel_rfl
theorem seg5 (w : World) (os : OsState) (x1 x2 x3 : Array (Int × Value) × Nat × SetTable) : endT pw w 11 (ann0 w) 1691 ⟨TD w.params (so x1) (so x2) (so x3), 410, lf w, #[], boot_drawn, 1094, os⟩ ⟨MT 7, .body mbody menv, posD, [topFrame default]⟩ = some ⟨HT w.params (so x1) (so x2) (so x3), 660, lf w, #[], boot_drawn, 1583, os⟩ := by kernel_rfl
noncomputable def vow (cs : List Nat) (y : PySem.Str) : Bool := cs.any fun c => decide (y = ⟨#[c]⟩)
theorem so_of {p : Program} {w : World} {o : Obj} {S : PySem.Str → Bool} {n : Nat} (h : o.SetObjOf (PySem.strKind p w) S n) : ∃ x, o = so x := by
  obtain ⟨⟨h1, h2, h3⟩, es, ep, t, hd, _⟩ := h
  obtain ⟨c, d, dt, sl⟩ := o
  dsimp only at h1 h2 h3 hd
  subst h1 h2 h3 hd
  exact ⟨(es, ep, t), rfl⟩
theorem disp_go {i : Nat} {cs : List Nat} {w : World} {os : OsState} {T : BT} {n tk : Nat} {L : Life} {f : Frame} {r : List Frame} (hi : ∀ o, ((T.ins n o).get n).isSome = true) (hne : cs ≠ []) (hnd : cs.Nodup) (hl : cs.length ≤ 30) (hn : 11 ≤ n) :
    ∃ k x, k ≤ 2000 ∧ (so x).SetObjOf (PySem.strKind pw w) (vow cs) cs.length ∧
      topGo treeTable pw w 11 (ann0 w) k (SharedT.abs ⟨T, n, L, #[], boot_drawn, tk, os⟩) ⟨CT i (disp i cs true), .body cbody cenv, setPos i, f :: r⟩ =
        some (SharedT.abs ⟨T.ins n (so x), n + 1, L, #[], boot_drawn, tk + 2 * cs.length, os⟩, ⟨CT i (.pure (.ref n)), .body cbody cenv, setPos i, f :: r⟩) := by
  have hsz : (SharedT.abs ⟨T, n, L, #[], boot_drawn, tk, os⟩).heap.objs.size = n := absHeap_size T n L
  obtain ⟨k, o, hk, ho, hr⟩ := display_runs (p := pw) (w := w) (n₀ := 11) (ann := ann0 w) cs hne hnd hl (setPos i) true (SharedT.abs ⟨T, n, L, #[], boot_drawn, tk, os⟩) (by rw [hsz]; exact hn)
  obtain ⟨x, rfl⟩ := so_of ho
  refine ⟨k, x, hk, ho, ?_⟩
  obtain ⟨H, gd, lv, e⟩ := CT_wrap i (disp i cs true)
  rw [e]
  have := hr (fun v => CT i (.pure v)) H gd lv (.body cbody cenv) (setPos i) f r
  rw [hsz] at this
  have e2 : (SharedT.abs ⟨T.ins n (so x), n + 1, L, #[], boot_drawn, tk + 2 * cs.length, os⟩) = { (SharedT.abs ⟨T, n, L, #[], boot_drawn, tk, os⟩) with heap := (SharedT.abs ⟨T, n, L, #[], boot_drawn, tk, os⟩).heap.push (so x), toks := (SharedT.abs ⟨T, n, L, #[], boot_drawn, tk, os⟩).toks + 2 * cs.length } := by
    show Shared.mk _ _ _ _ _ = Shared.mk _ _ _ _ _
    congr 1
    exact absHeap_ins (hi (so x))
  rw [e2]
  exact this
noncomputable def fin (w : World) (os : OsState) (x1 x2 x3 : Array (Int × Value) × Nat × SetTable) : Shared := SharedT.abs ⟨HT w.params (so x1) (so x2) (so x3), 660, lf w, #[], boot_drawn, 1583, os⟩
theorem run_all (w : World) (os : OsState) : ∃ x1 x2 x3, (so x1).SetObjOf (PySem.strKind pw w) (vow cs0) 7 ∧ (so x2).SetObjOf (PySem.strKind pw w) (vow cs1) 8 ∧ (so x3).SetObjOf (PySem.strKind pw w) (vow cs2) 8 ∧
    topRun treeTable pw w 11 (ann0 w) 20000 ⟨boot_heap w.params, #[], boot_drawn, boot_toks, os⟩ (topStub pw) = some (fin w os x1 x2 x3) := by
  obtain ⟨k1, x1, hk1, h1, g1⟩ := disp_go (i := 0) (cs := cs0) (w := w) (os := os) (T := T1 w os) (n := 230) (tk := 485) (L := lf w) (f := fr1 w os) (r := [topFrame default]) (ins1 w os) (by decide) (by decide) (by decide) (by decide)
  obtain ⟨k2, x2, hk2, h2, g2⟩ := disp_go (i := 1) (cs := cs1) (w := w) (os := os) (T := T2 w os (so x1)) (n := 231) (tk := 500) (L := lf w) (f := fr1 w os) (r := [topFrame default]) (ins2 w os (so x1)) (by decide) (by decide) (by decide) (by decide)
  obtain ⟨k3, x3, hk3, h3, g3⟩ := disp_go (i := 2) (cs := cs2) (w := w) (os := os) (T := T3 w os (so x1) (so x2)) (n := 232) (tk := 517) (L := lf w) (f := fr1 w os) (r := [topFrame default]) (ins3 w os (so x1) (so x2)) (by decide) (by decide) (by decide) (by decide)
  refine ⟨x1, x2, x3, h1, h2, h3, ?_⟩
  have a5 := endT_of (seg5 w os x1 x2 x3)
  have a4 := go_top (goT_of (seg4 w os x1 x2 x3)) a5
  have b3 := go_top g3 a4
  have a3 := go_top (goT_of (seg3 w os (so x1) (so x2))) b3
  have b2 := go_top g2 a3
  have a2 := go_top (goT_of (seg2 w os (so x1))) b2
  have b1 := go_top g1 a2
  have a1 := go_top (goT_of (seg1 w os)) b1
  have a0 := go_top (goT_of (segA w os)) a1
  rw [S0_abs] at a0
  have m := topRun_mono (20000 - (1277 + (68 + (k1 + (12 + (k2 + (12 + (k3 + (6013 + 1691))))))))) _ _ _ _ a0
  have e : 1277 + (68 + (k1 + (12 + (k2 + (12 + (k3 + (6013 + 1691))))))) + (20000 - (1277 + (68 + (k1 + (12 + (k2 + (12 + (k3 + (6013 + 1691)))))))) ) = 20000 := by omega
  rw [e] at m
  exact m
noncomputable def qv : Program := { pw with main := { pw.main with body := [topS 23] } }
noncomputable def looseN : List PySem.Str := ["_wall", "BaseStemmer", "Among", "DutchPorterStemmer", "lab0", "lab1", "lab2", "lab3", "_law_sounds", "_law_closes", "_law_vowels", "_law_two", "_law_closed", "_law_families", "_law_at", "_law_some", "_law_last", "_law_root", "_law_word"]
noncomputable def finL (w : World) (os : OsState) (x1 x2 x3 : Array (Int × Value) × Nat × SetTable) : Shared := ⟨⟨(heapL w.params (so x1) (so x2) (so x3)).toArray, lf w⟩, #[], boot_drawn, 1583, os⟩
theorem fin_eq (w : World) (os : OsState) (x1 x2 x3) : fin w os x1 x2 x3 = finL w os x1 x2 x3 := by kernel_rfl
theorem looks1 (w : World) (os : OsState) (x1 x2 x3) : (staticsOk (importedModules pw.main.body) (boot_heap w.params) (finL w os x1 x2 x3).heap && namesBound pw (finL w os x1 x2 x3).heap && gensDone (finL w os x1 x2 x3) && laidKept (boot_heap w.params) (finL w os x1 x2 x3).heap) = true := by kernel_rfl
theorem looks2 (w : World) (os : OsState) (x1 x2 x3) : openSeen qv looseN (importedModules pw.main.body) (fun s => xlAt qv [] s && recOk [] s) true (finL w os x1 x2 x3) = openGood qv looseN := by kernel_rfl
theorem looks0 (w : World) : ((boot_heap w.params).isNs mainGlobals && (#[] : Array GenState).size == 0) = true := by kernel_rfl
theorem looksN (w : World) : (boot_heap w.params).objs.size = 11 := by kernel_rfl
noncomputable abbrev SetX := Array (Int × Value) × Nat × SetTable
noncomputable def KH (P : Params) (x1 x2 x3 : SetX) : Frag := (List.range 660).zip (heapL P (so x1) (so x2) (so x3))
structure Sets (w : World) (x1 x2 x3 : SetX) : Prop where
  s1 : (so x1).SetObjOf (PySem.strKind pw w) (vow cs0) 7
  s2 : (so x2).SetObjOf (PySem.strKind pw w) (vow cs1) 8
  s3 : (so x3).SetObjOf (PySem.strKind pw w) (vow cs2) 8
theorem zip_look : ∀ (l : List Obj) (k a : Nat) (o : Obj), ((List.range' k l.length).zip l).lookup a = some o → ∃ i, a = k + i ∧ l[i]? = some o
  | [], k, a, o, h => by simp at h
  | x :: r, k, a, o, h => by
    rw [List.length_cons, List.range'_succ, List.zip_cons_cons, List.lookup_cons] at h
    by_cases e : a = k
    · subst e; simp at h; subst h; exact ⟨0, by simp, rfl⟩
    · have : (a == k) = false := by simpa using e
      rw [this] at h
      obtain ⟨i, h1, h2⟩ := zip_look r (k + 1) a o h
      exact ⟨i + 1, by omega, by simpa using h2⟩
theorem heapL_len (P : Params) (o1 o2 o3 : Obj) : (heapL P o1 o2 o3).length = 660 := by kernel_rfl
theorem heapL_live (P : Params) (x1 x2 x3 : SetX) : (heapL P (so x1) (so x2) (so x3)).all (fun o => !o.isFreed) = true := by kernel_rfl
theorem KH_in (w : World) (os : OsState) (x1 x2 x3 : SetX) : (KH w.params x1 x2 x3).In (finL w os x1 x2 x3).heap := by
  intro a o h
  unfold KH at h
  rw [List.range_eq_range', ← heapL_len w.params (so x1) (so x2) (so x3)] at h
  obtain ⟨i, h1, h2⟩ := zip_look _ _ _ _ h
  rw [Nat.zero_add] at h1
  subst h1
  have hf := List.all_eq_true.mp (heapL_live w.params x1 x2 x3) o (List.mem_of_getElem? h2)
  show Heap.get? ⟨(heapL w.params (so x1) (so x2) (so x3)).toArray, lf w⟩ a = some o
  unfold Heap.get?
  rw [List.getElem?_toArray, h2]
  obtain ⟨c, d, dt, sl⟩ := o
  cases dt <;> first | rfl | (simp [Obj.isFreed] at hf)
theorem open_w (w : World) : (fencedOpening treeTable pw w 20000).map (fun s => (s.heap, s.gens, s.drawn, s.toks)) = some (boot_heap w.params, Array.mk [], boot_drawn, boot_toks) :=
  boot_open (by rfl) (by decide) (fun s => by rfl) w
theorem topFrom_of {p : Program} {w : World} {N : Nat} {s s₁ : Shared} (h0 : (s.heap.isNs mainGlobals && s.gens.size == 0) = true) (r : topRun treeTable p w s.heap.objs.size (s.heap.nsMap mainGlobals "__annotations__") N s (topStub p) = some s₁)
    (l : (staticsOk (importedModules p.main.body) s.heap s₁.heap && namesBound p s₁.heap && gensDone s₁ && laidKept s.heap s₁.heap) = true) : topFrom treeTable p w N s = some s₁ := by
  unfold topFrom
  rw [h0, r]
  simp only [Option.bind_some]
  rw [l]
theorem ends (w : World) : ∃ os x1 x2 x3, Sets w x1 x2 x3 ∧ openEnds treeTable pw w 20000 = some (finL w os x1 x2 x3) := by
  obtain ⟨⟨h, gs, d, k, os⟩, e, e'⟩ := Option.map_eq_some_iff.mp (open_w w)
  obtain ⟨rfl, rfl, rfl, rfl⟩ : h = boot_heap w.params ∧ gs = #[] ∧ d = boot_drawn ∧ k = boot_toks := by simpa using e'
  obtain ⟨x1, x2, x3, h1, h2, h3, r⟩ := run_all w os
  rw [fin_eq] at r
  refine ⟨os, x1, x2, x3, ⟨h1, h2, h3⟩, ?_⟩
  have t := topFrom_of (p := pw) (w := w) (N := 20000) (s := ⟨boot_heap w.params, #[], boot_drawn, boot_toks, os⟩) (s₁ := finL w os x1 x2 x3) (looks0 w) (by rw [looksN w]; exact r) (looks1 w os x1 x2 x3)
  unfold openEnds
  rw [e, Option.bind_some]
  exact t
noncomputable def heapOf : Option Shared → Heap
  | some s => s.heap
  | none => default
noncomputable def Hf (w : World) : Heap := heapOf (openEnds treeTable pw w 20000)
theorem left_of {q : Program} {loose mods : List PySem.Str} {Xt : Shared → Bool} {X : Option Shared} {s : Shared} (e : X = some s) (l : openSeen q loose mods Xt true s = openGood q loose) :
    X.map (fun s => (openSeen q loose mods Xt true s, s.heap)) = some (openGood q loose, heapOf X) := by
  subst e
  rw [Option.map_some, l]
  rfl
theorem leftO : LeftO pw qv looseN (fun s => xlAt qv [] s && recOk [] s) (fun s => s.heap) Hf 20000 := fun w => by
  obtain ⟨os, x1, x2, x3, hs, e⟩ := ends w
  exact left_of e (looks2 w os x1 x2 x3)
noncomputable def YP (w : World) (h : Heap) : Prop := ∃ x1 x2 x3, Sets w x1 x2 x3 ∧ (KH w.params x1 x2 x3).In h
theorem heapOf_of {X : Option Shared} {s : Shared} {h : Heap} (e : X = some s) (e2 : h = heapOf X) : h = s.heap := by subst e; exact e2
theorem YP_of (w : World) (s : Shared) (e : s.heap = Hf w) : YP w s.heap := by
  obtain ⟨os, x1, x2, x3, hs, e1⟩ := ends w
  refine ⟨x1, x2, x3, hs, ?_⟩
  rw [heapOf_of e1 e]
  exact KH_in w os x1 x2 x3
theorem YP_keeps (w : World) (h h' : Heap) (y : YP w h) (k : ∀ b o, h.get? b = some o → h'.get? b = some o) : YP w h' :=
  let ⟨x1, x2, x3, hs, y⟩ := y; ⟨x1, x2, x3, hs, y.keeps k⟩
noncomputable def faL : List Nat := [42, 35, 49, 63, 70, 98, 105, 126, 133, 140, 147, 154, 161, 239, 246, 253, 260, 267, 274, 281, 288, 295, 302, 189, 468, 475, 482, 624, 631, 638, 645, 652, 659]
noncomputable def cdL : List Nat := [41, 34, 48, 62, 69, 97, 104, 125, 132, 139, 146, 153, 160, 238, 245, 252, 259, 266, 273, 280, 287, 294, 301, 188, 467, 474, 481, 623, 630, 637, 644, 651, 658]
noncomputable def taL : List Nat := [336, 346, 356, 372, 391, 404, 230, 231, 232]
noncomputable def D0 : WD := { fa := fun j => faL.getD j 0, cd := fun j => .ref (cdL.getD j 0), ta := fun k => taL.getD k 0, fams := 617, snd := .str "bcdfghjklmnpqrstvwxz" 1176, cls := .str "bdfghklmnpqrtvwxz" 1178, mc := .type "type" }
noncomputable def tabL : List (Nat × TO) := [
  (304, .amg [] (-1) 6),
  (307, .amg [225] 0 1),
  (310, .amg [228] 0 1),
  (313, .amg [233] 0 2),
  (316, .amg [235] 0 2),
  (319, .amg [237] 0 3),
  (322, .amg [239] 0 3),
  (325, .amg [243] 0 4),
  (328, .amg [246] 0 4),
  (331, .amg [250] 0 5),
  (334, .amg [252] 0 5),
  (336, .seq false [.top 304, .top 307, .top 310, .top 313, .top 316, .top 319, .top 322, .top 325, .top 328, .top 331, .top 334]),
  (338, .amg [] (-1) 3),
  (341, .amg [73] 0 2),
  (344, .amg [89] 0 1),
  (346, .seq false [.top 338, .top 341, .top 344]),
  (348, .amg [100, 100] (-1) (-1)),
  (351, .amg [107, 107] (-1) (-1)),
  (354, .amg [116, 116] (-1) (-1)),
  (356, .seq false [.top 348, .top 351, .top 354]),
  (358, .amg [101, 110, 101] (-1) 2),
  (361, .amg [115, 101] (-1) 3),
  (364, .amg [101, 110] (-1) 2),
  (367, .amg [104, 101, 100, 101, 110] 2 1),
  (370, .amg [115] (-1) 3),
  (372, .seq false [.top 358, .top 361, .top 364, .top 367, .top 370]),
  (374, .amg [101, 110, 100] (-1) 1),
  (377, .amg [105, 103] (-1) 2),
  (380, .amg [105, 110, 103] (-1) 1),
  (383, .amg [108, 105, 106, 107] (-1) 3),
  (386, .amg [98, 97, 97, 114] (-1) 4),
  (389, .amg [98, 97, 114] (-1) 5),
  (391, .seq false [.top 374, .top 377, .top 380, .top 383, .top 386, .top 389]),
  (393, .amg [97, 97] (-1) (-1)),
  (396, .amg [101, 101] (-1) (-1)),
  (399, .amg [111, 111] (-1) (-1)),
  (402, .amg [117, 117] (-1) (-1)),
  (404, .seq false [.top 393, .top 396, .top 399, .top 402]),
  (483, .seq true [.str [], .str []]),
  (484, .seq true [.str [115], .str [115]]),
  (485, .seq false [.top 483, .top 484]),
  (486, .seq true [.int 0, .int 0, .str [], .int 0, .str [], .top 485]),
  (487, .seq true [.str [116, 101], .str [116, 101]]),
  (488, .seq true [.str [116, 101, 110], .str [116, 101, 110]]),
  (489, .seq false [.top 487, .top 488]),
  (490, .seq true [.int 0, .int 1, .str [116], .int 1, .str [116], .top 489]),
  (491, .seq true [.str [100, 101], .str [100, 101]]),
  (492, .seq true [.str [100, 101, 110], .str [100, 101, 110]]),
  (493, .seq false [.top 491, .top 492]),
  (494, .seq true [.int 0, .int 1, .str [100], .int 1, .str [100], .top 493]),
  (495, .seq true [.str [116], .str [116]]),
  (496, .seq false [.top 495]),
  (497, .seq true [.int 0, .int 1, .str [116], .int 1, .str [116], .top 496]),
  (498, .seq true [.str [106, 101], .str [106, 101]]),
  (499, .seq false [.top 498]),
  (500, .seq true [.int 0, .int 1, .str [106], .int 1, .str [106], .top 499]),
  (501, .seq true [.str [106, 101, 115], .str [106, 101, 115]]),
  (502, .seq false [.top 501]),
  (503, .seq true [.int 0, .int 1, .str [106, 101, 115], .int 1, .str [106, 101, 115], .top 502]),
  (504, .seq true [.str [104, 101, 105, 100], .str [104, 101, 105, 100]]),
  (505, .seq true [.str [104, 101, 100, 101, 110], .str [104, 101, 100, 101, 110]]),
  (506, .seq true [.str [104, 101, 105, 100, 115], .str [104, 101, 105, 100]]),
  (507, .seq false [.top 504, .top 505, .top 506]),
  (508, .seq true [.int 0, .int 0, .str [], .int 1, .str [104, 101, 105, 100], .top 507]),
  (509, .seq true [.str [108, 105, 106, 107], .str [108, 105, 106, 107]]),
  (510, .seq true [.str [108, 105, 106, 107, 101], .str [108, 105, 106, 107]]),
  (511, .seq true [.str [108, 105, 106, 107, 101, 110], .str [108, 105, 106, 107]]),
  (512, .seq true [.str [108, 105, 106, 107, 115], .str [108, 105, 106, 107]]),
  (513, .seq true [.str [108, 105, 106, 107, 104, 101, 105, 100], .str [108, 105, 106, 107, 104, 101, 105, 100]]),
  (514, .seq false [.top 509, .top 510, .top 511, .top 512, .top 513]),
  (515, .seq true [.int 0, .int 0, .str [], .int 1, .str [108, 105, 106, 107], .top 514]),
  (516, .seq true [.str [98, 97, 97, 114], .str [98, 97, 114]]),
  (517, .seq true [.str [98, 97, 114, 101], .str [98, 97, 114]]),
  (518, .seq true [.str [98, 97, 97, 114, 104, 101, 105, 100], .str [98, 97, 97, 114, 104, 101, 105, 100]]),
  (519, .seq false [.top 516, .top 517, .top 518]),
  (520, .seq true [.int 0, .int 0, .str [], .int 1, .str [98, 97, 114], .top 519]),
  (521, .seq true [.str [98, 97, 114], .str [98, 97, 114]]),
  (522, .seq true [.str [98, 97, 114, 101, 110], .str [98, 97, 114]]),
  (523, .seq false [.top 521, .top 522]),
  (524, .seq true [.int 0, .int 1, .str [98, 97, 114], .int 1, .str [98, 97, 114], .top 523]),
  (525, .seq true [.str [108, 111, 111, 115], .str [108, 111, 115]]),
  (526, .seq true [.str [108, 111, 111, 115, 104, 101, 105, 100], .str [108, 111, 111, 115, 104, 101, 105, 100]]),
  (527, .seq false [.top 525, .top 526]),
  (528, .seq true [.int 0, .int 1, .str [108, 111, 115], .int 1, .str [108, 111, 115], .top 527]),
  (529, .seq true [.str [108, 111, 122, 101], .str [108, 111, 122]]),
  (530, .seq true [.str [108, 111, 122, 101, 110], .str [108, 111, 122]]),
  (531, .seq false [.top 529, .top 530]),
  (532, .seq true [.int 0, .int 1, .str [108, 111, 122], .int 1, .str [108, 111, 122], .top 531]),
  (533, .seq true [.str [122, 97, 97, 109], .str [122, 97, 109]]),
  (534, .seq true [.str [122, 97, 109, 101], .str [122, 97, 109]]),
  (535, .seq true [.str [122, 97, 97, 109, 104, 101, 105, 100], .str [122, 97, 97, 109, 104, 101, 105, 100]]),
  (536, .seq false [.top 533, .top 534, .top 535]),
  (537, .seq true [.int 0, .int 1, .str [122, 97, 109], .int 1, .str [122, 97, 109], .top 536]),
  (538, .seq true [.str [97, 99, 104, 116, 105, 103], .str [97, 99, 104, 116, 105, 103]]),
  (539, .seq true [.str [97, 99, 104, 116, 105, 103, 101], .str [97, 99, 104, 116, 105, 103]]),
  (540, .seq true [.str [97, 99, 104, 116, 105, 103, 104, 101, 105, 100], .str [97, 99, 104, 116, 105, 103]]),
  (541, .seq false [.top 538, .top 539, .top 540]),
  (542, .seq true [.int 0, .int 1, .str [97, 99, 104, 116], .int 1, .str [97, 99, 104, 116], .top 541]),
  (543, .seq true [.str [115, 99, 104, 97, 112], .str [115, 99, 104, 97, 112]]),
  (544, .seq true [.str [115, 99, 104, 97, 112, 115], .str [115, 99, 104, 97, 112]]),
  (545, .seq false [.top 543, .top 544]),
  (546, .seq true [.int 0, .int 1, .str [115, 99, 104, 97, 112], .int 1, .str [115, 99, 104, 97, 112], .top 545]),
  (547, .seq true [.str [115, 99, 104, 97, 112, 112, 101, 110], .str [115, 99, 104, 97, 112, 112]]),
  (548, .seq false [.top 547]),
  (549, .seq true [.int 0, .int 1, .str [115, 99, 104, 97, 112, 112], .int 1, .str [115, 99, 104, 97, 112, 112], .top 548]),
  (550, .seq true [.str [100, 111, 109], .str [100, 111, 109]]),
  (551, .seq false [.top 550]),
  (552, .seq true [.int 0, .int 1, .str [100, 111, 109], .int 1, .str [100, 111, 109], .top 551]),
  (553, .seq true [.str [100, 111, 109, 109, 101, 110], .str [100, 111, 109, 109]]),
  (554, .seq false [.top 553]),
  (555, .seq true [.int 0, .int 1, .str [100, 111, 109, 109], .int 1, .str [100, 111, 109, 109], .top 554]),
  (556, .seq true [.str [115, 116, 101, 114], .str [115, 116, 101, 114]]),
  (557, .seq true [.str [115, 116, 101, 114, 115], .str [115, 116, 101, 114]]),
  (558, .seq false [.top 556, .top 557]),
  (559, .seq true [.int 0, .int 1, .str [115, 116, 101, 114], .int 1, .str [115, 116, 101, 114], .top 558]),
  (560, .seq true [.str [115, 116], .str [115, 116]]),
  (561, .seq true [.str [115, 116, 101], .str [115, 116, 101]]),
  (562, .seq true [.str [115, 116, 101, 110], .str [115, 116, 101, 110]]),
  (563, .seq false [.top 560, .top 561, .top 562]),
  (564, .seq true [.int 0, .int 1, .str [115, 116], .int 1, .str [115, 116], .top 563]),
  (565, .seq true [.str [101, 110], .str [101, 110]]),
  (566, .seq true [.str [101], .str [101]]),
  (567, .seq true [.str [101, 110, 104, 101, 105, 100], .str [101, 110, 104, 101, 105, 100]]),
  (568, .seq true [.str [101, 110, 104, 101, 100, 101, 110], .str [101, 110, 104, 101, 105, 100]]),
  (569, .seq false [.top 565, .top 566, .top 567, .top 568]),
  (570, .seq true [.int 1, .int 2, .str [], .int 2, .str [], .top 569]),
  (571, .seq true [.str [101, 110, 100], .str [101, 110, 100]]),
  (572, .seq true [.str [101, 110, 100, 101], .str [101, 110, 100]]),
  (573, .seq true [.str [101, 110, 100, 101, 110], .str [101, 110, 100]]),
  (574, .seq false [.top 571, .top 572, .top 573]),
  (575, .seq true [.int 1, .int 2, .str [], .int 3, .str [101, 110, 100], .top 574]),
  (576, .seq true [.str [105, 110, 103], .str [105, 110, 103]]),
  (577, .seq true [.str [105, 110, 103, 101, 110], .str [105, 110, 103]]),
  (578, .seq true [.str [105, 110, 103, 115], .str [105, 110, 103]]),
  (579, .seq false [.top 576, .top 577, .top 578]),
  (580, .seq true [.int 1, .int 2, .str [], .int 3, .str [105, 110, 103], .top 579]),
  (581, .seq true [.str [105, 103], .str [105, 103]]),
  (582, .seq true [.str [105, 103, 101], .str [105, 103]]),
  (583, .seq true [.str [105, 103, 101, 110], .str [105, 103]]),
  (584, .seq true [.str [105, 103, 104, 101, 105, 100], .str [105, 103, 104, 101, 105, 100]]),
  (585, .seq true [.str [105, 103, 104, 101, 100, 101, 110], .str [105, 103, 104, 101, 105, 100]]),
  (586, .seq true [.str [105, 103, 101, 110, 100], .str [105, 103, 101, 110, 100]]),
  (587, .seq true [.str [105, 103, 101, 110, 100, 101], .str [105, 103, 101, 110, 100]]),
  (588, .seq true [.str [105, 103, 105, 110, 103], .str [105, 103, 105, 110, 103]]),
  (589, .seq true [.str [105, 103, 105, 110, 103, 101, 110], .str [105, 103, 105, 110, 103]]),
  (590, .seq false [.top 581, .top 582, .top 583, .top 584, .top 585, .top 586, .top 587, .top 588, .top 589]),
  (591, .seq true [.int 1, .int 3, .str [], .int 3, .str [105, 103], .top 590]),
  (592, .seq true [.str [101, 114], .str [101, 114]]),
  (593, .seq true [.str [101, 114, 115], .str [101, 114]]),
  (594, .seq true [.str [101, 114, 101, 110], .str [101, 114]]),
  (595, .seq true [.str [101, 114, 101], .str [101, 114]]),
  (596, .seq false [.top 592, .top 593, .top 594, .top 595]),
  (597, .seq true [.int 1, .int 3, .str [101, 114], .int 3, .str [101, 114], .top 596]),
  (598, .seq true [.str [101, 108, 105, 106, 107], .str [101, 108, 105, 106, 107]]),
  (599, .seq true [.str [101, 108, 105, 106, 107, 101], .str [101, 108, 105, 106, 107]]),
  (600, .seq true [.str [101, 108, 105, 106, 107, 101, 110], .str [101, 108, 105, 106, 107]]),
  (601, .seq true [.str [101, 108, 105, 106, 107, 104, 101, 105, 100], .str [101, 108, 105, 106, 107]]),
  (602, .seq false [.top 598, .top 599, .top 600, .top 601]),
  (603, .seq true [.int 1, .int 2, .str [], .int 3, .str [101, 108, 105, 106, 107], .top 602]),
  (604, .seq true [.str [101, 108, 105, 110, 103], .str [101, 108, 105, 110, 103]]),
  (605, .seq true [.str [101, 108, 105, 110, 103, 101, 110], .str [101, 108, 105, 110, 103]]),
  (606, .seq true [.str [101, 108], .str [101, 108]]),
  (607, .seq true [.str [101, 108, 115], .str [101, 108]]),
  (608, .seq true [.str [101, 108, 101, 110], .str [101, 108]]),
  (609, .seq false [.top 604, .top 605, .top 606, .top 607, .top 608]),
  (610, .seq true [.int 1, .int 3, .str [101, 108], .int 3, .str [101, 108], .top 609]),
  (611, .seq true [.str [101, 110, 115], .str [101, 110]]),
  (612, .seq false [.top 611]),
  (613, .seq true [.int 1, .int 3, .str [101, 110], .int 3, .str [101, 110], .top 612]),
  (614, .seq true [.str [101, 114, 105, 106], .str [101, 114, 105, 106]]),
  (615, .seq false [.top 614]),
  (616, .seq true [.int 1, .int 3, .str [101, 114, 105, 106], .int 3, .str [101, 114, 105, 106], .top 615]),
  (617, .seq false [.top 486, .top 490, .top 494, .top 497, .top 500, .top 503, .top 508, .top 515, .top 520, .top 524, .top 528, .top 532, .top 537, .top 542, .top 546, .top 549, .top 552, .top 555, .top 559, .top 564, .top 570, .top 575, .top 580, .top 591, .top 597, .top 603, .top 610, .top 613, .top 616])]
noncomputable def setL : List (Nat × TO) := [(230, .set [[97], [101], [105], [111], [117], [121], [232]]), (231, .set [[73], [97], [101], [105], [111], [117], [121], [232]]), (232, .set [[97], [101], [105], [106], [111], [117], [121], [232]])]
noncomputable def tobj0 (a : Addr) : Option TO := (setL ++ tabL).lookup a
noncomputable abbrev mkG (w : World) (x1 x2 x3 : SetX) (H : Heap) (mg mb : PySem.Str → Option Value) (scr : Addr) (vs : List Value) (ns : List Int) (sf : Option (Addr × Addr)) : Gd :=
  { prog := pw, w := w, K := KH w.params x1 x2 x3, H := H, p := qv, loose := looseW qv looseN, mg := mg, mb := mb, scr := scr, vs := vs, ns := ns, C := 407, sf := sf, labA := fun i => 419 + 13 * i.1, tobj := tobj0 }
noncomputable abbrev fnD (n : PySem.Str) (fi : FI) (ps : Arguments) (body : List Stmt) (pm : Value) := fnOf n fi.name ps body fi.scope .none .none .none pm none fi.cd .none
noncomputable def fnChk (K : Frag) (fi : FI) (pn : List PySem.Str) : Bool := codeIn K fi.cd fi.name && !fi.scope.isCoroutine && !fi.scope.isGenerator && fi.scope.names.all (fun x => decide (x.2 ≠ .cell)) && pn.all (fun x => decide (fi.scope.names.lookup x = some .local)) && decide (pn <+: fi.names) && decide fi.names.Nodup
theorem fnat_of {g : Gd} {f : Addr} {fi : FI} {pn : List PySem.Str} {body : List Stmt} (n : PySem.Str) (ps : Arguments) (pm : Value) (hl : (g.K.lookup f).map (·.data) = some (.func (fnD n fi ps body pm))) (hb : ∀ vs : List Value, vs.length = pn.length → bindArgs (fnD n fi ps body pm) ⟨vs, []⟩ = pure (pn.zip vs)) (hk : fi.scope.kind = .function) (hc : fnChk g.K fi pn = true) : FnAt g f fi pn body := by
  unfold fnChk at hc
  simp only [Bool.and_eq_true, Bool.not_eq_true', List.all_eq_true, decide_eq_true_eq] at hc
  obtain ⟨⟨⟨⟨⟨⟨h1, h2⟩, h3⟩, h4⟩, h5⟩, h6⟩, h7⟩ := hc
  obtain ⟨o, e1, e2⟩ := Option.map_eq_some_iff.mp hl
  exact ⟨⟨o, n, ps, _, _, _, pm, _, _, e1, e2, hb⟩, h1, h2, h3, hk, h4, h5, h6, h7⟩
section
variable {w : World} {x1 x2 x3 : SetX} {H : Heap} {mg mb : PySem.Str → Option Value} {scr : Addr} {vs : List Value} {ns : List Int} {sf : Option (Addr × Addr)}
theorem sattr_all : ((List.range 9).all fun i => plainGet (KH w.params x1 x2 x3) 407 (anm i) && ((findIn (KH w.params x1 x2 x3) (.ref 407) (anm i)).any (noGet (KH w.params x1 x2 x3)) && decide (takerIn (KH w.params x1 x2 x3) 407 (anm i) = some none))) = true := by kernel_rfl
theorem sattr (i : Nat) (h : i < 9) : SAttr (mkG w x1 x2 x3 H mg mb scr vs ns sf) i := by
  have c := List.all_eq_true.mp (sattr_all (w := w) (x1 := x1) (x2 := x2) (x3 := x3)) i (List.mem_range.mpr h)
  rw [Bool.and_eq_true, Bool.and_eq_true, Option.any_eq_true, decide_eq_true_eq] at c
  exact ⟨h, c.1, by kernel_rfl, c.2.1, c.2.2, by kernel_rfl, by kernel_rfl⟩
theorem sub_all : ((List.range 4).all fun i => (List.range 4).all fun j => decide (subIn (KH w.params x1 x2 x3) (.ref (419 + 13 * i)) (.ref (419 + 13 * j)) = some (decide (i = j)))) = true := by kernel_rfl
theorem sub_of (i j : Fin 4) : subIn (KH w.params x1 x2 x3) (.ref (419 + 13 * i.1)) (.ref (419 + 13 * j.1)) = some (decide (i = j)) := by
  have h := of_decide_eq_true (List.all_eq_true.mp (List.all_eq_true.mp (sub_all (w := w) (x1 := x1) (x2 := x2) (x3 := x3)) i.1 (List.mem_range.mpr i.2)) j.1 (List.mem_range.mpr j.2))
  rw [h]; exact congrArg some (decide_eq_decide.mpr Fin.val_inj)
theorem lab0_at : LabAt (mkG w x1 x2 x3 H mg mb scr vs ns sf) 0 "lab0" := ⟨by kernel_rfl, by kernel_rfl, by kernel_rfl, by kernel_rfl, by kernel_rfl⟩
theorem lab1_at : LabAt (mkG w x1 x2 x3 H mg mb scr vs ns sf) 1 "lab1" := ⟨by kernel_rfl, by kernel_rfl, by kernel_rfl, by kernel_rfl, by kernel_rfl⟩
theorem lab2_at : LabAt (mkG w x1 x2 x3 H mg mb scr vs ns sf) 2 "lab2" := ⟨by kernel_rfl, by kernel_rfl, by kernel_rfl, by kernel_rfl, by kernel_rfl⟩
theorem lab3_at : LabAt (mkG w x1 x2 x3 H mg mb scr vs ns sf) 3 "lab3" := ⟨by kernel_rfl, by kernel_rfl, by kernel_rfl, by kernel_rfl, by kernel_rfl⟩
theorem bind_set_current (vs : List Value) (h : vs.length = p_set_current.length) : bindArgs (fnD "set_current" (i_set_current (D0.cd 0)) (fargs (subS 2 1)) b_set_current (.str "snowballstemmer.basestemmer" 194)) ⟨vs, []⟩ = pure (p_set_current.zip vs) := by
  rcases vs with _ | ⟨a0, _ | ⟨a1, _ | ⟨b, vs⟩⟩⟩ <;> first | (exfalso; simp [p_set_current] at h; done) | kernel_rfl
theorem fnat_set_current : FnAt (mkG w x1 x2 x3 H mg mb scr vs ns sf) (D0.fa 0) (i_set_current (D0.cd 0)) p_set_current b_set_current :=
  fnat_of "set_current" (fargs (subS 2 1)) (.str "snowballstemmer.basestemmer" 194) (by kernel_rfl) bind_set_current (by kernel_rfl) (by kernel_rfl)
theorem meth_set_current : MethAt (mkG w x1 x2 x3 H mg mb scr vs ns sf) "set_current" (D0.fa 0) := ⟨by kernel_rfl, by kernel_rfl, by kernel_rfl, by kernel_rfl, by decide +kernel⟩
theorem bind_init (vs : List Value) (h : vs.length = p_init.length) : bindArgs (fnD "__init__" (i_init (D0.cd 1)) (fargs (subS 2 0)) b_init (.str "snowballstemmer.basestemmer" 194)) ⟨vs, []⟩ = pure (p_init.zip vs) := by
  rcases vs with _ | ⟨a0, _ | ⟨b, vs⟩⟩ <;> first | (exfalso; simp [p_init] at h; done) | kernel_rfl
theorem fnat_init : FnAt (mkG w x1 x2 x3 H mg mb scr vs ns sf) (D0.fa 1) (i_init (D0.cd 1)) p_init b_init :=
  fnat_of "__init__" (fargs (subS 2 0)) (.str "snowballstemmer.basestemmer" 194) (by kernel_rfl) bind_init (by kernel_rfl) (by kernel_rfl)
theorem meth_init : MethAt (mkG w x1 x2 x3 H mg mb scr vs ns sf) "__init__" (D0.fa 1) := ⟨by kernel_rfl, by kernel_rfl, by kernel_rfl, by kernel_rfl, by decide +kernel⟩
theorem bind_get_current (vs : List Value) (h : vs.length = p_get_current.length) : bindArgs (fnD "get_current" (i_get_current (D0.cd 2)) (fargs (subS 2 2)) b_get_current (.str "snowballstemmer.basestemmer" 194)) ⟨vs, []⟩ = pure (p_get_current.zip vs) := by
  rcases vs with _ | ⟨a0, _ | ⟨b, vs⟩⟩ <;> first | (exfalso; simp [p_get_current] at h; done) | kernel_rfl
theorem fnat_get_current : FnAt (mkG w x1 x2 x3 H mg mb scr vs ns sf) (D0.fa 2) (i_get_current (D0.cd 2)) p_get_current b_get_current :=
  fnat_of "get_current" (fargs (subS 2 2)) (.str "snowballstemmer.basestemmer" 194) (by kernel_rfl) bind_get_current (by kernel_rfl) (by kernel_rfl)
theorem meth_get_current : MethAt (mkG w x1 x2 x3 H mg mb scr vs ns sf) "get_current" (D0.fa 2) := ⟨by kernel_rfl, by kernel_rfl, by kernel_rfl, by kernel_rfl, by decide +kernel⟩
theorem bind_in_grouping (vs : List Value) (h : vs.length = p_in_grouping.length) : bindArgs (fnD "in_grouping" (i_in_grouping (D0.cd 3)) (fargs (subS 2 4)) b_in_grouping (.str "snowballstemmer.basestemmer" 194)) ⟨vs, []⟩ = pure (p_in_grouping.zip vs) := by
  rcases vs with _ | ⟨a0, _ | ⟨a1, _ | ⟨b, vs⟩⟩⟩ <;> first | (exfalso; simp [p_in_grouping] at h; done) | kernel_rfl
theorem fnat_in_grouping : FnAt (mkG w x1 x2 x3 H mg mb scr vs ns sf) (D0.fa 3) (i_in_grouping (D0.cd 3)) p_in_grouping b_in_grouping :=
  fnat_of "in_grouping" (fargs (subS 2 4)) (.str "snowballstemmer.basestemmer" 194) (by kernel_rfl) bind_in_grouping (by kernel_rfl) (by kernel_rfl)
theorem meth_in_grouping : MethAt (mkG w x1 x2 x3 H mg mb scr vs ns sf) "in_grouping" (D0.fa 3) := ⟨by kernel_rfl, by kernel_rfl, by kernel_rfl, by kernel_rfl, by decide +kernel⟩
theorem bind_go_in_grouping (vs : List Value) (h : vs.length = p_go_in_grouping.length) : bindArgs (fnD "go_in_grouping" (i_go_in_grouping (D0.cd 4)) (fargs (subS 2 5)) b_go_in_grouping (.str "snowballstemmer.basestemmer" 194)) ⟨vs, []⟩ = pure (p_go_in_grouping.zip vs) := by
  rcases vs with _ | ⟨a0, _ | ⟨a1, _ | ⟨b, vs⟩⟩⟩ <;> first | (exfalso; simp [p_go_in_grouping] at h; done) | kernel_rfl
theorem fnat_go_in_grouping : FnAt (mkG w x1 x2 x3 H mg mb scr vs ns sf) (D0.fa 4) (i_go_in_grouping (D0.cd 4)) p_go_in_grouping b_go_in_grouping :=
  fnat_of "go_in_grouping" (fargs (subS 2 5)) (.str "snowballstemmer.basestemmer" 194) (by kernel_rfl) bind_go_in_grouping (by kernel_rfl) (by kernel_rfl)
theorem meth_go_in_grouping : MethAt (mkG w x1 x2 x3 H mg mb scr vs ns sf) "go_in_grouping" (D0.fa 4) := ⟨by kernel_rfl, by kernel_rfl, by kernel_rfl, by kernel_rfl, by decide +kernel⟩
theorem bind_go_out_grouping (vs : List Value) (h : vs.length = p_go_out_grouping.length) : bindArgs (fnD "go_out_grouping" (i_go_out_grouping (D0.cd 5)) (fargs (subS 2 9)) b_go_out_grouping (.str "snowballstemmer.basestemmer" 194)) ⟨vs, []⟩ = pure (p_go_out_grouping.zip vs) := by
  rcases vs with _ | ⟨a0, _ | ⟨a1, _ | ⟨b, vs⟩⟩⟩ <;> first | (exfalso; simp [p_go_out_grouping] at h; done) | kernel_rfl
theorem fnat_go_out_grouping : FnAt (mkG w x1 x2 x3 H mg mb scr vs ns sf) (D0.fa 5) (i_go_out_grouping (D0.cd 5)) p_go_out_grouping b_go_out_grouping :=
  fnat_of "go_out_grouping" (fargs (subS 2 9)) (.str "snowballstemmer.basestemmer" 194) (by kernel_rfl) bind_go_out_grouping (by kernel_rfl) (by kernel_rfl)
theorem meth_go_out_grouping : MethAt (mkG w x1 x2 x3 H mg mb scr vs ns sf) "go_out_grouping" (D0.fa 5) := ⟨by kernel_rfl, by kernel_rfl, by kernel_rfl, by kernel_rfl, by decide +kernel⟩
theorem bind_out_grouping_b (vs : List Value) (h : vs.length = p_out_grouping_b.length) : bindArgs (fnD "out_grouping_b" (i_out_grouping_b (D0.cd 6)) (fargs (subS 2 10)) b_out_grouping_b (.str "snowballstemmer.basestemmer" 194)) ⟨vs, []⟩ = pure (p_out_grouping_b.zip vs) := by
  rcases vs with _ | ⟨a0, _ | ⟨a1, _ | ⟨b, vs⟩⟩⟩ <;> first | (exfalso; simp [p_out_grouping_b] at h; done) | kernel_rfl
theorem fnat_out_grouping_b : FnAt (mkG w x1 x2 x3 H mg mb scr vs ns sf) (D0.fa 6) (i_out_grouping_b (D0.cd 6)) p_out_grouping_b b_out_grouping_b :=
  fnat_of "out_grouping_b" (fargs (subS 2 10)) (.str "snowballstemmer.basestemmer" 194) (by kernel_rfl) bind_out_grouping_b (by kernel_rfl) (by kernel_rfl)
theorem meth_out_grouping_b : MethAt (mkG w x1 x2 x3 H mg mb scr vs ns sf) "out_grouping_b" (D0.fa 6) := ⟨by kernel_rfl, by kernel_rfl, by kernel_rfl, by kernel_rfl, by decide +kernel⟩
theorem bind_eq_s_b (vs : List Value) (h : vs.length = p_eq_s_b.length) : bindArgs (fnD "eq_s_b" (i_eq_s_b (D0.cd 7)) (fargs (subS 2 13)) b_eq_s_b (.str "snowballstemmer.basestemmer" 194)) ⟨vs, []⟩ = pure (p_eq_s_b.zip vs) := by
  rcases vs with _ | ⟨a0, _ | ⟨a1, _ | ⟨b, vs⟩⟩⟩ <;> first | (exfalso; simp [p_eq_s_b] at h; done) | kernel_rfl
theorem fnat_eq_s_b : FnAt (mkG w x1 x2 x3 H mg mb scr vs ns sf) (D0.fa 7) (i_eq_s_b (D0.cd 7)) p_eq_s_b b_eq_s_b :=
  fnat_of "eq_s_b" (fargs (subS 2 13)) (.str "snowballstemmer.basestemmer" 194) (by kernel_rfl) bind_eq_s_b (by kernel_rfl) (by kernel_rfl)
theorem meth_eq_s_b : MethAt (mkG w x1 x2 x3 H mg mb scr vs ns sf) "eq_s_b" (D0.fa 7) := ⟨by kernel_rfl, by kernel_rfl, by kernel_rfl, by kernel_rfl, by decide +kernel⟩
theorem bind_find_among (vs : List Value) (h : vs.length = p_find_among.length) : bindArgs (fnD "find_among" (i_find_among (D0.cd 8)) (fargs (subS 2 14)) b_find_among (.str "snowballstemmer.basestemmer" 194)) ⟨vs, []⟩ = pure (p_find_among.zip vs) := by
  rcases vs with _ | ⟨a0, _ | ⟨a1, _ | ⟨b, vs⟩⟩⟩ <;> first | (exfalso; simp [p_find_among] at h; done) | kernel_rfl
theorem fnat_find_among : FnAt (mkG w x1 x2 x3 H mg mb scr vs ns sf) (D0.fa 8) (i_find_among (D0.cd 8)) p_find_among b_find_among :=
  fnat_of "find_among" (fargs (subS 2 14)) (.str "snowballstemmer.basestemmer" 194) (by kernel_rfl) bind_find_among (by kernel_rfl) (by kernel_rfl)
theorem meth_find_among : MethAt (mkG w x1 x2 x3 H mg mb scr vs ns sf) "find_among" (D0.fa 8) := ⟨by kernel_rfl, by kernel_rfl, by kernel_rfl, by kernel_rfl, by decide +kernel⟩
theorem bind_find_among_b (vs : List Value) (h : vs.length = p_find_among_b.length) : bindArgs (fnD "find_among_b" (i_find_among_b (D0.cd 9)) (fargs (subS 2 15)) b_find_among_b (.str "snowballstemmer.basestemmer" 194)) ⟨vs, []⟩ = pure (p_find_among_b.zip vs) := by
  rcases vs with _ | ⟨a0, _ | ⟨a1, _ | ⟨b, vs⟩⟩⟩ <;> first | (exfalso; simp [p_find_among_b] at h; done) | kernel_rfl
theorem fnat_find_among_b : FnAt (mkG w x1 x2 x3 H mg mb scr vs ns sf) (D0.fa 9) (i_find_among_b (D0.cd 9)) p_find_among_b b_find_among_b :=
  fnat_of "find_among_b" (fargs (subS 2 15)) (.str "snowballstemmer.basestemmer" 194) (by kernel_rfl) bind_find_among_b (by kernel_rfl) (by kernel_rfl)
theorem meth_find_among_b : MethAt (mkG w x1 x2 x3 H mg mb scr vs ns sf) "find_among_b" (D0.fa 9) := ⟨by kernel_rfl, by kernel_rfl, by kernel_rfl, by kernel_rfl, by decide +kernel⟩
theorem bind_replace_s (vs : List Value) (h : vs.length = p_replace_s.length) : bindArgs (fnD "replace_s" (i_replace_s (D0.cd 10)) (fargs (subS 2 16)) b_replace_s (.str "snowballstemmer.basestemmer" 194)) ⟨vs, []⟩ = pure (p_replace_s.zip vs) := by
  rcases vs with _ | ⟨a0, _ | ⟨a1, _ | ⟨a2, _ | ⟨a3, _ | ⟨b, vs⟩⟩⟩⟩⟩ <;> first | (exfalso; simp [p_replace_s] at h; done) | kernel_rfl
theorem fnat_replace_s : FnAt (mkG w x1 x2 x3 H mg mb scr vs ns sf) (D0.fa 10) (i_replace_s (D0.cd 10)) p_replace_s b_replace_s :=
  fnat_of "replace_s" (fargs (subS 2 16)) (.str "snowballstemmer.basestemmer" 194) (by kernel_rfl) bind_replace_s (by kernel_rfl) (by kernel_rfl)
theorem meth_replace_s : MethAt (mkG w x1 x2 x3 H mg mb scr vs ns sf) "replace_s" (D0.fa 10) := ⟨by kernel_rfl, by kernel_rfl, by kernel_rfl, by kernel_rfl, by decide +kernel⟩
theorem bind_slice_from (vs : List Value) (h : vs.length = p_slice_from.length) : bindArgs (fnD "slice_from" (i_slice_from (D0.cd 11)) (fargs (subS 2 17)) b_slice_from (.str "snowballstemmer.basestemmer" 194)) ⟨vs, []⟩ = pure (p_slice_from.zip vs) := by
  rcases vs with _ | ⟨a0, _ | ⟨a1, _ | ⟨b, vs⟩⟩⟩ <;> first | (exfalso; simp [p_slice_from] at h; done) | kernel_rfl
theorem fnat_slice_from : FnAt (mkG w x1 x2 x3 H mg mb scr vs ns sf) (D0.fa 11) (i_slice_from (D0.cd 11)) p_slice_from b_slice_from :=
  fnat_of "slice_from" (fargs (subS 2 17)) (.str "snowballstemmer.basestemmer" 194) (by kernel_rfl) bind_slice_from (by kernel_rfl) (by kernel_rfl)
theorem meth_slice_from : MethAt (mkG w x1 x2 x3 H mg mb scr vs ns sf) "slice_from" (D0.fa 11) := ⟨by kernel_rfl, by kernel_rfl, by kernel_rfl, by kernel_rfl, by decide +kernel⟩
theorem bind_slice_del (vs : List Value) (h : vs.length = p_slice_del.length) : bindArgs (fnD "slice_del" (i_slice_del (D0.cd 12)) (fargs (subS 2 18)) b_slice_del (.str "snowballstemmer.basestemmer" 194)) ⟨vs, []⟩ = pure (p_slice_del.zip vs) := by
  rcases vs with _ | ⟨a0, _ | ⟨b, vs⟩⟩ <;> first | (exfalso; simp [p_slice_del] at h; done) | kernel_rfl
theorem fnat_slice_del : FnAt (mkG w x1 x2 x3 H mg mb scr vs ns sf) (D0.fa 12) (i_slice_del (D0.cd 12)) p_slice_del b_slice_del :=
  fnat_of "slice_del" (fargs (subS 2 18)) (.str "snowballstemmer.basestemmer" 194) (by kernel_rfl) bind_slice_del (by kernel_rfl) (by kernel_rfl)
theorem meth_slice_del : MethAt (mkG w x1 x2 x3 H mg mb scr vs ns sf) "slice_del" (D0.fa 12) := ⟨by kernel_rfl, by kernel_rfl, by kernel_rfl, by kernel_rfl, by decide +kernel⟩
theorem bind_r_prelude (vs : List Value) (h : vs.length = p_r_prelude.length) : bindArgs (fnD "r_prelude" (i_r_prelude (D0.cd 13)) (fargs (subS 6 6)) b_r_prelude (.str "snowballstemmer.dutch_porter_stemmer" 471)) ⟨vs, []⟩ = pure (p_r_prelude.zip vs) := by
  rcases vs with _ | ⟨a0, _ | ⟨b, vs⟩⟩ <;> first | (exfalso; simp [p_r_prelude] at h; done) | kernel_rfl
theorem fnat_r_prelude : FnAt (mkG w x1 x2 x3 H mg mb scr vs ns sf) (D0.fa 13) (i_r_prelude (D0.cd 13)) p_r_prelude b_r_prelude :=
  fnat_of "r_prelude" (fargs (subS 6 6)) (.str "snowballstemmer.dutch_porter_stemmer" 471) (by kernel_rfl) bind_r_prelude (by kernel_rfl) (by kernel_rfl)
theorem meth_r_prelude : MethAt (mkG w x1 x2 x3 H mg mb scr vs ns sf) "r_prelude" (D0.fa 13) := ⟨by kernel_rfl, by kernel_rfl, by kernel_rfl, by kernel_rfl, by decide +kernel⟩
theorem bind_r_mark_regions (vs : List Value) (h : vs.length = p_r_mark_regions.length) : bindArgs (fnD "r_mark_regions" (i_r_mark_regions (D0.cd 14)) (fargs (subS 6 7)) b_r_mark_regions (.str "snowballstemmer.dutch_porter_stemmer" 471)) ⟨vs, []⟩ = pure (p_r_mark_regions.zip vs) := by
  rcases vs with _ | ⟨a0, _ | ⟨b, vs⟩⟩ <;> first | (exfalso; simp [p_r_mark_regions] at h; done) | kernel_rfl
theorem fnat_r_mark_regions : FnAt (mkG w x1 x2 x3 H mg mb scr vs ns sf) (D0.fa 14) (i_r_mark_regions (D0.cd 14)) p_r_mark_regions b_r_mark_regions :=
  fnat_of "r_mark_regions" (fargs (subS 6 7)) (.str "snowballstemmer.dutch_porter_stemmer" 471) (by kernel_rfl) bind_r_mark_regions (by kernel_rfl) (by kernel_rfl)
theorem meth_r_mark_regions : MethAt (mkG w x1 x2 x3 H mg mb scr vs ns sf) "r_mark_regions" (D0.fa 14) := ⟨by kernel_rfl, by kernel_rfl, by kernel_rfl, by kernel_rfl, by decide +kernel⟩
theorem bind_r_postlude (vs : List Value) (h : vs.length = p_r_postlude.length) : bindArgs (fnD "r_postlude" (i_r_postlude (D0.cd 15)) (fargs (subS 6 8)) b_r_postlude (.str "snowballstemmer.dutch_porter_stemmer" 471)) ⟨vs, []⟩ = pure (p_r_postlude.zip vs) := by
  rcases vs with _ | ⟨a0, _ | ⟨b, vs⟩⟩ <;> first | (exfalso; simp [p_r_postlude] at h; done) | kernel_rfl
theorem fnat_r_postlude : FnAt (mkG w x1 x2 x3 H mg mb scr vs ns sf) (D0.fa 15) (i_r_postlude (D0.cd 15)) p_r_postlude b_r_postlude :=
  fnat_of "r_postlude" (fargs (subS 6 8)) (.str "snowballstemmer.dutch_porter_stemmer" 471) (by kernel_rfl) bind_r_postlude (by kernel_rfl) (by kernel_rfl)
theorem meth_r_postlude : MethAt (mkG w x1 x2 x3 H mg mb scr vs ns sf) "r_postlude" (D0.fa 15) := ⟨by kernel_rfl, by kernel_rfl, by kernel_rfl, by kernel_rfl, by decide +kernel⟩
theorem bind_r_R1 (vs : List Value) (h : vs.length = p_r_R1.length) : bindArgs (fnD "r_R1" (i_r_R1 (D0.cd 16)) (fargs (subS 6 9)) b_r_R1 (.str "snowballstemmer.dutch_porter_stemmer" 471)) ⟨vs, []⟩ = pure (p_r_R1.zip vs) := by
  rcases vs with _ | ⟨a0, _ | ⟨b, vs⟩⟩ <;> first | (exfalso; simp [p_r_R1] at h; done) | kernel_rfl
theorem fnat_r_R1 : FnAt (mkG w x1 x2 x3 H mg mb scr vs ns sf) (D0.fa 16) (i_r_R1 (D0.cd 16)) p_r_R1 b_r_R1 :=
  fnat_of "r_R1" (fargs (subS 6 9)) (.str "snowballstemmer.dutch_porter_stemmer" 471) (by kernel_rfl) bind_r_R1 (by kernel_rfl) (by kernel_rfl)
theorem meth_r_R1 : MethAt (mkG w x1 x2 x3 H mg mb scr vs ns sf) "r_R1" (D0.fa 16) := ⟨by kernel_rfl, by kernel_rfl, by kernel_rfl, by kernel_rfl, by decide +kernel⟩
theorem bind_r_R2 (vs : List Value) (h : vs.length = p_r_R2.length) : bindArgs (fnD "r_R2" (i_r_R2 (D0.cd 17)) (fargs (subS 6 10)) b_r_R2 (.str "snowballstemmer.dutch_porter_stemmer" 471)) ⟨vs, []⟩ = pure (p_r_R2.zip vs) := by
  rcases vs with _ | ⟨a0, _ | ⟨b, vs⟩⟩ <;> first | (exfalso; simp [p_r_R2] at h; done) | kernel_rfl
theorem fnat_r_R2 : FnAt (mkG w x1 x2 x3 H mg mb scr vs ns sf) (D0.fa 17) (i_r_R2 (D0.cd 17)) p_r_R2 b_r_R2 :=
  fnat_of "r_R2" (fargs (subS 6 10)) (.str "snowballstemmer.dutch_porter_stemmer" 471) (by kernel_rfl) bind_r_R2 (by kernel_rfl) (by kernel_rfl)
theorem meth_r_R2 : MethAt (mkG w x1 x2 x3 H mg mb scr vs ns sf) "r_R2" (D0.fa 17) := ⟨by kernel_rfl, by kernel_rfl, by kernel_rfl, by kernel_rfl, by decide +kernel⟩
theorem bind_r_undouble (vs : List Value) (h : vs.length = p_r_undouble.length) : bindArgs (fnD "r_undouble" (i_r_undouble (D0.cd 18)) (fargs (subS 6 11)) b_r_undouble (.str "snowballstemmer.dutch_porter_stemmer" 471)) ⟨vs, []⟩ = pure (p_r_undouble.zip vs) := by
  rcases vs with _ | ⟨a0, _ | ⟨b, vs⟩⟩ <;> first | (exfalso; simp [p_r_undouble] at h; done) | kernel_rfl
theorem fnat_r_undouble : FnAt (mkG w x1 x2 x3 H mg mb scr vs ns sf) (D0.fa 18) (i_r_undouble (D0.cd 18)) p_r_undouble b_r_undouble :=
  fnat_of "r_undouble" (fargs (subS 6 11)) (.str "snowballstemmer.dutch_porter_stemmer" 471) (by kernel_rfl) bind_r_undouble (by kernel_rfl) (by kernel_rfl)
theorem meth_r_undouble : MethAt (mkG w x1 x2 x3 H mg mb scr vs ns sf) "r_undouble" (D0.fa 18) := ⟨by kernel_rfl, by kernel_rfl, by kernel_rfl, by kernel_rfl, by decide +kernel⟩
theorem bind_r_e_ending (vs : List Value) (h : vs.length = p_r_e_ending.length) : bindArgs (fnD "r_e_ending" (i_r_e_ending (D0.cd 19)) (fargs (subS 6 12)) b_r_e_ending (.str "snowballstemmer.dutch_porter_stemmer" 471)) ⟨vs, []⟩ = pure (p_r_e_ending.zip vs) := by
  rcases vs with _ | ⟨a0, _ | ⟨b, vs⟩⟩ <;> first | (exfalso; simp [p_r_e_ending] at h; done) | kernel_rfl
theorem fnat_r_e_ending : FnAt (mkG w x1 x2 x3 H mg mb scr vs ns sf) (D0.fa 19) (i_r_e_ending (D0.cd 19)) p_r_e_ending b_r_e_ending :=
  fnat_of "r_e_ending" (fargs (subS 6 12)) (.str "snowballstemmer.dutch_porter_stemmer" 471) (by kernel_rfl) bind_r_e_ending (by kernel_rfl) (by kernel_rfl)
theorem meth_r_e_ending : MethAt (mkG w x1 x2 x3 H mg mb scr vs ns sf) "r_e_ending" (D0.fa 19) := ⟨by kernel_rfl, by kernel_rfl, by kernel_rfl, by kernel_rfl, by decide +kernel⟩
theorem bind_r_en_ending (vs : List Value) (h : vs.length = p_r_en_ending.length) : bindArgs (fnD "r_en_ending" (i_r_en_ending (D0.cd 20)) (fargs (subS 6 13)) b_r_en_ending (.str "snowballstemmer.dutch_porter_stemmer" 471)) ⟨vs, []⟩ = pure (p_r_en_ending.zip vs) := by
  rcases vs with _ | ⟨a0, _ | ⟨b, vs⟩⟩ <;> first | (exfalso; simp [p_r_en_ending] at h; done) | kernel_rfl
theorem fnat_r_en_ending : FnAt (mkG w x1 x2 x3 H mg mb scr vs ns sf) (D0.fa 20) (i_r_en_ending (D0.cd 20)) p_r_en_ending b_r_en_ending :=
  fnat_of "r_en_ending" (fargs (subS 6 13)) (.str "snowballstemmer.dutch_porter_stemmer" 471) (by kernel_rfl) bind_r_en_ending (by kernel_rfl) (by kernel_rfl)
theorem meth_r_en_ending : MethAt (mkG w x1 x2 x3 H mg mb scr vs ns sf) "r_en_ending" (D0.fa 20) := ⟨by kernel_rfl, by kernel_rfl, by kernel_rfl, by kernel_rfl, by decide +kernel⟩
theorem bind_r_standard_suffix (vs : List Value) (h : vs.length = p_r_standard_suffix.length) : bindArgs (fnD "r_standard_suffix" (i_r_standard_suffix (D0.cd 21)) (fargs (subS 6 14)) b_r_standard_suffix (.str "snowballstemmer.dutch_porter_stemmer" 471)) ⟨vs, []⟩ = pure (p_r_standard_suffix.zip vs) := by
  rcases vs with _ | ⟨a0, _ | ⟨b, vs⟩⟩ <;> first | (exfalso; simp [p_r_standard_suffix] at h; done) | kernel_rfl
theorem fnat_r_standard_suffix : FnAt (mkG w x1 x2 x3 H mg mb scr vs ns sf) (D0.fa 21) (i_r_standard_suffix (D0.cd 21)) p_r_standard_suffix b_r_standard_suffix :=
  fnat_of "r_standard_suffix" (fargs (subS 6 14)) (.str "snowballstemmer.dutch_porter_stemmer" 471) (by kernel_rfl) bind_r_standard_suffix (by kernel_rfl) (by kernel_rfl)
theorem meth_r_standard_suffix : MethAt (mkG w x1 x2 x3 H mg mb scr vs ns sf) "r_standard_suffix" (D0.fa 21) := ⟨by kernel_rfl, by kernel_rfl, by kernel_rfl, by kernel_rfl, by decide +kernel⟩
theorem bind_stem (vs : List Value) (h : vs.length = p_stem.length) : bindArgs (fnD "_stem" (i_stem (D0.cd 22)) (fargs (subS 6 15)) b_stem (.str "snowballstemmer.dutch_porter_stemmer" 471)) ⟨vs, []⟩ = pure (p_stem.zip vs) := by
  rcases vs with _ | ⟨a0, _ | ⟨b, vs⟩⟩ <;> first | (exfalso; simp [p_stem] at h; done) | kernel_rfl
theorem fnat_stem : FnAt (mkG w x1 x2 x3 H mg mb scr vs ns sf) (D0.fa 22) (i_stem (D0.cd 22)) p_stem b_stem :=
  fnat_of "_stem" (fargs (subS 6 15)) (.str "snowballstemmer.dutch_porter_stemmer" 471) (by kernel_rfl) bind_stem (by kernel_rfl) (by kernel_rfl)
theorem meth_stem : MethAt (mkG w x1 x2 x3 H mg mb scr vs ns sf) "_stem" (D0.fa 22) := ⟨by kernel_rfl, by kernel_rfl, by kernel_rfl, by kernel_rfl, by decide +kernel⟩
theorem bind_stemWord (vs : List Value) (h : vs.length = p_stemWord.length) : bindArgs (fnD "stemWord" (i_stemWord (D0.cd 23)) (fargs (subS 2 22)) b_stemWord (.str "snowballstemmer.basestemmer" 194)) ⟨vs, []⟩ = pure (p_stemWord.zip vs) := by
  rcases vs with _ | ⟨a0, _ | ⟨a1, _ | ⟨b, vs⟩⟩⟩ <;> first | (exfalso; simp [p_stemWord] at h; done) | kernel_rfl
theorem fnat_stemWord : FnAt (mkG w x1 x2 x3 H mg mb scr vs ns sf) (D0.fa 23) (i_stemWord (D0.cd 23)) p_stemWord b_stemWord :=
  fnat_of "stemWord" (fargs (subS 2 22)) (.str "snowballstemmer.basestemmer" 194) (by kernel_rfl) bind_stemWord (by kernel_rfl) (by kernel_rfl)
theorem meth_stemWord : MethAt (mkG w x1 x2 x3 H mg mb scr vs ns sf) "stemWord" (D0.fa 23) := ⟨by kernel_rfl, by kernel_rfl, by kernel_rfl, by kernel_rfl, by decide +kernel⟩
theorem bind_law_vowels (vs : List Value) (h : vs.length = p_law_vowels.length) : bindArgs (fnD "_law_vowels" (i_law_vowels (D0.cd 24)) (fargs (topS 14)) b_law_vowels (.str "law_ar0042_01" 1174)) ⟨vs, []⟩ = pure (p_law_vowels.zip vs) := by
  rcases vs with _ | ⟨b, vs⟩ <;> first | (exfalso; simp [p_law_vowels] at h; done) | kernel_rfl
theorem fnat_law_vowels : FnAt (mkG w x1 x2 x3 H mg mb scr vs ns sf) (D0.fa 24) (i_law_vowels (D0.cd 24)) p_law_vowels b_law_vowels :=
  fnat_of "_law_vowels" (fargs (topS 14)) (.str "law_ar0042_01" 1174) (by kernel_rfl) bind_law_vowels (by kernel_rfl) (by kernel_rfl)
theorem bind_law_two (vs : List Value) (h : vs.length = p_law_two.length) : bindArgs (fnD "_law_two" (i_law_two (D0.cd 25)) (fargs (topS 15)) b_law_two (.str "law_ar0042_01" 1174)) ⟨vs, []⟩ = pure (p_law_two.zip vs) := by
  rcases vs with _ | ⟨b, vs⟩ <;> first | (exfalso; simp [p_law_two] at h; done) | kernel_rfl
theorem fnat_law_two : FnAt (mkG w x1 x2 x3 H mg mb scr vs ns sf) (D0.fa 25) (i_law_two (D0.cd 25)) p_law_two b_law_two :=
  fnat_of "_law_two" (fargs (topS 15)) (.str "law_ar0042_01" 1174) (by kernel_rfl) bind_law_two (by kernel_rfl) (by kernel_rfl)
theorem bind_law_closed (vs : List Value) (h : vs.length = p_law_closed.length) : bindArgs (fnD "_law_closed" (i_law_closed (D0.cd 26)) (fargs (topS 16)) b_law_closed (.str "law_ar0042_01" 1174)) ⟨vs, []⟩ = pure (p_law_closed.zip vs) := by
  rcases vs with _ | ⟨b, vs⟩ <;> first | (exfalso; simp [p_law_closed] at h; done) | kernel_rfl
theorem fnat_law_closed : FnAt (mkG w x1 x2 x3 H mg mb scr vs ns sf) (D0.fa 26) (i_law_closed (D0.cd 26)) p_law_closed b_law_closed :=
  fnat_of "_law_closed" (fargs (topS 16)) (.str "law_ar0042_01" 1174) (by kernel_rfl) bind_law_closed (by kernel_rfl) (by kernel_rfl)
theorem bind_law_at (vs : List Value) (h : vs.length = p_law_at.length) : bindArgs (fnD "_law_at" (i_law_at (D0.cd 27)) (fargs (topS 18)) b_law_at (.str "law_ar0042_01" 1174)) ⟨vs, []⟩ = pure (p_law_at.zip vs) := by
  rcases vs with _ | ⟨a0, _ | ⟨a1, _ | ⟨b, vs⟩⟩⟩ <;> first | (exfalso; simp [p_law_at] at h; done) | kernel_rfl
theorem fnat_law_at : FnAt (mkG w x1 x2 x3 H mg mb scr vs ns sf) (D0.fa 27) (i_law_at (D0.cd 27)) p_law_at b_law_at :=
  fnat_of "_law_at" (fargs (topS 18)) (.str "law_ar0042_01" 1174) (by kernel_rfl) bind_law_at (by kernel_rfl) (by kernel_rfl)
theorem bind_law_some (vs : List Value) (h : vs.length = p_law_some.length) : bindArgs (fnD "_law_some" (i_law_some (D0.cd 28)) (fargs (topS 19)) b_law_some (.str "law_ar0042_01" 1174)) ⟨vs, []⟩ = pure (p_law_some.zip vs) := by
  rcases vs with _ | ⟨a0, _ | ⟨b, vs⟩⟩ <;> first | (exfalso; simp [p_law_some] at h; done) | kernel_rfl
theorem fnat_law_some : FnAt (mkG w x1 x2 x3 H mg mb scr vs ns sf) (D0.fa 28) (i_law_some (D0.cd 28)) p_law_some b_law_some :=
  fnat_of "_law_some" (fargs (topS 19)) (.str "law_ar0042_01" 1174) (by kernel_rfl) bind_law_some (by kernel_rfl) (by kernel_rfl)
theorem bind_law_last (vs : List Value) (h : vs.length = p_law_last.length) : bindArgs (fnD "_law_last" (i_law_last (D0.cd 29)) (fargs (topS 20)) b_law_last (.str "law_ar0042_01" 1174)) ⟨vs, []⟩ = pure (p_law_last.zip vs) := by
  rcases vs with _ | ⟨a0, _ | ⟨a1, _ | ⟨b, vs⟩⟩⟩ <;> first | (exfalso; simp [p_law_last] at h; done) | kernel_rfl
theorem fnat_law_last : FnAt (mkG w x1 x2 x3 H mg mb scr vs ns sf) (D0.fa 29) (i_law_last (D0.cd 29)) p_law_last b_law_last :=
  fnat_of "_law_last" (fargs (topS 20)) (.str "law_ar0042_01" 1174) (by kernel_rfl) bind_law_last (by kernel_rfl) (by kernel_rfl)
theorem bind_law_root (vs : List Value) (h : vs.length = p_law_root.length) : bindArgs (fnD "_law_root" (i_law_root (D0.cd 30)) (fargs (topS 21)) b_law_root (.str "law_ar0042_01" 1174)) ⟨vs, []⟩ = pure (p_law_root.zip vs) := by
  rcases vs with _ | ⟨a0, _ | ⟨a1, _ | ⟨a2, _ | ⟨b, vs⟩⟩⟩⟩ <;> first | (exfalso; simp [p_law_root] at h; done) | kernel_rfl
theorem fnat_law_root : FnAt (mkG w x1 x2 x3 H mg mb scr vs ns sf) (D0.fa 30) (i_law_root (D0.cd 30)) p_law_root b_law_root :=
  fnat_of "_law_root" (fargs (topS 21)) (.str "law_ar0042_01" 1174) (by kernel_rfl) bind_law_root (by kernel_rfl) (by kernel_rfl)
theorem bind_law_word (vs : List Value) (h : vs.length = p_law_word.length) : bindArgs (fnD "_law_word" (i_law_word (D0.cd 31)) (fargs (topS 22)) b_law_word (.str "law_ar0042_01" 1174)) ⟨vs, []⟩ = pure (p_law_word.zip vs) := by
  rcases vs with _ | ⟨a0, _ | ⟨a1, _ | ⟨a2, _ | ⟨a3, _ | ⟨a4, _ | ⟨b, vs⟩⟩⟩⟩⟩⟩ <;> first | (exfalso; simp [p_law_word] at h; done) | kernel_rfl
theorem fnat_law_word : FnAt (mkG w x1 x2 x3 H mg mb scr vs ns sf) (D0.fa 31) (i_law_word (D0.cd 31)) p_law_word b_law_word :=
  fnat_of "_law_word" (fargs (topS 22)) (.str "law_ar0042_01" 1174) (by kernel_rfl) bind_law_word (by kernel_rfl) (by kernel_rfl)
theorem sound_v : VR (mkG w x1 x2 x3 H mg mb scr vs ns sf) [] (.str sounds) D0.snd := by
  have e : D0.snd = .str (toStr sounds) 1176 := by kernel_rfl
  rw [e]; exact .str _ _
theorem close_v : VR (mkG w x1 x2 x3 H mg mb scr vs ns sf) [] (.str closes) D0.cls := by
  have e : D0.cls = .str (toStr closes) 1178 := by kernel_rfl
  rw [e]; exact .str _ _
theorem wk_of (ok : ((mkG w x1 x2 x3 H mg mb scr vs ns sf) : Gd).Ok) (hT : ∀ a t, ((mkG w x1 x2 x3 H mg mb scr vs ns sf) : Gd).tobj a = some t → TOk (mkG w x1 x2 x3 H mg mb scr vs ns sf) a t) : WK (mkG w x1 x2 x3 H mg mb scr vs ns sf) D0 where
  ok := ok
  hT := hT
  attr := sattr
  lab := fun i => Fin.cases lab0_at (Fin.cases lab1_at (Fin.cases lab2_at (Fin.cases lab3_at fun k => k.elim0))) i
  sub := sub_of
  b_len := by kernel_rfl
  b_ord := by kernel_rfl
  b_min := by kernel_rfl
  b_range := by kernel_rfl
  dps := by kernel_rfl
  dmeta := by kernel_rfl
  dreads := by kernel_rfl
  tab0 := by kernel_rfl
  tab1 := by kernel_rfl
  tab2 := by kernel_rfl
  tab3 := by kernel_rfl
  tab4 := by kernel_rfl
  tab5 := by kernel_rfl
  tab6 := by kernel_rfl
  tab7 := by kernel_rfl
  tab8 := by kernel_rfl
  e_sounds := by kernel_rfl
  e_closes := by kernel_rfl
  e_fams := by kernel_rfl
  v_sounds := sound_v
  v_closes := close_v
  fn_set_current := fnat_set_current
  m_set_current := meth_set_current
  fn_init := fnat_init
  m_init := meth_init
  fn_get_current := fnat_get_current
  m_get_current := meth_get_current
  fn_in_grouping := fnat_in_grouping
  m_in_grouping := meth_in_grouping
  fn_go_in_grouping := fnat_go_in_grouping
  m_go_in_grouping := meth_go_in_grouping
  fn_go_out_grouping := fnat_go_out_grouping
  m_go_out_grouping := meth_go_out_grouping
  fn_out_grouping_b := fnat_out_grouping_b
  m_out_grouping_b := meth_out_grouping_b
  fn_eq_s_b := fnat_eq_s_b
  m_eq_s_b := meth_eq_s_b
  fn_find_among := fnat_find_among
  m_find_among := meth_find_among
  fn_find_among_b := fnat_find_among_b
  m_find_among_b := meth_find_among_b
  fn_replace_s := fnat_replace_s
  m_replace_s := meth_replace_s
  fn_slice_from := fnat_slice_from
  m_slice_from := meth_slice_from
  fn_slice_del := fnat_slice_del
  m_slice_del := meth_slice_del
  fn_r_prelude := fnat_r_prelude
  m_r_prelude := meth_r_prelude
  fn_r_mark_regions := fnat_r_mark_regions
  m_r_mark_regions := meth_r_mark_regions
  fn_r_postlude := fnat_r_postlude
  m_r_postlude := meth_r_postlude
  fn_r_R1 := fnat_r_R1
  m_r_R1 := meth_r_R1
  fn_r_R2 := fnat_r_R2
  m_r_R2 := meth_r_R2
  fn_r_undouble := fnat_r_undouble
  m_r_undouble := meth_r_undouble
  fn_r_e_ending := fnat_r_e_ending
  m_r_e_ending := meth_r_e_ending
  fn_r_en_ending := fnat_r_en_ending
  m_r_en_ending := meth_r_en_ending
  fn_r_standard_suffix := fnat_r_standard_suffix
  m_r_standard_suffix := meth_r_standard_suffix
  fn_stem := fnat_stem
  m_stem := meth_stem
  fn_stemWord := fnat_stemWord
  m_stemWord := meth_stemWord
  fn_law_vowels := fnat_law_vowels
  g_law_vowels := by kernel_rfl
  k_law_vowels := by kernel_rfl
  fn_law_two := fnat_law_two
  g_law_two := by kernel_rfl
  k_law_two := by kernel_rfl
  fn_law_closed := fnat_law_closed
  g_law_closed := by kernel_rfl
  k_law_closed := by kernel_rfl
  fn_law_at := fnat_law_at
  g_law_at := by kernel_rfl
  k_law_at := by kernel_rfl
  fn_law_some := fnat_law_some
  g_law_some := by kernel_rfl
  k_law_some := by kernel_rfl
  fn_law_last := fnat_law_last
  g_law_last := by kernel_rfl
  k_law_last := by kernel_rfl
  fn_law_root := fnat_law_root
  g_law_root := by kernel_rfl
  k_law_root := by kernel_rfl
  fn_law_word := fnat_law_word
  g_law_word := by kernel_rfl
  k_law_word := by kernel_rfl
end
theorem anyT {α : Type} {x : Option α} {p : α → Bool} (h : x.any p = true) : ∃ y, x = some y ∧ p y = true := by
  cases x with | none => exact Bool.noConfusion h | some y => exact ⟨y, rfl, h⟩
noncomputable def vlI (i : Int) : Value → Bool | .int j _ => decide (i = j) | _ => false
noncomputable def vlS (s : List Nat) : Value → Bool | .str x _ => decide (x = toStr s) | _ => false
noncomputable def vlA (a : Addr) : Value → Bool | .ref b => decide (a = b) | _ => false
noncomputable def vrB (pv : PV) (v : Value) : Bool := (pv.int?.any fun i => vlI i v) || ((pv.str?.any fun s => vlS s v) || pv.top?.any fun a => vlA a v)
theorem vrB_ok {g : Gd} {pv : PV} {v : Value} (h : vrB pv v = true) : VR g [] pv v := by
  unfold vrB at h
  rw [Bool.or_eq_true, Bool.or_eq_true, Option.any_eq_true, Option.any_eq_true, Option.any_eq_true] at h
  rcases h with ⟨i, h, e⟩ | ⟨i, h, e⟩ | ⟨i, h, e⟩
  · obtain rfl := PV.ofI h
    cases v with
    | int j t => obtain rfl := of_decide_eq_true e; exact .int _ _
    | _ => exact Bool.noConfusion e
  · obtain rfl := PV.ofS h
    cases v with
    | str j t => obtain rfl := of_decide_eq_true e; exact .str _ _
    | _ => exact Bool.noConfusion e
  · obtain rfl := PV.ofT h
    cases v with
    | ref j => obtain rfl := of_decide_eq_true e; exact .top _
    | _ => exact Bool.noConfusion e
noncomputable def vrsB : List PV → List Value → Bool
  | [], vs => vs.isEmpty
  | x :: xs, vs => vs.head?.any (vrB x) && vrsB xs vs.tail
theorem vrsB_ok {g : Gd} : ∀ {xs : List PV} {vs : List Value}, vrsB xs vs = true → VRs g [] xs vs
  | [], vs, h => by rw [List.isEmpty_iff.mp h]; exact .nil
  | x :: xs, vs, h => by
    obtain ⟨h1, h2⟩ := Bool.and_eq_true_iff.mp h
    cases vs with
    | nil => exact Bool.noConfusion h1
    | cons v vs => exact .cons (vrB_ok h1) (vrsB_ok h2)
noncomputable def atB (es : List DictEntry) (name : PySem.Str) (pv : PV) : Bool := (getL name es).any fun o => o.any fun v => handedIn v && vrB pv v
theorem atB_ok {g : Gd} {es : List DictEntry} {name : PySem.Str} {pv : PV} (h : atB es name pv = true) : ∃ v, getL name es = some (some v) ∧ handedIn v = true ∧ VR g [] pv v := by
  obtain ⟨o, e, h⟩ := anyT h
  obtain ⟨v, e2, h⟩ := anyT h
  obtain ⟨h1, h2⟩ := Bool.and_eq_true_iff.mp h
  exact ⟨v, by rw [e, e2], h1, vrB_ok h2⟩
noncomputable def dSeq : Data → Option (Array Value × Nat) | .seq a n => some (a, n) | _ => none
noncomputable def dDict : Data → Option (Array DictEntry × Nat) | .dict a n => some (a, n) | _ => none
noncomputable def dPlain : Data → Bool | .plain => true | _ => false
theorem dPlain_eq {d : Data} (h : dPlain d = true) : d = .plain := by
  cases d with
  | plain => rfl
  | _ => exact Bool.noConfusion h
theorem dSeq_eq {d : Data} {p} (h : dSeq d = some p) : d = .seq p.1 p.2 := by
  cases d with
  | seq a n => cases h; rfl
  | _ => exact nos h
theorem dDict_eq {d : Data} {p} (h : dDict d = some p) : d = .dict p.1 p.2 := by
  cases d with
  | dict a n => cases h; rfl
  | _ => exact nos h
noncomputable def tokB (K : Frag) (a : Addr) : TO → Bool
  | .seq tup xs => (K.lookup a).any fun o => decide (o.cls = .type (seqT tup)) && (dSeq o.data).any fun p => vrsB xs p.1.toList && decide (p.1.toList.length ≤ 1000)
  | .amg s sub res => (K.lookup a).any fun o => decide (o.cls = .ref 218) && (dPlain o.data && o.dict.any fun dx => (K.lookup dx).any fun q => decide (q.cls = .type "dict") && (decide (q.dict = none) && (decide (q.slots = #[]) &&
      (dDict q.data).any fun p => atB p.1.toList "s" (.str s) && (atB p.1.toList "substring_i" (.int sub) && atB p.1.toList "result" (.int res)))))
  | .set _ => false
section
variable {w : World} {x1 x2 x3 : SetX} {H : Heap} {mg mb : PySem.Str → Option Value} {scr : Addr} {vs : List Value} {ns : List Int} {sf : Option (Addr × Addr)}
theorem amg_s : plainGet (KH w.params x1 x2 x3) 218 "s" = true ∧ hasDictIn (KH w.params x1 x2 x3) 218 = true ∧ findIn (KH w.params x1 x2 x3) (.ref 218) "s" = some none := ⟨by kernel_rfl, by kernel_rfl, by kernel_rfl⟩
theorem amg_sub : plainGet (KH w.params x1 x2 x3) 218 "substring_i" = true ∧ hasDictIn (KH w.params x1 x2 x3) 218 = true ∧ findIn (KH w.params x1 x2 x3) (.ref 218) "substring_i" = some none := ⟨by kernel_rfl, by kernel_rfl, by kernel_rfl⟩
theorem amg_res : plainGet (KH w.params x1 x2 x3) 218 "result" = true ∧ hasDictIn (KH w.params x1 x2 x3) 218 = true ∧ findIn (KH w.params x1 x2 x3) (.ref 218) "result" = some none := ⟨by kernel_rfl, by kernel_rfl, by kernel_rfl⟩
theorem tok_ok (X : (KH w.params x1 x2 x3).In H) {a : Addr} {t : TO} (h : tokB (KH w.params x1 x2 x3) a t = true) : TOk (mkG w x1 x2 x3 H mg mb scr vs ns sf) a t := by
  cases t with
  | set => cases h
  | seq tup xs =>
    obtain ⟨o, e, h⟩ := anyT h
    obtain ⟨h1, h⟩ := Bool.and_eq_true_iff.mp h
    obtain ⟨p, e2, h⟩ := anyT h
    obtain ⟨h2, h3⟩ := Bool.and_eq_true_iff.mp h
    exact ⟨p.1.toList, p.2, o, X _ _ e, of_decide_eq_true h1, by rw [dSeq_eq e2], vrsB_ok h2, of_decide_eq_true h3⟩
  | amg s sub res =>
    obtain ⟨⟨c, od, da, sl⟩, e, h⟩ := anyT h
    obtain ⟨h1, h⟩ := Bool.and_eq_true_iff.mp h
    obtain ⟨h2, h⟩ := Bool.and_eq_true_iff.mp h
    obtain ⟨dx, e2, h⟩ := anyT h
    obtain ⟨⟨c', od', da', sl'⟩, e3, h⟩ := anyT h
    obtain ⟨h3, h⟩ := Bool.and_eq_true_iff.mp h
    obtain ⟨h4, h⟩ := Bool.and_eq_true_iff.mp h
    obtain ⟨h5, h⟩ := Bool.and_eq_true_iff.mp h
    obtain ⟨p, e4, h⟩ := anyT h
    obtain ⟨h6, h⟩ := Bool.and_eq_true_iff.mp h
    obtain ⟨h7, h8⟩ := Bool.and_eq_true_iff.mp h
    obtain rfl : c = _ := of_decide_eq_true h1
    obtain rfl : da = _ := dPlain_eq h2
    obtain rfl : od = _ := e2
    obtain rfl : c' = _ := of_decide_eq_true h3
    obtain rfl : od' = _ := of_decide_eq_true h4
    obtain rfl : sl' = _ := of_decide_eq_true h5
    obtain rfl : da' = _ := dDict_eq e4
    have ed : (KH w.params x1 x2 x3).lookup dx = some (dictOf p.1.toList p.2) := by rw [e3]
    have mk : ∀ (name : PySem.Str) (pv : PV), (plainGet (KH w.params x1 x2 x3) 218 name = true ∧ hasDictIn (KH w.params x1 x2 x3) 218 = true ∧ findIn (KH w.params x1 x2 x3) (.ref 218) name = some none) → atB p.1.toList name pv = true → TAttr (mkG w x1 x2 x3 H mg mb scr vs ns sf) a name pv := by
      intro name pv hn hat
      obtain ⟨v, q1, q2, q3⟩ := atB_ok (g := mkG w x1 x2 x3 H mg mb scr vs ns sf) hat
      exact ⟨218, dx, p.1.toList, p.2, sl, none, v, e, ed, hn.1, hn.2.1, hn.2.2, rfl, q1, q2, q3⟩
    exact ⟨mk _ _ amg_s h6, mk _ _ amg_sub h7, mk _ _ amg_res h8⟩
theorem tabs_ok : (tabL.all fun p => tokB (KH w.params x1 x2 x3) p.1 p.2) = true := by kernel_rfl
theorem lookup_mem {α : Type} : ∀ {l : List (Nat × α)} {a : Nat} {t : α}, l.lookup a = some t → (a, t) ∈ l
  | [], _, _, h => by simp at h
  | (b, u) :: r, a, t, h => by
    rw [List.lookup_cons] at h
    by_cases e : a = b
    · subst e; simp at h; subst h; exact .head _
    · have : (a == b) = false := by simpa using e
      rw [this] at h; exact .tail _ (lookup_mem h)
theorem set_ok {a : Addr} {x : SetX} {cs : List Nat} {n : Nat} {ss : List (List Nat)} (hl : H.get? a = some (so x)) (hs : (so x).SetObjOf (PySem.strKind pw w) (vow cs) n) (hn : n < 4000) (e : ss = cs.map fun c => [c]) : ∃ n, H.SetOf (PySem.strKind pw w) a (fun k => ss.any fun z => toStr z == k) n := by
  have e2 : vow cs = fun k => ss.any fun z => toStr z == k := by
    funext k
    subst e
    unfold vow
    rw [List.any_map]
    congr 1
    funext c
    show decide (k = ⟨#[c]⟩) = (toStr [c] == k)
    rw [Bool.eq_iff_iff, decide_eq_true_eq, beq_iff_eq]
    exact eq_comm
  rw [e2] at hs
  exact ⟨n, hs.setOf hl (by unfold scanBound; omega)⟩
theorem hT_of (X : (KH w.params x1 x2 x3).In H) (S : Sets w x1 x2 x3) : ∀ a t, (mkG w x1 x2 x3 H mg mb scr vs ns sf).tobj a = some t → TOk (mkG w x1 x2 x3 H mg mb scr vs ns sf) a t := by
  intro a t h
  have hm := lookup_mem (show (setL ++ tabL).lookup a = some t from h)
  rcases List.mem_append.mp hm with hm | hm
  · have l1 : (KH w.params x1 x2 x3).lookup 230 = some (so x1) := by kernel_rfl
    have l2 : (KH w.params x1 x2 x3).lookup 231 = some (so x2) := by kernel_rfl
    have l3 : (KH w.params x1 x2 x3).lookup 232 = some (so x3) := by kernel_rfl
    unfold setL at hm
    simp only [List.mem_cons, List.not_mem_nil, or_false, Prod.mk.injEq] at hm
    rcases hm with ⟨rfl, rfl⟩ | ⟨rfl, rfl⟩ | ⟨rfl, rfl⟩
    · exact set_ok (X _ _ l1) S.s1 (by omega) (by rfl)
    · exact set_ok (X _ _ l2) S.s2 (by omega) (by rfl)
    · exact set_ok (X _ _ l3) S.s3 (by omega) (by rfl)
  · exact tok_ok X (List.all_eq_true.mp tabs_ok _ hm)
end
section
variable {g : Gd} {fi : FI} {d : Nat}
theorem FrX.perm {fs : List Env} {X X' : List (Addr × Obj)} (p : List.Perm X X') (h : FrX fs X) : FrX fs X' := fun env he =>
  let ⟨hk, L, o, es, ep, a, b, c⟩ := h env he; ⟨hk, L, o, es, ep, a, p.subset b, c⟩
theorem Inv.perm {L fs G X X' st h} (I : Inv g fi L fs G X st h) (p : List.Perm X X') : Inv g fi L fs G X' st h := by
  obtain ⟨m, sl, F, N, S, R, nd, fr⟩ := I
  have q : List.Perm (sl ++ (G ++ X)) (sl ++ (G ++ X')) := (p.append_left G).append_left sl
  exact ⟨m, sl, F, fun x hx => N x (q.symm.subset hx), S, R, ((q.map (·.1)).nodup_iff).mp nd, fr.perm p⟩
noncomputable def stemsF (F : List PV → List (Nat × PV) → Option (PV × List (Nat × PV))) : List (List Nat) → List (Nat × PV) → Option (List (List Nat) × List (Nat × PV))
  | [], att => some ([], att)
  | w :: ws, att => (F [.self, .str w] att).bind fun r => r.1.str?.bind fun z => (stemsF F ws r.2).map fun y => (z :: y.1, y.2)
inductive StrVs : List (List Nat) → List Value → Prop
  | nil : StrVs [] []
  | cons {x : List Nat} {xs : List (List Nat)} {t : Tok} {vs : List Value} : StrVs xs vs → StrVs (x :: xs) (.str (toStr x) t :: vs)
theorem StrVs.append {a b : List (List Nat)} {u v : List Value} (h : StrVs a u) (k : StrVs b v) : StrVs (a ++ b) (u ++ v) := by
  induction h with
  | nil => exact k
  | cons _ ih => exact .cons ih
theorem StrVs.len {a : List (List Nat)} {u : List Value} (h : StrVs a u) : u.length = a.length := by
  induction h with
  | nil => rfl
  | cons _ ih => simp [ih]
theorem StrVs.get {a : List (List Nat)} {u : List Value} (h : StrVs a u) : ∀ {i : Nat} {x : List Nat}, a[i]? = some x → ∃ t, u[i]? = some (.str (toStr x) t) := by
  induction h with
  | nil => intro i x e; simp at e
  | cons _ ih =>
    rename_i t _ _
    intro i x e
    cases i with
    | zero => simp at e; subst e; exact ⟨t, rfl⟩
    | succ i => simp at e; simpa using ih e
end
section
open PySem.Spec PySem.SeqAt
noncomputable def strD (x : List Nat) : PyData := .str (toStr x)
theorem readsAll_of_strs {h : Heap} : ∀ {xs : List (List Nat)} {vs : List Value}, StrVs xs vs → ReadsAll h vs (xs.map strD) []
  | _, _, .nil => .nil
  | _, _, .cons (x := x) (t := t) r => by
    have := ReadsAll.cons (Reads.str (h := h) (toStr x) t) (readsAll_of_strs (h := h) r)
    simpa [strD] using this
theorem reads_of_strs {h : Heap} {a : Addr} {vs : List Value} {xs : List (List Nat)} (hl : h.IsList a vs.toArray) (hi : StrVs xs vs) : Reads h (.ref a) (.list (xs.map strD)) [a] := by
  obtain ⟨o, ho, hc, n, hd⟩ := hl
  exact Reads.list ho hc hd (by simpa using readsAll_of_strs hi)
theorem canLayAll0_strs : ∀ xs : List (List Nat), (∀ x ∈ xs, PyData.strOk (toStr x) = true) → PyData.canLayAll0 (xs.map strD) = true
  | [], _ => by simp [PyData.canLayAll0]
  | x :: r, h => by
    have h1 := h x (.head _)
    have h2 := canLayAll0_strs r fun y hy => h y (.tail _ hy)
    simp only [List.map_cons, PyData.canLayAll0, Bool.and_eq_true]
    exact ⟨by simpa [strD, PyData.canLay0] using h1, h2⟩
theorem depthAll_strs : ∀ xs : List (List Nat), PyData.depthAll (xs.map strD) ≤ 1
  | [] => by simp [PyData.depthAll]
  | x :: r => by
    have := depthAll_strs r
    have e : PyData.depth (strD x) = 0 := by simp [strD, PyData.depth]
    simp only [List.map_cons, PyData.depthAll, e]
    omega
theorem shaped_strs (xs : List (List Nat)) (hk : ∀ x ∈ xs, PyData.strOk (toStr x) = true) : shaped (.list (xs.map strD)) = true := by
  have h1 := depthAll_strs xs
  have h2 : PyData.depth (.list (xs.map strD)) ≤ 64 := by simp only [PyData.depth]; omega
  show (PyData.canLay0 (.list (xs.map strD)) && decide (PyData.depth (.list (xs.map strD)) ≤ 64)) = true
  rw [Bool.and_eq_true]
  exact ⟨by simp only [PyData.canLay0]; exact canLayAll0_strs xs hk, decide_eq_true h2⟩
theorem noMix_strs : ∀ xs ys : List (List Nat), noMixAll (xs.map strD) (ys.map strD) = true
  | [], [] => by simp [noMixAll]
  | [], _ :: _ => by simp [noMixAll]
  | _ :: _, [] => by simp [noMixAll]
  | _ :: r, _ :: q => by simp [noMixAll, noMix, strD]; exact noMix_strs r q
theorem same_strs : ∀ xs : List (List Nat), PySem.Spec.sameAll (xs.map strD) (xs.map strD) = true
  | [] => by simp [PySem.Spec.sameAll]
  | x :: r => by
    have e : PySem.Spec.same (strD x) (strD x) = true := by simp [strD, PySem.Spec.same]
    simp only [List.map_cons, PySem.Spec.sameAll, e, same_strs r]
    rfl
theorem eq_strs {prog : Program} {w : World} {A : Around} {E : Value → Shared → Prop} {s : Shared} {a b : Addr} {vs us : List Value} {xs : List (List Nat)} {Q : Value → Shared → Prop} (hl : s.heap.IsList a vs.toArray) (hi : StrVs xs vs) (hl' : s.heap.IsList b us.toArray) (hi' : StrVs xs us) (hu : A.units + 64 < cLine) (hk : ∀ x ∈ xs, PyData.strOk (toStr x) = true)
    (h : Q (.bool true) s) : wpAny (model prog w) A (compareOp .Eq (.ref a) (.ref b)) Q E s :=
  eq_dataH_same (reads_of_strs hl hi) (reads_of_strs hl' hi') (shaped_strs xs hk) (shaped_strs xs hk) hu (by simp only [noMix]; exact noMix_strs xs xs) (by simp only [PySem.Spec.same]; rw [same_strs]; exact h)
end
noncomputable def scopeW : Scope := fscope (subS 2 23)
noncomputable def bodyW : List Stmt := fbody (subS 2 23)
noncomputable def lcE : Expr := match bodyW with
  | [.Return (some e) _] => e
  | _ => default
noncomputable def lcElt : Expr := match lcE with
  | .ListComp e _ _ _ => e
  | _ => default
noncomputable def scopeC : Scope := match lcE with
  | .ListComp _ _ s _ => s
  | _ => default
noncomputable def eW (L fa : Addr) (cd : Value) : Env := envOfC "BaseStemmer.stemWords" scopeW L fa cd
noncomputable def fiW (cd : Value) : FI := ⟨"BaseStemmer.stemWords", scopeW, cd, ["words"]⟩
noncomputable def cC (L fa : Addr) (cd : Value) (C : Addr) : Env := compEnvC scopeC [("self", L + 1)] C (eW L fa cd)
section
variable {g : Gd} {D : WD}
theorem elt_ok (W : WK g D) (n : Nat) {x dx : Addr} (hsf : g.sf = some (x, dx)) {A : Around} {L fa C : Addr} {cd : Value} {fs : List Env} {G X : List (Addr × Obj)} {st : St} (s : Shared) {Q E : Value → Shared → Prop} {wd r : List Nat} {t : Tok} {att' : List (Nat × PV)} {oC oS : Obj} {m : PySem.Str → Option Value} (hS : oS.data = .cell (some (.ref x)))
    (hA : AOK 9 A (eW L fa cd) fs) (I : Inv g (fiW cd) L fs G ((C, oC) :: (L + 1, oS) :: X) st s.heap) (hC : s.heap.Ns C m) (hm : m "word" = some (.str (toStr wd) t))
    (hF : F_stemWord g.tobj D n [.self, .str wd] st.att = some (.str r, att'))
    (k : ∀ G' X' h' tk tk', (∀ p ∈ G, p ∈ G') → UpS ((C, oC) :: (L + 1, oS) :: X) X' → Inv g (fiW cd) L fs G' X' ⟨st.loc, att'⟩ h' → Q (.str (toStr r) tk') { s with heap := h', toks := tk }) :
    wpAny (model g.prog g.w) A (eval lcElt (cC L fa cd C)) Q E s := by
  have hcell : ∃ o, s.heap.get? (L + 1) = some o ∧ o.data = .cell (some (.ref x)) := ⟨_, (I.perm (List.Perm.swap _ _ _)).getX, hS⟩
  refine methodCall_KW (wpAny_Name (wpAny_loadName_cell rfl (by rfl) (by rfl) hcell ?_) (by decide)) (meth_eq rfl (by rfl) (by decide) (by rfl))
  obtain ⟨m', es', n', Fr0, N, AR, R, nd⟩ := I.selfX hsf
  have hM := W.m_stemWord
  refine method_inst Fr0 W.ok.X (PySem.W.InstAt.of_news N (.head _) (.tail _ (.head _))) hM.get hM.find hM.fn (AR.miss hM.own) ?_
  refine callWith_K W.ok.X hM.kp ?_ (by rfl) (by rfl)
  refine wpAny_items_cons (wpAny_Name (wpAny_loadName_local rfl (by rfl) hC hm ?_) (by decide)) (by rfl)
  refine wpAny_items_nil ⟨W.ok.X.keeps I.keep, ?_⟩
  refine (w_stemWord W n).h s (hA.le (by decide)) ⟨by show scopeW.kind ≠ .module; decide, rfl⟩ I (.cons (.self x dx hsf) (.cons (.str wd t) .nil)) hF fun G2 X2 v h2 tk2 hG2 hX2 I2 V2 => ?_
  obtain ⟨t2, rfl⟩ := V2.s
  exact k G2 X2 h2 tk2 _ hG2 hX2 I2
end
section
variable {g : Gd} {D : WD}
theorem Ns.obj {h : Heap} {C : Addr} {m : PySem.Str → Option Value} (hC : h.Ns C m) : ∃ o es ep, h.get? C = some o ∧ o.data = .dict es ep := by
  obtain ⟨o, es, ep, h1, h2, _⟩ := hC; exact ⟨o, es, ep, h1, h2⟩
theorem Inv.ndX {fi : FI} {L fs G X st h} (I : Inv g fi L fs G X st h) : (X.map (·.1)).Nodup := by
  obtain ⟨m, sl, F, N, S, R, nd, fr⟩ := I
  rw [List.map_append, List.map_append] at nd
  exact (List.nodup_append.mp (List.nodup_append.mp nd).2.1).2.1
theorem UpS.cons1 {a : Addr} {o : Obj} {X Y : List (Addr × Obj)} (u : UpS ((a, o) :: X) Y) (hn : ∀ es ep, o.data ≠ .dict es ep) : ∃ Y', Y = (a, o) :: Y' ∧ UpS X Y' := by
  cases u with
  | cons c r =>
    rcases c with rfl | ⟨_, es, ep, e⟩
    · exact ⟨_, rfl, r⟩
    · exact absurd e (hn es ep)
theorem UpS.cons2 {a : Addr} {o : Obj} {X Y : List (Addr × Obj)} (u : UpS ((a, o) :: X) Y) : ∃ o' Y', Y = (a, o') :: Y' ∧ o'.data = o.data ∧ UpS X Y' := by
  cases u with
  | cons c r => exact ⟨_, _, rfl, c.data, r⟩
inductive LLp (g : Gd) (D : WD) (n : Nat) (L C it acc aw : Addr) (oS : Obj) (cd : Value) (fs : List Env) (G X : List (Addr × Obj)) (loc : Nat → Option PV) (ws rs : List (List Nat)) (att' : List (Nat × PV)) (s : Shared) (k : Nat) (s1 : Shared) : Prop
  | mk (G1 X1 : List (Addr × Obj)) (st1 : List (Nat × PV)) (h1 : Heap) (tk1 i : Nat) (io1 oC1 : Obj) (done : List (List Nat)) (accv : List Value) (an1 : Nat) (rs1 : List (List Nat)) (e : s1 = { s with heap := h1, toks := tk1 }) (hG1 : ∀ p ∈ G, p ∈ G1) (hX1 : UpS X X1)
      (I1 : Inv g (fiW cd) L fs G1 ((C, oC1) :: (L + 1, oS) :: (it, io1) :: (acc, listOf accv.toArray an1) :: X1) ⟨loc, st1⟩ h1) (hC1 : ∃ m, h1.Ns C m) (hit1 : h1.IsListIter it aw i) (hio1 : ∀ es ep, io1.data ≠ .dict es ep) (hn : i + k = ws.length)
      (q : stemsF (F_stemWord g.tobj D n) (ws.drop i) st1 = some (rs1, att')) (hd : StrVs done accv) (hrs : done ++ rs1 = rs) (hdl : done.length = i)
theorem loop_ok (W : WK g D) (n : Nat) {x dx : Addr} (hsf : g.sf = some (x, dx)) {A : Around} {L fa C it acc aw : Addr} {cd : Value} {fs : List Env} {R : Result → Shared → Prop} {items : List Value} {ws : List (List Nat)} {ln : Nat} {iter : Expr} {px pos : Pos} {rs : List (List Nat)} {att' : List (Nat × PV)}
    {G X : List (Addr × Obj)} {st : St} (s : Shared) {oC io oS : Obj} {an : Nat} {accv : List Value} (hS : oS.data = .cell (some (.ref x)))
    (hA : AOK 9 A (eW L fa cd) fs) (fr : FrX fs X) (hl : (aw, seqObj false items ln) ∈ G) (V : VRs g G (ws.map PV.str) items)
    (I : Inv g (fiW cd) L fs G ((C, oC) :: (L + 1, oS) :: (it, io) :: (acc, listOf accv.toArray an) :: X) st s.heap) (hC : ∃ m, s.heap.Ns C m) (hit : s.heap.IsListIter it aw 0) (hio : ∀ es ep, io.data ≠ .dict es ep)
    (hF : stemsF (F_stemWord g.tobj D n) ws st.att = some (rs, att')) (hacc : accv = []) (hb : ws.length ≤ 1000)
    (hR : ∀ G' X' oC' h' tk vs an', (∀ p ∈ G, p ∈ G') → UpS X X' → Inv g (fiW cd) L fs G' ((C, oC') :: (L + 1, oS) :: (acc, listOf vs.toArray an') :: X') ⟨st.loc, att'⟩ h' → (∃ m, h'.Ns C m) → StrVs rs vs → R (.ok .next) { s with heap := h', toks := tk }) :
    codeAny (model g.prog g.w) A (.compLoop (.ListComp lcElt [⟨.Name "word" px, iter, [], 0⟩] scopeC pos) 0 (.ref it) (.ref acc) (cC L fa cd C)) R s := by
  subst hacc
  refine codeAny_compLoop_list (I := LLp g D n L C it acc aw oS cd fs G X st.loc ws rs att' s) ?_ ws.length
    ⟨G, X, st.att, s.heap, s.toks, 0, io, oC, [], [], an, rs, rfl, fun _ h => h, .refl X, I, hC, hit, hio, by simp, hF, .nil, rfl, rfl⟩ (fun v => rfl)
  rintro k s1 ⟨G1, X1, st1, h1, tk1, i, io1, oC1, done, accv, an1, rs1, rfl, hG1, hX1, I1, ⟨m1, hC1⟩, hit1, hio1, hn, q, hd, hrs, hdl⟩
  have fr1 : FrX fs X1 := hX1.fr fr
  have hL : h1.IsList aw items.toArray := ⟨_, I1.getG _ (hG1 _ hl), rfl, ln, rfl⟩
  have hlen : ws.length = items.length := by rw [← V.length]; simp
  have cons_fr : ∀ {p : Addr × Obj} {Y : List (Addr × Obj)}, FrX fs Y → FrX fs (p :: Y) := fun h env he => let ⟨hk, L, o, es, ep, a, b, c⟩ := h env he; ⟨hk, L, o, es, ep, a, .tail _ b, c⟩
  have P1 : List.Perm ((C, oC1) :: (L + 1, oS) :: (it, io1) :: (acc, listOf accv.toArray an1) :: X1) ((it, io1) :: (C, oC1) :: (L + 1, oS) :: (acc, listOf accv.toArray an1) :: X1) :=
    ((List.Perm.swap _ _ _).cons _).trans (List.Perm.swap _ _ _)
  have I1' := I1.perm P1
  have hne : C ≠ it := by
    have nd := I1'.ndX
    simp at nd
    exact fun e => nd.1.1 e.symm
  cases k with
  | zero =>
    have hi : ws.drop i = [] := List.drop_eq_nil_of_le (by omega)
    rw [hi] at q
    cases q
    refine wpAny_pyNext_list_end (s := { s with heap := h1, toks := tk1 }) hA.handled hit1 hL (by rw [List.getElem?_toArray]; exact List.getElem?_eq_none (by omega)) fun h2 he => ?_
    have I2 := I1'.extX he (cons_fr (cons_fr (cons_fr fr1)))
    obtain ⟨o2, es2, ep2, g2, _⟩ := Ns.obj hC1
    refine hR G1 X1 oC1 h2 tk1 accv an1 hG1 hX1 I2 ⟨m1, ?_⟩ (by rw [← hrs, List.append_nil]; exact hd)
    exact hC1.extBut he hne
  | succ k =>
    have hi : i < ws.length := by omega
    rw [List.drop_eq_getElem_cons hi] at q
    refine ob q fun rr qF q => ?_
    refine ob q fun r hr q => ?_
    refine om q fun y qR e => ?_
    obtain ⟨v0, att1⟩ := rr
    obtain rfl := PV.ofS hr
    obtain ⟨rs2, att2⟩ := y
    cases e
    obtain ⟨u, hu, Vu⟩ := V.get i (.str ws[i]) (by simp [List.getElem?_eq_getElem hi])
    obtain ⟨t, rfl⟩ := Vu.s
    refine wpAny_pyNext_list_item (s := { s with heap := h1, toks := tk1 }) hit1 hL (by rw [List.getElem?_toArray]; exact hu) fun h2 hit2 hsb => ?_
    obtain ⟨io2, ho2, hc2, hd2⟩ := id hit2
    have hio2 : ∀ es ep, io2.data ≠ .dict es ep := fun es ep e => by rw [hd2] at e; cases e
    have I2 := I1'.updX hsb ho2 (cons_fr (cons_fr (cons_fr fr1)))
    have hC2 : h2.Ns C m1 := hC1.sameBut hsb hne
    refine PyProof.Rows.assign_Name (wpAny_storeName_local (by rfl) hC2 (fun h3 hn3 hs3 => ?_) (by rfl))
    obtain ⟨oC3, es3, ep3, g3, d3, z3⟩ := id hn3
    have P2 : List.Perm ((it, io2) :: (C, oC1) :: (L + 1, oS) :: (acc, listOf accv.toArray an1) :: X1) ((C, oC1) :: (L + 1, oS) :: (it, io2) :: (acc, listOf accv.toArray an1) :: X1) :=
      (List.Perm.swap _ _ _).trans ((List.Perm.swap _ _ _).cons _)
    have I3 := (I2.perm P2).updX hs3 g3 (cons_fr (cons_fr (cons_fr fr1)))
    refine elt_ok W n hsf (hS := hS) (X := (it, io2) :: (acc, listOf accv.toArray an1) :: X1) (st := ⟨st.loc, st1⟩) { s with heap := h3, toks := tk1 + 1 } hA I3 hn3 (wd := ws[i]) (t := t) (by simp) qF fun G2 X2 h4 tk4 tk' hG2 hX2 I4 => ?_
    obtain ⟨oC4, Y1, rfl, dC4, u1⟩ := UpS.cons2 hX2
    obtain ⟨Y2, rfl, u2⟩ := UpS.cons1 u1 (fun es ep e => by rw [hS] at e; cases e)
    obtain ⟨Y3, rfl, u3⟩ := UpS.cons1 u2 hio2
    obtain ⟨Y4, rfl, u4⟩ := UpS.cons1 u3 (fun es ep e => by cases e)
    have fr4 : FrX fs Y4 := u4.fr fr1
    have P3 : List.Perm ((C, oC4) :: (L + 1, oS) :: (it, io2) :: (acc, listOf accv.toArray an1) :: Y4) ((acc, listOf accv.toArray an1) :: (C, oC4) :: (L + 1, oS) :: (it, io2) :: Y4) :=
      (((List.Perm.swap _ _ _).cons _).cons _).trans (((List.Perm.swap _ _ _).cons _).trans (List.Perm.swap _ _ _))
    have I4' := I4.perm P3
    have hsz : accv.toArray.size ≤ sizeLine := by
      have := hd.len
      rw [List.size_toArray, sizeLine_eq]; omega
    refine append_at (its := accv.toArray) (n := an1) I4'.getX (fun h5 hs5 ho5 => ?_) hsz
    have ea : accv.toArray.push (Value.str (toStr r) tk') = (accv ++ [Value.str (toStr r) tk']).toArray := by simp
    rw [ea] at ho5
    have I5 := I4'.updX hs5 ho5 (cons_fr (cons_fr (cons_fr fr4)))
    have P4 : List.Perm ((acc, listOf (accv ++ [Value.str (toStr r) tk']).toArray (an1 + 1)) :: (C, oC4) :: (L + 1, oS) :: (it, io2) :: Y4) ((C, oC4) :: (L + 1, oS) :: (it, io2) :: (acc, listOf (accv ++ [Value.str (toStr r) tk']).toArray (an1 + 1)) :: Y4) :=
      (List.Perm.swap _ _ _).trans (((List.Perm.swap _ _ _).cons _).trans (((List.Perm.swap _ _ _).cons _).cons _))
    have I6 := I5.perm P4
    have P5 : List.Perm ((C, oC4) :: (L + 1, oS) :: (it, io2) :: (acc, listOf (accv ++ [Value.str (toStr r) tk']).toArray (an1 + 1)) :: Y4) ((it, io2) :: (C, oC4) :: (L + 1, oS) :: (acc, listOf (accv ++ [Value.str (toStr r) tk']).toArray (an1 + 1)) :: Y4) :=
      ((List.Perm.swap _ _ _).cons _).trans (List.Perm.swap _ _ _)
    refine ⟨k, Nat.lt_succ_self _, G2, Y4, att1, h5, tk4, i + 1, io2, oC4, done ++ [r], accv ++ [Value.str (toStr r) tk'], an1 + 1, rs2, rfl, fun p hp => hG2 _ (hG1 _ hp), hX1.trans u4, I6, ⟨_, oC4, es3, ep3, I6.getX, dC4.trans d3, z3⟩, ⟨io2, (I6.perm P5).getX, hc2, hd2⟩, hio2, by omega, qR, hd.append (.cons .nil), by simpa using hrs, by simp [hdl]⟩
end
section
variable {g : Gd} {D : WD}
theorem FrX.cons {fs : List Env} {p : Addr × Obj} {X : List (Addr × Obj)} (h : FrX fs X) : FrX fs (p :: X) := fun env he => let ⟨hk, L, o, es, ep, a, b, c⟩ := h env he; ⟨hk, L, o, es, ep, a, .tail _ b, c⟩
theorem lcE_eq : ∃ px pw pos, lcE = .ListComp lcElt [⟨.Name "word" px, .Name "words" pw, [], 0⟩] scopeC pos := ⟨_, _, _, rfl⟩
theorem comp_ok (W : WK g D) (n : Nat) {x dx : Addr} (hsf : g.sf = some (x, dx)) {A : Around} {L fa : Addr} {cd : Value} {fs : List Env} {Q E : Value → Shared → Prop} {ws rs : List (List Nat)} {att' : List (Nat × PV)}
    {G X : List (Addr × Obj)} {st : St} (s : Shared) {oS : Obj} (hS : oS.data = .cell (some (.ref x)))
    (hA : AOK 9 A (eW L fa cd) fs) (fr : FrX fs X) (hw : st.loc 0 = some (.seq false (ws.map PV.str)))
    (I : Inv g (fiW cd) L fs G ((L + 1, oS) :: X) st s.heap)
    (hF : stemsF (F_stemWord g.tobj D n) ws st.att = some (rs, att')) (hb : ws.length ≤ 1000)
    (k : ∀ G' X' acc h' tk vs an', (∀ p ∈ G, p ∈ G') → UpS X X' → Inv g (fiW cd) L fs G' ((L + 1, oS) :: (acc, listOf vs.toArray an') :: X') ⟨st.loc, att'⟩ h' → StrVs rs vs → Q (.ref acc) { s with heap := h', toks := tk }) :
    wpAny (model g.prog g.w) A (eval lcE (eW L fa cd)) Q E s := by
  obtain ⟨px, pw', pos, e⟩ := lcE_eq
  rw [e, eval_ListComp]
  obtain ⟨m, sl, F, N, S, R, nd, fr0⟩ := id I
  obtain ⟨v, hv, Vv⟩ := R 0 "words" rfl _ hw
  obtain ⟨aw, items, ln, rfl, hl, V⟩ := Vv.q
  have hL : s.heap.IsList aw items.toArray := ⟨_, I.getG _ hl, rfl, ln, rfl⟩
  refine wpAny_comprehension_free (use := none) rfl (fun _ => rfl) (cl := [("self", L + 1)]) (by rfl) (by rfl) (by decide) ?_
  show wpAny _ _ (eval (.Name "words" pw') (eW L fa cd)) _ _ _
  refine wpAny_Name (wpAny_loadName_local (by rfl) (by rfl) F.ns hv ?_) (by decide)
  refine wpAny_pyIter_list hL ?_
  have I1 := I.addX { cls := .type "list_iterator", data := .fields #[.ref aw, .int 0 0] } rfl
  refine wpAny_newList (s := { s with heap := s.heap.push { cls := .type "list_iterator", data := .fields #[.ref aw, .int 0 0] } }) ?_ (by simp)
  have I2 := I1.addX { cls := .type "list", data := .seq ([] : List Value).toArray } rfl
  generalize hH : (s.heap.push { cls := .type "list_iterator", data := .fields #[.ref aw, .int 0 0] }).push { cls := .type "list", data := .seq ([] : List Value).toArray } = H2 at I2 ⊢
  refine wpAny_newFunctionEnv (s := { s with heap := H2 }) (by decide) (by intro y hy; simp at hy) (fun h3 hns hsb => ?_) rfl
  have I3 := I2.addX { cls := .type "dict", data := .dict #[] } rfl
  obtain ⟨oC, es3, ep3, g3, d3⟩ := Ns.obj hns
  have I4 := I3.updX hsb g3 (FrX.cons (FrX.cons (FrX.cons fr)))
  generalize hit : s.heap.objs.size = it at I4 ⊢
  have hacc : (s.heap.push { cls := .type "list_iterator", data := .fields #[.ref aw, .int 0 0] }).objs.size = it + 1 := by rw [Heap.size_push, hit]
  rw [hacc] at I4 ⊢
  generalize hCC : H2.objs.size = C at I4 g3 hns hsb ⊢
  have P : List.Perm ((C, oC) :: (it + 1, { cls := .type "list", data := .seq ([] : List Value).toArray }) :: (it, { cls := .type "list_iterator", data := .fields #[.ref aw, .int 0 0] }) :: (L + 1, oS) :: X)
      ((C, oC) :: (L + 1, oS) :: (it, { cls := .type "list_iterator", data := .fields #[.ref aw, .int 0 0] }) :: (it + 1, listOf ([] : List Value).toArray 0) :: X) :=
    List.Perm.cons _ ((((List.Perm.swap _ _ _).cons _).trans (List.Perm.swap _ _ _)).trans ((List.Perm.swap _ _ _).cons _))
  have I5 := I4.perm P
  have hiter : h3.IsListIter it aw 0 := by
    have P2 : List.Perm ((C, oC) :: (L + 1, oS) :: (it, ({ cls := .type "list_iterator", data := .fields #[.ref aw, .int 0 0] } : Obj)) :: (it + 1, listOf ([] : List Value).toArray 0) :: X)
      ((it, { cls := .type "list_iterator", data := .fields #[.ref aw, .int 0 0] }) :: (C, oC) :: (L + 1, oS) :: (it + 1, listOf ([] : List Value).toArray 0) :: X) := ((List.Perm.swap _ _ _).cons _).trans (List.Perm.swap _ _ _)
    exact ⟨_, (I5.perm P2).getX, rfl, rfl⟩
  have loop : codeAny (model g.prog g.w) A (.compLoop (.ListComp lcElt [⟨.Name "word" px, .Name "words" pw', [], 0⟩] scopeC pos) 0 (.ref it) (.ref (it + 1)) (cC L fa cd C))
      (compPost (model g.prog g.w) A E none Q (.ref (it + 1)) C) { s with heap := h3, toks := s.toks + 0 } := by
    refine loop_ok W n hsf (hS := hS) (accv := []) { s with heap := h3, toks := s.toks + 0 } hA fr hl V I5 ⟨_, hns⟩ hiter (fun es ep e => by cases e) hF rfl hb ?_
    intro G' X' oC' h' tk vs an' hG hX I6 hC6 hv
    obtain ⟨m6, hC6⟩ := hC6
    refine ⟨m6, hC6, fun h7 hs7 => ?_⟩
    exact k G' X' (it + 1) h7 tk vs an' hG hX (I6.extX hs7.extBut (FrX.cons (FrX.cons (hX.fr fr)))) hv
  exact codeAny_compStart_list loop (wpAny_pyIter_listiter hiter loop)
end
section
variable {g : Gd} {D : WD}
theorem Inv.back {fi fi' : FI} {L L' : Addr} {fs fs' : List Env} {G G' X Y : List (Addr × Obj)} {st st' : St} {h h' : Heap} {oL oL' : Obj} (I : Inv g fi L fs G X st h) (hL0 : h.get? L = some oL) (I' : Inv g fi' L' fs' G' ((L, oL') :: Y) st' h') (hd : oL'.data = oL.data) (hG : ∀ p ∈ G, p ∈ G') (fr : FrX fs Y) :
    Inv g fi L fs G' Y ⟨st.loc, st'.att⟩ h' := by
  obtain ⟨m, sl, F, N, S, R, nd, _⟩ := I
  obtain ⟨oL0, es, ep, hL, hLd, hLk, hLf⟩ := id F.ns
  obtain rfl : oL = oL0 := by rw [hL0] at hL; exact Option.some.inj hL
  obtain ⟨m', sl', F', N', S', R', nd', fr'⟩ := I'
  have hp : List.Perm (sl' ++ (G' ++ (L, oL') :: Y)) ((L, oL') :: (sl' ++ (G' ++ Y))) := by
    refine List.Perm.trans (List.Perm.append_left sl' List.perm_middle) List.perm_middle
  have nd2 := ((hp.map (·.1)).nodup_iff).mp nd'
  rw [List.map_cons, List.nodup_cons] at nd2
  have hL' : h'.get? L = some oL' := (N' (L, oL') (hp.symm.subset (.head _))).1
  refine ⟨m, sl', ⟨⟨oL', es, ep, hL', hd.trans hLd, hLk, hLf⟩, F'.keep, F.above⟩, fun p hp' => ?_, S', R.mono hG, nd2.2, fr⟩
  have := N' p (hp.symm.subset (.tail _ hp'))
  exact ⟨this.1, fun e => nd2.1 (List.mem_map.mpr ⟨p, hp', e⟩), this.2.2⟩
structure WW (g : Gd) (fW : Addr) (cdW : Value) : Prop where
  ob : ∃ o params dV kV doc pm an ct, g.K.lookup fW = some o ∧ o.data = .func (fnOf "stemWords" "BaseStemmer.stemWords" params bodyW scopeW dV kV doc pm an cdW ct) ∧
    ∀ a b : Value, bindArgs (fnOf "stemWords" "BaseStemmer.stemWords" params bodyW scopeW dV kV doc pm an cdW ct) ⟨[a, b], []⟩ = pure [(("self" : PySem.Str), a), (("words" : PySem.Str), b)]
  code : codeIn g.K cdW "BaseStemmer.stemWords" = true
  meth : MethAt g "stemWords" fW
theorem bodyW_eq : ∃ pos, bodyW = [.Return (some lcE) pos] := ⟨_, rfl⟩
theorem stemWords_ok (W : WK g D) (n : Nat) {fW : Addr} {cdW : Value} (hW : WW g fW cdW) {x dx : Addr} (hsf : g.sf = some (x, dx)) {fi : FI} {A : Around} {env : Env} {L : Addr} {fs : List Env} {Q E : Value → Shared → Prop} {ws rs : List (List Nat)} {att' : List (Nat × PV)}
    {G X : List (Addr × Obj)} {st : St} {vw : Value} (s : Shared) (hA : AOK 10 A env fs) (hk : env.scope.kind ≠ .module ∧ env.frame = some L) (I : Inv g fi L fs G X st s.heap) (V : VR g G (.seq false (ws.map PV.str)) vw)
    (hF : stemsF (F_stemWord g.tobj D n) ws st.att = some (rs, att')) (hb : ws.length ≤ 1000)
    (k : ∀ G' X' acc h' tk vs an', (∀ p ∈ G, p ∈ G') → UpS X X' → Inv g fi L fs G' ((acc, listOf vs.toArray an') :: X') ⟨st.loc, att'⟩ h' → StrVs rs vs → Q (.ref acc) { s with heap := h', toks := tk }) :
    wpAny (model g.prog g.w) A (call (.ref fW) [.ref x, vw]) Q E s := by
  obtain ⟨o, params, dV, kV, doc, pm, an, ct, h1, h2, h3⟩ := hW.ob
  obtain ⟨m, sl, F, N, S, R, nd, fr⟩ := id I
  obtain ⟨oL, es, ep, hL, hLd, hLk, hLf⟩ := id F.ns
  refine wpAny_call (codeAny_call_function (fd := fnOf "stemWords" "BaseStemmer.stemWords" params bodyW scopeW dV kV doc pm an cdW ct) (by have := hA.depth; omega) ((W.ok.X.keeps F.keep) _ _ h1) h2 rfl rfl rfl (codeRec_of (W.ok.X.keeps F.keep) hW.code) ?_)
  rw [h3]
  refine wpAny_pure (wpAny_newFunctionEnv_cells rfl ?_ fun env' he s' xx => ?_)
  · intro y hy
    simp only [List.mem_cons, List.not_mem_nil, or_false] at hy
    rcases hy with rfl | rfl
    · exact .inr ⟨rfl, rfl⟩
    · exact .inl rfl
  subst he
  have keep1 := xx.toInCall.keep
  have hns := xx.toInCall.ns
  have hcell := xx.cell "self" (s.heap.objs.size + 1) rfl
  obtain ⟨h₁, tk, rfl, _⟩ := xx.done
  obtain ⟨oS, gS, dS⟩ := hcell
  have hS : oS.data = .cell (some (.ref x)) := dS
  have hLs : L < s.heap.objs.size := Heap.lt_size hL
  have I0 : Inv g (fiW cdW) s.heap.objs.size (env :: fs) G ((s.heap.objs.size + 1, oS) :: (L, oL) :: X) ⟨fun j => if j = 0 then some (.seq false (ws.map PV.str)) else none, st.att⟩ h₁ := by
    refine ⟨_, sl, ⟨hns, fun b o e => keep1 b o (F.keep b o e), Nat.le_trans F.above (Nat.le_of_lt hLs)⟩, fun p hp => ?_, S, ?_, ?_, ?_⟩
    · simp only [List.mem_append, List.mem_cons] at hp
      rcases hp with a | b | rfl | rfl | c
      · have := N p (List.mem_append_left _ a); exact ⟨keep1 _ _ this.1, Nat.ne_of_lt (Heap.lt_size this.1), this.2.2⟩
      · have := N p (List.mem_append_right _ (List.mem_append_left _ b)); exact ⟨keep1 _ _ this.1, Nat.ne_of_lt (Heap.lt_size this.1), this.2.2⟩
      · exact ⟨gS, (Nat.ne_of_lt (Nat.lt_succ_self _)).symm, Heap.none_ge (Nat.le_trans (Nat.le_trans F.above (Nat.le_of_lt hLs)) (Nat.le_succ _))⟩
      · exact ⟨keep1 _ _ hL, Nat.ne_of_lt hLs, Heap.none_ge F.above⟩
      · have := N p (List.mem_append_right _ (List.mem_append_right _ c)); exact ⟨keep1 _ _ this.1, Nat.ne_of_lt (Heap.lt_size this.1), this.2.2⟩
    · intro j y hj pv hpv
      match j, hj with
      | 0, hj =>
        obtain rfl : "words" = y := by simpa [fiW] using hj
        obtain rfl : PV.seq false (ws.map PV.str) = pv := by simpa using hpv
        exact ⟨vw, by rfl, V⟩
      | j + 1, hj => simp [fiW] at hj
    · have hp : List.Perm (sl ++ (G ++ (s.heap.objs.size + 1, oS) :: (L, oL) :: X)) ((s.heap.objs.size + 1, oS) :: (L, oL) :: (sl ++ (G ++ X))) := by
        have q1 : List.Perm (G ++ (s.heap.objs.size + 1, oS) :: (L, oL) :: X) ((s.heap.objs.size + 1, oS) :: (L, oL) :: (G ++ X)) := List.perm_middle.trans (List.Perm.cons _ List.perm_middle)
        exact (List.Perm.append_left sl q1).trans (List.perm_middle.trans (List.Perm.cons _ List.perm_middle))
      refine ((hp.map (·.1)).nodup_iff).mpr ?_
      rw [List.map_cons, List.map_cons, List.nodup_cons, List.nodup_cons]
      refine ⟨fun hm => ?_, fun hm => ?_, nd⟩
      · rcases List.mem_cons.mp hm with e | hm
        · have e' : s.heap.objs.size + 1 = L := e
          rw [← e'] at hLs
          exact absurd hLs (Nat.not_lt.mpr (Nat.le_succ _))
        · obtain ⟨p, hp, e⟩ := List.mem_map.mp hm
          have := Heap.lt_size (N p hp).1
          have e' : p.1 = s.heap.objs.size + 1 := e
          rw [e'] at this
          exact absurd this (Nat.not_lt.mpr (Nat.le_succ _))
      · obtain ⟨p, hp, e⟩ := List.mem_map.mp hm
        exact (N p hp).2.1 e
    · intro env' he
      rcases List.mem_cons.mp he with rfl | he
      · exact ⟨hk.1, L, oL, es, ep, hk.2, .tail _ (.head _), hLd⟩
      · obtain ⟨hk, L2, o2, es2, ep2, a, b, c⟩ := fr env' he
        exact ⟨hk, L2, o2, es2, ep2, a, .tail _ (.tail _ b), c⟩
  have frX : FrX (env :: fs) ((L, oL) :: X) := by
    intro env' he
    rcases List.mem_cons.mp he with rfl | he
    · exact ⟨hk.1, L, oL, es, ep, hk.2, .head _, hLd⟩
    · obtain ⟨hk, L2, o2, es2, ep2, a, b, c⟩ := fr env' he
      exact ⟨hk, L2, o2, es2, ep2, a, .tail _ b, c⟩
  have A1 : AOK 9 (A.deeper (eW s.heap.objs.size fW cdW)) (eW s.heap.objs.size fW cdW) (env :: fs) :=
    ⟨hA.handled, by have := hA.depth; show A.depth + 1 + 9 < _; omega, by have := hA.units; show A.units + 3 + 10 * 9 + 100 < _; omega, by show A.frames.map _ = _; rw [hA.frames]; rfl⟩
  refine ⟨(W.ok.T.nolimit.keeps F.keep).keeps keep1, ?_⟩
  show codeAny _ _ (.func bodyW (eW s.heap.objs.size fW cdW)) _ _
  refine codeAny_func ?_
  obtain ⟨pos, hbody⟩ := bodyW_eq
  rw [hbody]
  refine wpAny_execs_cons (wpAny_Return_some (comp_ok W n hsf (hS := hS) { s with heap := h₁, toks := tk } A1 frX (by rfl) I0 hF hb fun G' X' acc h' tk' vs an' hG hX I' hv => ?_))
  obtain ⟨oL', X'', rfl, hdL, u⟩ := UpS.cons2 hX
  have P : List.Perm ((s.heap.objs.size + 1, oS) :: (acc, listOf vs.toArray an') :: (L, oL') :: X'') ((s.heap.objs.size + 1, oS) :: (L, oL') :: (acc, listOf vs.toArray an') :: X'') := (List.Perm.swap _ _ _).cons _
  have I2 := (I'.perm P).dropX (by
    have := (hX.fr frX)
    exact FrX.perm (List.Perm.swap _ _ _) (FrX.cons this))
  exact k G' X'' acc h' tk' vs an' hG u (I.back hL I2 hdL hG (FrX.cons (u.fr fr))) hv
end
section
variable {g : Gd} {D : WD}
end
theorem tc_weight (C : Addr) : (Code.builtin "type.__call__" ⟨[.ref C], []⟩).weight = 1 := by kernel_rfl
theorem tc_units (args : Args) : (Code.builtin "type.__call__" args).cUnits ≤ 9 := by
  first | exact Nat.le_trans (Nat.le_of_eq (show _ = 0 from rfl)) (by decide) | exact Nat.le_trans (Nat.le_of_eq (show _ = 1 from rfl)) (by decide) | exact Nat.le_trans (Nat.le_of_eq (show _ = 2 from rfl)) (by decide)| exact Nat.le_trans (Nat.le_of_eq (show _ = 3 from rfl)) (by decide)
theorem tc_envs (A : Around) (args : Args) : (A.under (.builtin "type.__call__" args)).frames = A.frames := by
  first | rfl | (cases h : A.frames <;> simp [Around.under, h]; done)
theorem under_ok {d : Nat} {A : Around} {env : Env} {fs : List Env} (C : Addr) (hA : AOK (d + 1) A env fs) : AOK d (A.under (.builtin "type.__call__" ⟨[.ref C], []⟩)) env fs :=
  ⟨hA.handled, by have := hA.depth; have := tc_weight C; show A.depth + (Code.builtin "type.__call__" ⟨[.ref C], []⟩).weight + d < _; omega, by have := hA.units; have := tc_units ⟨[.ref C], []⟩; show A.units + (Code.builtin "type.__call__" ⟨[.ref C], []⟩).cUnits + 10 * d + 100 < _; omega, by rw [tc_envs]; exact hA.frames⟩
theorem sb_init {g : Gd} {D : WD} (W : WK g D) (n : Nat) : SB g (i_init (D.cd 1)) 1 b_init (f_init g.tobj D n) :=
  have na := fun k {x} => NameAt.of (c_init (D.cd 1)) k (x := x)
  have hk := fiChk.kind (c_init (D.cd 1))
  have ga := fun k {x} => glChk.at_ (c_init (D.cd 1)) (gc_init (D.cd 1)) k (x := x)
  (s_oneB (s_expr (fun _ _ => rfl) (s_meth W.ok (w_set_current W n) (by decide) W.m_set_current hk rfl (s_nm (na 0 rfl)) (s_consL rfl (s_str (by kernel_rfl)) s_nilL) (fun _ => rfl) (by decide) rfl) (fun _ => rfl)))
noncomputable abbrev withSelf (g : Gd) (x dx : Addr) : Gd := { g with sf := some (x, dx) }
noncomputable def lawS (i : Nat) : Stmt := b_law[i]!
noncomputable def forBody : Stmt → List Stmt
  | .For _ _ b _ _ => b
  | _ => []
noncomputable def lawFor (i : Nat) : Stmt := (forBody (lawS 10))[i]!
noncomputable def f_word (T : Addr → Option TO) (D : WD) (n : Nat) : St → Option (Fl × St) :=
  (asgT [13, 14] T (callE (F_law_word T D n) (consL (lo 1) (consL (lo 2) (consL (lo 8) (consL (lo 9) (consL (callE (F_law_at T D n) (consL (lo 0) (consL (binE .Add (cI 9) (lo 5)) nilL))) nilL)))))))
theorem gc_word (cd : Value) : glChk (i_law cd) ["_law_at", "_law_word"] = true := by kernel_rfl
theorem ss_word {g : Gd} {D : WD} (W : WK g D) (n : Nat) (cd : Value) : SS g (i_law cd) 9 (lawFor 0) (f_word g.tobj D n) :=
  have na := fun k {x} => NameAt.of (c_law cd) k (x := x)
  have hk := fiChk.kind (c_law cd)
  have ga := fun k {x} => glChk.at_ (c_law cd) (gc_word cd) k (x := x)
  (s_asgT [13, 14] W.ok W.hT (.cons (na 13 rfl) (.cons (na 14 rfl) .nil)) (s_call W.ok (w_law_word W n) (by decide) W.g_law_word W.k_law_word (ga 1 rfl).1 (ga 1 rfl).2.1 (ga 1 rfl).2.2 rfl (s_consL rfl (s_nm (na 1 rfl)) (s_consL rfl (s_nm (na 2 rfl)) (s_consL rfl (s_nm (na 8 rfl)) (s_consL rfl (s_nm (na 9 rfl)) (s_consL rfl (s_call W.ok (w_law_at W n) (by decide) W.g_law_at W.k_law_at (ga 0 rfl).1 (ga 0 rfl).2.1 (ga 0 rfl).2.2 rfl (s_consL rfl (s_nm (na 0 rfl)) (s_consL rfl (s_bin s_int (s_nm (na 5 rfl))) s_nilL))) s_nilL)))))) (fun _ => rfl) (fun _ => rfl))
noncomputable def PresE {α : Type} (f : St → Option (α × St)) : Prop := ∀ st v st', f st = some (v, st') → st'.loc = st.loc
theorem pres_cI (i : Int) : PresE (cI i) := fun st v st' h => by cases h; rfl
theorem pres_lo (k : Nat) : PresE (lo k) := fun st v st' h => by
  obtain ⟨x, _, e⟩ := Option.map_eq_some_iff.mp h
  cases e; rfl
theorem pres_nil : PresE nilL := fun st v st' h => by cases h; rfl
theorem pres_cons {f r} (h1 : PresE f) (h2 : PresE r) : PresE (consL f r) := fun st v st' h =>
  um h fun a st1 q1 h => ul h fun l st2 q2 h => by
    cases h
    rw [h2 _ _ _ q2, h1 _ _ _ q1]
theorem pres_bin {op f r} (h1 : PresE f) (h2 : PresE r) : PresE (binE op f r) := fun st v st' h =>
  um h fun a st1 q1 h => um h fun l st2 q2 h => om h fun x _ e => by
    cases e
    rw [h2 _ _ _ q2, h1 _ _ _ q1]
theorem pres_call {F f} (h1 : PresE f) : PresE (callE F f) := fun st v st' h =>
  ul h fun a st1 q1 h => uf h fun r att q h => by
    cases h
    have := h1 _ _ _ q1
    exact this
theorem word_loc (T : Addr → Option TO) (D : WD) (n : Nat) {st st' : St} {fl : Fl} (h : f_word T D n st = some (fl, st')) (j : Nat) (hj : j ≠ 13) (hj' : j ≠ 14) : st'.loc j = st.loc j := by
  have P : PresE (callE (F_law_word T D n) (consL (lo 1) (consL (lo 2) (consL (lo 8) (consL (lo 9) (consL (callE (F_law_at T D n) (consL (lo 0) (consL (binE .Add (cI 9) (lo 5)) nilL))) nilL)))))) :=
    pres_call (pres_cons (pres_lo _) (pres_cons (pres_lo _) (pres_cons (pres_lo _) (pres_cons (pres_lo _) (pres_cons (pres_call (pres_cons (pres_lo _) (pres_cons (pres_bin (pres_cI _) (pres_lo _)) pres_nil))) pres_nil)))))
  have upd2 : ∀ (loc : Nat → Option PV) (xs : List PV), xs.length = 2 → updL loc [13, 14] xs j = loc j := by
    intro loc xs hx
    match xs, hx with
    | [a, b], _ => simp [updL, upd, hj, hj']
  refine uts h (fun xs st1 q h => ?_) fun a st1 q h => ?_
  · refine ifk h fun hl e => ?_
    cases e
    rw [← P _ _ _ q]
    exact upd2 _ _ hl
  · refine uqt h fun xs ht h => ?_
    refine ifk h fun hl e => ?_
    cases e
    rw [← P _ _ _ q]
    exact upd2 _ _ hl
section
variable {g : Gd} {fi : FI} {d : Nat}
theorem app_ok {x y : PySem.Str} {p1 ap p2 pc pos : Pos} {kx ky : Nat} (hx : NameAt fi kx x) (hy : NameAt fi ky y) (hi : ∀ L fa, interactive (fi.env L fa) = false) (hl : (ap.endLine == pc.line) = true)
    (hs : ∀ env, swapsWith (.Call (.Attribute (.Name x p1) "append" ap) [.Name y p2] [] pc) none pos.line env = pure false)
    {A : Around} {L fa : Addr} {fs : List Env} {G X : List (Addr × Obj)} {st : St} (s : Shared) {Q : Flow → Shared → Prop} {E : Value → Shared → Prop} {a : Addr} {vs : List Value} {n : Nat} {wd : List Nat}
    (hA : AOK d A (fi.env L fa) fs) (fr : FrX fs X) (I : Inv g fi L fs G ((a, listOf vs.toArray n) :: X) st s.heap) (h1 : st.loc kx = some (.top a)) (h2 : st.loc ky = some (.str wd)) (hb : vs.length ≤ 1000)
    (k : ∀ h' tk t, Inv g fi L fs G ((a, listOf (vs ++ [Value.str (toStr wd) t]).toArray (n + 1)) :: X) st h' → Q .next { s with heap := h', toks := tk }) :
    wpAny (model g.prog g.w) A (exec (.Expr (.Call (.Attribute (.Name x p1) "append" ap) [.Name y p2] [] pc) pos) (fi.env L fa)) Q E s := by
  obtain ⟨m, sl, F, N, S, R, nd, fr0⟩ := id I
  obtain ⟨v1, hv1, V1⟩ := R kx x hx.at_ _ h1
  obtain ⟨v2, hv2, V2⟩ := R ky y hy.at_ _ h2
  obtain rfl := V1.t
  obtain ⟨t, rfl⟩ := V2.s
  refine wpAny_Expr ?_ (hi _ _) (hs _)
  refine methodCall_KW (ld F hv1 ?_ hx.fn hx.loc hx.nd) (meth_eq rfl (by rfl) (by simp) hl)
  refine Calls.getMethod_list_append I.getX rfl rfl ?_
  refine PyProof.Rows.callWith_method1 ?_ (star_plain rfl _) rfl
  refine wpAny_items_cons (ld F hv2 ?_ hy.fn hy.loc hy.nd) (star_plain rfl _)
  refine wpAny_items_nil ?_
  refine append_at (its := vs.toArray) (n := n) I.getX (fun h5 hs5 ho5 => ?_) (by rw [List.size_toArray, sizeLine_eq]; omega)
  have ea : vs.toArray.push (Value.str (toStr wd) t) = (vs ++ [Value.str (toStr wd) t]).toArray := by simp
  rw [ea] at ho5
  exact k h5 s.toks t (I.updX hs5 ho5 fr)
end
noncomputable def tailL (T : Addr → Option TO) (D : WD) (n : Nat) : Nat → Int → St → Option (List (List Nat) × List (List Nat) × St)
  | 0, _, st => some ([], [], st)
  | k + 1, a, st => (f_word T D n ⟨upd st.loc 5 (.int a), st.att⟩).bind fun r => bif r.1.isN then ((r.2.loc 13).bind PV.str?).bind fun w => ((r.2.loc 14).bind PV.str?).bind fun s => (tailL T D n k (a + 1) r.2).map fun z => (w :: z.1, s :: z.2.1, z.2.2) else none
theorem str_of {x : Option PV} {w : List Nat} (h : x.bind PV.str? = some w) : x = some (.str w) := ob h fun a e h => by rw [e, PV.ofS h]
theorem tailL_s {P : Prop} {T : Addr → Option TO} {D : WD} {n k : Nat} {a : Int} {st st' : St} {W S : List (List Nat)} (h : tailL T D n (k + 1) a st = some (W, S, st'))
    (K : ∀ st1 w s ws ss, f_word T D n ⟨upd st.loc 5 (.int a), st.att⟩ = some (.next, st1) → st1.loc 13 = some (.str w) → st1.loc 14 = some (.str s) → tailL T D n k (a + 1) st1 = some (ws, ss, st') → W = w :: ws → S = s :: ss → P) : P := by
  refine ob h fun r q h => ?_
  obtain ⟨v, st1⟩ := r
  cases v with
  | next =>
    refine ob h fun w hw h => ob h fun s hs h => om h fun z hz e => ?_
    obtain ⟨ws, ss, st2⟩ := z
    cases e
    exact K st1 w s ws ss q (str_of hw) (str_of hs) hz rfl rfl
  | _ => exact nos h
theorem forBody_eq : ∃ p1 ap p2 pc pos q1 aq q2 qc qos, forBody (lawS 10) = [lawFor 0, .Expr (.Call (.Attribute (.Name "words" p1) "append" ap) [.Name "word" p2] [] pc) pos, .Expr (.Call (.Attribute (.Name "stems" q1) "append" aq) [.Name "stem" q2] [] qc) qos] ∧
    (ap.endLine == pc.line) = true ∧ (aq.endLine == qc.line) = true ∧ (∀ env, swapsWith (.Call (.Attribute (.Name "words" p1) "append" ap) [.Name "word" p2] [] pc) none pos.line env = pure false) ∧ (∀ env, swapsWith (.Call (.Attribute (.Name "stems" q1) "append" aq) [.Name "stem" q2] [] qc) none qos.line env = pure false) :=
  ⟨_, _, _, _, _, _, _, _, _, _, rfl, rfl, rfl, fun _ => rfl, fun _ => rfl⟩
section
variable {g : Gd} {D : WD}
inductive TLp (g : Gd) (D : WD) (n : Nat) (it aw as_ : Addr) (cd : Value) (L : Addr) (fs : List Env) (G X : List (Addr × Obj)) (st' : St) (WW SS : List (List Nat)) (s : Shared) (k : Nat) (s1 : Shared) : Prop
  | mk (G1 X1 : List (Addr × Obj)) (st1 : St) (h1 : Heap) (tk1 : Nat) (a1 : Int) (wv sv : List Value) (wn sn : Nat) (wd sd w2 s2 : List (List Nat)) (e : s1 = { s with heap := h1, toks := tk1 }) (hG1 : ∀ p ∈ G, p ∈ G1) (hX1 : UpS X X1)
      (I1 : Inv g (i_law cd) L fs G1 ((it, rangeIt a1 k 1) :: (aw, listOf wv.toArray wn) :: (as_, listOf sv.toArray sn) :: X1) st1 h1) (e11 : st1.loc 11 = some (.top aw)) (e12 : st1.loc 12 = some (.top as_))
      (q : tailL g.tobj D n k a1 st1 = some (w2, s2, st')) (hw : StrVs wd wv) (hs : StrVs sd sv) (hwW : wd ++ w2 = WW) (hsS : sd ++ s2 = SS) (lw : wv.length + k = 3) (ls : sv.length + k = 3)
theorem tail_loop (W : WK g D) (n : Nat) (cd : Value) {A : Around} {L fa it aw as_ : Addr} {fs : List Env} {G X : List (Addr × Obj)} {st st' : St} {WW SS : List (List Nat)} {px : Pos} {R : Result → Shared → Prop} (s : Shared)
    (hA : AOK 9 A ((i_law cd).env L fa) fs) (fr : FrX fs X) (I : Inv g (i_law cd) L fs G ((it, rangeIt 0 3 1) :: (aw, listOf ([] : List Value).toArray 0) :: (as_, listOf ([] : List Value).toArray 0) :: X) st s.heap)
    (h11 : st.loc 11 = some (.top aw)) (h12 : st.loc 12 = some (.top as_)) (hF : tailL g.tobj D n 3 0 st = some (WW, SS, st'))
    (hR : ∀ G' X' h' tk wv sv wn sn, (∀ p ∈ G, p ∈ G') → UpS X X' → Inv g (i_law cd) L fs G' ((aw, listOf wv.toArray wn) :: (as_, listOf sv.toArray sn) :: X') st' h' → StrVs WW wv → StrVs SS sv → st'.loc 11 = some (.top aw) → st'.loc 12 = some (.top as_) → R (.ok .next) { s with heap := h', toks := tk }) :
    codeAny (model g.prog g.w) A (.forLoop (.Name "i" px) (.ref it) (forBody (lawS 10)) [] ((i_law cd).env L fa)) R s := by
  have na := fun k {x} => NameAt.of (c_law cd) k (x := x)
  obtain ⟨p1, ap, p2, pc, pos, q1, aq, q2, qc, qos, hbody, hl1, hl2, hs1, hs2⟩ := forBody_eq
  rw [hbody]
  refine codeAny_forLoop_any (I := TLp g D n it aw as_ cd L fs G X st' WW SS s) ?_ 3
    ⟨G, X, st, s.heap, s.toks, 0, [], [], 0, 0, [], [], WW, SS, rfl, fun _ h => h, .refl X, I, h11, h12, hF, .nil, .nil, rfl, rfl, rfl, rfl⟩
  rintro k s1 ⟨G1, X1, st1, h1, tk1, a1, wv, sv, wn, sn, wd, sd, w2, s2, rfl, hG1, hX1, I1, e11, e12, q, hw, hs, hwW, hsS, lw, ls⟩
  have fr1 : FrX fs X1 := hX1.fr fr
  have hit : IsRangeIter h1 it a1 k 1 := I1.getX
  cases k with
  | zero =>
    cases q
    refine wpAny_pyNext_range_end (s := { s with heap := h1, toks := tk1 }) hA.handled hit (by simp) fun h2 he => ?_
    refine wpAny_execs_nil ?_
    have I2 := I1.extX he (FrX.cons (FrX.cons fr1))
    rw [List.append_nil] at hwW hsS
    exact hR G1 X1 h2 tk1 wv sv wn sn hG1 hX1 I2 (hwW ▸ hw) (hsS ▸ hs) e11 e12
  | succ k =>
    refine tailL_s q fun st3 w0 s0 ws' ss' qf g13 g14 qt ew es => ?_
    subst ew es
    refine wpAny_pyNext_range_item (s := { s with heap := h1, toks := tk1 }) hit (by omega) fun h2 hit2 hsb => ?_
    have I2 := I1.updX hsb hit2 (FrX.cons (FrX.cons fr1))
    have e : ((k + 1 : Nat) : Int) - 1 = k := by omega
    rw [e] at I2
    refine wpAny_pure (PyProof.Rows.assign_Name (store_ok (na 5 rfl) (s := { s with heap := h2, toks := tk1 + 1 }) I2 (.int a1 tk1) fun h3 tk3 I3 => ?_))
    refine wpAny_execs_cons ((ss_word W n cd).h { s with heap := h3, toks := tk3 } hA I3 qf (fun G4 X4 v h4 tk4 hG4 hX4 I4 V4 => ?_) fun i hi => nomatch hi)
    obtain rfl := V4.n
    obtain ⟨Y1, rfl, u1⟩ := UpS.cons1 hX4 (fun es ep e => by cases e)
    obtain ⟨Y2, rfl, u2⟩ := UpS.cons1 u1 (fun es ep e => by cases e)
    obtain ⟨Y3, rfl, u3⟩ := UpS.cons1 u2 (fun es ep e => by cases e)
    have fr4 : FrX fs Y3 := u3.fr fr1
    have f11 : st3.loc 11 = some (.top aw) := by rw [word_loc _ _ _ qf 11 (by decide) (by decide)]; show upd st1.loc 5 (.int a1) 11 = _; simp [upd, e11]
    have f12 : st3.loc 12 = some (.top as_) := by rw [word_loc _ _ _ qf 12 (by decide) (by decide)]; show upd st1.loc 5 (.int a1) 12 = _; simp [upd, e12]
    have P1 : List.Perm ((it, rangeIt (a1 + 1) k 1) :: (aw, listOf wv.toArray wn) :: (as_, listOf sv.toArray sn) :: Y3) ((aw, listOf wv.toArray wn) :: (it, rangeIt (a1 + 1) k 1) :: (as_, listOf sv.toArray sn) :: Y3) := List.Perm.swap _ _ _
    refine wpAny_execs_cons (app_ok (na 11 rfl) (na 13 rfl) (fun _ _ => rfl) hl1 hs1 { s with heap := h4, toks := tk4 } hA (FrX.cons (FrX.cons fr4)) (I4.perm P1) f11 g13 (by omega) fun h5 tk5 t5 I5 => ?_)
    have P2 : List.Perm ((aw, listOf (wv ++ [Value.str (toStr w0) t5]).toArray (wn + 1)) :: (it, rangeIt (a1 + 1) k 1) :: (as_, listOf sv.toArray sn) :: Y3) ((as_, listOf sv.toArray sn) :: (it, rangeIt (a1 + 1) k 1) :: (aw, listOf (wv ++ [Value.str (toStr w0) t5]).toArray (wn + 1)) :: Y3) :=
      ((List.Perm.swap _ _ _).cons _).trans ((List.Perm.swap _ _ _).trans ((List.Perm.swap _ _ _).cons _))
    refine wpAny_execs_cons (app_ok (na 12 rfl) (na 14 rfl) (fun _ _ => rfl) hl2 hs2 { s with heap := h5, toks := tk5 } hA (FrX.cons (FrX.cons fr4)) (I5.perm P2) f12 g14 (by omega) fun h6 tk6 t6 I6 => ?_)
    refine wpAny_execs_nil ?_
    have P3 : List.Perm ((as_, listOf (sv ++ [Value.str (toStr s0) t6]).toArray (sn + 1)) :: (it, rangeIt (a1 + 1) k 1) :: (aw, listOf (wv ++ [Value.str (toStr w0) t5]).toArray (wn + 1)) :: Y3) ((it, rangeIt (a1 + 1) k 1) :: (aw, listOf (wv ++ [Value.str (toStr w0) t5]).toArray (wn + 1)) :: (as_, listOf (sv ++ [Value.str (toStr s0) t6]).toArray (sn + 1)) :: Y3) :=
      (List.Perm.swap _ _ _).trans ((List.Perm.swap _ _ _).cons _)
    exact ⟨k, Nat.lt_succ_self _, G4, Y3, st3, h6, tk6, a1 + 1, _, _, wn + 1, sn + 1, wd ++ [w0], sd ++ [s0], ws', ss', rfl, fun p hp => hG4 _ (hG1 _ hp), hX1.trans u3, I6.perm P3, f11, f12, qt, hw.append (.cons .nil), hs.append (.cons .nil), by simpa using hwW, by simpa using hsS, by simp; omega, by simp; omega⟩
end
theorem law8 : ∃ p q r, lawS 8 = .Assign [.Name "words" p] (.List [] q) r ∧ (∀ env, swapsWith (.List [] q) (some (.Name "words" p)) r.line env = pure false) := ⟨_, _, _, rfl, fun _ => rfl⟩
theorem law9 : ∃ p q r, lawS 9 = .Assign [.Name "stems" p] (.List [] q) r ∧ (∀ env, swapsWith (.List [] q) (some (.Name "stems" p)) r.line env = pure false) := ⟨_, _, _, rfl, fun _ => rfl⟩
theorem law10 : ∃ px pr pn pk rp pos, lawS 10 = .For (.Name "i" px) (.Call (.Name "range" pr) [.Constant (.int 3) pk pn] [] rp) (forBody (lawS 10)) [] pos := ⟨_, _, _, _, _, _, rfl⟩
theorem law11 : ∃ pd pc ap pw pm ps po pos, lawS 11 = .Return (some (.Compare (.Call (.Attribute (.Call (.Name "DutchPorterStemmer" pd) [] [] pc) "stemWords" ap) [.Name "words" pw] [] pm) [.Eq] [.Name "stems" ps] po)) pos ∧ (ap.endLine == pm.line) = true ∧
    ∀ env, attributeBase (.Call (.Name "DutchPorterStemmer" pd) [] [] pc) "stemWords" env (eval (.Call (.Name "DutchPorterStemmer" pd) [] [] pc) env) = eval (.Call (.Name "DutchPorterStemmer" pd) [] [] pc) env := ⟨_, _, _, _, _, _, _, _, rfl, rfl, fun _ => rfl⟩
theorem law_split : b_law = b_law0 ++ [lawS 8, lawS 9, lawS 10, lawS 11] := by kernel_rfl
section
variable {g : Gd} {D : WD} {fi : FI} {d : Nat}
theorem new_ok {x : PySem.Str} {p q r : Pos} {kx : Nat} (hx : NameAt fi kx x) (hs : ∀ env, swapsWith (.List [] q) (some (.Name x p)) r.line env = pure false)
    {A : Around} {L fa : Addr} {fs : List Env} {G X : List (Addr × Obj)} {st : St} (s : Shared) {Q : Flow → Shared → Prop} {E : Value → Shared → Prop} (I : Inv g fi L fs G X st s.heap)
    (k : ∀ a h' tk, Inv g fi L fs G ((a, listOf ([] : List Value).toArray 0) :: X) ⟨upd st.loc kx (.top a), st.att⟩ h' → Q .next { s with heap := h', toks := tk }) :
    wpAny (model g.prog g.w) A (exec (.Assign [.Name x p] (.List [] q) r) (fi.env L fa)) Q E s := by
  refine wpAny_Assign_Name (wpAny_List (wpAny_items_nil ⟨by rw [sizeLine_eq]; simp, ?_⟩)) (hs _)
  have I2 := I.addX { cls := .type "list", data := .seq ([] : List Value).toArray } rfl
  exact store_ok hx (s := { s with heap := s.heap.push { cls := .type "list", data := .seq ([] : List Value).toArray } }) I2 (.top _) fun h2 tk2 I3 => k _ h2 tk2 I3
end
section
variable {g : Gd} {D : WD}
theorem rangeKind (cd : Value) : ((i_law cd).env 0 0).kindOf "range" = some .globalImplicit ∧ ((i_law cd).env 0 0).kindOf "DutchPorterStemmer" = some .globalImplicit := ⟨by kernel_rfl, by kernel_rfl⟩
theorem for_ok (W : WK g D) (n : Nat) (cd : Value) {A : Around} {L fa aw as_ : Addr} {fs : List Env} {G X : List (Addr × Obj)} {st st' : St} {WW SS : List (List Nat)} (s : Shared) {Q : Flow → Shared → Prop} {E : Value → Shared → Prop}
    (hA : AOK 9 A ((i_law cd).env L fa) fs) (fr : FrX fs X) (I : Inv g (i_law cd) L fs G ((as_, listOf ([] : List Value).toArray 0) :: (aw, listOf ([] : List Value).toArray 0) :: X) st s.heap)
    (h11 : st.loc 11 = some (.top aw)) (h12 : st.loc 12 = some (.top as_)) (hF : tailL g.tobj D n 3 0 st = some (WW, SS, st'))
    (hR : ∀ G' X' h' tk wv sv wn sn, (∀ p ∈ G, p ∈ G') → UpS X X' → Inv g (i_law cd) L fs G' ((aw, listOf wv.toArray wn) :: (as_, listOf sv.toArray sn) :: X') st' h' → StrVs WW wv → StrVs SS sv → st'.loc 11 = some (.top aw) → st'.loc 12 = some (.top as_) → Q .next { s with heap := h', toks := tk }) :
    wpAny (model g.prog g.w) A (exec (lawS 10) ((i_law cd).env L fa)) Q E s := by
  obtain ⟨px, pr, pn, pk, rp, pos, e⟩ := law10
  rw [e]
  obtain ⟨m, sl, F, N, S, R, nd, fr0⟩ := id I
  have hk := fiChk.kind (c_law cd)
  refine wpAny_For ?_
  refine PyProof.Rows.Call_Name rfl (name_B F W.ok.X W.ok.T W.b_range PyProof.Rows.Boot.«range» (by decide) ?_ hk (rangeKind cd).1 (by decide))
  refine PyProof.Rows.callWith_type1 ?_ (star_plain rfl _) rfl
  have fin : ∀ {t u v : Tok} (tk2 : Nat) (h2 : Heap), (∃ o, h2 = s.heap.push o ∧ o = ({ cls := .type "range", data := .fields #[.int 0 t, .int 3 u, .int 1 v] } : Obj)) → wpAny (model g.prog g.w) A (pyIter (.ref s.heap.objs.size)) (fun it s₂ =>
      codeAny (model g.prog g.w) A (.forLoop (.Name "i" px) it (forBody (lawS 10)) [] ((i_law cd).env L fa)) (fun r s' => match r with | .ok f => Q f s' | .error e => cameBackBy (model g.prog g.w) A ((i_law cd).env L fa) E e s') s₂) E { s with heap := h2, toks := tk2 } := by
    rintro t u v tk2 h2 ⟨o, rfl, rfl⟩
    refine wpAny_pyIter_range (s := { s with heap := s.heap.push _, toks := tk2 }) (IsRange.new s.heap 0 3 1 t u v) (by decide) ?_
    have I2 := (I.push { cls := .type "range", data := .fields #[.int 0 t, .int 3 u, .int 1 v] }).addX { cls := .type "range_iterator", data := .fields #[rawInt 0, rawInt (Builtin.Range.rangeSize 0 3 1), rawInt 1] } rfl
    have e1 : Builtin.Range.rangeSize 0 3 1 = ((3 : Nat) : Int) := by decide
    rw [e1] at I2 ⊢
    have I3 := I2.perm ((List.Perm.swap _ _ _).cons _)
    refine tail_loop W n cd (s := { s with heap := (s.heap.push _).push _, toks := tk2 }) hA fr I3 h11 h12 hF fun G' X' h' tk wv sv wn sn hG hX I' hw hs e11 e12 => ?_
    exact hR G' X' h' tk wv sv wn sn hG hX I' hw hs e11 e12
  refine wpAny_items_cons (wpAny_Constant_int ?_) (star_plain rfl _)
  refine wpAny_items_nil ?_
  exact call_range_1 (fin _ _ ⟨_, rfl, rfl⟩)
end
theorem Inv.toG {g : Gd} {fi : FI} {L fs G X st h a o} (I : Inv g fi L fs G ((a, o) :: X) st h) (fr : FrX fs X) : Inv g fi L fs ((a, o) :: G) X st h := by
  obtain ⟨m, sl, F, N, S, R, nd, _⟩ := I
  have hp : List.Perm (sl ++ (G ++ (a, o) :: X)) (sl ++ (((a, o) :: G) ++ X)) := List.Perm.append_left sl List.perm_middle
  exact ⟨m, sl, F, fun p hq => N p (hp.symm.subset hq), S, R.mono fun p hq => .tail _ hq, ((hp.map (·.1)).nodup_iff).mp nd, fr⟩
theorem strVs_vrs {g : Gd} {G : List (Addr × Obj)} {xs : List (List Nat)} {vs : List Value} (h : StrVs xs vs) : VRs g G (xs.map PV.str) vs := by
  induction h with
  | nil => exact .nil
  | cons _ ih => exact .cons (.str _ _) ih
noncomputable def topLoc (loc : Nat → Option PV) : Nat → Option PV := fun k => match loc k with
  | some (.top a) => some (.top a)
  | _ => none
theorem topLoc_of {loc : Nat → Option PV} {k : Nat} {a : Addr} (h : loc k = some (.top a)) : topLoc loc k = some (.top a) := by
  unfold topLoc; rw [h]
theorem make_top {g : Gd} {D : WD} (hsf : g.sf = none) (W : ∀ x dx, WK (withSelf g x dx) D) (n : Nat) (hm : makesIn g.K g.C = true) (hi : findIn g.K (.ref g.C) "__init__" = some (some (.ref (D.fa 1)))) (hty : typeIn g.K (.ref (D.fa 1)) = some (.type "function"))
    {fi : FI} {A : Around} {env : Env} {L : Addr} {fs : List Env} {G X : List (Addr × Obj)} {st : St} (s : Shared) {Q E : Value → Shared → Prop} {att : List (Nat × PV)}
    (hA : AOK 4 A env fs) (hk : env.scope.kind ≠ .module ∧ env.frame = some L) (ok : g.Ok) (I : Inv g fi L fs G X st s.heap) (hF : F_init g.tobj D n [.self] [] = some (.none, att))
    (k : ∀ x dx G' X' h' tk, UpS (G ++ X) X' → Inv (withSelf g x dx) fi L fs G' X' ⟨topLoc st.loc, att⟩ h' → Q (.ref x) { s with heap := h', toks := tk }) :
    wpAny (model g.prog g.w) A (call (.ref g.C) []) Q E s := by
  obtain ⟨m, sl, F, N, S, R, nd, fr⟩ := id I
  have e0 : sl = [] := by unfold SelfR at S; rw [hsf] at S; exact S
  subst e0
  rw [List.nil_append] at N nd
  refine wpAny_call (make_K F N (ok.X.keeps F.keep) hm hi hty fun x dx h1 F1 N1 hlt hxd => ?_)
  have I1 : Inv (withSelf g x dx) fi L fs [] (G ++ X) ⟨topLoc st.loc, []⟩ h1 := by
    refine ⟨m, [(x, instObj g.C dx), (dx, emptyDict)], F1, N1, ⟨[], 0, rfl, .nil⟩, (fun k x hk pv hp => ?_), ?_, fun env he => let ⟨hk, L, o, es, ep, a, b, c⟩ := fr env he; ⟨hk, L, o, es, ep, a, List.mem_append_right _ b, c⟩⟩
    · unfold topLoc at hp
      dsimp only at hp
      split at hp
      · rename_i a e
        cases hp
        obtain ⟨v, hv, V⟩ := R k x hk _ e
        obtain rfl := V.t
        exact ⟨_, hv, .top a⟩
      · cases hp
    show (x :: dx :: ((([] : List (Addr × Obj)) ++ (G ++ X)).map (·.1))).Nodup
    rw [List.nil_append, List.nodup_cons, List.nodup_cons]
    refine ⟨fun hm => ?_, fun hm => ?_, nd⟩
    · rcases List.mem_cons.mp hm with e | hm
      · exact absurd e (Nat.ne_of_gt hxd)
      · obtain ⟨p, hp, e⟩ := List.mem_map.mp hm
        have := hlt p hp
        have e' : p.1 = x := e
        rw [e'] at this
        exact absurd (Nat.lt_trans this hxd) (Nat.lt_irrefl _)
    · obtain ⟨p, hp, e⟩ := List.mem_map.mp hm
      have := hlt p hp
      have e' : p.1 = dx := e
      rw [e'] at this
      exact absurd this (Nat.lt_irrefl _)
  have := semC_of (W x dx).ok (W x dx).fn_init (sb_init (W x dx) n).h { s with heap := h1 } (R0 := InitBack x fun r s' => match r with | .ok (.ret v) => Q v s' | .ok _ => False | .error e => E e s') (under_ok g.C (hA.le (by decide))) hk I1 (.cons (.self x dx rfl) .nil) hF fun G' X' v h' tk hG hX I' V' => by
    cases V'
    refine ⟨rfl, ?_⟩
    exact k x dx G' X' h' tk hX I'
  exact this
theorem UpS.app {X Y Z : List (Addr × Obj)} (u : UpS (X ++ Y) Z) : ∃ X' Y', Z = X' ++ Y' ∧ UpS X X' ∧ UpS Y Y' := by
  induction X generalizing Z with
  | nil => exact ⟨[], Z, rfl, .nil, u⟩
  | cons p X ih =>
    cases u with
    | cons c r =>
      obtain ⟨X', Y', rfl, h1, h2⟩ := ih r
      exact ⟨_ :: X', Y', rfl, .cons c h1, h2⟩
theorem FrX.appL {fs : List Env} {Y X : List (Addr × Obj)} (h : FrX fs X) : FrX fs (Y ++ X) := fun env he => let ⟨hk, L, o, es, ep, a, b, c⟩ := h env he; ⟨hk, L, o, es, ep, a, List.mem_append_right _ b, c⟩
structure WN (g : Gd) (D : WD) (fW : Addr) (cdW : Value) : Prop where
  makes : makesIn g.K g.C = true
  init : findIn g.K (.ref g.C) "__init__" = some (some (.ref (D.fa 1)))
  initT : typeIn g.K (.ref (D.fa 1)) = some (.type "function")
  keepC : keepIn g.K (.ref g.C) = true
  ww : ∀ x dx, WW (withSelf g x dx) fW cdW
theorem ret_ok {g : Gd} {D : WD} (hsf : g.sf = none) (W0 : WK g D) (W : ∀ x dx, WK (withSelf g x dx) D) {fW : Addr} {cdW : Value} (WN_ : WN g D fW cdW) (n : Nat) (cd : Value)
    {A : Around} {L fa aw as_ : Addr} {fs : List Env} {G X : List (Addr × Obj)} {st : St} {WW_ SS : List (List Nat)} {wv sv : List Value} {wn sn : Nat} (s : Shared) {Q : Flow → Shared → Prop} {E : Value → Shared → Prop} {att att' : List (Nat × PV)}
    (hA : AOK 10 A ((i_law cd).env L fa) fs) (hu : A.units + 64 < cLine) (fr : FrX fs X) (I : Inv g (i_law cd) L fs G ((aw, listOf wv.toArray wn) :: (as_, listOf sv.toArray sn) :: X) st s.heap) (hw : StrVs WW_ wv) (hs : StrVs SS sv)
    (h11 : st.loc 11 = some (.top aw)) (h12 : st.loc 12 = some (.top as_)) (hI : F_init g.tobj D n [.self] [] = some (.none, att)) (hS : stemsF (F_stemWord g.tobj D n) WW_ att = some (SS, att')) (hl : WW_.length ≤ 1000) (hk : ∀ x ∈ SS, PyData.strOk (toStr x) = true)
    (hQ : ∀ h' tk, (∀ b o, g.H.get? b = some o → h'.get? b = some o) → Q (.ret (.bool true)) { s with heap := h', toks := tk }) :
    wpAny (model g.prog g.w) A (exec (lawS 11) ((i_law cd).env L fa)) Q E s := by
  obtain ⟨pd, pc, ap, pw, pm, ps, po, pos, e, hl1, hb⟩ := law11
  rw [e]
  have hkd := fiChk.kind (c_law cd)
  have na := fun k {x} => NameAt.of (c_law cd) k (x := x)
  refine wpAny_Return_some (wpAny_Compare1 ?_ rfl)
  have fnk' : ((i_law cd).env L fa).scope.kind ≠ .module ∧ ((i_law cd).env L fa).frame = some L := fnk hkd
  obtain ⟨m, sl, F, N, S, R, nd, fr0⟩ := id I
  refine methodCall_KW ?_ (meth_eq (hb _) rfl (by simp) hl1)
  refine PyProof.Rows.Call_Name rfl (name_K F W0.ok.X W0.ok.T W0.dps ?_ hkd (rangeKind cd).2 (by decide))
  refine callWith_K0 (W0.ok.X.keeps F.keep) WN_.keepC ?_
  refine make_top hsf W n WN_.makes WN_.init WN_.initT (s := s) (hA.le (by decide)) fnk' W0.ok I hI fun x dx G1 X1 h1 tk1 hX1 I1 => ?_
  obtain ⟨G2, Y1, rfl, u1, u2⟩ := UpS.app hX1
  obtain ⟨Y2, rfl, u3⟩ := UpS.cons1 u2 (fun es ep e => by cases e)
  obtain ⟨Y3, rfl, u4⟩ := UpS.cons1 u3 (fun es ep e => by cases e)
  have fr4 : FrX fs Y3 := u4.fr fr
  have P1 : List.Perm (G2 ++ (aw, listOf wv.toArray wn) :: (as_, listOf sv.toArray sn) :: Y3) ((aw, listOf wv.toArray wn) :: (as_, listOf sv.toArray sn) :: (G2 ++ Y3)) :=
    List.perm_middle.trans (List.Perm.cons _ List.perm_middle)
  have I2 := (I1.perm P1).toG (FrX.cons (FrX.appL fr4))
  have hsf1 : (withSelf g x dx).sf = some (x, dx) := rfl
  obtain ⟨m', es', n', Fr0, N', AR, R', nd'⟩ := I2.selfX hsf1
  have hM := (WN_.ww x dx).meth
  refine method_inst (s := { s with heap := h1, toks := tk1 }) Fr0 (W x dx).ok.X (PySem.W.InstAt.of_news N' (.head _) (.tail _ (.head _))) hM.get hM.find hM.fn (AR.miss hM.own) ?_
  refine callWith_K (W x dx).ok.X hM.kp ?_ (by rfl) (by rfl)
  have t11 : (⟨topLoc st.loc, att⟩ : St).loc 11 = some (.top aw) := topLoc_of h11
  have t12 : (⟨topLoc st.loc, att⟩ : St).loc 12 = some (.top as_) := topLoc_of h12
  obtain ⟨v1, hv1, V1⟩ := R' 11 "words" (na 11 rfl).at_ _ t11
  obtain rfl := V1.t
  refine wpAny_items_cons (ld (s := { s with heap := h1, toks := tk1 }) Fr0 hv1 ?_ (na 11 (x := "words") rfl).fn (na 11 rfl).loc (na 11 (x := "words") rfl).nd) (by rfl)
  refine wpAny_items_nil ⟨(W x dx).ok.X.keeps I2.keep, ?_⟩
  have VW : VR (withSelf g x dx) ((aw, listOf wv.toArray wn) :: G1) (.seq false (WW_.map PV.str)) (.ref aw) := .seq false _ aw wv wn (.head _) (strVs_vrs hw)
  refine stemWords_ok (W x dx) n (WN_.ww x dx) hsf1 { s with heap := h1, toks := tk1 } hA fnk' I2 VW hS hl fun G3 X3 acc h3 tk3 vs an hG3 hX3 I3 hv => ?_
  obtain ⟨Y4, rfl, u5⟩ := UpS.cons1 hX3 (fun es ep e => by cases e)
  obtain ⟨m3, F3, R3⟩ : ∃ m, Fr g.H L h3 m ∧ LocR (withSelf g x dx) (i_law cd).names G3 (topLoc st.loc) m := by
    obtain ⟨m3, sl3, F3, N3, S3, R3, nd3, _⟩ := id I3; exact ⟨m3, F3, R3⟩
  obtain ⟨v2, hv2, V2⟩ := R3 12 "stems" (na 12 rfl).at_ _ t12
  obtain rfl := V2.t
  refine ld (s := { s with heap := h3, toks := tk3 }) F3 hv2 ?_ (na 12 (x := "stems") rfl).fn (na 12 rfl).loc (na 12 (x := "stems") rfl).nd
  have g1 := I3.getX
  have g2 := (I3.perm (List.Perm.swap _ _ _)).getX
  refine eq_strs (s := { s with heap := h3, toks := tk3 }) ⟨_, g1, rfl, an, rfl⟩ hv ⟨_, g2, rfl, sn, rfl⟩ hs hu hk ?_
  exact hQ h3 tk3 F3.keep
theorem wp_execs_app {M : Model} {Γ : Ctx} {env : Env} {rest : List Stmt} {Q : Flow → Pos → Shared → Prop} {E : Value → Pos → Shared → Prop} : ∀ (l : List Stmt) (p : Pos) (s : Shared),
    Sem.wp M Γ (execs l env) (fun f p' s' => match f with | .next => Sem.wp M Γ (execs rest env) Q E p' s' | f => Q f p' s') E p s → Sem.wp M Γ (execs (l ++ rest) env) Q E p s
  | [], p, s, h => h
  | x :: l, p, s, h => by
    rw [execs_cons, Sem.wp_bind'] at h
    rw [List.cons_append, execs_cons, Sem.wp_bind']
    refine Sem.wp_mono M Γ _ (fun f p' s' h' => ?_) (fun _ _ _ h' => h') _ _ h
    cases f <;> first | exact wp_execs_app l p' s' h' | exact h'
theorem wpAny_execs_app {M : Model} {A : Around} {env : Env} {l rest : List Stmt} {Q : Flow → Shared → Prop} {E : Value → Shared → Prop} {s : Shared}
    (h : wpAny M A (execs l env) (fun f s' => match f with | .next => wpAny M A (execs rest env) Q E s' | f => Q f s') E s) : wpAny M A (execs (l ++ rest) env) Q E s := fun Γ p hΓ => by
  refine wp_execs_app l p s ?_
  refine Sem.wp_mono M Γ _ (fun f p' s' h' => ?_) (fun _ _ _ h' => h') _ _ (h Γ p hΓ)
  cases f <;> first | exact h' Γ p' hΓ | exact h'
structure PlainOK (T : Addr → Option TO) (D : WD) (n : Nat) (st0 : St) : Prop where
  pl : ∃ st1 WW_ SS att att', f_law T D n st0 = some (.next, st1) ∧ (∀ a b, ∃ st2, tailL T D n 3 0 ⟨upd (upd st1.loc 11 (.top a)) 12 (.top b), st1.att⟩ = some (WW_, SS, st2)) ∧
    F_init T D n [.self] [] = some (.none, att) ∧ stemsF (F_stemWord T D n) WW_ att = some (SS, att') ∧ WW_.length ≤ 1000 ∧ (∀ x ∈ SS, PyData.strOk (toStr x) = true)
theorem tail_top (T : Addr → Option TO) (D : WD) (n : Nat) : ∀ (k : Nat) (a : Int) (st st' : St) (W S : List (List Nat)), tailL T D n k a st = some (W, S, st') → st'.loc 11 = st.loc 11 ∧ st'.loc 12 = st.loc 12
  | 0, a, st, st', W, S, h => by cases h; exact ⟨rfl, rfl⟩
  | k + 1, a, st, st', W, S, h => tailL_s h fun st1 w s ws ss q _ _ q2 _ _ => by
    have := tail_top T D n k _ _ _ _ _ q2
    rw [this.1, this.2, word_loc _ _ _ q 11 (by decide) (by decide), word_loc _ _ _ q 12 (by decide) (by decide)]
    exact ⟨rfl, rfl⟩
theorem law_all {g : Gd} {D : WD} (hsf : g.sf = none) (W0 : WK g D) (W : ∀ x dx, WK (withSelf g x dx) D) {fW : Addr} {cdW : Value} (WN_ : WN g D fW cdW) (n : Nat) (cd : Value) {st0 : St} (P : PlainOK g.tobj D n st0)
    {A : Around} {L fa : Addr} {fs : List Env} {G X : List (Addr × Obj)} (s : Shared) {Q : Flow → Shared → Prop} {E : Value → Shared → Prop}
    (hA : AOK 10 A ((i_law cd).env L fa) fs) (hu : A.units + 64 < cLine) (fr : FrX fs X) (I : Inv g (i_law cd) L fs G X st0 s.heap)
    (hQ : ∀ h' tk, (∀ b o, g.H.get? b = some o → h'.get? b = some o) → Q (.ret (.bool true)) { s with heap := h', toks := tk }) :
    wpAny (model g.prog g.w) A (execs b_law ((i_law cd).env L fa)) Q E s := by
  obtain ⟨st1, WW_, SS, att, att', h1, h2, h3, h4, h5, h6⟩ := P.pl
  rw [law_split]
  refine wpAny_execs_app ((w_law W0 n cd).h s (hA.le (by decide)) I h1 (fun G1 X1 v h1' tk1 hG1 hX1 I1 V1 => ?_) fun i hi => nomatch hi)
  obtain rfl := V1.n
  have na := fun k {x} => NameAt.of (c_law cd) k (x := x)
  obtain ⟨p8, q8, r8, e8, s8⟩ := law8
  obtain ⟨p9, q9, r9, e9, s9⟩ := law9
  have fr1 := hX1.fr fr
  show wpAny _ _ (execs [lawS 8, lawS 9, lawS 10, lawS 11] _) _ _ _
  rw [e8, e9]
  refine wpAny_execs_cons (new_ok (na 11 rfl) s8 { s with heap := h1', toks := tk1 } I1 fun aw h2' tk2 I2 => ?_)
  refine wpAny_execs_cons (new_ok (na 12 rfl) s9 { s with heap := h2', toks := tk2 } I2 fun as_ h3' tk3 I3 => ?_)
  obtain ⟨st2, ht⟩ := h2 aw as_
  refine wpAny_execs_cons (for_ok W0 n cd { s with heap := h3', toks := tk3 } (hA.le (by decide)) fr1 I3 (by simp [upd]) (by simp [upd]) ht fun G4 X4 h4' tk4 wv sv wn sn hG4 hX4 I4 hw hs e11 e12 => ?_)
  refine wpAny_execs_cons (ret_ok hsf W0 W WN_ n cd { s with heap := h4', toks := tk4 } hA hu (hX4.fr fr1) I4 hw hs e11 e12 h3 h4 h5 h6 fun h5' tk5 kp => ?_)
  exact hQ h5' tk5 kp
section
variable {w : World} {x1 x2 x3 : SetX} {H : Heap} {mg mb : PySem.Str → Option Value} {scr : Addr} {vs : List Value} {ns : List Int} {sf : Option (Addr × Addr)}
theorem wn_of : WN (mkG w x1 x2 x3 H mg mb scr vs ns sf) D0 194 (.ref 193) where
  makes := by kernel_rfl
  init := by kernel_rfl
  initT := by kernel_rfl
  keepC := by kernel_rfl
  ww := fun x dx => ⟨⟨((KH w.params x1 x2 x3).lookup 194).getD default, fargs (subS 2 23), .none, .none, .none, (.str "snowballstemmer.basestemmer" 194), none, .none, by kernel_rfl, by kernel_rfl, fun a b => by kernel_rfl⟩, by kernel_rfl, ⟨by kernel_rfl, by kernel_rfl, by kernel_rfl, by kernel_rfl, by decide +kernel⟩⟩
theorem law_end (P : ∀ ns : List Int, ns.length ≤ 63 → PlainOK tobj0 D0 200 ⟨startLoc [.ivs ns], []⟩) (hn : ns.length ≤ 63) (X : (KH w.params x1 x2 x3).In H) (S : Sets w x1 x2 x3) (T : TopRead qv (looseW qv looseN) mg mb H) (hL : H.IsList scr vs.toArray) (hI : IntsAre vs ns)
    (cd : Value) {A : Around} {L fa : Addr} {fs : List Env} {m : PySem.Str → Option Value} (s : Shared) {Q : Flow → Shared → Prop} {E : Value → Shared → Prop}
    (hA : AOK 10 A ((i_law cd).env L fa) fs) (hu : A.units + 64 < cLine) (fr : FrX fs []) (F : Fr H L s.heap m) (hm : m "script" = some (.ref scr))
    (hQ : ∀ h' tk, (∀ b o, H.get? b = some o → h'.get? b = some o) → Q (.ret (.bool true)) { s with heap := h', toks := tk }) :
    wpAny (model pw w) A (execs b_law ((i_law cd).env L fa)) Q E s := by
  have ok : ∀ sf, (mkG w x1 x2 x3 H mg mb scr vs ns sf).Ok := fun sf => ⟨X, T, hL, hI⟩
  refine law_all (g := mkG w x1 x2 x3 H mg mb scr vs ns none) rfl (wk_of (ok none) (hT_of X S)) (fun x dx => wk_of (ok (some (x, dx))) (hT_of X S)) wn_of 200 cd (P ns hn) (G := []) (X := []) s hA hu fr ?_ hQ
  refine ⟨m, [], F, (fun p hp => nomatch hp), rfl, ?_, List.nodup_nil, fr⟩
  intro k x hk pv hp
  match k with
  | 0 =>
    obtain rfl : "script" = x := by simpa [i_law] using hk
    obtain rfl : PV.ivs ns = pv := by simpa [startLoc] using hp
    exact ⟨_, hm, .ivs⟩
  | k + 1 => simp [startLoc] at hp
end
theorem well : PySem.Challenge.rw_ar0042_01.wellSaid = true := by
  unfold OpenLaw.wellSaid
  with_reducible (repeat' refine look_both ?_ ?_)
  · unfold OpenRow.wellSaid OpenRow.partSaid looksOpen
    with_reducible (repeat' refine look_both ?_ ?_)
    all_goals decide +kernel
  all_goals decide +kernel
theorem hd (P : ∀ ns : List Int, ns.length ≤ 63 → PlainOK tobj0 D0 200 ⟨startLoc [.ivs ns], []⟩) : PySem.Challenge.rw_ar0042_01.Holds := by
  w_on
  refine holds_law well fun said => ?_
  refine holds_open (q := qv) (loose := looseN) (Xt := fun s => xlAt qv [] s && recOk [] s) (XP := XL qv []) (Yf := fun s => s.heap) (Ya := Hf) (YP := YP) (N := 20000) leftO (fun w s e => YP_of w s e) YP_keeps (fun s e => xl_of s (Bool.and_eq_true_iff.mp e).1) XL.keeps (by rfl) (by rfl) (by rfl) (fun s e => recFacts_of (Bool.and_eq_true_iff.mp e).2) (by rfl) (by first | assumption | decide +kernel) (by decide +kernel) ⟨rfl, rfl, rfl, rfl, rfl, by decide +kernel⟩ ?hw ?hc
  case hw => w_witness2
  case hc =>
    intro w s₀ s₁ mg mb G Y fa o pm cd doc dV kV ho hd hcd hD hmg hg args vals as hpre hlay hrd hwl hlo
    have X := (Ground.X G).1
    have V := (Ground.X G).2
    refine Ground.open G ?_
    intro T B D TE TW
    try (refine guard_noD D (by decide +kernel) ?_; clear D)
    obtain ⟨_, _, M⟩ := bmod_of_top T
    have TA := at_of_top T
    obtain ⟨_, _, he, B0⟩ := based_of_top T rfl hmg ho hd
    have he' : cd = _ := he
    subst he'
    clear he hmg
    wrow_args hpre hlay hrd hwl hlo
    refine enter_call ?_
    w_top on
    try refine codeAny_mono ?_ (fun _ _ g => GoodW.toG g)
    have K0 := below_caller (Top.heap T)
    w_call any ho hd hcd hD T F
    clear hd TA
    k_drop
    obtain ⟨x1, x2, x3, hS, hK⟩ := Y
    have hT := topRead_of ‹Top _ _ _ _ _ _›
    refine law_end (w := w) (fs := []) P ?hn hK hS hT ‹Heap.IsList _ _ _› ‹IntsAre _ _› (.ref _) _ ?hA ?hu ?fr ‹Fr _ _ _ _› ?hm ?hQ
    case hn => rename_i h1 h2 _ _ _ _; omega
    case hA => exact ⟨rfl, (by show 1 + claimMargin + 1 + 10 < recursionLimit; decide), (by show 4 + 3 + 10 * 10 + 100 < cLine; decide), rfl⟩
    case hu => show 4 + 3 + 64 < cLine; decide
    case fr => exact fun env he => nomatch he
    case hm => rfl
    case hQ =>
      intro h' tk kp
      refine ⟨.inl ⟨_, .bool true, [], rfl, fun _ => by rfl, .bool _, ?_, fun _ => ⟨.nil, fun a ha => nomatch ha⟩⟩, kp, rfl, hg⟩
      kernel_rfl
noncomputable abbrev At (c : List Nat) (p l b s e : Int) (r : List (Nat × PV)) : List (Nat × PV) := (0, .str c) :: (1, .int p) :: (2, .int l) :: (3, .int b) :: (4, .int s) :: (5, .int e) :: r
section
variable {c : List Nat} {p l b s e : Int} {r : List (Nat × PV)} {v : PV}
theorem lk0 : (At c p l b s e r).lookup 0 = some (.str c) := rfl
theorem lk1 : (At c p l b s e r).lookup 1 = some (.int p) := rfl
theorem lk2 : (At c p l b s e r).lookup 2 = some (.int l) := rfl
theorem lk3 : (At c p l b s e r).lookup 3 = some (.int b) := rfl
theorem lk4 : (At c p l b s e r).lookup 4 = some (.int s) := rfl
theorem lk5 : (At c p l b s e r).lookup 5 = some (.int e) := rfl
theorem pt0 {x : List Nat} : putA 0 (.str x) (At c p l b s e r) = At x p l b s e r := rfl
theorem pt1 {x : Int} : putA 1 (.int x) (At c p l b s e r) = At c x l b s e r := rfl
theorem pt2 {x : Int} : putA 2 (.int x) (At c p l b s e r) = At c p x b s e r := rfl
theorem pt3 {x : Int} : putA 3 (.int x) (At c p l b s e r) = At c p l x s e r := rfl
theorem pt4 {x : Int} : putA 4 (.int x) (At c p l b s e r) = At c p l b x e r := rfl
theorem pt5 {x : Int} : putA 5 (.int x) (At c p l b s e r) = At c p l b s x r := rfl
theorem len_At : (At c p l b s e r).length = r.length + 6 := rfl
end
theorem upd_ne {loc : Nat → Option PV} {k j : Nat} {v : PV} (h : j ≠ k) : upd loc k v j = loc j := by simp [upd, h]
theorem upd_eq {loc : Nat → Option PV} {k : Nat} {v : PV} : upd loc k v k = some v := by simp [upd]
theorem uz0 {l : Nat → Option PV} {k : Nat} {v : PV} : upd l (k + 1) v 0 = l 0 := rfl
theorem uz1 {l : Nat → Option PV} {k : Nat} {v : PV} : upd l (k + 2) v 1 = l 1 := rfl
theorem uz2 {l : Nat → Option PV} {k : Nat} {v : PV} : upd l (k + 3) v 2 = l 2 := rfl
theorem uz3 {l : Nat → Option PV} {k : Nat} {v : PV} : upd l (k + 4) v 3 = l 3 := rfl
theorem uz4 {l : Nat → Option PV} {k : Nat} {v : PV} : upd l (k + 5) v 4 = l 4 := rfl
theorem uz5 {l : Nat → Option PV} {k : Nat} {v : PV} : upd l (k + 6) v 5 = l 5 := rfl
theorem uz6 {l : Nat → Option PV} {k : Nat} {v : PV} : upd l (k + 7) v 6 = l 6 := rfl
theorem uz7 {l : Nat → Option PV} {k : Nat} {v : PV} : upd l (k + 8) v 7 = l 7 := rfl
theorem uz8 {l : Nat → Option PV} {k : Nat} {v : PV} : upd l (k + 9) v 8 = l 8 := rfl
theorem uz9 {l : Nat → Option PV} {k : Nat} {v : PV} : upd l (k + 10) v 9 = l 9 := rfl
theorem uz10 {l : Nat → Option PV} {k : Nat} {v : PV} : upd l (k + 11) v 10 = l 10 := rfl
theorem uz11 {l : Nat → Option PV} {k : Nat} {v : PV} : upd l (k + 12) v 11 = l 11 := rfl
theorem uz12 {l : Nat → Option PV} {k : Nat} {v : PV} : upd l (k + 13) v 12 = l 12 := rfl
theorem uz13 {l : Nat → Option PV} {k : Nat} {v : PV} : upd l (k + 14) v 13 = l 13 := rfl
theorem uz14 {l : Nat → Option PV} {k : Nat} {v : PV} : upd l (k + 15) v 14 = l 14 := rfl
theorem uz15 {l : Nat → Option PV} {k : Nat} {v : PV} : upd l (k + 16) v 15 = l 15 := rfl
theorem uz16 {l : Nat → Option PV} {k : Nat} {v : PV} : upd l (k + 17) v 16 = l 16 := rfl
theorem uz17 {l : Nat → Option PV} {k : Nat} {v : PV} : upd l (k + 18) v 17 = l 17 := rfl
theorem uz18 {l : Nat → Option PV} {k : Nat} {v : PV} : upd l (k + 19) v 18 = l 18 := rfl
theorem uy0 {l : Nat → Option PV} {j : Nat} {v : PV} : upd l 0 v (j + 1) = l (j + 1) := rfl
theorem uy1 {l : Nat → Option PV} {j : Nat} {v : PV} : upd l 1 v (j + 2) = l (j + 2) := rfl
theorem uy2 {l : Nat → Option PV} {j : Nat} {v : PV} : upd l 2 v (j + 3) = l (j + 3) := rfl
theorem uy3 {l : Nat → Option PV} {j : Nat} {v : PV} : upd l 3 v (j + 4) = l (j + 4) := rfl
theorem uy4 {l : Nat → Option PV} {j : Nat} {v : PV} : upd l 4 v (j + 5) = l (j + 5) := rfl
theorem uy5 {l : Nat → Option PV} {j : Nat} {v : PV} : upd l 5 v (j + 6) = l (j + 6) := rfl
theorem uy6 {l : Nat → Option PV} {j : Nat} {v : PV} : upd l 6 v (j + 7) = l (j + 7) := rfl
theorem uy7 {l : Nat → Option PV} {j : Nat} {v : PV} : upd l 7 v (j + 8) = l (j + 8) := rfl
theorem uy8 {l : Nat → Option PV} {j : Nat} {v : PV} : upd l 8 v (j + 9) = l (j + 9) := rfl
theorem uy9 {l : Nat → Option PV} {j : Nat} {v : PV} : upd l 9 v (j + 10) = l (j + 10) := rfl
theorem uy10 {l : Nat → Option PV} {j : Nat} {v : PV} : upd l 10 v (j + 11) = l (j + 11) := rfl
theorem uy11 {l : Nat → Option PV} {j : Nat} {v : PV} : upd l 11 v (j + 12) = l (j + 12) := rfl
theorem uy12 {l : Nat → Option PV} {j : Nat} {v : PV} : upd l 12 v (j + 13) = l (j + 13) := rfl
theorem uy13 {l : Nat → Option PV} {j : Nat} {v : PV} : upd l 13 v (j + 14) = l (j + 14) := rfl
theorem uy14 {l : Nat → Option PV} {j : Nat} {v : PV} : upd l 14 v (j + 15) = l (j + 15) := rfl
theorem uy15 {l : Nat → Option PV} {j : Nat} {v : PV} : upd l 15 v (j + 16) = l (j + 16) := rfl
theorem uy16 {l : Nat → Option PV} {j : Nat} {v : PV} : upd l 16 v (j + 17) = l (j + 17) := rfl
theorem uy17 {l : Nat → Option PV} {j : Nat} {v : PV} : upd l 17 v (j + 18) = l (j + 18) := rfl
theorem uy18 {l : Nat → Option PV} {j : Nat} {v : PV} : upd l 18 v (j + 19) = l (j + 19) := rfl
theorem ux0 {l : Nat → Option PV} {v : PV} : upd l 0 v 0 = some v := rfl
theorem ux1 {l : Nat → Option PV} {v : PV} : upd l 1 v 1 = some v := rfl
theorem ux2 {l : Nat → Option PV} {v : PV} : upd l 2 v 2 = some v := rfl
theorem ux3 {l : Nat → Option PV} {v : PV} : upd l 3 v 3 = some v := rfl
theorem ux4 {l : Nat → Option PV} {v : PV} : upd l 4 v 4 = some v := rfl
theorem ux5 {l : Nat → Option PV} {v : PV} : upd l 5 v 5 = some v := rfl
theorem ux6 {l : Nat → Option PV} {v : PV} : upd l 6 v 6 = some v := rfl
theorem ux7 {l : Nat → Option PV} {v : PV} : upd l 7 v 7 = some v := rfl
theorem ux8 {l : Nat → Option PV} {v : PV} : upd l 8 v 8 = some v := rfl
theorem ux9 {l : Nat → Option PV} {v : PV} : upd l 9 v 9 = some v := rfl
theorem ux10 {l : Nat → Option PV} {v : PV} : upd l 10 v 10 = some v := rfl
theorem ux11 {l : Nat → Option PV} {v : PV} : upd l 11 v 11 = some v := rfl
theorem ux12 {l : Nat → Option PV} {v : PV} : upd l 12 v 12 = some v := rfl
theorem ux13 {l : Nat → Option PV} {v : PV} : upd l 13 v 13 = some v := rfl
theorem ux14 {l : Nat → Option PV} {v : PV} : upd l 14 v 14 = some v := rfl
theorem ux15 {l : Nat → Option PV} {v : PV} : upd l 15 v 15 = some v := rfl
theorem ux16 {l : Nat → Option PV} {v : PV} : upd l 16 v 16 = some v := rfl
theorem ux17 {l : Nat → Option PV} {v : PV} : upd l 17 v 17 = some v := rfl
theorem ux18 {l : Nat → Option PV} {v : PV} : upd l 18 v 18 = some v := rfl
theorem self0 {l : Nat → Option PV} {v : PV} (h : l 0 = some v) : ∃ l', l = upd l' 0 v := ⟨l, by
  funext j; unfold upd
  by_cases e : j = 0
  · rw [if_pos e, e, h]
  · rw [if_neg e]⟩
theorem asI {α : Type} {x : Int} {n : Nat} {a b : α} (h : n < 900) : (if scal (.int x) = true ∧ n < 900 then a else b) = a := if_pos ⟨rfl, h⟩
theorem asS {α : Type} {x : List Nat} {n : Nat} {a b : α} (h : n < 900) : (if scal (.str x) = true ∧ n < 900 then a else b) = a := if_pos ⟨rfl, h⟩
theorem asB {α : Type} {x : Bool} {n : Nat} {a b : α} (h : n < 900) : (if scal (.bool x) = true ∧ n < 900 then a else b) = a := if_pos ⟨rfl, h⟩
def smps (s : String) : Array (Lean.TSyntax `Lean.Parser.Tactic.simpLemma) := (s.splitOn " ").toArray.map fun s => ⟨Lean.mkNode `Lean.Parser.Tactic.simpLemma #[Lean.mkNullNode (if s.startsWith "as" then #[Lean.mkNode `Lean.Parser.Tactic.simpPre #[Lean.mkAtom "↓"]] else #[]), Lean.mkNullNode, Lean.mkIdent s.toName]⟩
local macro_rules
  | `(tactic| push_cast [$ts,*]) => let l := smps "seqB ifB cmpE binE lo asgN asgA negE cI cB cS cT skipB biE consL nilL idxE selfGet amgGet augN augA scal retB exprB boolT notT orT andT methE endsE cutE fromE assertB tryB raiseB cmpV Option.map_some Option.map_none uz0 uz1 uz2 uz3 uz4 uz5 uz6 uz7 uz8 uz9 uz10 uz11 uz12 uz13 uz14 uz15 uz16 uz17 uz18 uy0 uy1 uy2 uy3 uy4 uy5 uy6 uy7 uy8 uy9 uy10 uy11 uy12 uy13 uy14 uy15 uy16 uy17 uy18 ux0 ux1 ux2 ux3 ux4 ux5 ux6 ux7 ux8 ux9 ux10 ux11 ux12 ux13 ux14 ux15 ux16 ux17 ux18 Nat.reduceAdd ne_eq not_false_eq_true reduceCtorEq asI asS asB lk0 lk1 lk2 lk3 lk4 lk5 pt0 pt1 pt2 pt3 pt4 pt5 len_At and_self true_and and_true if_true if_false Bool.false_eq_true reduceIte Bool.not_true Bool.not_false"; `(tactic| simp only [$l,*, $ts,*])
  | `(tactic| push_cast) => let l := smps "List.length_cons List.length_nil List.length_append List.length_tail"; `(tactic| first | omega | (simp only [$l,*] at *; first | done | omega))
structure Ent where
  key : List Nat
  sub : Int
  res : Int
noncomputable def cmpL : List Nat → List Nat → Nat → Int × Nat
  | _, [], k => (0, k)
  | [], _ :: _, k => (-1, k)
  | x :: v, y :: r, k => if x = y then cmpL v r (k + 1) else ((x : Int) - y, k)
theorem cmpL_c {x y : Nat} {v r : List Nat} {k : Nat} : cmpL (x :: v) (y :: r) k = if x = y then cmpL v r (k + 1) else ((x : Int) - y, k) := rfl
theorem idxS {T : Addr → Option TO} {c : List Nat} {i : Int} {x : Nat} (h0 : 0 ≤ i) (hx : c[i.toNat]? = some x) (hl : c.length < 1000) : idxF T (.str c) (.int i) = some (.str [x]) := by
  have hj := (List.getElem?_eq_some_iff.mp hx).1
  rw [ixS]; unfold idxSt
  have h1 : 0 ≤ i ∧ i < (c.length : Int) := by omega
  have h2 : i < 1000000 := by omega
  simp only [h1, h2, and_self, if_true, hx, Option.map_some]
theorem bI {op : Operator} {a b : Int} : binF op (.int a) (.int b) = binI op a b := by
  show (binI op a b).or none = _; exact Option.or_none
theorem bS {op : Operator} {a b : List Nat} : binF op (.str a) (.str b) = binS op a b := rfl
theorem ord1 {T : Addr → Option TO} {x : Nat} : biF T .ord [.str [x]] = some (.int x) := rfl
noncomputable def innB (T : Addr → Option TO) : St → Option (Fl × St) :=
  (seqB (ifB (cmpE T .Eq (binE .Sub (lo 4) (lo 11)) (lo 5)) (seqB (asgN 10 (negE (cI 1))) (fun st => some (.brk, st))) skipB) (seqB (asgN 10 (binE .Sub (biE T .ord (consL (idxE T (selfGet 0 (lo 0)) (binE .Sub (binE .Sub (lo 4) (cI 1)) (lo 11))) nilL)) (biE T .ord (consL (idxE T (amgGet (fun s _ _ => .str s) T (lo 12)) (lo 13)) nilL)))) (seqB (ifB (cmpE T .NotEq (lo 10) (cI 0)) (fun st => some (.brk, st)) skipB) (augN .Add 11 (cI 1)))))
theorem innB_end {T : Addr → Option TO} {st : St} {k : Nat} {c : List Nat} {p l s e : Int} {r : List (Nat × PV)} (h0 : st.loc 0 = some .self) (hat : st.att = At c p l 0 s e r)
    (h4 : st.loc 4 = some (.int p)) (h5 : st.loc 5 = some (.int 0)) (h11 : st.loc 11 = some (.int k)) (hk : p = k) :
    innB T st = some (.brk, ⟨upd st.loc 10 (.int (-1)), st.att⟩) := by
  have e1 : (p - (k : Int) == 0) = true := by simp; omega
  push_cast [innB, h4, h11, h5, bAdd, bSub, cfEq, cfNe, cfLt, cfLe, cfGt, cfGe, cfSe, cfSn, e1]
theorem innB_ne {T : Addr → Option TO} {st : St} {k j : Nat} {c : List Nat} {p l s e : Int} {r : List (Nat × PV)} {x y : Nat} {a : Addr} {key : List Nat} {sub res : Int} (h0 : st.loc 0 = some .self) (hat : st.att = At c p l 0 s e r)
    (h4 : st.loc 4 = some (.int p)) (h5 : st.loc 5 = some (.int 0)) (h11 : st.loc 11 = some (.int k)) (h12 : st.loc 12 = some (.top a)) (h13 : st.loc 13 = some (.int j)) (ha : T a = some (.amg key sub res)) (hk : (k : Int) < p) (hp : p ≤ c.length) (hl : c.length < 1000)
    (hx : c[(p - 1 - k).toNat]? = some x) (hy : key[j]? = some y) (hj : key.length < 1000) :
    innB T st = if x = y then some (.next, ⟨upd (upd st.loc 10 (.int ((x : Int) - y))) 11 (.int (k + 1)), st.att⟩) else some (.brk, ⟨upd st.loc 10 (.int ((x : Int) - y)), st.att⟩) := by
  have e1 : (p - (k : Int) == 0) = false := by simp; omega
  have q1 : idxF T (.str c) (.int (p - 1 - k)) = some (.str [x]) := idxS (by omega) hx hl
  have q2 : idxF T (.str key) (.int j) = some (.str [y]) := idxS (by omega) (by simpa using hy) hj
  have e2 : ((x : Int) - y != 0) = !decide (x = y) := by
    rw [Bool.eq_iff_iff]; simp; omega
  by_cases hxy : x = y
  · have d1 : decide (x = y) = true := by simp [hxy]
    rw [if_pos hxy]
    push_cast [innB, h4, h11, h5, h0, h12, h13, bAdd, bSub, cfEq, cfNe, cfLt, cfLe, cfGt, cfGe, cfSe, cfSn, e1, hat, q1, q2, ord1, ha, e2, d1]
  · have d1 : decide (x = y) = false := by simp [hxy]
    rw [if_neg hxy]
    push_cast [innB, h4, h11, h5, h0, h12, h13, bAdd, bSub, cfEq, cfNe, cfLt, cfLe, cfGt, cfGe, cfSe, cfSn, e1, hat, q1, q2, ord1, ha, e2, d1]
theorem rev_get (t u : List Nat) (k : Nat) (h : k < u.length) : (t ++ u).reverse[u.length - 1 - k]? = u[k]? := by
  rw [List.reverse_append, List.getElem?_append_left (by rw [List.length_reverse]; omega), List.getElem?_reverse (by omega)]
  congr 1; omega
theorem cmpL_le : ∀ (v r : List Nat) (k : Nat), k ≤ (cmpL v r k).2 ∧ (cmpL v r k).2 ≤ k + v.length
  | v, [], k => by cases v <;> simp [cmpL]
  | [], y :: r, k => by simp [cmpL]
  | x :: v, y :: r, k => by
    rw [cmpL]
    split
    · have := cmpL_le v r (k + 1); simp only [List.length_cons]; omega
    · simp
theorem inn_loop {T : Addr → Option TO} {t u key : List Nat} {l s e : Int} {r : List (Nat × PV)} {a : Addr} {sub res : Int} (ha : T a = some (.amg key sub res)) (hl : (t ++ u).length < 1000) (hj : key.length < 1000) : ∀ (n k : Nat) (st : St), n + k = key.length → k ≤ u.length →
    st.loc 0 = some .self → st.att = At (t ++ u).reverse u.length l 0 s e r → st.loc 4 = some (.int u.length) → st.loc 5 = some (.int 0) → st.loc 11 = some (.int k) → st.loc 12 = some (.top a) → st.loc 10 = some (.int 0) →
    ∃ st', forB 13 (innB T) (rangeL ((key.length : Int) - 1 - k) (-1) n) st = some (.next, st') ∧ st'.att = st.att ∧ st'.loc 10 = some (.int (cmpL (u.drop k) (key.reverse.drop k) k).1) ∧ st'.loc 11 = some (.int (cmpL (u.drop k) (key.reverse.drop k) k).2) ∧
      ∀ j, j ≠ 10 → j ≠ 11 → j ≠ 13 → st'.loc j = st.loc j
  | 0, k, st, hn, hk, h0, hat, h4, h5, h11, h12, h10 => by
    have e1 : key.reverse.drop k = [] := List.drop_eq_nil_of_le (by rw [List.length_reverse]; omega)
    rw [e1]
    have e2 : cmpL (u.drop k) [] k = (0, k) := by cases u.drop k <;> rfl
    rw [e2]
    exact ⟨st, rfl, rfl, h10, h11, fun _ _ _ _ => rfl⟩
  | n + 1, k, st, hn, hk, h0, hat, h4, h5, h11, h12, h10 => by
    have hkl : k < key.reverse.length := by rw [List.length_reverse]; omega
    have e1 : key.reverse.drop k = key.reverse[k] :: key.reverse.drop (k + 1) := List.drop_eq_getElem_cons hkl
    have hy : key[key.length - 1 - k]? = some key.reverse[k] := by
      rw [← List.getElem?_eq_getElem hkl, List.getElem?_reverse (by rw [List.length_reverse] at hkl; exact hkl)]
    generalize hyy : key.reverse[k] = y at e1 hy
    rw [e1]
    have eix : ((key.length : Int) - 1 - k) = ((key.length - 1 - k : Nat) : Int) := by omega
    have enx : ((key.length : Int) - 1 - k) + (-1) = (key.length : Int) - 1 - ((k + 1 : Nat) : Int) := by omega
    rw [rangeL, forB]
    rw [enx]
    generalize hst : (⟨upd st.loc 13 (.int ((key.length : Int) - 1 - k)), st.att⟩ : St) = st1
    have g : ∀ j, j ≠ 13 → st1.loc j = st.loc j := fun j hj' => by rw [← hst]; exact upd_ne hj'
    have g13 : st1.loc 13 = some (.int ((key.length - 1 - k : Nat) : Int)) := by rw [← hst, ← eix]; simp [upd]
    have gat : st1.att = At (t ++ u).reverse u.length l 0 s e r := by rw [← hst]; exact hat
    have h0' := (g 0 (by decide)).trans h0
    have h4' := (g 4 (by decide)).trans h4
    have h5' := (g 5 (by decide)).trans h5
    have h11' := (g 11 (by decide)).trans h11
    have h12' := (g 12 (by decide)).trans h12
    by_cases hku : k = u.length
    · rw [innB_end h0' gat h4' h5' h11' (by omega)]
      have e3 : u.drop k = [] := List.drop_eq_nil_of_le (by omega)
      rw [e3]
      refine ⟨_, rfl, gat.trans hat.symm, by simp [upd, cmpL], by simp [upd, cmpL, h11'], fun j a1 a2 a3 => ?_⟩
      simp only [upd, a1, if_false]; exact g j a3
    · have hku' : k < u.length := by omega
      have e3 : u.drop k = u[k] :: u.drop (k + 1) := List.drop_eq_getElem_cons hku'
      have hx : (t ++ u).reverse[((u.length : Int) - 1 - k).toNat]? = some u[k] := by
        have : ((u.length : Int) - 1 - k).toNat = u.length - 1 - k := by omega
        rw [this, rev_get t u k hku', List.getElem?_eq_getElem hku']
      generalize hxx : u[k] = x at e3 hx
      rw [e3, innB_ne h0' gat h4' h5' h11' h12' g13 ha (by omega) (by rw [List.length_reverse, List.length_append]; omega) (by rw [List.length_reverse]; exact hl) hx hy hj]
      rw [cmpL]
      by_cases hxy : x = y
      · subst hxy
        simp only [if_true]
        have ih := inn_loop (l := l) (s := s) (e := e) (r := r) ha hl hj n (k + 1) ⟨upd (upd st1.loc 10 (.int ((x : Int) - x))) 11 (.int (k + 1)), st1.att⟩ (by omega) hku'
          (by simp [upd, h0']) gat (by simp [upd, h4']) (by simp [upd, h5']) (by simp [upd]) (by simp [upd, h12']) (by simp [upd])
        obtain ⟨st', r1, r2, r3, r4, r5⟩ := ih
        refine ⟨st', r1, r2.trans (gat.trans hat.symm), r3, r4, fun j a1 a2 a3 => (r5 j a1 a2 a3).trans (by simp only [upd, a1, a2, if_false]; exact g j a3)⟩
      · simp only [hxy, if_false]
        refine ⟨_, rfl, gat.trans hat.symm, by simp [upd], by simp [upd, h11'], fun j a1 a2 a3 => by simp only [upd, a1, if_false]; exact g j a3⟩
noncomputable def frB (T : Addr → Option TO) : St → Option (Fl × St) :=
  (forR 13 (consL (binE .Sub (binE .Sub (biE T .len (consL (amgGet (fun s _ _ => .str s) T (lo 12)) nilL)) (cI 1)) (lo 11)) (consL (negE (cI 1)) (consL (negE (cI 1)) nilL))) (innB T))
noncomputable def innF (T : Addr → Option TO) : St → Option (Fl × St) :=
  (seqB (ifB (cmpE T .Eq (binE .Add (lo 4) (lo 11)) (lo 5)) (seqB (asgN 10 (negE (cI 1))) (fun st => some (.brk, st))) skipB) (seqB (asgN 10 (binE .Sub (biE T .ord (consL (idxE T (selfGet 0 (lo 0)) (binE .Add (lo 4) (lo 11))) nilL)) (biE T .ord (consL (idxE T (amgGet (fun s _ _ => .str s) T (lo 12)) (lo 13)) nilL)))) (seqB (ifB (cmpE T .NotEq (lo 10) (cI 0)) (fun st => some (.brk, st)) skipB) (augN .Add 11 (cI 1)))))
noncomputable def frF (T : Addr → Option TO) : St → Option (Fl × St) :=
  (forR 13 (consL (lo 11) (consL (biE T .len (consL (amgGet (fun s _ _ => .str s) T (lo 12)) nilL)) nilL)) (innF T))
noncomputable def bodyG (T : Addr → Option TO) (FR : St → Option (Fl × St)) : St → Option (Fl × St) :=
  (seqB (asgN 9 (binE .Add (lo 2) (binE .RShift (binE .Sub (lo 3) (lo 2)) (cI 1)))) (seqB (asgN 10 (cI 0)) (seqB (asgN 11 (biE T .min (consL (lo 6) (consL (lo 7) nilL)))) (seqB (asgN 12 (idxE T (lo 1) (lo 9))) (seqB FR (seqB (ifB (cmpE T .Lt (lo 10) (cI 0)) (seqB (asgN 3 (lo 9)) (asgN 7 (lo 11))) (seqB (asgN 2 (lo 9)) (asgN 6 (lo 11)))) (ifB (cmpE T .LtE (binE .Sub (lo 3) (lo 2)) (cI 1)) (seqB (ifB (cmpE T .Gt (lo 2) (cI 0)) (fun st => some (.brk, st)) skipB) (seqB (ifB (cmpE T .Eq (lo 3) (lo 2)) (fun st => some (.brk, st)) skipB) (seqB (ifB (boolT (lo 8)) (fun st => some (.brk, st)) skipB) (asgN 8 (cB true))))) skipB)))))))
noncomputable def FRok (T : Addr → Option TO) (FR : St → Option (Fl × St)) (kf : List Nat → List Nat) (u : List Nat) (A0 : List (Nat × PV)) (p q : Int) : Prop :=
  ∀ (st : St) (key : List Nat) (sub res : Int) (a : Addr) (k : Nat), T a = some (.amg (kf key) sub res) → key.length < 1000 → k ≤ u.length → st.loc 0 = some .self → st.att = A0 → st.loc 4 = some (.int p) → st.loc 5 = some (.int q) → st.loc 11 = some (.int k) → st.loc 12 = some (.top a) → st.loc 10 = some (.int 0) →
    ∃ st', FR st = some (.next, st') ∧ st'.att = st.att ∧ st'.loc 10 = some (.int (cmpL (u.drop k) (key.drop k) k).1) ∧ st'.loc 11 = some (.int (cmpL (u.drop k) (key.drop k) k).2) ∧ ∀ j, j ≠ 10 → j ≠ 11 → j ≠ 13 → st'.loc j = st.loc j
theorem len_str {T : Addr → Option TO} {s : List Nat} (h : s.length < 1000) : biF T .len [.str s] = some (.int s.length) := by
  exact lnS (by omega)
theorem frB_ok {T : Addr → Option TO} {t u : List Nat} {l s e : Int} {r : List (Nat × PV)} (hl : (t ++ u).length < 1000) : FRok T (frB T) List.reverse u (At (t ++ u).reverse u.length l 0 s e r) u.length 0 := by
  intro st key sub res a k ha hj hk h0 hat h4 h5 h11 h12 h10
  have hj' : key.reverse.length < 1000 := by rw [List.length_reverse]; exact hj
  have e0 : frB T st = forB 13 (innB T) (rangeL ((key.reverse.length : Int) - 1 - k) (-1) (rangeLen ((key.reverse.length : Int) - 1 - k) (-1) (-1))) st := by
    push_cast [frB, forR, h12, ha, len_str hj', h11, bAdd, bSub]
    have : rangeF [.int ((key.reverse.length : Int) - 1 - k), .int (-1), .int (-1)] = some ((key.reverse.length : Int) - 1 - k, -1, -1) := by
      refine rgF3 ⟨?_, by decide⟩
      have : u.length < 1000 := by rw [List.length_append] at hl; omega
      omega
    simp only [this]
  rw [e0]
  by_cases hkk : k ≤ key.length
  · have e1 : rangeLen ((key.reverse.length : Int) - 1 - k) (-1) (-1) = key.length - k := by
      unfold rangeLen; rw [if_neg (by decide), List.length_reverse]; omega
    rw [e1]
    have := inn_loop (T := T) (t := t) (u := u) (key := key.reverse) (l := l) (s := s) (e := e) (r := r) (a := a) (sub := sub) (res := res) ha hl hj' (key.length - k) k st (by rw [List.length_reverse]; omega) hk h0 hat h4 h5 h11 h12 h10
    rw [List.reverse_reverse] at this
    exact this
  · have e1 : rangeLen ((key.reverse.length : Int) - 1 - k) (-1) (-1) = 0 := by
      unfold rangeLen; rw [if_neg (by decide), List.length_reverse]; omega
    rw [e1]
    have e2 : key.drop k = [] := List.drop_eq_nil_of_le (by omega)
    rw [e2]
    have e3 : cmpL (u.drop k) [] k = (0, k) := by cases u.drop k <;> rfl
    rw [e3]
    exact ⟨st, rfl, rfl, h10, h11, fun _ _ _ _ => rfl⟩
theorem innF_end {T : Addr → Option TO} {st : St} {k : Nat} {p l : Int} (h4 : st.loc 4 = some (.int p)) (h5 : st.loc 5 = some (.int l)) (h11 : st.loc 11 = some (.int k)) (hk : p + k = l) :
    innF T st = some (.brk, ⟨upd st.loc 10 (.int (-1)), st.att⟩) := by
  have e1 : (p + (k : Int) == l) = true := by simp; omega
  push_cast [innF, h4, h11, h5, bAdd, bSub, cfEq, cfNe, cfLt, cfLe, cfGt, cfGe, cfSe, cfSn, e1]
theorem innF_ne {T : Addr → Option TO} {st : St} {k j : Nat} {c : List Nat} {p l b s e : Int} {r : List (Nat × PV)} {x y : Nat} {a : Addr} {key : List Nat} {sub res : Int} (h0 : st.loc 0 = some .self) (hat : st.att = At c p l b s e r)
    (h4 : st.loc 4 = some (.int p)) (h5 : st.loc 5 = some (.int l)) (h11 : st.loc 11 = some (.int k)) (h12 : st.loc 12 = some (.top a)) (h13 : st.loc 13 = some (.int j)) (ha : T a = some (.amg key sub res)) (hk : p + (k : Int) < l) (hp : 0 ≤ p) (hl : c.length < 1000)
    (hx : c[(p + k).toNat]? = some x) (hy : key[j]? = some y) (hj : key.length < 1000) :
    innF T st = if x = y then some (.next, ⟨upd (upd st.loc 10 (.int ((x : Int) - y))) 11 (.int (k + 1)), st.att⟩) else some (.brk, ⟨upd st.loc 10 (.int ((x : Int) - y)), st.att⟩) := by
  have e1 : (p + (k : Int) == l) = false := by simp; omega
  have q1 : idxF T (.str c) (.int (p + k)) = some (.str [x]) := idxS (by omega) hx hl
  have q2 : idxF T (.str key) (.int j) = some (.str [y]) := idxS (by omega) (by simpa using hy) hj
  have e2 : ((x : Int) - y != 0) = !decide (x = y) := by
    rw [Bool.eq_iff_iff]; simp; omega
  by_cases hxy : x = y
  · have d1 : decide (x = y) = true := by simp [hxy]
    rw [if_pos hxy]
    push_cast [innF, h4, h11, h5, h0, h12, h13, bAdd, bSub, cfEq, cfNe, cfLt, cfLe, cfGt, cfGe, cfSe, cfSn, e1, hat, q1, q2, ord1, ha, e2, d1]
  · have d1 : decide (x = y) = false := by simp [hxy]
    rw [if_neg hxy]
    push_cast [innF, h4, h11, h5, h0, h12, h13, bAdd, bSub, cfEq, cfNe, cfLt, cfLe, cfGt, cfGe, cfSe, cfSn, e1, hat, q1, q2, ord1, ha, e2, d1]
theorem innF_loop {T : Addr → Option TO} {t u key : List Nat} {b s e : Int} {r : List (Nat × PV)} {a : Addr} {sub res : Int} (ha : T a = some (.amg key sub res)) (hl : (t ++ u).length < 1000) (hj : key.length < 1000) : ∀ (n k : Nat) (st : St), n + k = key.length → k ≤ u.length →
    st.loc 0 = some .self → st.att = At (t ++ u) t.length (t.length + u.length : Nat) b s e r → st.loc 4 = some (.int t.length) → st.loc 5 = some (.int (t.length + u.length : Nat)) → st.loc 11 = some (.int k) → st.loc 12 = some (.top a) → st.loc 10 = some (.int 0) →
    ∃ st', forB 13 (innF T) (rangeL (k : Int) 1 n) st = some (.next, st') ∧ st'.att = st.att ∧ st'.loc 10 = some (.int (cmpL (u.drop k) (key.drop k) k).1) ∧ st'.loc 11 = some (.int (cmpL (u.drop k) (key.drop k) k).2) ∧
      ∀ j, j ≠ 10 → j ≠ 11 → j ≠ 13 → st'.loc j = st.loc j
  | 0, k, st, hn, hk, h0, hat, h4, h5, h11, h12, h10 => by
    have e1 : key.drop k = [] := List.drop_eq_nil_of_le (by omega)
    rw [e1]
    have e2 : cmpL (u.drop k) [] k = (0, k) := by cases u.drop k <;> rfl
    rw [e2]
    exact ⟨st, rfl, rfl, h10, h11, fun _ _ _ _ => rfl⟩
  | n + 1, k, st, hn, hk, h0, hat, h4, h5, h11, h12, h10 => by
    have hkl : k < key.length := by omega
    have e1 : key.drop k = key[k] :: key.drop (k + 1) := List.drop_eq_getElem_cons hkl
    have hy : key[k]? = some key[k] := List.getElem?_eq_getElem hkl
    generalize hyy : key[k] = y at e1 hy
    rw [e1]
    have enx : (k : Int) + 1 = ((k + 1 : Nat) : Int) := by omega
    rw [rangeL, forB]
    rw [enx]
    generalize hst : (⟨upd st.loc 13 (.int (k : Int)), st.att⟩ : St) = st1
    have g : ∀ j, j ≠ 13 → st1.loc j = st.loc j := fun j hj' => by rw [← hst]; exact upd_ne hj'
    have g13 : st1.loc 13 = some (.int (k : Int)) := by rw [← hst]; simp [upd]
    have gat : st1.att = At (t ++ u) t.length (t.length + u.length : Nat) b s e r := by rw [← hst]; exact hat
    have h0' := (g 0 (by decide)).trans h0
    have h4' := (g 4 (by decide)).trans h4
    have h5' := (g 5 (by decide)).trans h5
    have h11' := (g 11 (by decide)).trans h11
    have h12' := (g 12 (by decide)).trans h12
    by_cases hku : k = u.length
    · rw [innF_end h4' h5' h11' (by omega)]
      have e3 : u.drop k = [] := List.drop_eq_nil_of_le (by omega)
      rw [e3]
      refine ⟨_, rfl, gat.trans hat.symm, by simp [upd, cmpL], by simp [upd, cmpL, h11'], fun j a1 a2 a3 => ?_⟩
      simp only [upd, a1, if_false]; exact g j a3
    · have hku' : k < u.length := by omega
      have e3 : u.drop k = u[k] :: u.drop (k + 1) := List.drop_eq_getElem_cons hku'
      have hx : (t ++ u)[((t.length : Int) + k).toNat]? = some u[k] := by
        have : ((t.length : Int) + k).toNat = t.length + k := by omega
        rw [this, List.getElem?_append_right (by omega), Nat.add_sub_cancel_left, List.getElem?_eq_getElem hku']
      generalize hxx : u[k] = x at e3 hx
      rw [e3, innF_ne h0' gat h4' h5' h11' h12' g13 ha (by omega) (by omega) hl hx hy hj]
      rw [cmpL]
      by_cases hxy : x = y
      · subst hxy
        simp only [if_true]
        have ih := innF_loop (b := b) (s := s) (e := e) (r := r) ha hl hj n (k + 1) ⟨upd (upd st1.loc 10 (.int ((x : Int) - x))) 11 (.int (k + 1)), st1.att⟩ (by omega) hku'
          (by simp [upd, h0']) gat (by simp [upd, h4']) (by simp [upd, h5']) (by simp [upd]) (by simp [upd, h12']) (by simp [upd])
        obtain ⟨st', r1, r2, r3, r4, r5⟩ := ih
        refine ⟨st', r1, r2.trans (gat.trans hat.symm), r3, r4, fun j a1 a2 a3 => (r5 j a1 a2 a3).trans (by simp only [upd, a1, a2, if_false]; exact g j a3)⟩
      · simp only [hxy, if_false]
        refine ⟨_, rfl, gat.trans hat.symm, by simp [upd], by simp [upd, h11'], fun j a1 a2 a3 => by simp only [upd, a1, if_false]; exact g j a3⟩
theorem frF_ok {T : Addr → Option TO} {t u : List Nat} {b s e : Int} {r : List (Nat × PV)} (hl : (t ++ u).length < 1000) : FRok T (frF T) id u (At (t ++ u) t.length (t.length + u.length : Nat) b s e r) t.length (t.length + u.length : Nat) := by
  intro st key sub res a k ha hj hk h0 hat h4 h5 h11 h12 h10
  simp only [id] at ha
  have e0 : frF T st = forB 13 (innF T) (rangeL (k : Int) 1 (rangeLen (k : Int) key.length 1)) st := by
    push_cast [frF, forR, h12, ha, len_str hj, h11, bAdd, bSub]
    have : rangeF [.int (k : Int), .int key.length] = some ((k : Int), (key.length : Int), 1) := by
      refine rgF2 ?_
      have : u.length < 1000 := by rw [List.length_append] at hl; omega
      omega
    simp only [this]
  rw [e0]
  by_cases hkk : k ≤ key.length
  · have e1 : rangeLen (k : Int) key.length 1 = key.length - k := by
      unfold rangeLen; rw [if_pos rfl]; omega
    rw [e1]
    exact innF_loop (T := T) (t := t) (u := u) (key := key) (b := b) (s := s) (e := e) (r := r) (a := a) (sub := sub) (res := res) ha hl hj (key.length - k) k st (by omega) hk h0 hat h4 h5 h11 h12 h10
  · have e1 : rangeLen (k : Int) key.length 1 = 0 := by
      unfold rangeLen; rw [if_pos rfl]; omega
    rw [e1]
    have e2 : key.drop k = [] := List.drop_eq_nil_of_le (by omega)
    rw [e2]
    have e3 : cmpL (u.drop k) [] k = (0, k) := by cases u.drop k <;> rfl
    rw [e3]
    exact ⟨st, rfl, rfl, h10, h11, fun _ _ _ _ => rfl⟩
structure Tab (T : Addr → Option TO) (ta : Addr) (kf : List Nat → List Nat) (tab : List Ent) : Prop where
  at_ : ∃ as : List Addr, T ta = some (.seq false (as.map PV.top)) ∧ as.length = tab.length ∧ ∀ (k : Nat) (e : Ent), tab[k]? = some e → ∃ a : Addr, as[k]? = some a ∧ T a = some (.amg (kf e.key) e.sub e.res) ∧ e.key.length < 1000
  len : tab.length < 1000
theorem Tab.idx {T ta kf tab} (h : Tab T ta kf tab) {k : Nat} {e : Ent} (hk : tab[k]? = some e) : ∃ a : Addr, idxF T (.top ta) (.int k) = some (.top a) ∧ T a = some (.amg (kf e.key) e.sub e.res) ∧ e.key.length < 1000 := by
  obtain ⟨as, h1, h2, h3⟩ := h.at_
  obtain ⟨a, h4, h5, h6⟩ := h3 k e hk
  refine ⟨a, ?_, h5, h6⟩
  have hk' := (List.getElem?_eq_some_iff.mp hk).1
  have hl := h.len
  rw [ixT h1]
  unfold seqAt
  rw [if_pos (by omega), Int.toNat_natCast, List.getElem?_map, h4]
  rfl
theorem Tab.lenF {T ta kf tab} (h : Tab T ta kf tab) : biF T .len [.top ta] = some (.int tab.length) := by
  obtain ⟨as, h1, h2, h3⟩ := h.at_
  rw [lnT h1, List.length_map, h2]
noncomputable def nxt (i j : Nat) (fk : Bool) : Option Bool := bif Nat.ble (j - i) 1 then (bif Nat.blt 0 i then none else bif Nat.beq j i then none else bif fk then none else some true) else some fk
noncomputable def srchS (u : List Nat) (i j ci cj : Nat) (fk : Bool) (e : Ent) (K : Nat → Nat → Nat → Nat → Bool → Option (Nat × Nat)) : Option (Nat × Nat) :=
  let cm := if cj < ci then cj else ci
  let d := cmpL (u.drop cm) (e.key.drop cm) cm
  let k := i + (j - i) / 2
  bif decide (d.1 < 0) then (match nxt i k fk with | none => some (i, ci) | some b => K i k ci d.2 b) else (match nxt k j fk with | none => some (k, d.2) | some b => K k j d.2 cj b)
noncomputable def srch (tab : List Ent) (u : List Nat) : Nat → Nat → Nat → Nat → Nat → Bool → Option (Nat × Nat)
  | 0, _, _, _, _, _ => none
  | f + 1, i, j, ci, cj, fk => (tab[i + (j - i) / 2]?).bind fun e => srchS u i j ci cj fk e (srch tab u f)
theorem srch_c {tab : List Ent} {u : List Nat} {f i j ci cj : Nat} {fk : Bool} : srch tab u (f + 1) i j ci cj fk = (tab[i + (j - i) / 2]?).bind fun e => srchS u i j ci cj fk e (srch tab u f) := rfl
noncomputable def tailG (T : Addr → Option TO) : St → Option (Fl × St) :=
  (ifB (cmpE T .LtE (binE .Sub (lo 3) (lo 2)) (cI 1)) (seqB (ifB (cmpE T .Gt (lo 2) (cI 0)) (fun st => some (.brk, st)) skipB) (seqB (ifB (cmpE T .Eq (lo 3) (lo 2)) (fun st => some (.brk, st)) skipB) (seqB (ifB (boolT (lo 8)) (fun st => some (.brk, st)) skipB) (asgN 8 (cB true))))) skipB)
theorem ifB_c {t : St → Option (Bool × St)} {a b : St → Option (Fl × St)} {st st1 : St} {c : Bool} (h : t st = some (c, st1)) : ifB t a b st = cond c (a st1) (b st1) := by
  unfold ifB; rw [h]; cases c <;> rfl
theorem seqB_if {t : St → Option (Bool × St)} {r : St → Option (Fl × St)} {st : St} {c : Bool} (h : t st = some (c, st)) : seqB (ifB t (fun st => some (.brk, st)) skipB) r st = cond c (some (.brk, st)) (r st) := by
  unfold seqB; rw [ifB_c h]; cases c <;> rfl
theorem wh_n {t : St → Option (Bool × St)} {b : St → Option (Fl × St)} {n : Nat} {st st1 st2 : St} (h : t st = some (true, st1)) (hb : b st1 = some (.next, st2)) : whileB t b (n + 1) st = whileB t b n st2 := by
  rw [whileB, h]; dsimp only; rw [hb]
theorem wh_k {t : St → Option (Bool × St)} {b : St → Option (Fl × St)} {n : Nat} {st st1 st2 : St} (h : t st = some (true, st1)) (hb : b st1 = some (.brk, st2)) : whileB t b (n + 1) st = some (.next, st2) := by
  rw [whileB, h]; dsimp only; rw [hb]
theorem tailG_ok {T : Addr → Option TO} {st : St} {i j : Nat} {fk : Bool} (h2 : st.loc 2 = some (.int i)) (h3 : st.loc 3 = some (.int j)) (h8 : st.loc 8 = some (.bool fk)) (hij : i ≤ j) :
    (nxt i j fk = none → tailG T st = some (.brk, st)) ∧ ∀ b, nxt i j fk = some b → ∃ loc', tailG T st = some (.next, ⟨loc', st.att⟩) ∧ loc' 8 = some (.bool b) ∧ ∀ m, m ≠ 8 → loc' m = st.loc m := by
  have d1 : decide ((j : Int) - i ≤ 1) = Nat.ble (j - i) 1 := by rw [Bool.eq_iff_iff, decide_eq_true_eq, Nat.ble_eq]; omega
  have d2 : decide ((0 : Int) < i) = Nat.blt 0 i := by rw [Bool.eq_iff_iff, decide_eq_true_eq, Nat.blt_eq]; omega
  have d3 : ((j : Int) == i) = Nat.beq j i := by rw [Bool.eq_iff_iff, beq_iff_eq, Nat.beq_eq]; omega
  have e1 : (cmpE T .LtE (binE .Sub (lo 3) (lo 2)) (cI 1)) st = some (Nat.ble (j - i) 1, st) := by
    simp only [cmpE, binE, lo, cI, h2, h3, Option.map_some, bSub, cfLe, d1]
  have e2 : (cmpE T .Gt (lo 2) (cI 0)) st = some (Nat.blt 0 i, st) := by
    simp only [cmpE, lo, cI, h2, Option.map_some, cfGt, d2]
  have e3 : (cmpE T .Eq (lo 3) (lo 2)) st = some (Nat.beq j i, st) := by
    simp only [cmpE, lo, h2, h3, Option.map_some, cfEq, d3]
  have e4 : (boolT (lo 8)) st = some (fk, st) := by
    simp only [boolT, lo, h8, Option.map_some]
  have r : tailG T st = cond (Nat.ble (j - i) 1) (cond (Nat.blt 0 i) (some (.brk, st)) (cond (Nat.beq j i) (some (.brk, st)) (cond fk (some (.brk, st)) (some (.next, ⟨upd st.loc 8 (.bool true), st.att⟩))))) (some (.next, st)) := by
    unfold tailG
    rw [ifB_c e1, seqB_if e2, seqB_if e3, seqB_if e4]; rfl
  rw [r]
  unfold nxt
  generalize Nat.ble (j - i) 1 = x1
  generalize Nat.blt 0 i = x2
  generalize Nat.beq j i = x3
  cases x1 with
  | false => exact ⟨nofun, fun b h => ⟨st.loc, rfl, by cases h; exact h8, fun _ _ => rfl⟩⟩
  | true => cases x2 with
    | true => exact ⟨fun _ => rfl, fun b h => nomatch h⟩
    | false => cases x3 with
      | true => exact ⟨fun _ => rfl, fun b h => nomatch h⟩
      | false => cases fk with
        | true => exact ⟨fun _ => rfl, fun b h => nomatch h⟩
        | false => exact ⟨nofun, fun b h => ⟨_, rfl, by cases h; rfl, fun m hm => if_neg hm⟩⟩
theorem half (i j : Nat) (h : i ≤ j) : binF .RShift (.int ((j : Int) - i)) (.int 1) = some (.int ((j - i) / 2 : Nat)) := by
  rw [bI]
  unfold binI; simp only; rw [if_pos (by decide)]
  congr 2
  have : (j : Int) - i = ((j - i : Nat) : Int) := by omega
  rw [this]
  show Int.fdiv ((j - i : Nat) : Int) 2 = _
  rw [Int.fdiv_eq_ediv_of_nonneg _ (by decide)]
  omega
section
variable {T : Addr → Option TO} {FR : St → Option (Fl × St)} {kf : List Nat → List Nat} {u : List Nat} {A0 : List (Nat × PV)} {p q : Int} {ta : Addr} {tab : List Ent}
theorem bodyG_ok (hT : Tab T ta kf tab) (hF : FRok T FR kf u A0 p q) {st : St} {i j ci cj : Nat} {fk : Bool} {e : Ent} (hij : i ≤ j) (hci : ci ≤ u.length) (hcj : cj ≤ u.length) (he : tab[i + (j - i) / 2]? = some e)
    (h0 : st.loc 0 = some .self) (h1 : st.loc 1 = some (.top ta)) (hat : st.att = A0) (h4 : st.loc 4 = some (.int p)) (h5 : st.loc 5 = some (.int q)) (h2 : st.loc 2 = some (.int i)) (h3 : st.loc 3 = some (.int j)) (h6 : st.loc 6 = some (.int ci)) (h7 : st.loc 7 = some (.int cj)) (h8 : st.loc 8 = some (.bool fk)) :
    ∃ st', st'.loc 0 = some .self ∧ st'.loc 1 = some (.top ta) ∧ st'.att = A0 ∧ st'.loc 4 = some (.int p) ∧ st'.loc 5 = some (.int q) ∧ st'.loc 8 = some (.bool fk) ∧ bodyG T FR st = tailG T st' ∧
      (let cm := if cj < ci then cj else ci
       let d := cmpL (u.drop cm) (e.key.drop cm) cm
       let k := i + (j - i) / 2
       if d.1 < 0 then st'.loc 2 = some (.int i) ∧ st'.loc 3 = some (.int k) ∧ st'.loc 6 = some (.int ci) ∧ st'.loc 7 = some (.int d.2)
       else st'.loc 2 = some (.int k) ∧ st'.loc 3 = some (.int j) ∧ st'.loc 6 = some (.int d.2) ∧ st'.loc 7 = some (.int cj)) := by
  obtain ⟨a, q1, q2, q3⟩ := hT.idx he
  have ek : (i : Int) + ((j - i) / 2 : Nat) = ((i + (j - i) / 2 : Nat) : Int) := by omega
  have em : biF T .min [.int ci, .int cj] = some (.int ((if cj < ci then cj else ci : Nat) : Int)) := by
    show some (PV.int (if (cj : Int) < ci then (cj : Int) else ci)) = _
    by_cases h : cj < ci
    · rw [if_pos h, if_pos (by omega)]
    · rw [if_neg h, if_neg (by omega)]
  have hcm : (if cj < ci then cj else ci) ≤ u.length := by split <;> omega
  generalize hcmv : (if cj < ci then cj else ci) = cm at em hcm
  dsimp only
  generalize hkv : i + (j - i) / 2 = k at ek q1
  obtain ⟨st1, r1, r2, r3, r4, r5⟩ := hF ⟨upd (upd (upd (upd st.loc 9 (.int k)) 10 (.int 0)) 11 (.int cm)) 12 (.top a), st.att⟩ e.key e.sub e.res a cm q2 q3 hcm (by simp [upd, h0]) hat (by simp [upd, h4]) (by simp [upd, h5]) (by simp [upd]) (by simp [upd]) (by simp [upd])
  have g : ∀ m, m < 9 → st1.loc m = st.loc m := fun m hm => (r5 m (by omega) (by omega) (by omega)).trans (by simp [upd, Nat.ne_of_lt hm, show m ≠ 10 by omega, show m ≠ 11 by omega, show m ≠ 12 by omega])
  have g9 : st1.loc 9 = some (.int k) := (r5 9 (by decide) (by decide) (by decide)).trans (by simp [upd])
  have run : bodyG T FR st = (match (if (cmpL (u.drop cm) (e.key.drop cm) cm).1 < 0 then some (Fl.next, (⟨upd (upd st1.loc 3 (.int k)) 7 (.int (cmpL (u.drop cm) (e.key.drop cm) cm).2), st1.att⟩ : St)) else some (Fl.next, ⟨upd (upd st1.loc 2 (.int k)) 6 (.int (cmpL (u.drop cm) (e.key.drop cm) cm).2), st1.att⟩)) with
      | some (Fl.next, st2) => tailG T st2
      | x => x) := by
    have hb : binF .Sub (.int j) (.int i) = some (.int ((j : Int) - i)) := rfl
    have ha : binF .Add (.int i) (.int ((j - i) / 2 : Nat)) = some (.int k) := by
      show some (PV.int _) = _
      rw [ek]
    by_cases hd : (cmpL (u.drop cm) (e.key.drop cm) cm).1 < 0
    · have dd : decide ((cmpL (u.drop cm) (e.key.drop cm) cm).1 < 0) = true := by simp [hd]
      rw [if_pos hd]
      push_cast [bodyG, h2, h3, h6, h7, h1, hb, half i j hij, ha, em, q1, r1, r3, r4, g9, cfEq, cfNe, cfLt, cfLe, cfGt, cfGe, cfSe, cfSn, dd]
      rfl
    · have dd : decide ((cmpL (u.drop cm) (e.key.drop cm) cm).1 < 0) = false := by simp [hd]
      rw [if_neg hd]
      push_cast [bodyG, h2, h3, h6, h7, h1, hb, half i j hij, ha, em, q1, r1, r3, r4, g9, cfEq, cfNe, cfLt, cfLe, cfGt, cfGe, cfSe, cfSn, dd]
      rfl
  rw [run]
  by_cases hd : (cmpL (u.drop cm) (e.key.drop cm) cm).1 < 0
  · simp only [hd, if_true]
    refine ⟨_, ?_, ?_, ?_, ?_, ?_, ?_, rfl, ?_, ?_, ?_, ?_⟩ <;> first | (simp [upd, g, h0, h1, h2, h3, h4, h5, h6, h7, h8]; done) | (show st1.att = A0; rw [r2]; exact hat)
  · simp only [hd, if_false]
    refine ⟨_, ?_, ?_, ?_, ?_, ?_, ?_, rfl, ?_, ?_, ?_, ?_⟩ <;> first | (simp [upd, g, h0, h1, h2, h3, h4, h5, h6, h7, h8]; done) | (show st1.att = A0; rw [r2]; exact hat)
end
noncomputable def chn (tab : List Ent) : Nat → Nat → Nat → Option (Int × Nat)
  | 0, _, _ => none
  | f + 1, i, ci => match tab[i]? with
    | none => none
    | some e => if e.key.length ≤ ci then some (e.res, e.key.length) else if e.sub < 0 then some (0, 0) else chn tab f e.sub.toNat ci
noncomputable def fab (tab : List Ent) (u : List Nat) : Option (Int × Nat) := (srch tab u 20 0 tab.length 0 0 false).bind fun x => chn tab 20 x.1 x.2
noncomputable def chnB (T : Addr → Option TO) (op : Operator) : St → Option (Fl × St) :=
  (seqB (asgN 12 (idxE T (lo 1) (lo 2))) (seqB (ifB (cmpE T .GtE (lo 6) (biE T .len (consL (amgGet (fun s _ _ => .str s) T (lo 12)) nilL))) (seqB (asgA 1 (lo 0) (binE op (lo 4) (biE T .len (consL (amgGet (fun s _ _ => .str s) T (lo 12)) nilL)))) (retB (amgGet (fun _ _ i => .int i) T (lo 12)))) skipB) (seqB (asgN 2 (amgGet (fun _ i _ => .int i) T (lo 12))) (ifB (cmpE T .Lt (lo 2) (cI 0)) (retB (cI 0)) skipB))))
section
variable {T : Addr → Option TO} {FR : St → Option (Fl × St)} {kf : List Nat → List Nat} {u : List Nat} {A0 : List (Nat × PV)} {p q : Int} {ta : Addr} {tab : List Ent}
inductive SrP (A0 : List (Nat × PV)) (p : Int) (ta : Addr) (i' ci' : Nat) (W : Option (Fl × St)) : Prop
  | mk (st' : St) (e : W = some (.next, st')) (g0 : st'.loc 0 = some .self) (g1 : st'.loc 1 = some (.top ta)) (gat : st'.att = A0) (g4 : st'.loc 4 = some (.int p)) (g2 : st'.loc 2 = some (.int i')) (g6 : st'.loc 6 = some (.int ci'))
theorem srch_ok (hT : Tab T ta kf tab) (hF : FRok T FR kf u A0 p q) : ∀ (f n i j ci cj : Nat) (fk : Bool) (st : St) (i' ci' : Nat), f ≤ n → i ≤ j → ci ≤ u.length → cj ≤ u.length →
    st.loc 0 = some .self → st.loc 1 = some (.top ta) → st.att = A0 → st.loc 4 = some (.int p) → st.loc 5 = some (.int q) → st.loc 2 = some (.int i) → st.loc 3 = some (.int j) → st.loc 6 = some (.int ci) → st.loc 7 = some (.int cj) → st.loc 8 = some (.bool fk) →
    srch tab u f i j ci cj fk = some (i', ci') → SrP A0 p ta i' ci' (whileB (boolT (cB true)) (bodyG T FR) n st)
  | 0, n, i, j, ci, cj, fk, st, i', ci', hfn, hij, hci, hcj, h0, h1, hat, h4, h5, h2, h3, h6, h7, h8, hs => nos hs
  | f + 1, 0, i, j, ci, cj, fk, st, i', ci', hfn, hij, hci, hcj, h0, h1, hat, h4, h5, h2, h3, h6, h7, h8, hs => absurd hfn (Nat.not_succ_le_zero f)
  | f + 1, n + 1, i, j, ci, cj, fk, st, i', ci', hfn, hij, hci, hcj, h0, h1, hat, h4, h5, h2, h3, h6, h7, h8, hs => by
    rw [srch_c] at hs
    obtain ⟨e, he, hs⟩ := Option.bind_eq_some_iff.mp hs
    obtain ⟨st1, g0, g1, gat, g4, g5, g8, hb, hd⟩ := bodyG_ok hT hF hij hci hcj he h0 h1 hat h4 h5 h2 h3 h6 h7 h8
    unfold srchS at hs
    dsimp only at hd hs
    have hcm : (if cj < ci then cj else ci) ≤ u.length := by split <;> omega
    generalize (if cj < ci then cj else ci) = cm at hd hs hcm
    have hle := cmpL_le (u.drop cm) (e.key.drop cm) cm
    rw [List.length_drop] at hle
    generalize cmpL (u.drop cm) (e.key.drop cm) cm = dd at hd hs hle
    have fin : ∀ {a b c d : Nat}, st1.loc 2 = some (.int a) → st1.loc 3 = some (.int b) → st1.loc 6 = some (.int c) → st1.loc 7 = some (.int d) → a ≤ b → c ≤ u.length → d ≤ u.length →
        (match nxt a b fk with | none => some (a, c) | some x => srch tab u f a b c d x) = some (i', ci') → SrP A0 p ta i' ci' (whileB (boolT (cB true)) (bodyG T FR) (n + 1) st) := by
      intro a b c d k2 k3 k6 k7 hab hc hd' hh
      have tg := tailG_ok (T := T) k2 k3 g8 hab
      cases hn : nxt a b fk with
      | none =>
        rw [hn] at hh
        obtain ⟨rfl, rfl⟩ := Prod.mk.inj (Option.some.inj hh)
        exact ⟨st1, wh_k rfl (hb.trans (tg.1 hn)), g0, g1, gat, g4, k2, k6⟩
      | some x =>
        rw [hn] at hh
        obtain ⟨loc', t1, t2, t3⟩ := tg.2 x hn
        obtain ⟨st', e, a0, a1, a2, a3, a4, a5⟩ := srch_ok hT hF f n a b c d x ⟨loc', st1.att⟩ i' ci' (Nat.le_of_succ_le_succ hfn) hab hc hd' ((t3 0 (by decide)).trans g0) ((t3 1 (by decide)).trans g1) gat ((t3 4 (by decide)).trans g4) ((t3 5 (by decide)).trans g5) ((t3 2 (by decide)).trans k2) ((t3 3 (by decide)).trans k3) ((t3 6 (by decide)).trans k6) ((t3 7 (by decide)).trans k7) t2 hh
        exact ⟨st', (wh_n rfl (hb.trans t1)).trans e, a0, a1, a2, a3, a4, a5⟩
    cases hd1 : decide (dd.1 < 0) with
    | true =>
      rw [if_pos (of_decide_eq_true hd1)] at hd
      rw [hd1] at hs
      exact fin hd.1 hd.2.1 hd.2.2.1 hd.2.2.2 (Nat.le_add_right _ _) hci (by omega) hs
    | false =>
      rw [if_neg (of_decide_eq_false hd1)] at hd
      rw [hd1] at hs
      exact fin hd.1 hd.2.1 hd.2.2.1 hd.2.2.2 (by omega) (by omega) hcj hs
theorem chn_ok (hT : Tab T ta kf tab) (hk : ∀ x, (kf x).length = x.length) {op : Operator} {c : List Nat} {l b s e : Int} {r : List (Nat × PV)} (hr : r.length < 800) (hop : op = .Add ∨ op = .Sub) : ∀ (f n i ci : Nat) (st : St) (res : Int) (len : Nat), f ≤ n →
    st.loc 0 = some .self → st.loc 1 = some (.top ta) → st.att = At c p l b s e r → st.loc 4 = some (.int p) → st.loc 2 = some (.int i) → st.loc 6 = some (.int ci) → chn tab f i ci = some (res, len) →
    ∃ loc', whileB (boolT (cB true)) (chnB T op) n st = some (.ret (.int res), ⟨loc', At c (if op = .Add then p + len else p - len) l b s e r⟩)
  | 0, n, i, ci, st, res, len, hfn, h0, h1, hat, h4, h2, h6, hs => by simp [chn] at hs
  | f + 1, 0, i, ci, st, res, len, hfn, h0, h1, hat, h4, h2, h6, hs => by omega
  | f + 1, n + 1, i, ci, st, res, len, hfn, h0, h1, hat, h4, h2, h6, hs => by
    unfold chn at hs
    split at hs
    · cases hs
    rename_i e' he
    obtain ⟨a, q1, q2, q3⟩ := hT.idx he
    have ln : biF T .len [.str (kf e'.key)] = some (.int e'.key.length) := by rw [len_str (by rw [hk]; exact q3), hk]
    have hr' : r.length + 6 < 900 := by omega
    have c1 : decide ((e'.key.length : Int) ≤ ci) = decide (e'.key.length ≤ ci) := by simp
    by_cases h : e'.key.length ≤ ci
    · have d1 : decide (e'.key.length ≤ ci) = true := by simp [h]
      rw [if_pos h] at hs
      simp only [Option.some.injEq, Prod.mk.injEq] at hs
      obtain ⟨rfl, rfl⟩ := hs
      rcases hop with rfl | rfl
      · have b1 : binF .Add (.int p) (.int e'.key.length) = some (.int (p + e'.key.length)) := rfl
        refine ⟨upd st.loc 12 (.top a), ?_⟩
        rw [whileB]
        push_cast [chnB, h1, h2, q1, h6, q2, ln, cfEq, cfNe, cfLt, cfLe, cfGt, cfGe, cfSe, cfSn, c1, d1, h4, h0, hat, b1, hr']
      · have b1 : binF .Sub (.int p) (.int e'.key.length) = some (.int (p - e'.key.length)) := rfl
        refine ⟨upd st.loc 12 (.top a), ?_⟩
        rw [whileB]
        push_cast [chnB, h1, h2, q1, h6, q2, ln, cfEq, cfNe, cfLt, cfLe, cfGt, cfGe, cfSe, cfSn, c1, d1, h4, h0, hat, b1, hr']
    · have d1 : decide (e'.key.length ≤ ci) = false := by simp [h]
      rw [if_neg h] at hs
      by_cases h' : e'.sub < 0
      · have d2 : decide (e'.sub < 0) = true := by simp [h']
        rw [if_pos h'] at hs
        simp only [Option.some.injEq, Prod.mk.injEq] at hs
        obtain ⟨rfl, rfl⟩ := hs
        refine ⟨upd (upd st.loc 12 (.top a)) 2 (.int e'.sub), ?_⟩
        have z : (if op = Operator.Add then p + ((0 : Nat) : Int) else p - ((0 : Nat) : Int)) = p := by split <;> omega
        rw [z, ← hat]
        rw [whileB]
        push_cast [chnB, h1, h2, q1, h6, q2, ln, cfEq, cfNe, cfLt, cfLe, cfGt, cfGe, cfSe, cfSn, c1, d1, h4, h0, d2]
      · have d2 : decide (e'.sub < 0) = false := by simp [h']
        rw [if_neg h'] at hs
        have es : ((e'.sub.toNat : Nat) : Int) = e'.sub := by omega
        obtain ⟨loc', ih⟩ := chn_ok hT hk hr hop f n e'.sub.toNat ci ⟨upd (upd st.loc 12 (.top a)) 2 (.int e'.sub), st.att⟩ res len (by omega) (by simp [upd, h0]) (by simp [upd, h1]) hat (by simp [upd, h4]) (by simp [upd, es]) (by simp [upd, h6]) hs
        refine ⟨loc', ?_⟩
        rw [whileB]
        push_cast [chnB, h1, h2, q1, h6, q2, ln, cfEq, cfNe, cfLt, cfLe, cfGt, cfGe, cfSe, cfSn, c1, d1, h4, h0, d2]
        exact ih
end
theorem runF_ret {n : Nat} {f : St → Option (Fl × St)} {pvs : List PV} {att : List (Nat × PV)} {v : PV} {st : St} (hn : pvs.length = n) (h : f ⟨startLoc pvs, att⟩ = some (.ret v, st)) : runF n f pvs att = some (v, st.att) := by
  unfold runF; rw [if_pos hn, h]
theorem runF_next {n : Nat} {f : St → Option (Fl × St)} {pvs : List PV} {att : List (Nat × PV)} {st : St} (hn : pvs.length = n) (h : f ⟨startLoc pvs, att⟩ = some (.next, st)) : runF n f pvs att = some (.none, st.att) := by
  unfold runF; rw [if_pos hn, h]
theorem sl0 {a : PV} {l : List PV} : startLoc (a :: l) 0 = some a := rfl
theorem sl1 {a b : PV} {l : List PV} : startLoc (a :: b :: l) 1 = some b := rfl
theorem sl2 {a b c : PV} {l : List PV} : startLoc (a :: b :: c :: l) 2 = some c := rfl
theorem sl3 {a b c d : PV} {l : List PV} : startLoc (a :: b :: c :: d :: l) 3 = some d := rfl
theorem seqB_r {t : St → Option (Bool × St)} {i : Fin 4} {r : St → Option (Fl × St)} {st : St} {c : Bool} (h : t st = some (c, st)) : seqB (ifB t (raiseB i) skipB) r st = cond c (some (.exc i, st)) (r st) := by
  unfold seqB; rw [ifB_c h]; cases c <;> rfl
theorem tryB_e {j : Fin 4} {f : St → Option (Fl × St)} {st st1 : St} (h : f st = some (.exc j, st1)) : tryB j f st = some (.next, st1) := by
  unfold tryB; rw [h]; exact if_pos rfl
theorem tryB_n {j : Fin 4} {f : St → Option (Fl × St)} {st st1 : St} (h : f st = some (.next, st1)) : tryB j f st = some (.next, st1) := by
  unfold tryB; rw [h]
theorem tryB_p {i j : Fin 4} {f : St → Option (Fl × St)} {st st1 : St} (h : f st = some (.exc i, st1)) (hn : i ≠ j) : tryB j f st = some (.exc i, st1) := by
  unfold tryB; rw [h]; exact if_neg hn
theorem seqB_x {i : Fin 4} {f r : St → Option (Fl × St)} {st st1 : St} (h : f st = some (.exc i, st1)) : seqB f r st = some (.exc i, st1) := by
  unfold seqB; rw [h]
theorem wh_x {t : St → Option (Bool × St)} {b : St → Option (Fl × St)} {n : Nat} {i : Fin 4} {st st1 st2 : St} (h : t st = some (true, st1)) (hb : b st1 = some (.exc i, st2)) : whileB t b (n + 1) st = some (.exc i, st2) := by
  rw [whileB, h]; dsimp only; rw [hb]
theorem seqB_eq {f r : St → Option (Fl × St)} {st st1 : St} (h : f st = some (.next, st1)) : seqB f r st = r st1 := by unfold seqB; rw [h]
section
variable {T : Addr → Option TO} {D : WD} {n : Nat} {ta : Addr} {tab : List Ent}
theorem find_b (hT : Tab T ta List.reverse tab) (hn : 20 ≤ n) {t u : List Nat} {l s e : Int} {r : List (Nat × PV)} (hl : (t ++ u).length < 1000) (hr : r.length < 800) {res : Int} {len : Nat} (h : fab tab u = some (res, len)) :
    F_find_among_b T D n [.self, .top ta] (At (t ++ u).reverse u.length l 0 s e r) = some (.int res, At (t ++ u).reverse ((u.length : Int) - len) l 0 s e r) := by
  obtain ⟨⟨i', ci'⟩, h1, h2⟩ := Option.bind_eq_some_iff.mp h
  have hlen := hT.lenF
  obtain ⟨st1, w1, g0, g1, gat, g4, g2, g6⟩ := srch_ok hT (frB_ok (l := l) (s := s) (e := e) (r := r) hl) 20 n 0 tab.length 0 0 false
    ⟨upd (upd (upd (upd (upd (upd (upd (startLoc [.self, .top ta]) 2 (.int 0)) 3 (.int tab.length)) 4 (.int u.length)) 5 (.int 0)) 6 (.int 0)) 7 (.int 0)) 8 (.bool false), At (t ++ u).reverse u.length l 0 s e r⟩ i' ci' hn (Nat.zero_le _) (Nat.zero_le _) (Nat.zero_le _)
    (by simp [upd, sl0]) (by simp [upd, sl1]) rfl (by simp [upd]) (by simp [upd]) (by simp [upd]) (by simp [upd]) (by simp [upd]) (by simp [upd]) (by simp [upd]) h1
  obtain ⟨loc', w2⟩ := chn_ok (op := .Sub) (p := (u.length : Int)) (c := (t ++ u).reverse) (l := l) (b := 0) (s := s) (e := e) (r := r) hT (fun x => List.length_reverse) hr (.inr rfl) 20 n i' ci' st1 res len hn g0 g1 gat g4 g2 g6 h2
  refine runF_ret rfl (st := ⟨loc', At (t ++ u).reverse ((u.length : Int) - len) l 0 s e r⟩) ?_
  have w2' : whileB (boolT (cB true)) (chnB T .Sub) n st1 = some (.ret (.int res), ⟨loc', At (t ++ u).reverse ((u.length : Int) - len) l 0 s e r⟩) := w2
  show (seqB (asgN 2 (cI 0)) (seqB (asgN 3 (biE T .len (consL (lo 1) nilL))) (seqB (asgN 4 (selfGet 1 (lo 0))) (seqB (asgN 5 (selfGet 3 (lo 0))) (seqB (asgN 6 (cI 0)) (seqB (asgN 7 (cI 0)) (seqB (asgN 8 (cB false)) (seqB (whileB (boolT (cB true)) (bodyG T (frB T)) n) (seqB (whileB (boolT (cB true)) (chnB T .Sub) n) (retB (negE (cI 1)))))))))))) _ = _
  push_cast [sl0, sl1, hlen]
  rw [w1]
  simp only
  rw [w2']
theorem find_f (hT : Tab T ta id tab) (hn : 20 ≤ n) {t u : List Nat} {b s e : Int} {r : List (Nat × PV)} (hl : (t ++ u).length < 1000) (hr : r.length < 800) {res : Int} {len : Nat} (h : fab tab u = some (res, len)) :
    F_find_among T D n [.self, .top ta] (At (t ++ u) t.length (t.length + u.length : Nat) b s e r) = some (.int res, At (t ++ u) ((t.length : Int) + len) (t.length + u.length : Nat) b s e r) := by
  obtain ⟨⟨i', ci'⟩, h1, h2⟩ := Option.bind_eq_some_iff.mp h
  have hlen := hT.lenF
  obtain ⟨st1, w1, g0, g1, gat, g4, g2, g6⟩ := srch_ok hT (frF_ok (b := b) (s := s) (e := e) (r := r) hl) 20 n 0 tab.length 0 0 false
    ⟨upd (upd (upd (upd (upd (upd (upd (startLoc [.self, .top ta]) 2 (.int 0)) 3 (.int tab.length)) 4 (.int t.length)) 5 (.int (t.length + u.length : Nat))) 6 (.int 0)) 7 (.int 0)) 8 (.bool false), At (t ++ u) t.length (t.length + u.length : Nat) b s e r⟩ i' ci' hn (Nat.zero_le _) (Nat.zero_le _) (Nat.zero_le _)
    (by simp [upd, sl0]) (by simp [upd, sl1]) rfl (by simp [upd]) (by simp [upd]) (by simp [upd]) (by simp [upd]) (by simp [upd]) (by simp [upd]) (by simp [upd]) h1
  obtain ⟨loc', w2⟩ := chn_ok (op := .Add) (p := (t.length : Int)) (c := t ++ u) (l := ((t.length + u.length : Nat) : Int)) (b := b) (s := s) (e := e) (r := r) hT (fun x => rfl) hr (.inl rfl) 20 n i' ci' st1 res len hn g0 g1 gat g4 g2 g6 h2
  refine runF_ret rfl (st := ⟨loc', At (t ++ u) ((t.length : Int) + len) (t.length + u.length : Nat) b s e r⟩) ?_
  have w2' : whileB (boolT (cB true)) (chnB T .Add) n st1 = some (.ret (.int res), ⟨loc', At (t ++ u) ((t.length : Int) + len) (t.length + u.length : Nat) b s e r⟩) := w2
  show (seqB (asgN 2 (cI 0)) (seqB (asgN 3 (biE T .len (consL (lo 1) nilL))) (seqB (asgN 4 (selfGet 1 (lo 0))) (seqB (asgN 5 (selfGet 2 (lo 0))) (seqB (asgN 6 (cI 0)) (seqB (asgN 7 (cI 0)) (seqB (asgN 8 (cB false)) (seqB (whileB (boolT (cB true)) (bodyG T (frF T)) n) (seqB (whileB (boolT (cB true)) (chnB T .Add) n) (retB (negE (cI 1)))))))))))) _ = _
  push_cast [sl0, sl1, hlen]
  rw [w1]
  simp only
  rw [w2']
end
section
variable {T : Addr → Option TO} {D : WD} {n : Nat}
noncomputable def curA (p bra ket adj : Int) : Int := if ket ≤ p then p + adj else if bra < p then bra else p
theorem addS {a b : List Nat} (h : a.length + b.length ≤ 100000) : binF .Add (.str a) (.str b) = some (.str (a ++ b)) := by
  rw [bS]; exact if_pos h
theorem replace_eq {x m y z : List Nat} {p b s e : Int} {r : List (Nat × PV)} (hl : x.length + m.length + y.length < 1000) (hz : z.length < 1000) (hr : r.length < 800) :
    F_replace_s T D n [.self, .int x.length, .int (x.length + m.length : Nat), .str z] (At (x ++ m ++ y) p (x.length + m.length + y.length : Nat) b s e r) =
      some (.int ((z.length : Int) - m.length), At (x ++ z ++ y) (curA p x.length (x.length + m.length : Nat) ((z.length : Int) - m.length)) (x.length + z.length + y.length : Nat) b s e r) := by
  have ln : biF T .len [.str z] = some (.int z.length) := len_str hz
  have s1 : binF .Sub (.int (x.length + m.length : Nat)) (.int x.length) = some (.int m.length) := by
    show some (PV.int _) = _; congr 2; omega
  have s2 : binF .Sub (.int z.length) (.int m.length) = some (.int ((z.length : Int) - m.length)) := rfl
  have s3 : binF .Add (.int (x.length + m.length + y.length : Nat)) (.int ((z.length : Int) - m.length)) = some (.int (x.length + z.length + y.length : Nat)) := by
    show some (PV.int _) = _; congr 2; omega
  have s4 : binF .Add (.int p) (.int ((z.length : Int) - m.length)) = some (.int (p + ((z.length : Int) - m.length))) := rfl
  have hlen : (x ++ m ++ y).length = x.length + m.length + y.length := by simp [Nat.add_assoc]
  have cut0 : (0 : Int) ≤ 0 ∧ (0 : Int) ≤ (x.length : Int) ∧ (x.length : Int) ≤ ((x ++ m ++ y).length : Int) ∧ (x ++ m ++ y).length ≤ 1000000 := by rw [hlen]; omega
  have cut1 : List.take ((x.length : Int) - 0).toNat (List.drop (0 : Int).toNat (x ++ m ++ y)) = x := by
    have : ((x.length : Int) - 0).toNat = x.length := by omega
    rw [this, show (0 : Int).toNat = 0 from rfl, List.drop_zero, List.append_assoc, List.take_left' rfl]
  have from0 : (0 : Int) ≤ ((x.length + m.length : Nat) : Int) ∧ ((x.length + m.length : Nat) : Int) ≤ ((x ++ m ++ y).length : Int) ∧ (x ++ m ++ y).length ≤ 1000000 := by rw [hlen]; omega
  have from1 : List.drop ((x.length + m.length : Nat) : Int).toNat (x ++ m ++ y) = y := by
    rw [Int.toNat_natCast, List.drop_left' (by simp)]
  have a1 : binF .Add (.str x) (.str z) = some (.str (x ++ z)) := addS (by omega)
  have a2 : binF .Add (.str (x ++ z)) (.str y) = some (.str (x ++ z ++ y)) := addS (by rw [List.length_append]; omega)
  have hr' : r.length + 6 < 900 := by omega
  by_cases c1 : ((x.length + m.length : Nat) : Int) ≤ p
  · have d1 : decide (((x.length + m.length : Nat) : Int) ≤ p) = true := by simp only [c1, decide_true]
    have ec : curA p x.length (x.length + m.length : Nat) ((z.length : Int) - m.length) = p + ((z.length : Int) - m.length) := by unfold curA; rw [if_pos c1]
    rw [ec]
    refine runF_ret rfl (st := ⟨upd (startLoc [.self, .int x.length, .int (x.length + m.length : Nat), .str z]) 4 (.int ((z.length : Int) - m.length)), _⟩) ?_
    push_cast [f_replace_s, sl0, sl1, sl2, sl3, ln, s1, s2, cut0, cut1, from0, from1, a1, a2, s3, s4, cfEq, cfNe, cfLt, cfLe, cfGt, cfGe, cfSe, cfSn, d1, hr']
  · have d1 : decide (((x.length + m.length : Nat) : Int) ≤ p) = false := by simp only [c1, decide_false]
    by_cases c2 : (x.length : Int) < p
    · have d2 : decide ((x.length : Int) < p) = true := by simp only [c2, decide_true]
      have ec : curA p x.length (x.length + m.length : Nat) ((z.length : Int) - m.length) = x.length := by unfold curA; rw [if_neg c1, if_pos c2]
      rw [ec]
      refine runF_ret rfl (st := ⟨upd (startLoc [.self, .int x.length, .int (x.length + m.length : Nat), .str z]) 4 (.int ((z.length : Int) - m.length)), _⟩) ?_
      push_cast [f_replace_s, sl0, sl1, sl2, sl3, ln, s1, s2, cut0, cut1, from0, from1, a1, a2, s3, s4, cfEq, cfNe, cfLt, cfLe, cfGt, cfGe, cfSe, cfSn, d1, d2, hr']
    · have d2 : decide ((x.length : Int) < p) = false := by simp only [c2, decide_false]
      have ec : curA p x.length (x.length + m.length : Nat) ((z.length : Int) - m.length) = p := by unfold curA; rw [if_neg c1, if_neg c2]
      rw [ec]
      refine runF_ret rfl (st := ⟨upd (startLoc [.self, .int x.length, .int (x.length + m.length : Nat), .str z]) 4 (.int ((z.length : Int) - m.length)), _⟩) ?_
      push_cast [f_replace_s, sl0, sl1, sl2, sl3, ln, s1, s2, cut0, cut1, from0, from1, a1, a2, s3, s4, cfEq, cfNe, cfLt, cfLe, cfGt, cfGe, cfSe, cfSn, d1, d2, hr']
theorem slice_eq {x m y z : List Nat} {p b : Int} {r : List (Nat × PV)} (hl : x.length + m.length + y.length < 1000) (hz : z.length < 1000) (hr : r.length < 800) :
    F_slice_from T D n [.self, .str z] (At (x ++ m ++ y) p (x.length + m.length + y.length : Nat) b x.length (x.length + m.length : Nat) r) =
      some (.none, At (x ++ z ++ y) (curA p x.length (x.length + m.length : Nat) ((z.length : Int) - m.length)) (x.length + z.length + y.length : Nat) b x.length (x.length + z.length : Nat) r) := by
  have hlen : (x ++ m ++ y).length = x.length + m.length + y.length := by simp [Nat.add_assoc]
  have ln : biF T .len [.str z] = some (.int z.length) := len_str hz
  have ln2 : biF T .len [.str (x ++ m ++ y)] = some (.int (x.length + m.length + y.length : Nat)) := by rw [len_str (by omega), hlen]
  have d1 : decide ((0 : Int) ≤ (x.length : Int)) = true := by simp
  have d2 : decide ((x.length : Int) ≤ ((x.length + m.length : Nat) : Int)) = true := decide_eq_true (by omega)
  have d3 : decide (((x.length + m.length : Nat) : Int) ≤ ((x.length + m.length + y.length : Nat) : Int)) = true := decide_eq_true (by omega)
  have d4 : decide (((x.length + m.length + y.length : Nat) : Int) ≤ ((x.length + m.length + y.length : Nat) : Int)) = true := decide_eq_true (Int.le_refl _)
  have s1 : binF .Add (.int x.length) (.int z.length) = some (.int (x.length + z.length : Nat)) := by
    show some (PV.int _) = _; congr 2
  have hr' : r.length + 6 < 900 := by omega
  refine runF_next rfl (st := ⟨startLoc [.self, .str z], _⟩) ?_
  push_cast [f_slice_from, sl0, sl1, ln, ln2, cfEq, cfNe, cfLt, cfLe, cfGt, cfGe, cfSe, cfSn, d1, d2, d3, d4, replace_eq hl hz hr, s1, hr']
theorem del_eq {x m y : List Nat} {p b : Int} {r : List (Nat × PV)} (hl : x.length + m.length + y.length < 1000) (hr : r.length < 800) :
    F_slice_del T D n [.self] (At (x ++ m ++ y) p (x.length + m.length + y.length : Nat) b x.length (x.length + m.length : Nat) r) =
      some (.none, At (x ++ y) (curA p x.length (x.length + m.length : Nat) (-m.length)) (x.length + y.length : Nat) b x.length x.length r) := by
  refine runF_ret rfl (st := ⟨startLoc [.self], _⟩) ?_
  have := slice_eq (T := T) (D := D) (n := n) (x := x) (m := m) (y := y) (z := []) (p := p) (b := b) (r := r) hl (by simp) hr
  simp only [List.length_nil, List.append_nil, Nat.add_zero] at this
  rw [show ((0 : Nat) : Int) - (m.length : Int) = -m.length by omega] at this
  push_cast [f_slice_del, sl0, this]
end
inductive Sy where
  | c (n : Nat)
  | v (i : Nat)
noncomputable def Sy.val (ρ : Nat → Nat) : Sy → Nat
  | .c n => n
  | .v i => ρ i
inductive Tr where
  | lt | eq | gt
noncomputable def tri (m n : Nat) : Tr := bif Nat.beq m n then .eq else bif Nat.ble m n then .lt else .gt
inductive Q (α : Type) where
  | fail
  | ret (a : α)
  | ask (i n : Nat) (k : Tr → Q α)
  | same (i n : Nat) (k : Bool → Q α)
noncomputable def Q.run {α : Type} (ρ : Nat → Nat) : Q α → Option α
  | .fail => none
  | .ret a => some a
  | .ask i n k => (k (tri (ρ i) n)).run ρ
  | .same i n k => (k (Nat.beq (ρ i) n)).run ρ
noncomputable def dget : List (List Nat) → Nat → List Nat
  | [], _ => []
  | d :: _, 0 => d
  | _ :: r, i + 1 => dget r i
noncomputable def dset : List (List Nat) → Nat → List Nat → List (List Nat)
  | [], _, _ => []
  | _ :: r, 0, x => x :: r
  | d :: r, i + 1, x => d :: dset r i x
noncomputable def selT (n : Nat) (t : Tr) : List Nat → List Nat
  | [] => []
  | x :: r => match t, tri x n with
    | .lt, .lt => x :: selT n t r
    | .eq, .eq => x :: selT n t r
    | .gt, .gt => x :: selT n t r
    | _, _ => selT n t r
noncomputable def hasN (n : Nat) : List Nat → Bool
  | [] => false
  | x :: r => bif Nat.beq x n then true else hasN n r
noncomputable def delN (n : Nat) : List Nat → List Nat
  | [] => []
  | x :: r => bif Nat.beq x n then delN n r else x :: delN n r
noncomputable def chk {α : Type} (P : List (List Nat) → α → Bool) : Q α → List (List Nat) → Bool
  | .fail, _ => false
  | .ret a, D => P D a
  | .ask i n k, D => match dget D i with
    | [] => false
    | y :: d =>
    (match selT n .lt (y :: d) with
      | [] => true
      | x :: l => chk P (k .lt) (dset D i (x :: l))) &&
    ((match selT n .eq (y :: d) with
      | [] => true
      | x :: l => chk P (k .eq) (dset D i (x :: l))) &&
    (match selT n .gt (y :: d) with
      | [] => true
      | x :: l => chk P (k .gt) (dset D i (x :: l))))
  | .same i n k, D => match dget D i with
    | [] => false
    | y :: d =>
    (bif hasN n (y :: d) then chk P (k true) (dset D i [n]) else true) &&
    (match delN n (y :: d) with
      | [] => true
      | x :: l => chk P (k false) (dset D i (x :: l)))
noncomputable def InD (ρ : Nat → Nat) (D : List (List Nat)) : Prop := ∀ i, dget D i ≠ [] → ρ i ∈ dget D i
theorem selT_mem {n x : Nat} : ∀ {l : List Nat}, x ∈ l → x ∈ selT n (tri x n) l
  | [], h => nomatch h
  | y :: r, h => by
    unfold selT
    rcases List.mem_cons.mp h with rfl | h
    · cases e : tri x n <;> simp [e]
    · have ih := selT_mem (n := n) h
      cases e : tri x n <;> cases e2 : tri y n <;> simp only [e] at ih ⊢ <;> simp [ih]
theorem hasN_mem {n : Nat} : ∀ {l : List Nat}, n ∈ l → hasN n l = true
  | [], h => nomatch h
  | y :: r, h => by
    show cond (Nat.beq y n) true (hasN n r) = true
    rcases List.mem_cons.mp h with rfl | h
    · simp
    · cases e : Nat.beq y n <;> simp [hasN_mem h]
theorem delN_mem {n x : Nat} (hx : Nat.beq x n = false) : ∀ {l : List Nat}, x ∈ l → x ∈ delN n l
  | [], h => nomatch h
  | y :: r, h => by
    show x ∈ cond (Nat.beq y n) (delN n r) (y :: delN n r)
    rcases List.mem_cons.mp h with rfl | h
    · simp [hx]
    · cases e : Nat.beq y n <;> simp [delN_mem hx h]
theorem dget_set : ∀ (D : List (List Nat)) (i : Nat) (x : List Nat) (j : Nat), dget (dset D i x) j = if j = i then (if i < D.length then x else []) else dget D j
  | [], i, x, j => (ite_self _).symm.trans (congrArg (fun y => if j = i then y else []) (if_neg (Nat.not_lt_zero i)).symm)
  | d :: r, 0, x, 0 => by rw [if_pos rfl]; exact (if_pos (Nat.succ_pos _)).symm
  | d :: r, 0, x, j + 1 => by rw [if_neg (Nat.succ_ne_zero j)]; rfl
  | d :: r, i + 1, x, 0 => by rw [if_neg (Nat.succ_ne_zero i).symm]; rfl
  | d :: r, i + 1, x, j + 1 => by
    refine (dget_set r i x j).trans ?_
    by_cases e : j = i
    · rw [if_pos e, if_pos (congrArg (· + 1) e)]
      by_cases l : i < r.length
      · rw [if_pos l]; exact (if_pos (Nat.succ_lt_succ l)).symm
      · rw [if_neg l]; exact (if_neg fun q => l (Nat.lt_of_succ_lt_succ q)).symm
    · rw [if_neg e, if_neg fun q => e (Nat.succ.inj q)]; rfl
theorem InD.set {ρ : Nat → Nat} {D : List (List Nat)} (h : InD ρ D) {i : Nat} {x : List Nat} (hx : ρ i ∈ x) : InD ρ (dset D i x) := by
  intro j hj
  rw [dget_set] at hj ⊢
  by_cases e : j = i
  · subst e
    rw [if_pos rfl] at hj ⊢
    by_cases hl : j < D.length
    · rw [if_pos hl]; exact hx
    · rw [if_neg hl] at hj; exact absurd rfl hj
  · rw [if_neg e] at hj ⊢; exact h j hj
theorem chk_ok {α : Type} {P : List (List Nat) → α → Bool} {ρ : Nat → Nat} : ∀ (q : Q α) (D : List (List Nat)), InD ρ D → chk P q D = true → ∃ a D', q.run ρ = some a ∧ InD ρ D' ∧ P D' a = true
  | .fail, D, hD, h => Bool.noConfusion h
  | .ret a, D, hD, h => ⟨a, D, rfl, hD, h⟩
  | .ask i n k, D, hD, h => by
    conv at h => lhs; whnf
    split at h
    · cases h
    rename_i y d e
    have hm : ρ i ∈ y :: d := by rw [← e]; exact hD i (by rw [e]; simp)
    have hs := selT_mem (n := n) hm
    simp only [Bool.and_eq_true] at h
    obtain ⟨h1, h2, h3⟩ := h
    show ∃ a D', (k (tri (ρ i) n)).run ρ = some a ∧ _
    cases ht : tri (ρ i) n <;> rw [ht] at hs
    · split at h1
      · rename_i e1; rw [e1] at hs; cases hs
      · rename_i e1; rw [e1] at hs; exact chk_ok _ _ (hD.set hs) h1
    · split at h2
      · rename_i e1; rw [e1] at hs; cases hs
      · rename_i e1; rw [e1] at hs; exact chk_ok _ _ (hD.set hs) h2
    · split at h3
      · rename_i e1; rw [e1] at hs; cases hs
      · rename_i e1; rw [e1] at hs; exact chk_ok _ _ (hD.set hs) h3
  | .same i n k, D, hD, h => by
    conv at h => lhs; whnf
    split at h
    · cases h
    rename_i y d e
    have hm : ρ i ∈ y :: d := by rw [← e]; exact hD i (by rw [e]; simp)
    simp only [Bool.and_eq_true] at h
    obtain ⟨h1, h2⟩ := h
    show ∃ a D', (k (Nat.beq (ρ i) n)).run ρ = some a ∧ _
    cases ht : Nat.beq (ρ i) n with
    | true =>
      have e1 : ρ i = n := Nat.eq_of_beq_eq_true ht
      rw [hasN_mem (e1 ▸ hm)] at h1
      exact chk_ok _ _ (hD.set (x := [n]) (by rw [e1]; exact .head _)) h1
    | false =>
      have hs := delN_mem ht hm
      split at h2
      · rename_i e1; rw [e1] at hs; cases hs
      · rename_i e1; rw [e1] at hs; exact chk_ok _ _ (hD.set hs) h2
noncomputable def triS {α : Type} (s : Sy) (n : Nat) (k : Tr → Q α) : Q α := match s with
  | .c m => k (tri m n)
  | .v i => .ask i n k
noncomputable def eqS {α : Type} (s : Sy) (n : Nat) (k : Bool → Q α) : Q α := match s with
  | .c m => k (Nat.beq m n)
  | .v i => .same i n k
section
variable {α : Type} {ρ : Nat → Nat}
theorem run_triS {s : Sy} {n : Nat} {k : Tr → Q α} : (triS s n k).run ρ = (k (tri (s.val ρ) n)).run ρ := by cases s <;> rfl
theorem run_eqS {s : Sy} {n : Nat} {k : Bool → Q α} : (eqS s n k).run ρ = (k (decide (s.val ρ = n))).run ρ := by
  have : ∀ m : Nat, Nat.beq m n = decide (m = n) := fun m => by rw [Bool.eq_iff_iff, decide_eq_true_eq, Nat.beq_eq]
  cases s with
  | c m => show (k _).run ρ = _; rw [this]; rfl
  | v i => show (k _).run ρ = _; rw [this]; rfl
noncomputable def cmpQ (op : Bool) : List Sy → List Nat → Nat → (Bool → Nat → Q α) → Q α
  | _, [], k, K => K false k
  | [], _ :: _, k, K => bif op then .fail else K true k
  | x :: v, y :: r, k, K => triS x y fun t => match t with
    | .lt => K true k
    | .eq => cmpQ op v r (k + 1) K
    | .gt => K false k
theorem tri_eq (m n : Nat) : tri m n = if m = n then .eq else if m < n then .lt else .gt := by
  unfold tri
  have h1 : Nat.beq m n = decide (m = n) := by rw [Bool.eq_iff_iff, decide_eq_true_eq, Nat.beq_eq]
  have h2 : Nat.ble m n = decide (m ≤ n) := by rw [Bool.eq_iff_iff, decide_eq_true_eq, Nat.ble_eq]
  rw [h1, h2]
  by_cases a : m = n
  · simp [a]
  · by_cases b : m < n
    · have : m ≤ n := by omega
      simp [a, b, this]
    · have : ¬ m ≤ n := by omega
      simp [a, b, this]
theorem run_cmpQ {op : Bool} {tl : List Nat} (ho : op = false → tl = []) {K : Bool → Nat → Q α} {a : α} : ∀ (v : List Sy) (r : List Nat) (k : Nat), (cmpQ op v r k K).run ρ = some a →
    (K (decide ((cmpL (v.map (Sy.val ρ) ++ tl) r k).1 < 0)) (cmpL (v.map (Sy.val ρ) ++ tl) r k).2).run ρ = some a
  | v, [], k, h => by
    have e : cmpL (v.map (Sy.val ρ) ++ tl) [] k = (0, k) := by cases v.map (Sy.val ρ) ++ tl <;> rfl
    rw [e]
    cases v <;> exact h
  | [], y :: r, k, h => by
    cases op with
    | true => exact nos h
    | false =>
      rw [ho rfl]
      exact h
  | x :: v, y :: r, k, h => by
    have h := run_triS.symm.trans h
    rw [tri_eq] at h
    rw [List.map_cons, List.cons_append]
    rw [cmpL_c]
    by_cases e1 : x.val ρ = y
    · rw [if_pos e1] at h ⊢
      exact run_cmpQ ho v r (k + 1) h
    · rw [if_neg e1] at h ⊢
      by_cases e2 : x.val ρ < y
      · rw [if_pos e2] at h
        have : decide (((x.val ρ : Nat) : Int) - y < 0) = true := decide_eq_true (by omega)
        rw [this]; exact h
      · rw [if_neg e2] at h
        have : decide (((x.val ρ : Nat) : Int) - y < 0) = false := decide_eq_false (by omega)
        rw [this]; exact h
noncomputable def dropS : Nat → List Sy → List Sy
  | 0, u => u
  | _ + 1, [] => []
  | n + 1, _ :: u => dropS n u
theorem dropS_eq : ∀ (n : Nat) (u : List Sy), dropS n u = u.drop n
  | 0, u => rfl
  | n + 1, [] => rfl
  | n + 1, _ :: u => dropS_eq n u
noncomputable def srchQ (op : Bool) (tab : List Ent) (u : List Sy) (K : Nat → Nat → Q α) : Nat → Nat → Nat → Nat → Nat → Bool → Q α
  | 0, _, _, _, _, _ => .fail
  | f + 1, i, j, ci, cj, fk => match tab[i + (j - i) / 2]? with
    | none => .fail
    | some e =>
      let cm := if cj < ci then cj else ci
      let k := i + (j - i) / 2
      bif Nat.ble cm u.length then
      cmpQ op (u.drop cm) (e.key.drop cm) cm fun neg d2 =>
      bif neg then (match nxt i k fk with | none => K i ci | some b => srchQ op tab u K f i k ci d2 b)
      else (match nxt k j fk with | none => K k d2 | some b => srchQ op tab u K f k j d2 cj b)
      else .fail
theorem run_srchQ {op : Bool} {tl : List Nat} (ho : op = false → tl = []) {tab : List Ent} {u : List Sy} {K : Nat → Nat → Q α} {a : α} : ∀ (f i j ci cj : Nat) (fk : Bool), (srchQ op tab u K f i j ci cj fk).run ρ = some a →
    ∃ i' ci', srch tab (u.map (Sy.val ρ) ++ tl) f i j ci cj fk = some (i', ci') ∧ (K i' ci').run ρ = some a
  | 0, i, j, ci, cj, fk, h => nos h
  | f + 1, i, j, ci, cj, fk, h => by
    conv at h => lhs; arg 2; whnf
    rw [srch_c]
    cases he : tab[i + (j - i) / 2]? with
    | none => rw [he] at h; exact nos h
    | some e =>
    rw [he] at h
    rw [Option.bind_some]
    unfold srchS
    dsimp only at h ⊢
    generalize (if cj < ci then cj else ci) = cm at h ⊢
    cases hcm : Nat.ble cm u.length with
    | false => rw [hcm] at h; exact nos h
    | true =>
    rw [hcm] at h
    have h1 := run_cmpQ ho _ _ _ h
    have e1 : (u.drop cm).map (Sy.val ρ) ++ tl = (u.map (Sy.val ρ) ++ tl).drop cm := by
      rw [List.drop_append_of_le_length (by rw [List.length_map]; exact Nat.le_of_ble_eq_true hcm), List.map_drop]
    rw [e1] at h1
    generalize cmpL ((u.map (Sy.val ρ) ++ tl).drop cm) (e.key.drop cm) cm = d at h1 ⊢
    cases hd : decide (d.1 < 0) with
    | true =>
      rw [hd] at h1
      cases hn : nxt i (i + (j - i) / 2) fk with
      | none => rw [hn] at h1; exact ⟨_, _, rfl, h1⟩
      | some b => rw [hn] at h1; exact run_srchQ ho _ _ _ _ _ _ h1
    | false =>
      rw [hd] at h1
      cases hn : nxt (i + (j - i) / 2) j fk with
      | none => rw [hn] at h1; exact ⟨_, _, rfl, h1⟩
      | some b => rw [hn] at h1; exact run_srchQ ho _ _ _ _ _ _ h1
noncomputable def fabQ (op : Bool) (tab : List Ent) (u : List Sy) (K : Int × Nat → Q α) : Q α :=
  srchQ op tab u (fun i ci => match chn tab 20 i ci with
    | some x => K x
    | none => .fail) 20 0 tab.length 0 0 false
theorem run_fabQ {op : Bool} {tl : List Nat} (ho : op = false → tl = []) {tab : List Ent} {u : List Sy} {K : Int × Nat → Q α} {a : α} (h : (fabQ op tab u K).run ρ = some a) : ∃ x, fab tab (u.map (Sy.val ρ) ++ tl) = some x ∧ (K x).run ρ = some a := by
  obtain ⟨i', ci', h1, h2⟩ := run_srchQ ho _ _ _ _ _ _ h
  cases e : chn tab 20 i' ci' with
  | none => rw [e] at h2; exact nos h2
  | some x => rw [e] at h2; exact ⟨x, by unfold fab; rw [h1]; exact e, h2⟩
end
noncomputable def pre : List Nat → List Nat → Option (List Nat)
  | [], u => some u
  | _ :: _, [] => none
  | z :: zs, x :: u => if x = z then pre zs u else none
noncomputable def isP (z u : List Nat) : Bool := (pre z u).isSome
theorem pre_eq : ∀ {z u w : List Nat}, pre z u = some w → u = z ++ w
  | [], u, w, h => Option.some.inj h
  | _ :: _, [], w, h => nos h
  | z :: zs, x :: u, w, h => by
    replace h : (if x = z then pre zs u else none) = some w := h
    by_cases e : x = z
    · rw [if_pos e] at h; rw [e, pre_eq h]; rfl
    · rw [if_neg e] at h; exact nos h
theorem pre_app : ∀ (z w : List Nat), pre z (z ++ w) = some w
  | [], w => rfl
  | z :: zs, w => (if_pos rfl).trans (pre_app zs w)
theorem isP_c {z x : Nat} {zs u : List Nat} : isP (z :: zs) (x :: u) = if x = z then isP zs u else false := by
  show (if x = z then pre zs u else none).isSome = _
  by_cases e : x = z
  · rw [if_pos e, if_pos e]; rfl
  · rw [if_neg e, if_neg e]; rfl
theorem isP_iff {z u : List Nat} : isP z u = true ↔ ∃ w, u = z ++ w := by
  unfold isP
  rw [Option.isSome_iff_exists]
  exact ⟨fun ⟨w, h⟩ => ⟨w, pre_eq h⟩, fun ⟨w, h⟩ => ⟨w, h ▸ pre_app z w⟩⟩
noncomputable def sp : List (List Nat × Int) → List Nat → Int × Nat
  | [], _ => (0, 0)
  | (z, r) :: L, u => if isP z u then (r, z.length) else sp L u
theorem sp_c {z : List Nat} {r : Int} {L : List (List Nat × Int)} {u : List Nat} : sp ((z, r) :: L) u = if isP z u then (r, z.length) else sp L u := rfl
section
variable {α : Type} {ρ : Nat → Nat}
noncomputable def preQ (op : Bool) : List Nat → List Sy → (Bool → Q α) → Q α
  | [], u, K => K true
  | _ :: _, [], K => bif op then .fail else K false
  | z :: zs, x :: u, K => eqS x z fun b => bif b then preQ op zs u K else K false
theorem run_preQ {op : Bool} {tl : List Nat} (ho : op = false → tl = []) {K : Bool → Q α} {a : α} : ∀ (z : List Nat) (u : List Sy), (preQ op z u K).run ρ = some a → (K (isP z (u.map (Sy.val ρ) ++ tl))).run ρ = some a
  | [], u, h => by cases u <;> exact h
  | y :: z, [], h => by
    cases op with
    | true => exact nos h
    | false => rw [ho rfl]; exact h
  | y :: z, x :: u, h => by
    have h := run_eqS.symm.trans h
    rw [List.map_cons, List.cons_append]
    rw [isP_c]
    by_cases e : x.val ρ = y
    · rw [if_pos e]; rw [decide_eq_true e] at h
      exact run_preQ ho z u h
    · rw [if_neg e]; rw [decide_eq_false e] at h
      exact h
noncomputable def spQ (op : Bool) : List (List Nat × Int) → List Sy → (Int × Nat → Q α) → Q α
  | [], _, K => K (0, 0)
  | (z, r) :: L, u, K => preQ op z u fun b => bif b then K (r, z.length) else spQ op L u K
theorem run_spQ {op : Bool} {tl : List Nat} (ho : op = false → tl = []) {K : Int × Nat → Q α} {a : α} : ∀ (L : List (List Nat × Int)) (u : List Sy), (spQ op L u K).run ρ = some a → (K (sp L (u.map (Sy.val ρ) ++ tl))).run ρ = some a
  | [], u, h => by cases u <;> exact h
  | (z, r) :: L, u, h => by
    have h1 := run_preQ ho z u h
    rw [sp_c]
    cases e : isP z (u.map (Sy.val ρ) ++ tl) with
    | true => rw [e] at h1; exact h1
    | false => rw [e] at h1; simp only [Bool.false_eq_true, if_false]; exact run_spQ ho L u h1
end
noncomputable def vars : Nat → Nat → List Sy
  | 0, _ => []
  | k + 1, i => .v i :: vars k (i + 1)
theorem vars_map (ρ : Nat → Nat) : ∀ (k i : Nat), (vars k i).map (Sy.val ρ) = (List.range' i k).map ρ
  | 0, i => rfl
  | k + 1, i => congrArg (ρ i :: ·) (vars_map ρ k (i + 1))
noncomputable def repl : Nat → List Nat → List (List Nat)
  | 0, _ => []
  | k + 1, x => x :: repl k x
theorem dget_repl : ∀ (k : Nat) (x : List Nat) (i : Nat), dget (repl k x) i = if i < k then x else []
  | 0, x, i => (if_neg (Nat.not_lt_zero i)).symm
  | k + 1, x, 0 => (if_pos (Nat.succ_pos k)).symm
  | k + 1, x, i + 1 => by
    refine (dget_repl k x i).trans ?_
    by_cases l : i < k
    · rw [if_pos l, if_pos (Nat.succ_lt_succ l)]
    · rw [if_neg l, if_neg fun q => l (Nat.lt_of_succ_lt_succ q)]
noncomputable def alpha : List Nat := [97, 98, 99, 100, 101, 102, 103, 104, 105, 106, 107, 108, 109, 110, 111, 112, 113, 114, 115, 116, 117, 118, 119, 120, 121, 122, 232]
noncomputable def chkFab (op : Bool) (tab : List Ent) (L : List (List Nat × Int)) (k : Nat) : Bool :=
  chk (fun _ _ => true) (fabQ op tab (vars k 0) fun x => spQ op L (vars k 0) fun y => if x = y then .ret () else .fail) (repl k alpha)
theorem fab_of_chk {op : Bool} {tab : List Ent} {L : List (List Nat × Int)} {k : Nat} (h : chkFab op tab L k = true) {u tl : List Nat} (hu : u.length = k) (ho : op = false → tl = []) (ha : ∀ x ∈ u, x ∈ alpha) : fab tab (u ++ tl) = some (sp L (u ++ tl)) := by
  have hD : InD (fun i => u.getD i 97) (repl k alpha) := by
    intro i hi
    rw [dget_repl] at hi ⊢
    split at hi
    · rename_i hk
      rw [if_pos hk]
      have : u.getD i 97 = u[i]'(by omega) := by simp [List.getD, List.getElem?_eq_getElem (show i < u.length by omega)]
      show u.getD i 97 ∈ alpha
      rw [this]
      exact ha _ (List.getElem_mem _)
    · exact absurd rfl hi
  obtain ⟨a, D', h1, _, _⟩ := chk_ok _ _ hD h
  obtain ⟨x, h2, h3⟩ := run_fabQ ho h1
  have h4 := run_spQ ho _ _ h3
  have e : (vars k 0).map (Sy.val fun i => u.getD i 97) = u := by
    rw [vars_map]
    apply List.ext_getElem (by simp [hu])
    intro i h1 h2
    simp [List.getD, List.getElem?_eq_getElem h2]
  rw [e] at h2 h4
  by_cases e2 : x = sp L (u ++ tl)
  · rw [h2, e2]
  · rw [if_neg e2] at h4; exact nos h4
noncomputable def tab2 : List Ent := [⟨[100, 100], -1, -1⟩, ⟨[107, 107], -1, -1⟩, ⟨[116, 116], -1, -1⟩]
noncomputable def tab3 : List Ent := [⟨[101, 110, 101], -1, 2⟩, ⟨[101, 115], -1, 3⟩, ⟨[110, 101], -1, 2⟩, ⟨[110, 101, 100, 101, 104], 2, 1⟩, ⟨[115], -1, 3⟩]
noncomputable def tab4 : List Ent := [⟨[100, 110, 101], -1, 1⟩, ⟨[103, 105], -1, 2⟩, ⟨[103, 110, 105], -1, 1⟩, ⟨[107, 106, 105, 108], -1, 3⟩, ⟨[114, 97, 97, 98], -1, 4⟩, ⟨[114, 97, 98], -1, 5⟩]
noncomputable def tab5 : List Ent := [⟨[97, 97], -1, -1⟩, ⟨[101, 101], -1, -1⟩, ⟨[111, 111], -1, -1⟩, ⟨[117, 117], -1, -1⟩]
noncomputable def L2 : List (List Nat × Int) := [([100, 100], -1), ([107, 107], -1), ([116, 116], -1)]
noncomputable def L3 : List (List Nat × Int) := [([101, 110, 101], 2), ([101, 115], 3), ([110, 101, 100, 101, 104], 1), ([110, 101], 2), ([115], 3)]
noncomputable def L4 : List (List Nat × Int) := [([100, 110, 101], 1), ([103, 105], 2), ([103, 110, 105], 1), ([107, 106, 105, 108], 3), ([114, 97, 97, 98], 4), ([114, 97, 98], 5)]
noncomputable def L5 : List (List Nat × Int) := [([97, 97], -1), ([101, 101], -1), ([111, 111], -1), ([117, 117], -1)]
noncomputable def chkAll (tab : List Ent) (L : List (List Nat × Int)) : Bool := chkFab true tab L 5 && (chkFab false tab L 0 && (chkFab false tab L 1 && (chkFab false tab L 2 && (chkFab false tab L 3 && chkFab false tab L 4))))
theorem fab_sp {tab : List Ent} {L : List (List Nat × Int)} (h : chkAll tab L = true) {u : List Nat} (ha : ∀ x ∈ u, x ∈ alpha) : fab tab u = some (sp L u) := by
  unfold chkAll at h
  simp only [Bool.and_eq_true] at h
  obtain ⟨h5, h0, h1, h2, h3, h4⟩ := h
  by_cases hl : 5 ≤ u.length
  · have := fab_of_chk h5 (u := u.take 5) (tl := u.drop 5) (by simp; omega) (by simp) fun x hx => ha x (List.take_subset _ _ hx)
    rwa [List.take_append_drop] at this
  · have go : ∀ k, chkFab false tab L k = true → u.length = k → fab tab u = some (sp L u) := fun k hk e => by
      have := fab_of_chk hk (u := u) (tl := []) e (fun _ => rfl) ha
      rwa [List.append_nil] at this
    have : u.length = 0 ∨ u.length = 1 ∨ u.length = 2 ∨ u.length = 3 ∨ u.length = 4 := by omega
    rcases this with e | e | e | e | e
    · exact go 0 h0 e
    · exact go 1 h1 e
    · exact go 2 h2 e
    · exact go 3 h3 e
    · exact go 4 h4 e
theorem fab2 {u : List Nat} (ha : ∀ x ∈ u, x ∈ alpha) : fab tab2 u = some (sp L2 u) := fab_sp (by decide +kernel) ha
theorem fab3 {u : List Nat} (ha : ∀ x ∈ u, x ∈ alpha) : fab tab3 u = some (sp L3 u) := fab_sp (by decide +kernel) ha
theorem fab4 {u : List Nat} (ha : ∀ x ∈ u, x ∈ alpha) : fab tab4 u = some (sp L4 u) := fab_sp (by decide +kernel) ha
theorem fab5 {u : List Nat} (ha : ∀ x ∈ u, x ∈ alpha) : fab tab5 u = some (sp L5 u) := fab_sp (by decide +kernel) ha
structure TDs (T : Addr → Option TO) (D : WD) : Prop where
  t2 : Tab T (D.ta 2) List.reverse tab2
  t3 : Tab T (D.ta 3) List.reverse tab3
  t4 : Tab T (D.ta 4) List.reverse tab4
  t5 : Tab T (D.ta 5) List.reverse tab5
  s6 : T (D.ta 6) = some (.set ([97, 101, 105, 111, 117, 121, 232].map fun c => [c]))
  s7 : T (D.ta 7) = some (.set ([73, 97, 101, 105, 111, 117, 121, 232].map fun c => [c]))
  s8 : T (D.ta 8) = some (.set ([97, 101, 105, 106, 111, 117, 121, 232].map fun c => [c]))
section
variable {T : Addr → Option TO} {D : WD} {n : Nat}
theorem lk6 {c : List Nat} {p l b s e : Int} {r : List (Nat × PV)} : (At c p l b s e r).lookup 6 = r.lookup 6 := rfl
theorem lk7 {c : List Nat} {p l b s e : Int} {r : List (Nat × PV)} : (At c p l b s e r).lookup 7 = r.lookup 7 := rfl
theorem lk8 {c : List Nat} {p l b s e : Int} {r : List (Nat × PV)} : (At c p l b s e r).lookup 8 = r.lookup 8 := rfl
theorem pt8 {c : List Nat} {p l b s e : Int} {r : List (Nat × PV)} {v : PV} : putA 8 v (At c p l b s e r) = At c p l b s e (putA 8 v r) := rfl
theorem sub_ {a b c : Int} (h : a - b = c) : binF .Sub (.int a) (.int b) = some (.int c) := by rw [← h]; rfl
theorem add_ {a b c : Int} (h : a + b = c) : binF .Add (.int a) (.int b) = some (.int c) := by rw [← h]; rfl
theorem cont1 (S : List Nat) (x : Nat) : (S.map fun c => [c]).contains [x] = S.contains x := by
  induction S with
  | nil => rfl
  | cons y r ih => rw [List.map_cons, List.contains_cons, List.contains_cons, ih]; congr 1; rw [Bool.eq_iff_iff]; simp
theorem at_cong {c c' : List Nat} {p p' l l' b b' s s' e e' : Int} {r r' : List (Nat × PV)} (h1 : c = c') (h2 : p = p') (h3 : l = l') (h4 : b = b') (h5 : s = s') (h6 : e = e') (h7 : r = r') : At c p l b s e r = At c' p' l' b' s' e' r' := by
  subst h1 h2 h3 h4 h5 h6 h7; rfl
theorem outb_cons {a : Addr} {S : List Nat} (hS : T a = some (.set (S.map fun c => [c]))) {t v : List Nat} {x : Nat} {p l s e : Int} {r : List (Nat × PV)} (hp : p = v.length + 1) (hl : (t ++ x :: v).length < 1000) (hr : r.length < 800) :
    F_out_grouping_b T D n [.self, .top a] (At (t ++ x :: v).reverse p l 0 s e r) = if S.contains x then some (.bool false, At (t ++ x :: v).reverse p l 0 s e r) else some (.bool true, At (t ++ x :: v).reverse v.length l 0 s e r) := by
  have d1 : decide (p ≤ 0) = false := decide_eq_false (by omega)
  have q0 : binF .Sub (.int p) (.int 1) = some (.int v.length) := sub_ (by omega)
  have q1 : idxF T (.str (t ++ x :: v).reverse) (.int v.length) = some (.str [x]) := by
    refine idxS (by omega) ?_ (by rw [List.length_reverse]; exact hl)
    have := rev_get t (x :: v) 0 (by simp)
    simpa using this
  have hr' : r.length + 6 < 900 := by omega
  cases hc : S.contains x with
  | true =>
    refine runF_ret rfl (st := ⟨startLoc [.self, .top a], _⟩) ?_
    push_cast [f_out_grouping_b, sl0, sl1, cfEq, cfNe, cfLt, cfLe, cfGt, cfGe, cfSe, cfSn, d1, q0, q1, cfTn hS, cont1, hc]
  | false =>
    refine runF_ret rfl (st := ⟨startLoc [.self, .top a], _⟩) ?_
    push_cast [f_out_grouping_b, sl0, sl1, cfEq, cfNe, cfLt, cfLe, cfGt, cfGe, cfSe, cfSn, d1, q0, q1, cfTn hS, cont1, hc, hr']
theorem outb_nil {a : Addr} {c : List Nat} {p l s e : Int} {r : List (Nat × PV)} (hp : p = 0) :
    F_out_grouping_b T D n [.self, .top a] (At c p l 0 s e r) = some (.bool false, At c p l 0 s e r) := by
  have d1 : decide (p ≤ 0) = true := decide_eq_true (by omega)
  refine runF_ret rfl (st := ⟨startLoc [.self, .top a], _⟩) ?_
  push_cast [f_out_grouping_b, sl0, sl1, cfEq, cfNe, cfLt, cfLe, cfGt, cfGe, cfSe, cfSn, d1]
theorem suf_isP (z v : List Nat) : z.isSuffixOf v.reverse = isP z.reverse v := by
  rw [Bool.eq_iff_iff, List.isSuffixOf_iff_suffix, isP_iff]
  constructor
  · rintro ⟨w, h⟩
    refine ⟨w.reverse, ?_⟩
    rw [← List.reverse_append, h, List.reverse_reverse]
  · rintro ⟨w, h⟩
    refine ⟨w.reverse, ?_⟩
    rw [h, List.reverse_append, List.reverse_reverse]
theorem eqs {z t v : List Nat} {p l s e : Int} {r : List (Nat × PV)} (hp : p = v.length) (hl : (t ++ v).length < 1000) (hz : z.length < 1000) (hr : r.length < 800) :
    F_eq_s_b T D n [.self, .str z] (At (t ++ v).reverse p l 0 s e r) = if isP z.reverse v then some (.bool true, At (t ++ v).reverse (p - z.length) l 0 s e r) else some (.bool false, At (t ++ v).reverse p l 0 s e r) := by
  subst hp
  have hlen : (t ++ v).reverse.length = t.length + v.length := by simp [Nat.add_comm]
  have hl' : t.length + v.length < 1000 := by rw [List.length_append] at hl; exact hl
  have c0 : (0 : Int) ≤ 0 ∧ (0 : Int) ≤ (v.length : Int) ∧ (v.length : Int) ≤ ((t ++ v).reverse.length : Int) ∧ (t ++ v).reverse.length ≤ 1000000 := by rw [hlen]; omega
  have c1 : List.take ((v.length : Int) - 0).toNat (List.drop (0 : Int).toNat (t ++ v).reverse) = v.reverse := by
    have : ((v.length : Int) - 0).toNat = v.length := by omega
    rw [this, show (0 : Int).toNat = 0 from rfl, List.drop_zero, List.reverse_append, List.take_left' (by simp)]
  have ln : biF T .len [.str z] = some (.int z.length) := len_str hz
  have q0 : binF .Sub (.int v.length) (.int z.length) = some (.int ((v.length : Int) - z.length)) := rfl
  have hr' : r.length + 6 < 900 := by omega
  cases hc : isP z.reverse v with
  | true =>
    refine runF_ret rfl (st := ⟨startLoc [.self, .str z], _⟩) ?_
    push_cast [f_eq_s_b, sl0, sl1, c0, c1, suf_isP, hc, ln, q0, hr']
  | false =>
    refine runF_ret rfl (st := ⟨startLoc [.self, .str z], _⟩) ?_
    push_cast [f_eq_s_b, sl0, sl1, c0, c1, suf_isP, hc, ln, q0, hr']
theorem fR1 {c : List Nat} {p l b s e p1 : Int} {r : List (Nat × PV)} (h : r.lookup 6 = some (.int p1)) : F_r_R1 T D n [.self] (At c p l b s e r) = some (.bool (decide (p1 ≤ p)), At c p l b s e r) := by
  refine runF_ret rfl (st := ⟨startLoc [.self], _⟩) ?_
  push_cast [f_r_R1, sl0, lk6, h, cfEq, cfNe, cfLt, cfLe, cfGt, cfGe, cfSe, cfSn]
theorem fR2 {c : List Nat} {p l b s e p2 : Int} {r : List (Nat × PV)} (h : r.lookup 7 = some (.int p2)) : F_r_R2 T D n [.self] (At c p l b s e r) = some (.bool (decide (p2 ≤ p)), At c p l b s e r) := by
  refine runF_ret rfl (st := ⟨startLoc [.self], _⟩) ?_
  push_cast [f_r_R2, sl0, lk7, h, cfEq, cfNe, cfLt, cfLe, cfGt, cfGe, cfSe, cfSn]
theorem slice_rev {c a m v z : List Nat} {p l b s e : Int} {r : List (Nat × PV)} (hc : c = (a ++ (m ++ v)).reverse) (hl : l = a.length + m.length + v.length) (hs : s = v.length) (he : e = m.length + v.length) (h1 : a.length + m.length + v.length < 1000) (hz : z.length < 1000) (hr : r.length < 800) :
    F_slice_from T D n [.self, .str z] (At c p l b s e r) = some (.none, At (a ++ (z.reverse ++ v)).reverse (curA p s e (z.length - m.length)) (a.length + z.length + v.length) b s (v.length + z.length) r) := by
  have h := slice_eq (T := T) (D := D) (n := n) (x := v.reverse) (m := m.reverse) (y := a.reverse) (z := z) (p := p) (b := b) (r := r) (by simp; omega) hz hr
  simp only [List.length_reverse] at h
  have e1 : At c p l b s e r = At (v.reverse ++ m.reverse ++ a.reverse) p (v.length + m.length + a.length : Nat) b v.length (v.length + m.length : Nat) r :=
    at_cong (by rw [hc]; simp) rfl (by omega) rfl hs (by omega) rfl
  rw [e1, h]
  refine congrArg some (congrArg (Prod.mk _) (at_cong (by simp) ?_ (by omega) rfl hs.symm (by omega) rfl))
  rw [hs, he]; congr 1; omega
theorem del_rev {c a m v : List Nat} {p l b s e : Int} {r : List (Nat × PV)} (hc : c = (a ++ (m ++ v)).reverse) (hl : l = a.length + m.length + v.length) (hs : s = v.length) (he : e = m.length + v.length) (h1 : a.length + m.length + v.length < 1000) (hr : r.length < 800) :
    F_slice_del T D n [.self] (At c p l b s e r) = some (.none, At (a ++ v).reverse (curA p s e (-m.length)) (a.length + v.length) b s v.length r) := by
  have h := del_eq (T := T) (D := D) (n := n) (x := v.reverse) (m := m.reverse) (y := a.reverse) (p := p) (b := b) (r := r) (by simp; omega) hr
  simp only [List.length_reverse] at h
  have e1 : At c p l b s e r = At (v.reverse ++ m.reverse ++ a.reverse) p (v.length + m.length + a.length : Nat) b v.length (v.length + m.length : Nat) r :=
    at_cong (by rw [hc]; simp) rfl (by omega) rfl hs (by omega) rfl
  rw [e1, h]
  refine congrArg some (congrArg (Prod.mk _) (at_cong (by simp) ?_ (by omega) rfl hs.symm rfl rfl))
  rw [hs, he]; congr 1; omega
end
noncomputable def gv : List Nat := [97, 101, 105, 111, 117, 121, 232]
noncomputable def gvI : List Nat := [73, 97, 101, 105, 111, 117, 121, 232]
noncomputable def gvj : List Nat := [97, 101, 105, 106, 111, 117, 121, 232]
noncomputable def outOk (S : List Nat) : List Nat → Bool
  | [] => false
  | x :: _ => !S.contains x
noncomputable def undbl (u : List Nat) : Bool × List Nat := if (sp L2 u).1 = 0 then (false, u) else (true, u.tail)
noncomputable def enOk (p1 : Int) (v : List Nat) : Bool := decide (p1 ≤ v.length) && (outOk gv v && !isP [109, 101, 103] v)
theorem sp_le : ∀ (L : List (List Nat × Int)) (u : List Nat), (sp L u).2 ≤ u.length
  | [], u => by simp [sp]
  | (z, r) :: L, u => by
    rw [sp]
    split
    · rename_i h
      obtain ⟨w, rfl⟩ := isP_iff.mp h
      simp
    · exact sp_le L u
theorem sp2_two {u : List Nat} (h : (sp L2 u).1 ≠ 0) : ∃ x w, u = x :: w := by
  cases u with
  | nil => exact absurd (by decide) h
  | cons x w => exact ⟨x, w, rfl⟩
theorem undbl_mem {u : List Nat} {x : Nat} (h : x ∈ (undbl u).2) : x ∈ u := by
  unfold undbl at h
  split at h
  · exact h
  · exact List.mem_of_mem_tail h
theorem undbl_len (u : List Nat) : (undbl u).2.length ≤ u.length := by
  unfold undbl
  split
  · exact Nat.le_refl _
  · simp
section
variable {T : Addr → Option TO} {D : WD} {n : Nat}
theorem outb {a : Addr} {S : List Nat} (hS : T a = some (.set (S.map fun c => [c]))) {t v : List Nat} {p l s e : Int} {r : List (Nat × PV)} (hp : p = v.length) (hl : (t ++ v).length < 1000) (hr : r.length < 800) :
    ∃ p', F_out_grouping_b T D n [.self, .top a] (At (t ++ v).reverse p l 0 s e r) = some (.bool (outOk S v), At (t ++ v).reverse p' l 0 s e r) ∧ (outOk S v = true → p' = p - 1) := by
  cases v with
  | nil => exact ⟨p, outb_nil (by simpa using hp), by simp [outOk]⟩
  | cons x v =>
    have h := outb_cons (T := T) (D := D) (n := n) hS (t := t) (v := v) (x := x) (p := p) (l := l) (s := s) (e := e) (r := r) (by simpa using hp) hl hr
    cases hc : S.contains x with
    | true => rw [hc] at h; exact ⟨p, by simp only [outOk, hc]; exact h, by simp [outOk]; intro h'; simp [h'] at hc⟩
    | false => rw [hc] at h; exact ⟨v.length, by simp only [outOk, hc]; exact h, by intro _; simp at hp; omega⟩
theorem undouble_ok (hT : TDs T D) (hn : 20 ≤ n) {u : List Nat} {s e p l : Int} {r : List (Nat × PV)} (ha : ∀ x ∈ u, x ∈ alpha) (hl : u.length < 1000) (hr : r.length < 800) (hp : p = u.length) (hll : l = u.length) :
    ∃ s' e', F_r_undouble T D n [.self] (At u.reverse p l 0 s e r) = some (.bool (undbl u).1, At (undbl u).2.reverse (undbl u).2.length (undbl u).2.length 0 s' e' r) := by
  subst hp hll
  have hf := find_b (D := D) (res := (sp L2 u).1) (len := (sp L2 u).2) hT.t2 hn (t := []) (u := u) (l := u.length) (s := s) (e := e) (r := r) hl hr (fab2 ha)
  rw [List.nil_append] at hf
  have hr' : r.length + 6 < 900 := by omega
  have q0 : binF .Sub (.int u.length) (.int u.length) = some (.int 0) := sub_ (by omega)
  have q1 : binF .Sub (.int u.length) (.int 0) = some (.int u.length) := sub_ (by omega)
  by_cases h : (sp L2 u).1 = 0
  · have hsp2 : (sp L2 u).2 = 0 := by
      rw [L2, sp] at h ⊢; split at h
      · simp at h
      · rw [sp] at h ⊢; split at h
        · simp at h
        · rw [sp] at h ⊢; split at h
          · simp at h
          · rename_i a b c; simp [a, b, c, sp]
    have e0 : undbl u = (false, u) := by unfold undbl; rw [if_pos h]
    have d1 : ((sp L2 u).1 == (0 : Int)) = true := by simp [h]
    rw [e0]
    refine ⟨s, e, ?_⟩
    refine runF_ret rfl (st := ⟨upd (startLoc [.self]) 1 (.int 0), At u.reverse u.length u.length 0 s e r⟩) ?_
    have e3 : ((u.length : Int) - (sp L2 u).2) = u.length := by rw [hsp2]; omega
    rw [e3] at hf
    push_cast [f_r_undouble, sl0, q0, hf, cfEq, cfNe, cfLt, cfLe, cfGt, cfGe, cfSe, cfSn, d1]
  · have e0 : undbl u = (true, u.tail) := by unfold undbl; rw [if_neg h]
    have d1 : ((sp L2 u).1 == (0 : Int)) = false := by simp [h]
    obtain ⟨x, w, rfl⟩ := sp2_two h
    rw [e0]
    have q2 : binF .Sub (.int (x :: w).length) (.int 1) = some (.int w.length) := sub_ (by push_cast)
    have d2 : decide (((x :: w).length : Int) ≤ 0) = false := decide_eq_false (by push_cast)
    have hd := del_rev (T := T) (D := D) (n := n) (c := (x :: w).reverse) (a := []) (m := [x]) (v := w) (p := w.length) (l := (x :: w).length) (b := 0) (s := w.length) (e := (x :: w).length) (r := r) rfl (by push_cast) rfl (by push_cast) (by push_cast) hr
    have hcu : curA w.length w.length (x :: w).length (-([x] : List Nat).length) = w.length := by
      unfold curA; rw [if_neg (by push_cast), if_neg (by omega)]
    rw [hcu] at hd
    refine ⟨w.length, w.length, ?_⟩
    refine runF_ret rfl (st := ⟨upd (startLoc [.self]) 1 (.int 0), At w.reverse w.length w.length 0 w.length w.length r⟩) ?_
    have hd' : F_slice_del T D n [.self] (At (x :: w).reverse w.length (x :: w).length 0 w.length (x :: w).length r) = some (.none, At w.reverse w.length w.length 0 w.length w.length r) := by
      rw [hd]; exact congrArg some (congrArg (Prod.mk _) (at_cong rfl rfl (by simp) rfl rfl rfl rfl))
    push_cast [f_r_undouble, sl0, q0, hf, cfEq, cfNe, cfLt, cfLe, cfGt, cfGe, cfSe, cfSn, d1, q1, d2, q2, hr', hd']
theorem en_ok (hT : TDs T D) (hn : 20 ≤ n) {t v : List Nat} {p l s e p1 : Int} {r : List (Nat × PV)} (ha : ∀ x ∈ v, x ∈ alpha) (hl : (t ++ v).length < 1000) (hr : r.length < 800) (h6 : r.lookup 6 = some (.int p1)) (hp : p = v.length) (hll : l = t.length + v.length) (hs : s = v.length) (he : e = t.length + v.length) (h : enOk p1 v = true) :
    ∃ s' e', F_r_en_ending T D n [.self] (At (t ++ v).reverse p l 0 s e r) = some (.bool (undbl v).1, At (undbl v).2.reverse (undbl v).2.length (undbl v).2.length 0 s' e' r) := by
  unfold enOk at h
  simp only [Bool.and_eq_true] at h
  obtain ⟨h1, h2, h3⟩ := h
  have h3 : isP [109, 101, 103] v = false := by simpa using h3
  have hlv : t.length + v.length < 1000 := by rw [List.length_append] at hl; exact hl
  obtain ⟨p', o1, o2⟩ := outb (T := T) (D := D) (n := n) (S := gv) hT.s6 (t := t) (v := v) (p := p) (l := l) (s := s) (e := e) (r := r) hp hl hr
  rw [h2] at o1
  have g1 := eqs (T := T) (D := D) (n := n) (z := [103, 101, 109]) (t := t) (v := v) (p := v.length) (l := l) (s := s) (e := e) (r := r) rfl hl (by simp) hr
  rw [show ([103, 101, 109] : List Nat).reverse = [109, 101, 103] from rfl, h3] at g1
  simp only [Bool.false_eq_true, if_false] at g1
  have hd := del_rev (T := T) (D := D) (n := n) (c := (t ++ v).reverse) (a := []) (m := t) (v := v) (p := v.length) (l := l) (b := 0) (s := s) (e := e) (r := r) rfl (by push_cast) hs he (by push_cast) hr
  have hcu : curA v.length s e (-t.length) = v.length := by
    unfold curA; rw [hs, he]; by_cases z : t.length = 0
    · rw [if_pos (by omega)]; omega
    · rw [if_neg (by omega), if_neg (by omega)]
  rw [hcu] at hd
  obtain ⟨s', e', u1⟩ := undouble_ok hT hn (u := v) (s := s) (e := v.length) (p := v.length) (l := ([] : List Nat).length + v.length) (r := r) ha (by omega) hr rfl (by simp)
  have q0 : binF .Sub (.int l) (.int p) = some (.int t.length) := sub_ (by omega)
  have q1 : binF .Sub (.int l) (.int t.length) = some (.int v.length) := sub_ (by omega)
  have hr' : r.length + 6 < 900 := by omega
  rw [List.nil_append] at hd
  have d1 : decide (p1 ≤ p) = true := by rw [hp]; exact h1
  refine ⟨s', e', ?_⟩
  refine runF_ret rfl (st := ⟨upd (startLoc [.self]) 1 (.int t.length), _⟩) ?_
  push_cast [f_r_en_ending, sl0, fR1 h6, d1, q0, o1, q1, g1, hd, u1, hr']
theorem en_no (hT : TDs T D) {t v : List Nat} {p l s e p1 : Int} {r : List (Nat × PV)} (hl : (t ++ v).length < 1000) (hr : r.length < 800) (h6 : r.lookup 6 = some (.int p1)) (hp : p = v.length) (hll : l = t.length + v.length) (h : enOk p1 v = false) :
    ∃ p', F_r_en_ending T D n [.self] (At (t ++ v).reverse p l 0 s e r) = some (.bool false, At (t ++ v).reverse p' l 0 s e r) := by
  have hlv : t.length + v.length < 1000 := by rw [List.length_append] at hl; exact hl
  have hr' : r.length + 6 < 900 := by omega
  have q0 : binF .Sub (.int l) (.int p) = some (.int t.length) := sub_ (by omega)
  have q1 : binF .Sub (.int l) (.int t.length) = some (.int v.length) := sub_ (by omega)
  by_cases h1 : p1 ≤ p
  · have d1 : decide (p1 ≤ p) = true := decide_eq_true h1
    obtain ⟨p', o1, o2⟩ := outb (T := T) (D := D) (n := n) (S := gv) hT.s6 (t := t) (v := v) (p := p) (l := l) (s := s) (e := e) (r := r) hp hl hr
    cases h2 : outOk gv v with
    | false =>
      rw [h2] at o1
      refine ⟨p', ?_⟩
      refine runF_ret rfl (st := ⟨upd (startLoc [.self]) 1 (.int t.length), _⟩) ?_
      push_cast [f_r_en_ending, sl0, fR1 h6, d1, q0, o1, q1, hr']
    | true =>
      rw [h2] at o1
      have h3 : isP [109, 101, 103] v = true := by
        unfold enOk at h
        rw [h2, show decide (p1 ≤ (v.length : Int)) = true from by rw [← hp]; exact d1] at h
        simpa using h
      have g1 := eqs (T := T) (D := D) (n := n) (z := [103, 101, 109]) (t := t) (v := v) (p := v.length) (l := l) (s := s) (e := e) (r := r) rfl hl (by simp) hr
      rw [show ([103, 101, 109] : List Nat).reverse = [109, 101, 103] from rfl, h3] at g1
      simp only [if_true] at g1
      refine ⟨(v.length : Int) - ([103, 101, 109] : List Nat).length, ?_⟩
      refine runF_ret rfl (st := ⟨upd (startLoc [.self]) 1 (.int t.length), _⟩) ?_
      push_cast [f_r_en_ending, sl0, fR1 h6, d1, q0, o1, q1, g1, hr']
  · have d1 : decide (p1 ≤ p) = false := decide_eq_false h1
    refine ⟨p, ?_⟩
    refine runF_ret rfl (st := ⟨startLoc [.self], _⟩) ?_
    push_cast [f_r_en_ending, sl0, fR1 h6, d1]
noncomputable def eOk (p1 : Int) : List Nat → Bool
  | [] => false
  | x :: v => decide (x = 101) && (decide (p1 ≤ v.length) && outOk gv v)
noncomputable abbrev Rr (p1 p2 : Int) (q : List (Nat × PV)) : List (Nat × PV) := (6, .int p1) :: (7, .int p2) :: q
noncomputable def Q8 (q : List (Nat × PV)) : Prop := q = [] ∨ ∃ b, q = [(8, .bool b)]
theorem Q8.put {q : List (Nat × PV)} (h : Q8 q) (p1 p2 : Int) (b : Bool) : putA 8 (.bool b) (Rr p1 p2 q) = Rr p1 p2 [(8, .bool b)] := by
  rcases h with rfl | ⟨b', rfl⟩ <;> rfl
theorem Q8.len {q : List (Nat × PV)} (h : Q8 q) : q.length ≤ 1 := by
  rcases h with rfl | ⟨b', rfl⟩ <;> simp
theorem e_ok (hT : TDs T D) (hn : 20 ≤ n) {u : List Nat} {s e p l p1 p2 : Int} {q : List (Nat × PV)} (hq : Q8 q) (ha : ∀ x ∈ u, x ∈ alpha) (hl : u.length < 1000) (hp : p = u.length) (hll : l = u.length) (h : eOk p1 u = true) :
    ∃ s' e', F_r_e_ending T D n [.self] (At u.reverse p l 0 s e (Rr p1 p2 q)) = some (.bool (undbl u.tail).1, At (undbl u.tail).2.reverse (undbl u.tail).2.length (undbl u.tail).2.length 0 s' e' (Rr p1 p2 [(8, .bool true)])) := by
  subst hp hll
  cases u with
  | nil => simp [eOk] at h
  | cons x v =>
  simp only [eOk, Bool.and_eq_true, decide_eq_true_eq] at h
  obtain ⟨rfl, h1, h2⟩ := h
  have hq' : Q8 [(8, .bool false)] := .inr ⟨false, rfl⟩
  have p8a := hq.put p1 p2 false
  have p8b := hq'.put p1 p2 true
  have hql := hq.len
  have hr' : (Rr p1 p2 q).length + 6 < 900 := by simp; omega
  have hr2 : (Rr p1 p2 [(8, .bool false)]).length + 6 < 900 := by simp
  have d0 : decide (((101 :: v).length : Int) ≤ 0) = false := decide_eq_false (by push_cast)
  have q0 : binF .Sub (.int (101 :: v).length) (.int 1) = some (.int v.length) := sub_ (by push_cast)
  have ix : idxF T (.str (101 :: v).reverse) (.int v.length) = some (.str [101]) := by
    refine idxS (by omega) ?_ (by rw [List.length_reverse]; exact hl)
    have := rev_get [] (101 :: v) 0 (by simp)
    simp at this
    simpa using this
  have ne : (([101] : List Nat) != [101]) = false := by decide
  have h6 : (Rr p1 p2 [(8, .bool false)]).lookup 6 = some (.int p1) := rfl
  have d1 : decide (p1 ≤ (v.length : Int)) = true := decide_eq_true h1
  obtain ⟨p', o1, o2⟩ := outb (T := T) (D := D) (n := n) (S := gv) hT.s6 (t := [101]) (v := v) (p := v.length) (l := (101 :: v).length) (s := v.length) (e := (101 :: v).length) (r := Rr p1 p2 [(8, .bool false)]) rfl hl (by simp)
  rw [h2] at o1
  have q2 : binF .Sub (.int (101 :: v).length) (.int v.length) = some (.int 1) := sub_ (by push_cast)
  have hd := del_rev (T := T) (D := D) (n := n) (c := (101 :: v).reverse) (a := []) (m := [101]) (v := v) (p := v.length) (l := (101 :: v).length) (b := 0) (s := v.length) (e := (101 :: v).length) (r := Rr p1 p2 [(8, .bool false)]) rfl (by push_cast) rfl (by push_cast) (by push_cast) (by simp)
  have hcu : curA v.length v.length (101 :: v).length (-([101] : List Nat).length) = v.length := by
    unfold curA; rw [if_neg (by push_cast), if_neg (by omega)]
  rw [hcu, List.nil_append] at hd
  obtain ⟨s', e', u1⟩ := undouble_ok hT hn (u := v) (s := v.length) (e := v.length) (p := v.length) (l := ([] : List Nat).length + v.length) (r := Rr p1 p2 [(8, .bool true)]) (fun x hx => ha x (.tail _ hx)) (by simp at hl; omega) (by simp) rfl (by simp)
  refine ⟨s', e', ?_⟩
  refine runF_ret rfl (st := ⟨upd (startLoc [.self]) 1 (.int 1), _⟩) ?_
  have o1' : F_out_grouping_b T D n [.self, .top (D.ta 6)] (At (101 :: v).reverse v.length (101 :: v).length 0 v.length (101 :: v).length (Rr p1 p2 [(8, .bool false)])) = some (.bool true, At (101 :: v).reverse p' (101 :: v).length 0 v.length (101 :: v).length (Rr p1 p2 [(8, .bool false)])) := o1
  push_cast [f_r_e_ending, sl0, pt8, p8a, p8b, hr', hr2, d0, q0, ix, ne, cfEq, cfNe, cfLt, cfLe, cfGt, cfGe, cfSe, cfSn, fR1 h6, d1, o1', q2, hd, u1, List.tail_cons]
theorem e_no (hT : TDs T D) {u : List Nat} {s e p l p1 p2 : Int} {q : List (Nat × PV)} (hq : Q8 q) (hl : u.length < 1000) (hp : p = u.length) (hll : l = u.length) (h : eOk p1 u = false) :
    ∃ p' s' e', F_r_e_ending T D n [.self] (At u.reverse p l 0 s e (Rr p1 p2 q)) = some (.bool false, At u.reverse p' l 0 s' e' (Rr p1 p2 [(8, .bool false)])) := by
  subst hp hll
  have hq' : Q8 [(8, .bool false)] := .inr ⟨false, rfl⟩
  have p8a := hq.put p1 p2 false
  have hql := hq.len
  have hr' : (Rr p1 p2 q).length + 6 < 900 := by simp; omega
  have hr2 : (Rr p1 p2 [(8, .bool false)]).length + 6 < 900 := by simp
  cases u with
  | nil =>
    have d0 : decide ((([] : List Nat).length : Int) ≤ 0) = true := by simp
    refine ⟨(([] : List Nat).length : Int), s, (([] : List Nat).length : Int), ?_⟩
    refine runF_ret rfl (st := ⟨startLoc [.self], At ([] : List Nat).reverse ([] : List Nat).length ([] : List Nat).length 0 s ([] : List Nat).length _⟩) ?_
    push_cast [f_r_e_ending, sl0, pt8, p8a, hr', hr2, d0, cfEq, cfNe, cfLt, cfLe, cfGt, cfGe, cfSe, cfSn]
  | cons x v =>
  have d0 : decide (((x :: v).length : Int) ≤ 0) = false := decide_eq_false (by push_cast)
  have q0 : binF .Sub (.int (x :: v).length) (.int 1) = some (.int v.length) := sub_ (by push_cast)
  have ix : idxF T (.str (x :: v).reverse) (.int v.length) = some (.str [x]) := by
    refine idxS (by omega) ?_ (by rw [List.length_reverse]; exact hl)
    have := rev_get [] (x :: v) 0 (by simp)
    simp at this
    simpa using this
  by_cases hx : x = 101
  · subst hx
    have ne : (([101] : List Nat) != [101]) = false := by decide
    have h6 : (Rr p1 p2 [(8, .bool false)]).lookup 6 = some (.int p1) := rfl
    by_cases h1 : p1 ≤ (v.length : Int)
    · have d1 : decide (p1 ≤ (v.length : Int)) = true := decide_eq_true h1
      have h2 : outOk gv v = false := by simpa [eOk, h1] using h
      obtain ⟨p', o1, o2⟩ := outb (T := T) (D := D) (n := n) (S := gv) hT.s6 (t := [101]) (v := v) (p := v.length) (l := (101 :: v).length) (s := v.length) (e := (101 :: v).length) (r := Rr p1 p2 [(8, .bool false)]) rfl hl (by simp)
      rw [h2] at o1
      have q2 : binF .Sub (.int (101 :: v).length) (.int v.length) = some (.int 1) := sub_ (by push_cast)
      have o1' : F_out_grouping_b T D n [.self, .top (D.ta 6)] (At (101 :: v).reverse v.length (101 :: v).length 0 v.length (101 :: v).length (Rr p1 p2 [(8, .bool false)])) = some (.bool false, At (101 :: v).reverse p' (101 :: v).length 0 v.length (101 :: v).length (Rr p1 p2 [(8, .bool false)])) := o1
      refine ⟨p', (v.length : Int), ((101 :: v).length : Int), ?_⟩
      refine runF_ret rfl (st := ⟨upd (startLoc [.self]) 1 (.int 1), At (101 :: v).reverse p' (101 :: v).length 0 v.length (101 :: v).length _⟩) ?_
      push_cast [f_r_e_ending, sl0, pt8, p8a, hr', hr2, d0, q0, ix, ne, cfEq, cfNe, cfLt, cfLe, cfGt, cfGe, cfSe, cfSn, fR1 h6, d1, o1', q2]
    · have d1 : decide (p1 ≤ (v.length : Int)) = false := decide_eq_false h1
      refine ⟨(v.length : Int), (v.length : Int), ((101 :: v).length : Int), ?_⟩
      refine runF_ret rfl (st := ⟨startLoc [.self], At (101 :: v).reverse v.length (101 :: v).length 0 v.length (101 :: v).length _⟩) ?_
      push_cast [f_r_e_ending, sl0, pt8, p8a, hr', hr2, d0, q0, ix, ne, cfEq, cfNe, cfLt, cfLe, cfGt, cfGe, cfSe, cfSn, fR1 h6, d1]
  · have ne : (([x] : List Nat) != [101]) = true := by simp [hx]
    refine ⟨((x :: v).length : Int), s, ((x :: v).length : Int), ?_⟩
    refine runF_ret rfl (st := ⟨startLoc [.self], At (x :: v).reverse (x :: v).length (x :: v).length 0 s (x :: v).length _⟩) ?_
    push_cast [f_r_e_ending, sl0, pt8, p8a, hr', hr2, d0, q0, ix, ne, cfEq, cfNe, cfLt, cfLe, cfGt, cfGe, cfSe, cfSn]
end
noncomputable def sfx1 (T : Addr → Option TO) (D : WD) (n : Nat) : St → Option (Fl × St) := (tryB 0 (seqB (asgA 5 (lo 0) (selfGet 1 (lo 0))) (seqB (asgN 2 (methE (F_find_among_b T D n) (lo 0) (consL (cT (D.ta 3)) nilL))) (seqB (ifB (cmpE T .Eq (lo 2) (cI 0)) (raiseB 0) skipB) (seqB (asgA 4 (lo 0) (selfGet 1 (lo 0))) (ifB (cmpE T .Eq (lo 2) (cI 1)) (seqB (ifB (notT (boolT (methE (F_r_R1 T D n) (lo 0) nilL))) (raiseB 0) skipB) (exprB (methE (F_slice_from T D n) (lo 0) (consL (cS [104, 101, 105, 100]) nilL)))) (ifB (cmpE T .Eq (lo 2) (cI 2)) (ifB (notT (boolT (methE (F_r_en_ending T D n) (lo 0) nilL))) (raiseB 0) skipB) (seqB (ifB (notT (boolT (methE (F_r_R1 T D n) (lo 0) nilL))) (raiseB 0) skipB) (seqB (ifB (notT (boolT (methE (F_out_grouping_b T D n) (lo 0) (consL (cT (D.ta 8)) nilL)))) (raiseB 0) skipB) (exprB (methE (F_slice_del T D n) (lo 0) nilL)))))))))))
noncomputable def sfx2 (T : Addr → Option TO) (D : WD) (n : Nat) : St → Option (Fl × St) := (tryB 0 (seqB (asgA 5 (lo 0) (selfGet 1 (lo 0))) (seqB (ifB (notT (boolT (methE (F_eq_s_b T D n) (lo 0) (consL (cS [104, 101, 105, 100]) nilL)))) (raiseB 0) skipB) (seqB (asgA 4 (lo 0) (selfGet 1 (lo 0))) (seqB (ifB (notT (boolT (methE (F_r_R2 T D n) (lo 0) nilL))) (raiseB 0) skipB) (seqB (tryB 1 (seqB (ifB (orT (cmpE T .LtE (selfGet 1 (lo 0)) (selfGet 3 (lo 0))) (cmpE T .NotEq (idxE T (selfGet 0 (lo 0)) (binE .Sub (selfGet 1 (lo 0)) (cI 1))) (cS [99]))) (raiseB 1) skipB) (seqB (augA .Sub 1 (lo 0) (cI 1)) (raiseB 0)))) (seqB (exprB (methE (F_slice_del T D n) (lo 0) nilL)) (seqB (asgA 5 (lo 0) (selfGet 1 (lo 0))) (seqB (ifB (notT (boolT (methE (F_eq_s_b T D n) (lo 0) (consL (cS [101, 110]) nilL)))) (raiseB 0) skipB) (seqB (asgA 4 (lo 0) (selfGet 1 (lo 0))) (ifB (notT (boolT (methE (F_r_en_ending T D n) (lo 0) nilL))) (raiseB 0) skipB)))))))))))
noncomputable def ch3 (T : Addr → Option TO) (D : WD) (n : Nat) : St → Option (Fl × St) := (ifB (cmpE T .Eq (lo 2) (cI 1)) (seqB (ifB (notT (boolT (methE (F_r_R2 T D n) (lo 0) nilL))) (raiseB 0) skipB) (seqB (exprB (methE (F_slice_del T D n) (lo 0) nilL)) (whileB (boolT (cB true)) (seqB (asgN 6 (binE .Sub (selfGet 2 (lo 0)) (selfGet 1 (lo 0)))) (seqB (tryB 1 (seqB (asgA 5 (lo 0) (selfGet 1 (lo 0))) (seqB (ifB (notT (boolT (methE (F_eq_s_b T D n) (lo 0) (consL (cS [105, 103]) nilL)))) (raiseB 1) skipB) (seqB (asgA 4 (lo 0) (selfGet 1 (lo 0))) (seqB (ifB (notT (boolT (methE (F_r_R2 T D n) (lo 0) nilL))) (raiseB 1) skipB) (seqB (tryB 2 (seqB (ifB (orT (cmpE T .LtE (selfGet 1 (lo 0)) (selfGet 3 (lo 0))) (cmpE T .NotEq (idxE T (selfGet 0 (lo 0)) (binE .Sub (selfGet 1 (lo 0)) (cI 1))) (cS [101]))) (raiseB 2) skipB) (seqB (augA .Sub 1 (lo 0) (cI 1)) (raiseB 1)))) (seqB (exprB (methE (F_slice_del T D n) (lo 0) nilL)) (fun st => some (.brk, st))))))))) (seqB (asgA 1 (lo 0) (binE .Sub (selfGet 2 (lo 0)) (lo 6))) (seqB (ifB (notT (boolT (methE (F_r_undouble T D n) (lo 0) nilL))) (raiseB 0) skipB) (fun st => some (.brk, st)))))) n))) (ifB (cmpE T .Eq (lo 2) (cI 2)) (seqB (ifB (notT (boolT (methE (F_r_R2 T D n) (lo 0) nilL))) (raiseB 0) skipB) (seqB (tryB 1 (seqB (ifB (orT (cmpE T .LtE (selfGet 1 (lo 0)) (selfGet 3 (lo 0))) (cmpE T .NotEq (idxE T (selfGet 0 (lo 0)) (binE .Sub (selfGet 1 (lo 0)) (cI 1))) (cS [101]))) (raiseB 1) skipB) (seqB (augA .Sub 1 (lo 0) (cI 1)) (raiseB 0)))) (exprB (methE (F_slice_del T D n) (lo 0) nilL)))) (ifB (cmpE T .Eq (lo 2) (cI 3)) (seqB (ifB (notT (boolT (methE (F_r_R2 T D n) (lo 0) nilL))) (raiseB 0) skipB) (seqB (exprB (methE (F_slice_del T D n) (lo 0) nilL)) (ifB (notT (boolT (methE (F_r_e_ending T D n) (lo 0) nilL))) (raiseB 0) skipB))) (ifB (cmpE T .Eq (lo 2) (cI 4)) (seqB (ifB (notT (boolT (methE (F_r_R2 T D n) (lo 0) nilL))) (raiseB 0) skipB) (exprB (methE (F_slice_del T D n) (lo 0) nilL))) (seqB (ifB (notT (boolT (methE (F_r_R2 T D n) (lo 0) nilL))) (raiseB 0) skipB) (seqB (ifB (notT (boolT (selfGet 8 (lo 0)))) (raiseB 0) skipB) (exprB (methE (F_slice_del T D n) (lo 0) nilL))))))))
noncomputable def sfx3 (T : Addr → Option TO) (D : WD) (n : Nat) : St → Option (Fl × St) := (tryB 0 (seqB (asgA 5 (lo 0) (selfGet 1 (lo 0))) (seqB (asgN 2 (methE (F_find_among_b T D n) (lo 0) (consL (cT (D.ta 4)) nilL))) (seqB (ifB (cmpE T .Eq (lo 2) (cI 0)) (raiseB 0) skipB) (seqB (asgA 4 (lo 0) (selfGet 1 (lo 0))) (ch3 T D n))))))
noncomputable def sfx4 (T : Addr → Option TO) (D : WD) (n : Nat) : St → Option (Fl × St) := (tryB 0 (seqB (ifB (notT (boolT (methE (F_out_grouping_b T D n) (lo 0) (consL (cT (D.ta 7)) nilL)))) (raiseB 0) skipB) (seqB (asgN 8 (binE .Sub (selfGet 2 (lo 0)) (selfGet 1 (lo 0)))) (seqB (ifB (cmpE T .Eq (methE (F_find_among_b T D n) (lo 0) (consL (cT (D.ta 5)) nilL)) (cI 0)) (raiseB 0) skipB) (seqB (ifB (notT (boolT (methE (F_out_grouping_b T D n) (lo 0) (consL (cT (D.ta 6)) nilL)))) (raiseB 0) skipB) (seqB (asgA 1 (lo 0) (binE .Sub (selfGet 2 (lo 0)) (lo 8))) (seqB (asgA 5 (lo 0) (selfGet 1 (lo 0))) (seqB (ifB (cmpE T .LtE (selfGet 1 (lo 0)) (selfGet 3 (lo 0))) (raiseB 0) skipB) (seqB (augA .Sub 1 (lo 0) (cI 1)) (seqB (asgA 4 (lo 0) (selfGet 1 (lo 0))) (exprB (methE (F_slice_del T D n) (lo 0) nilL))))))))))))
noncomputable def st1 (p1 : Int) (u : List Nat) : List Nat :=
  if (sp L3 u).1 = 0 then u
  else if (sp L3 u).1 = 1 then (if p1 ≤ (u.drop (sp L3 u).2).length then [100, 105, 101, 104] ++ u.drop (sp L3 u).2 else u)
  else if (sp L3 u).1 = 2 then (if enOk p1 (u.drop (sp L3 u).2) then (undbl (u.drop (sp L3 u).2)).2 else u)
  else if p1 ≤ (u.drop (sp L3 u).2).length then (if outOk gvj (u.drop (sp L3 u).2) then u.drop (sp L3 u).2 else u) else u
section
variable {T : Addr → Option TO} {D : WD} {n : Nat}
theorem sfx1_ok (hT : TDs T D) (hn : 20 ≤ n) {u : List Nat} (ha : ∀ x ∈ u, x ∈ alpha) (hl : u.length < 1000) {loc : Nat → Option PV} (h0 : loc 0 = some .self) {s e p1 p2 : Int} {q : List (Nat × PV)} (hq : Q8 q) :
    ∃ loc' p' s' e', sfx1 T D n ⟨loc, At u.reverse u.length u.length 0 s e (Rr p1 p2 q)⟩ = some (.next, ⟨loc', At (st1 p1 u).reverse p' (st1 p1 u).length 0 s' e' (Rr p1 p2 q)⟩) ∧ ∀ j, j ≠ 2 → loc' j = loc j := by
  have hql := hq.len
  have hr : (Rr p1 p2 q).length < 800 := by simp; omega
  have hr' : (Rr p1 p2 q).length + 6 < 900 := by simp; omega
  have h6 : (Rr p1 p2 q).lookup 6 = some (.int p1) := rfl
  have hf := find_b (D := D) (res := (sp L3 u).1) (len := (sp L3 u).2) hT.t3 hn (t := []) (u := u) (l := u.length) (s := s) (e := u.length) (r := Rr p1 p2 q) hl hr (fab3 ha)
  rw [List.nil_append] at hf
  have hk := sp_le L3 u
  have hv : ((u.length : Int) - (sp L3 u).2) = (u.drop (sp L3 u).2).length := by rw [List.length_drop]; omega
  rw [hv] at hf
  have hu : u = u.take (sp L3 u).2 ++ u.drop (sp L3 u).2 := (List.take_append_drop _ _).symm
  have htl : (u.take (sp L3 u).2).length + (u.drop (sp L3 u).2).length = u.length := by rw [← List.length_append, List.take_append_drop]
  have hav : ∀ x ∈ u.drop (sp L3 u).2, x ∈ alpha := fun x hx => ha x (List.drop_subset _ _ hx)
  unfold st1
  generalize hres : (sp L3 u).1 = res at hf ⊢
  generalize hvv : u.drop (sp L3 u).2 = v at hf hu htl hav ⊢
  generalize u.take (sp L3 u).2 = t at hu htl
  clear hres hvv hv hk
  subst hu
  have hur : (t ++ v).reverse = (t ++ v).reverse := rfl
  by_cases c0 : res = 0
  · have d0 : (res == (0 : Int)) = true := by simp [c0]
    rw [if_pos c0]
    refine ⟨upd loc 2 (.int res), ?_⟩
    apply Exists.intro
    apply Exists.intro
    apply Exists.intro
    refine And.intro ?_ (fun j hj => upd_ne hj)
    push_cast [sfx1, h0, hf, hr', cfEq, cfNe, cfLt, cfLe, cfGt, cfGe, cfSe, cfSn, d0]
    try rfl
  have d0 : (res == (0 : Int)) = false := by simp [c0]
  rw [if_neg c0]
  by_cases c1 : res = 1
  · have d1 : (res == (1 : Int)) = true := by simp [c1]
    rw [if_pos c1]
    by_cases g : p1 ≤ (v.length : Int)
    · have dg : decide (p1 ≤ (v.length : Int)) = true := decide_eq_true g
      rw [if_pos g]
      have hs := slice_rev (T := T) (D := D) (n := n) (c := (t ++ v).reverse) (a := []) (m := t) (v := v) (z := [104, 101, 105, 100]) (p := v.length) (l := (t ++ v).length) (b := 0) (s := v.length) (e := (t ++ v).length) (r := Rr p1 p2 q) rfl (by push_cast) rfl (by push_cast) (by push_cast) (by simp) hr
      refine ⟨upd loc 2 (.int res), ?_⟩
      apply Exists.intro
      apply Exists.intro
      apply Exists.intro
      refine And.intro ?_ (fun j hj => upd_ne hj)
      push_cast [sfx1, h0, hf, hr', cfEq, cfNe, cfLt, cfLe, cfGt, cfGe, cfSe, cfSn, d0, d1, fR1 h6, dg, hs]
      exact congrArg some (congrArg (Prod.mk _) (congrArg (St.mk _) (at_cong rfl rfl (by simp; omega) rfl rfl rfl rfl)))
    · have dg : decide (p1 ≤ (v.length : Int)) = false := decide_eq_false g
      rw [if_neg g]
      refine ⟨upd loc 2 (.int res), ?_⟩
      apply Exists.intro
      apply Exists.intro
      apply Exists.intro
      refine And.intro ?_ (fun j hj => upd_ne hj)
      push_cast [sfx1, h0, hf, hr', cfEq, cfNe, cfLt, cfLe, cfGt, cfGe, cfSe, cfSn, d0, d1, fR1 h6, dg]
      try rfl
  have d1 : (res == (1 : Int)) = false := by simp [c1]
  rw [if_neg c1]
  by_cases c2 : res = 2
  · have d2 : (res == (2 : Int)) = true := by simp [c2]
    rw [if_pos c2]
    cases g : enOk p1 v with
    | true =>
      obtain ⟨s', e', en⟩ := en_ok hT hn (t := t) (v := v) (p := v.length) (l := (t ++ v).length) (s := v.length) (e := (t ++ v).length) (r := Rr p1 p2 q) hav hl hr h6 rfl (by push_cast) rfl (by push_cast) g
      refine ⟨upd loc 2 (.int res), (undbl v).2.length, s', e', ?_, fun j hj => upd_ne hj⟩
      cases hz : (undbl v).1 <;> rw [hz] at en <;> push_cast [sfx1, h0, hf, hr', cfEq, cfNe, cfLt, cfLe, cfGt, cfGe, cfSe, cfSn, d0, d1, d2, en]
    | false =>
      obtain ⟨p', en⟩ := en_no (n := n) hT (t := t) (v := v) (p := v.length) (l := (t ++ v).length) (s := v.length) (e := (t ++ v).length) (r := Rr p1 p2 q) hl hr h6 rfl (by push_cast) g
      refine ⟨upd loc 2 (.int res), ?_⟩
      apply Exists.intro
      apply Exists.intro
      apply Exists.intro
      refine And.intro ?_ (fun j hj => upd_ne hj)
      push_cast [sfx1, h0, hf, hr', cfEq, cfNe, cfLt, cfLe, cfGt, cfGe, cfSe, cfSn, d0, d1, d2, en]
      try rfl
  have d2 : (res == (2 : Int)) = false := by simp [c2]
  rw [if_neg c2]
  by_cases g : p1 ≤ (v.length : Int)
  · have dg : decide (p1 ≤ (v.length : Int)) = true := decide_eq_true g
    rw [if_pos g]
    obtain ⟨p', o1, o2⟩ := outb (T := T) (D := D) (n := n) (S := gvj) hT.s8 (t := t) (v := v) (p := v.length) (l := (t ++ v).length) (s := v.length) (e := (t ++ v).length) (r := Rr p1 p2 q) rfl hl hr
    cases g2 : outOk gvj v with
    | true =>
      rw [g2] at o1
      have hd := del_rev (T := T) (D := D) (n := n) (c := (t ++ v).reverse) (a := []) (m := t) (v := v) (p := p') (l := (t ++ v).length) (b := 0) (s := v.length) (e := (t ++ v).length) (r := Rr p1 p2 q) rfl (by push_cast) rfl (by push_cast) (by push_cast) hr
      refine ⟨upd loc 2 (.int res), ?_⟩
      apply Exists.intro
      apply Exists.intro
      apply Exists.intro
      refine And.intro ?_ (fun j hj => upd_ne hj)
      push_cast [sfx1, h0, hf, hr', cfEq, cfNe, cfLt, cfLe, cfGt, cfGe, cfSe, cfSn, d0, d1, d2, fR1 h6, dg, o1, hd]
      exact congrArg some (congrArg (Prod.mk _) (congrArg (St.mk _) (at_cong rfl rfl (by simp) rfl rfl rfl rfl)))
    | false =>
      rw [g2] at o1
      refine ⟨upd loc 2 (.int res), ?_⟩
      apply Exists.intro
      apply Exists.intro
      apply Exists.intro
      refine And.intro ?_ (fun j hj => upd_ne hj)
      push_cast [sfx1, h0, hf, hr', cfEq, cfNe, cfLt, cfLe, cfGt, cfGe, cfSe, cfSn, d0, d1, d2, fR1 h6, dg, o1]
      try rfl
  · have dg : decide (p1 ≤ (v.length : Int)) = false := decide_eq_false g
    rw [if_neg g]
    refine ⟨upd loc 2 (.int res), ?_⟩
    apply Exists.intro
    apply Exists.intro
    apply Exists.intro
    refine And.intro ?_ (fun j hj => upd_ne hj)
    push_cast [sfx1, h0, hf, hr', cfEq, cfNe, cfLt, cfLe, cfGt, cfGe, cfSe, cfSn, d0, d1, d2, fR1 h6, dg]
    try rfl
end
noncomputable def hdIs (c : Nat) : List Nat → Bool
  | [] => false
  | x :: _ => decide (x = c)
noncomputable def st3 (p1 p2 : Int) (u : List Nat) : List Nat :=
  if isP [100, 105, 101, 104] u then (if p2 ≤ (u.drop 4).length then (if hdIs 99 (u.drop 4) then u else if isP [110, 101] (u.drop 4) then (if enOk p1 (u.drop 6) then (undbl (u.drop 6)).2 else u.drop 4) else u.drop 4) else u) else u
section
variable {T : Addr → Option TO} {D : WD} {n : Nat}
noncomputable def hdT (T : Addr → Option TO) (c : Nat) : St → Option (Bool × St) := orT (cmpE T .LtE (selfGet 1 (lo 0)) (selfGet 3 (lo 0))) (cmpE T .NotEq (idxE T (selfGet 0 (lo 0)) (binE .Sub (selfGet 1 (lo 0)) (cI 1))) (cS [c]))
theorem hdT_ok {c : Nat} {t v : List Nat} {loc : Nat → Option PV} (h0 : loc 0 = some .self) {l s e : Int} {r : List (Nat × PV)} (hl : (t ++ v).length < 1000) :
    hdT T c ⟨loc, At (t ++ v).reverse v.length l 0 s e r⟩ = some (!hdIs c v, ⟨loc, At (t ++ v).reverse v.length l 0 s e r⟩) := by
  cases v with
  | nil =>
    have d0 : decide ((([] : List Nat).length : Int) ≤ 0) = true := by simp
    push_cast [hdT, h0, cfEq, cfNe, cfLt, cfLe, cfGt, cfGe, cfSe, cfSn, d0, hdIs]
  | cons x v =>
    have d0 : decide (((x :: v).length : Int) ≤ 0) = false := decide_eq_false (by push_cast)
    have q0 : binF .Sub (.int (x :: v).length) (.int 1) = some (.int v.length) := sub_ (by push_cast)
    have ix : idxF T (.str (t ++ x :: v).reverse) (.int v.length) = some (.str [x]) := by
      refine idxS (by omega) ?_ (by rw [List.length_reverse]; exact hl)
      have := rev_get t (x :: v) 0 (by simp)
      simpa using this
    have ne : (([x] : List Nat) != [c]) = !hdIs c (x :: v) := by
      unfold hdIs; rw [Bool.eq_iff_iff]; simp
    push_cast [hdT, h0, cfEq, cfNe, cfLt, cfLe, cfGt, cfGe, cfSe, cfSn, d0, q0, ix, ne]
theorem sfx2_ok (hT : TDs T D) (hn : 20 ≤ n) {u : List Nat} (ha : ∀ x ∈ u, x ∈ alpha) (hl : u.length < 1000) {loc : Nat → Option PV} (h0 : loc 0 = some .self) {s e p1 p2 : Int} {q : List (Nat × PV)} (hq : Q8 q) :
    ∃ p' s' e', sfx2 T D n ⟨loc, At u.reverse u.length u.length 0 s e (Rr p1 p2 q)⟩ = some (.next, ⟨loc, At (st3 p1 p2 u).reverse p' (st3 p1 p2 u).length 0 s' e' (Rr p1 p2 q)⟩) := by
  have hql := hq.len
  have hr : (Rr p1 p2 q).length < 800 := by simp; omega
  have hr' : (Rr p1 p2 q).length + 6 < 900 := by simp; omega
  have h6 : (Rr p1 p2 q).lookup 6 = some (.int p1) := rfl
  have h7 : (Rr p1 p2 q).lookup 7 = some (.int p2) := rfl
  have g1 := eqs (T := T) (D := D) (n := n) (z := [104, 101, 105, 100]) (t := []) (v := u) (p := u.length) (l := u.length) (s := s) (e := u.length) (r := Rr p1 p2 q) rfl hl (by simp) hr
  rw [List.nil_append, show ([104, 101, 105, 100] : List Nat).reverse = [100, 105, 101, 104] from rfl] at g1
  unfold st3
  have unf : sfx2 T D n = (tryB 0 (seqB (asgA 5 (lo 0) (selfGet 1 (lo 0))) (seqB (ifB (notT (boolT (methE (F_eq_s_b T D n) (lo 0) (consL (cS [104, 101, 105, 100]) nilL)))) (raiseB 0) skipB) (seqB (asgA 4 (lo 0) (selfGet 1 (lo 0))) (seqB (ifB (notT (boolT (methE (F_r_R2 T D n) (lo 0) nilL))) (raiseB 0) skipB) (seqB (tryB 1 (seqB (ifB (hdT T 99) (raiseB 1) skipB) (seqB (augA .Sub 1 (lo 0) (cI 1)) (raiseB 0)))) (seqB (exprB (methE (F_slice_del T D n) (lo 0) nilL)) (seqB (asgA 5 (lo 0) (selfGet 1 (lo 0))) (seqB (ifB (notT (boolT (methE (F_eq_s_b T D n) (lo 0) (consL (cS [101, 110]) nilL)))) (raiseB 0) skipB) (seqB (asgA 4 (lo 0) (selfGet 1 (lo 0))) (ifB (notT (boolT (methE (F_r_en_ending T D n) (lo 0) nilL))) (raiseB 0) skipB))))))))))) := rfl
  rw [unf]
  cases c1 : isP [100, 105, 101, 104] u with
  | false =>
    rw [c1] at g1
    simp only [Bool.false_eq_true, if_false] at g1 ⊢
    apply Exists.intro
    apply Exists.intro
    apply Exists.intro
    push_cast [h0, g1, hr']
    try rfl
  | true =>
    rw [c1] at g1
    simp only [if_true] at g1 ⊢
    obtain ⟨v, rfl⟩ := isP_iff.mp c1
    have hdrop : List.drop 4 ([100, 105, 101, 104] ++ v) = v := rfl
    have hdrop6 : List.drop 6 ([100, 105, 101, 104] ++ v) = v.drop 2 := rfl
    rw [hdrop, hdrop6]
    have ep : ((([100, 105, 101, 104] ++ v).length : Nat) : Int) - (([104, 101, 105, 100] : List Nat).length : Nat) = v.length := (by push_cast)
    rw [ep] at g1
    have hlv : v.length < 996 := by simp only [List.length_append, List.length_cons, List.length_nil] at hl; omega
    generalize ht : ([100, 105, 101, 104] : List Nat) = t at *
    have htl : t.length = 4 := by rw [← ht]; rfl
    by_cases c2 : p2 ≤ (v.length : Int)
    · have d2 : decide (p2 ≤ (v.length : Int)) = true := decide_eq_true c2
      rw [if_pos c2]
      have hT1 := fun (s e : Int) => hdT_ok (T := T) (c := 99) (t := t) (v := v) (l := (t ++ v).length) (s := s) (e := e) (r := Rr p1 p2 q) h0 hl
      cases c3 : hdIs 99 v with
      | true =>
        rw [c3] at hT1
        have q0 : binF .Sub (.int v.length) (.int 1) = some (.int ((v.length : Int) - 1)) := rfl
        simp only [if_true]
        apply Exists.intro
        apply Exists.intro
        apply Exists.intro
        push_cast [h0, g1, hr', fR2 h7, d2, hT1, q0]
        try rfl
      | false =>
        rw [c3] at hT1
        simp only [Bool.false_eq_true, if_false]
        have hd := del_rev (T := T) (D := D) (n := n) (c := (t ++ v).reverse) (a := []) (m := t) (v := v) (p := v.length) (l := (t ++ v).length) (b := 0) (s := v.length) (e := (t ++ v).length) (r := Rr p1 p2 q) rfl (by push_cast) rfl (by push_cast) (by push_cast) hr
        have hcu : curA v.length v.length (t ++ v).length (-(t.length : Int)) = v.length := by
          unfold curA; rw [if_neg (by push_cast), if_neg (by omega)]
        rw [hcu, List.nil_append] at hd
        have hd' : F_slice_del T D n [.self] (At (t ++ v).reverse v.length (t ++ v).length 0 v.length (t ++ v).length (Rr p1 p2 q)) = some (.none, At v.reverse v.length v.length 0 v.length v.length (Rr p1 p2 q)) := by
          rw [hd]; exact congrArg some (congrArg (Prod.mk _) (at_cong rfl rfl (by simp) rfl rfl rfl rfl))
        have g2 := eqs (T := T) (D := D) (n := n) (z := [101, 110]) (t := []) (v := v) (p := v.length) (l := v.length) (s := v.length) (e := v.length) (r := Rr p1 p2 q) rfl (by simp; omega) (by simp) hr
        rw [List.nil_append, show ([101, 110] : List Nat).reverse = [110, 101] from rfl] at g2
        cases c4 : isP [110, 101] v with
        | false =>
          rw [c4] at g2
          simp only [Bool.false_eq_true, if_false] at g2 ⊢
          apply Exists.intro
          apply Exists.intro
          apply Exists.intro
          push_cast [h0, g1, hr', fR2 h7, d2, hT1, hd', g2]
          try rfl
        | true =>
          rw [c4] at g2
          simp only [if_true] at g2 ⊢
          obtain ⟨w, rfl⟩ := isP_iff.mp c4
          have hdw : List.drop 2 ([110, 101] ++ w) = w := rfl
          rw [hdw]
          have ep2 : ((([110, 101] ++ w).length : Nat) : Int) - (([101, 110] : List Nat).length : Nat) = w.length := (by push_cast)
          rw [ep2] at g2
          have haw : ∀ x ∈ w, x ∈ alpha := fun x hx => ha x (List.mem_append_right _ (List.mem_append_right _ hx))
          have hlw : ([110, 101] ++ w).length < 1000 := by omega
          cases c5 : enOk p1 w with
          | true =>
            obtain ⟨s', e', en⟩ := en_ok hT hn (t := [110, 101]) (v := w) (p := w.length) (l := ([110, 101] ++ w).length) (s := w.length) (e := ([110, 101] ++ w).length) (r := Rr p1 p2 q) haw hlw hr h6 rfl (by push_cast) rfl (by push_cast) c5
            refine ⟨(undbl w).2.length, s', e', ?_⟩
            simp only [if_true]
            cases hz : (undbl w).1 <;> rw [hz] at en <;> push_cast [h0, g1, hr', fR2 h7, d2, hT1, hd', g2, en]
          | false =>
            obtain ⟨p', en⟩ := en_no (n := n) hT (t := [110, 101]) (v := w) (p := w.length) (l := ([110, 101] ++ w).length) (s := w.length) (e := ([110, 101] ++ w).length) (r := Rr p1 p2 q) hlw hr h6 rfl (by push_cast) c5
            refine ⟨p', w.length, ([110, 101] ++ w).length, ?_⟩
            simp only [Bool.false_eq_true, if_false]
            push_cast [h0, g1, hr', fR2 h7, d2, hT1, hd', g2, en]
    · have d2 : decide (p2 ≤ (v.length : Int)) = false := decide_eq_false c2
      rw [if_neg c2]
      apply Exists.intro
      apply Exists.intro
      apply Exists.intro
      push_cast [h0, g1, hr', fR2 h7, d2]
      try rfl
end
noncomputable def st4a (p2 : Int) (v : List Nat) : List Nat := if isP [103, 105] v then (if p2 ≤ (v.drop 2).length then (if hdIs 101 (v.drop 2) then (undbl v).2 else v.drop 2) else (undbl v).2) else (undbl v).2
noncomputable def st4 (p1 p2 : Int) (ef : Bool) (u : List Nat) : List Nat :=
  if (sp L4 u).1 = 0 then u
  else if p2 ≤ (u.drop (sp L4 u).2).length then
    (if (sp L4 u).1 = 1 then st4a p2 (u.drop (sp L4 u).2)
    else if (sp L4 u).1 = 2 then (if hdIs 101 (u.drop (sp L4 u).2) then u else u.drop (sp L4 u).2)
    else if (sp L4 u).1 = 3 then (if eOk p1 (u.drop (sp L4 u).2) then (undbl (u.drop (sp L4 u).2).tail).2 else u.drop (sp L4 u).2)
    else if (sp L4 u).1 = 4 then u.drop (sp L4 u).2
    else if ef then u.drop (sp L4 u).2 else u)
  else u
section
variable {T : Addr → Option TO} {D : WD} {n : Nat}
noncomputable def w3 (T : Addr → Option TO) (D : WD) (n : Nat) : St → Option (Fl × St) := (seqB (asgN 6 (binE .Sub (selfGet 2 (lo 0)) (selfGet 1 (lo 0)))) (seqB (tryB 1 (seqB (asgA 5 (lo 0) (selfGet 1 (lo 0))) (seqB (ifB (notT (boolT (methE (F_eq_s_b T D n) (lo 0) (consL (cS [105, 103]) nilL)))) (raiseB 1) skipB) (seqB (asgA 4 (lo 0) (selfGet 1 (lo 0))) (seqB (ifB (notT (boolT (methE (F_r_R2 T D n) (lo 0) nilL))) (raiseB 1) skipB) (seqB (tryB 2 (seqB (ifB (hdT T 101) (raiseB 2) skipB) (seqB (augA .Sub 1 (lo 0) (cI 1)) (raiseB 1)))) (seqB (exprB (methE (F_slice_del T D n) (lo 0) nilL)) (fun st => some (.brk, st))))))))) (seqB (asgA 1 (lo 0) (binE .Sub (selfGet 2 (lo 0)) (lo 6))) (seqB (ifB (notT (boolT (methE (F_r_undouble T D n) (lo 0) nilL))) (raiseB 0) skipB) (fun st => some (.brk, st))))))
theorem w3_ok (hT : TDs T D) (hn : 20 ≤ n) {v : List Nat} (ha : ∀ x ∈ v, x ∈ alpha) (hl : v.length < 1000) {loc : Nat → Option PV} (h0 : loc 0 = some .self) {s e p1 p2 : Int} {q : List (Nat × PV)} (hq : Q8 q) :
    ∃ fl p' s' e', w3 T D n ⟨loc, At v.reverse v.length v.length 0 s e (Rr p1 p2 q)⟩ = some (fl, ⟨upd loc 6 (.int 0), At (st4a p2 v).reverse p' (st4a p2 v).length 0 s' e' (Rr p1 p2 q)⟩) ∧ (fl = .brk ∨ fl = .exc 0) := by
  obtain ⟨loc, rfl⟩ := self0 h0
  have hql := hq.len
  have hr : (Rr p1 p2 q).length < 800 := by simp; omega
  have hr' : (Rr p1 p2 q).length + 6 < 900 := by simp; omega
  have h6 : (Rr p1 p2 q).lookup 6 = some (.int p1) := rfl
  have h7 : (Rr p1 p2 q).lookup 7 = some (.int p2) := rfl
  have q0 : binF .Sub (.int v.length) (.int v.length) = some (.int 0) := sub_ (by omega)
  have q1 : binF .Sub (.int v.length) (.int 0) = some (.int v.length) := sub_ (by omega)
  have h0' : upd (upd loc 0 .self) 6 (.int 0) 0 = some .self := by simp [upd, h0]
  have g1 := eqs (T := T) (D := D) (n := n) (z := [105, 103]) (t := []) (v := v) (p := v.length) (l := v.length) (s := s) (e := v.length) (r := Rr p1 p2 q) rfl hl (by simp) hr
  rw [List.nil_append, show ([105, 103] : List Nat).reverse = [103, 105] from rfl] at g1
  have und := fun (s : Int) => undouble_ok (T := T) (D := D) hT hn (u := v) (s := s) (e := v.length) (p := v.length) (l := v.length) (r := Rr p1 p2 q) ha hl hr rfl rfl
  unfold st4a
  cases c1 : isP [103, 105] v with
  | false =>
    rw [c1] at g1
    simp only [Bool.false_eq_true, if_false] at g1 ⊢
    obtain ⟨s', e', u1⟩ := und s
    refine ⟨if (undbl v).1 then .brk else .exc 0, (undbl v).2.length, s', e', ?_, by cases (undbl v).1 <;> simp⟩
    cases hz : (undbl v).1 <;> rw [hz] at u1 <;> push_cast [w3, g1, hr', q0, q1, u1]
  | true =>
    rw [c1] at g1
    simp only [if_true] at g1 ⊢
    obtain ⟨w, rfl⟩ := isP_iff.mp c1
    have hdw : List.drop 2 ([103, 105] ++ w) = w := rfl
    rw [hdw]
    have ep : ((([103, 105] ++ w).length : Nat) : Int) - (([105, 103] : List Nat).length : Nat) = w.length := (by push_cast)
    rw [ep] at g1
    by_cases c2 : p2 ≤ (w.length : Int)
    · have d2 : decide (p2 ≤ (w.length : Int)) = true := decide_eq_true c2
      rw [if_pos c2]
      have hT1 := hdT_ok (T := T) (c := 101) (t := [103, 105]) (v := w) (l := ([103, 105] ++ w).length) (s := w.length) (e := ([103, 105] ++ w).length) (r := Rr p1 p2 q) h0' hl
      cases c3 : hdIs 101 w with
      | true =>
        rw [c3] at hT1
        have q2 : binF .Sub (.int w.length) (.int 1) = some (.int ((w.length : Int) - 1)) := rfl
        obtain ⟨s', e', u1⟩ := und w.length
        refine ⟨if (undbl ([103, 105] ++ w)).1 then .brk else .exc 0, (undbl ([103, 105] ++ w)).2.length, s', e', ?_, by cases (undbl ([103, 105] ++ w)).1 <;> simp⟩
        simp only [if_true]
        cases hz : (undbl ([103, 105] ++ w)).1 <;> rw [hz] at u1 <;> push_cast [w3, g1, hr', q0, q1, u1, fR2 h7, d2, hT1, q2, show ((1 : Fin 4) = 2) = False from by decide]
      | false =>
        rw [c3] at hT1
        simp only [Bool.false_eq_true, if_false]
        have hd := del_rev (T := T) (D := D) (n := n) (c := ([103, 105] ++ w).reverse) (a := []) (m := [103, 105]) (v := w) (p := w.length) (l := ([103, 105] ++ w).length) (b := 0) (s := w.length) (e := ([103, 105] ++ w).length) (r := Rr p1 p2 q) rfl (by push_cast) rfl (by push_cast) (by push_cast) hr
        rw [List.nil_append] at hd
        have hd' : F_slice_del T D n [.self] (At ([103, 105] ++ w).reverse w.length ([103, 105] ++ w).length 0 w.length ([103, 105] ++ w).length (Rr p1 p2 q)) = some (.none, At w.reverse (curA w.length w.length ([103, 105] ++ w).length (-([103, 105] : List Nat).length)) w.length 0 w.length w.length (Rr p1 p2 q)) := by
          rw [hd]; exact congrArg some (congrArg (Prod.mk _) (at_cong rfl rfl (by simp) rfl rfl rfl rfl))
        refine ⟨.brk, curA w.length w.length ([103, 105] ++ w).length (-([103, 105] : List Nat).length), w.length, w.length, ?_, .inl rfl⟩
        push_cast [w3, g1, hr', q0, q1, fR2 h7, d2, hT1, hd']
    · have d2 : decide (p2 ≤ (w.length : Int)) = false := decide_eq_false c2
      rw [if_neg c2]
      obtain ⟨s', e', u1⟩ := und w.length
      refine ⟨if (undbl ([103, 105] ++ w)).1 then .brk else .exc 0, (undbl ([103, 105] ++ w)).2.length, s', e', ?_, by cases (undbl ([103, 105] ++ w)).1 <;> simp⟩
      cases hz : (undbl ([103, 105] ++ w)).1 <;> rw [hz] at u1 <;> push_cast [w3, g1, hr', q0, q1, u1, fR2 h7, d2]
theorem ch5 {T : Addr → Option TO} {R : St → Option (Bool × St)} {X1 X2 X3 X4 X5 : St → Option (Fl × St)} {L : Nat → Option PV} {A : List (Nat × PV)} {res : Int} {g : Bool} (hc : ∀ (k : Int) (A : List (Nat × PV)), (cmpE T .Eq (lo 2) (cI k)) ⟨L, A⟩ = some (res == k, ⟨L, A⟩)) (hR : R ⟨L, A⟩ = some (g, ⟨L, A⟩)) :
    ifB (cmpE T .Eq (lo 2) (cI 1)) (seqB (ifB R (raiseB 0) skipB) X1) (ifB (cmpE T .Eq (lo 2) (cI 2)) (seqB (ifB R (raiseB 0) skipB) X2) (ifB (cmpE T .Eq (lo 2) (cI 3)) (seqB (ifB R (raiseB 0) skipB) X3) (ifB (cmpE T .Eq (lo 2) (cI 4)) (seqB (ifB R (raiseB 0) skipB) X4) (seqB (ifB R (raiseB 0) skipB) X5)))) ⟨L, A⟩ =
    cond g (some (.exc 0, ⟨L, A⟩)) (cond (res == 1) (X1 ⟨L, A⟩) (cond (res == 2) (X2 ⟨L, A⟩) (cond (res == 3) (X3 ⟨L, A⟩) (cond (res == 4) (X4 ⟨L, A⟩) (X5 ⟨L, A⟩))))) := by
  rw [ifB_c (hc 1 A), ifB_c (hc 2 A), ifB_c (hc 3 A), ifB_c (hc 4 A), seqB_r hR, seqB_r hR, seqB_r hR, seqB_r hR, seqB_r hR]
  cases g
  · rfl
  · cases res == 1 <;> cases res == 2 <;> cases res == 3 <;> cases res == 4 <;> rfl
theorem sfx3_ok (hT : TDs T D) (hn : 20 ≤ n) {u : List Nat} (ha : ∀ x ∈ u, x ∈ alpha) (hl : u.length < 1000) {loc : Nat → Option PV} (h0 : loc 0 = some .self) {s e p1 p2 : Int} {ef : Bool} :
    ∃ loc' p' s' e' q', sfx3 T D n ⟨loc, At u.reverse u.length u.length 0 s e (Rr p1 p2 [(8, .bool ef)])⟩ = some (.next, ⟨loc', At (st4 p1 p2 ef u).reverse p' (st4 p1 p2 ef u).length 0 s' e' (Rr p1 p2 q')⟩) ∧ Q8 q' ∧ (∀ j, j ≠ 2 → j ≠ 6 → loc' j = loc j) := by
  obtain ⟨loc, rfl⟩ := self0 h0
  have hq : Q8 [(8, .bool ef)] := .inr ⟨ef, rfl⟩
  obtain ⟨n, rfl⟩ : ∃ m, n = m + 1 := ⟨n - 1, by omega⟩
  have hr : (Rr p1 p2 [(8, .bool ef)]).length < 800 := by simp
  have hr' : (Rr p1 p2 [(8, .bool ef)]).length + 6 < 900 := by simp
  have h6 : (Rr p1 p2 [(8, .bool ef)]).lookup 6 = some (.int p1) := rfl
  have h7 : (Rr p1 p2 [(8, .bool ef)]).lookup 7 = some (.int p2) := rfl
  have h8 : (Rr p1 p2 [(8, .bool ef)]).lookup 8 = some (.bool ef) := rfl
  have hf := find_b (D := D) (res := (sp L4 u).1) (len := (sp L4 u).2) hT.t4 hn (t := []) (u := u) (l := u.length) (s := s) (e := u.length) (r := Rr p1 p2 [(8, .bool ef)]) hl hr (fab4 ha)
  rw [List.nil_append] at hf
  have hk := sp_le L4 u
  have hv : ((u.length : Int) - (sp L4 u).2) = (u.drop (sp L4 u).2).length := by rw [List.length_drop]; omega
  rw [hv] at hf
  have hu : u = u.take (sp L4 u).2 ++ u.drop (sp L4 u).2 := (List.take_append_drop _ _).symm
  have htl : (u.take (sp L4 u).2).length + (u.drop (sp L4 u).2).length = u.length := by rw [← List.length_append, List.take_append_drop]
  have hav : ∀ x ∈ u.drop (sp L4 u).2, x ∈ alpha := fun x hx => ha x (List.drop_subset _ _ hx)
  unfold st4
  generalize hres : (sp L4 u).1 = res at hf ⊢
  generalize hvv : u.drop (sp L4 u).2 = v at hf hu htl hav ⊢
  generalize u.take (sp L4 u).2 = t at hu htl
  clear hres hvv hv hk
  subst hu
  have hlv : v.length < 1000 := by rw [List.length_append] at hl; omega
  let L : Nat → Option PV := upd (upd loc 0 .self) 2 (.int res)
  have hA : ∀ X, seqB (asgA 5 (lo 0) (selfGet 1 (lo 0))) (seqB (asgN 2 (methE (F_find_among_b T D (n + 1)) (lo 0) (consL (cT (D.ta 4)) nilL))) X) ⟨upd loc 0 .self, At (t ++ v).reverse (t ++ v).length (t ++ v).length 0 s e (Rr p1 p2 [(8, .bool ef)])⟩ = X ⟨L, At (t ++ v).reverse v.length (t ++ v).length 0 s (t ++ v).length (Rr p1 p2 [(8, .bool ef)])⟩ := fun X => by
    push_cast [hf, hr']
    rfl
  have h4 : ∀ X, seqB (asgA 4 (lo 0) (selfGet 1 (lo 0))) X ⟨L, At (t ++ v).reverse v.length (t ++ v).length 0 s (t ++ v).length (Rr p1 p2 [(8, .bool ef)])⟩ = X ⟨L, At (t ++ v).reverse v.length (t ++ v).length 0 v.length (t ++ v).length (Rr p1 p2 [(8, .bool ef)])⟩ := fun X => by
    have h0 : L 0 = some .self := rfl
    push_cast [h0, hr']
  have hc : ∀ (k : Int) (A : List (Nat × PV)), (cmpE T .Eq (lo 2) (cI k)) ⟨L, A⟩ = some (res == k, ⟨L, A⟩) := fun _ _ => rfl
  have fr : ∀ j, j ≠ 2 → j ≠ 6 → L j = upd loc 0 .self j := fun j hj _ => upd_ne hj
  by_cases c0 : res = 0
  · rw [if_pos c0]
    have d0 : (res == (0 : Int)) = true := by simp [c0]
    exact ⟨L, v.length, s, (t ++ v).length, _, tryB_e ((hA _).trans ((seqB_r (hc 0 _)).trans (by rw [d0]; rfl))), hq, fr⟩
  have d0 : (res == (0 : Int)) = false := by simp [c0]
  rw [if_neg c0]
  have pre : ∀ x, ch3 T D (n + 1) ⟨L, At (t ++ v).reverse v.length (t ++ v).length 0 v.length (t ++ v).length (Rr p1 p2 [(8, .bool ef)])⟩ = x → (seqB (asgA 5 (lo 0) (selfGet 1 (lo 0))) (seqB (asgN 2 (methE (F_find_among_b T D (n + 1)) (lo 0) (consL (cT (D.ta 4)) nilL))) (seqB (ifB (cmpE T .Eq (lo 2) (cI 0)) (raiseB 0) skipB) (seqB (asgA 4 (lo 0) (selfGet 1 (lo 0))) (ch3 T D (n + 1)))))) ⟨upd loc 0 .self, At (t ++ v).reverse (t ++ v).length (t ++ v).length 0 s e (Rr p1 p2 [(8, .bool ef)])⟩ = x := fun x hx => (hA _).trans ((seqB_r (hc 0 _)).trans (by rw [d0]; exact (h4 _).trans hx))
  have hR : (notT (boolT (methE (F_r_R2 T D (n + 1)) (lo 0) nilL))) ⟨L, At (t ++ v).reverse v.length (t ++ v).length 0 v.length (t ++ v).length (Rr p1 p2 [(8, .bool ef)])⟩ = some (!decide (p2 ≤ (v.length : Int)), ⟨L, At (t ++ v).reverse v.length (t ++ v).length 0 v.length (t ++ v).length (Rr p1 p2 [(8, .bool ef)])⟩) := by
    have h0 : L 0 = some .self := rfl
    push_cast [h0, fR2 h7]
  have hd := del_rev (T := T) (D := D) (n := n + 1) (c := (t ++ v).reverse) (a := []) (m := t) (v := v) (p := v.length) (l := (t ++ v).length) (b := 0) (s := v.length) (e := (t ++ v).length) (r := Rr p1 p2 [(8, .bool ef)]) rfl (by push_cast) rfl (by push_cast) (by push_cast) hr
  have hcu : curA v.length v.length (t ++ v).length (-(t.length : Int)) = v.length := by
    unfold curA
    by_cases z : t.length = 0
    · rw [if_pos (by push_cast)]; omega
    · rw [if_neg (by push_cast), if_neg (by omega)]
  rw [hcu, List.nil_append] at hd
  have hd' : F_slice_del T D (n + 1) [.self] (At (t ++ v).reverse v.length (t ++ v).length 0 v.length (t ++ v).length (Rr p1 p2 [(8, .bool ef)])) = some (.none, At v.reverse v.length v.length 0 v.length v.length (Rr p1 p2 [(8, .bool ef)])) := by
    rw [hd]; exact congrArg some (congrArg (Prod.mk _) (at_cong rfl rfl (by simp) rfl rfl rfl rfl))
  have hD : exprB (methE (F_slice_del T D (n + 1)) (lo 0) nilL) ⟨L, At (t ++ v).reverse v.length (t ++ v).length 0 v.length (t ++ v).length (Rr p1 p2 [(8, .bool ef)])⟩ = some (.next, ⟨L, At v.reverse v.length v.length 0 v.length v.length (Rr p1 p2 [(8, .bool ef)])⟩) := by
    have h0 : L 0 = some .self := rfl
    push_cast [h0, hd']
  have h0 : L 0 = some .self := rfl
  cases dg : decide (p2 ≤ (v.length : Int)) with
  | false =>
    rw [if_neg (of_decide_eq_false dg)]
    rw [dg] at hR
    exact ⟨L, v.length, v.length, (t ++ v).length, _, tryB_e (pre _ ((ch5 hc hR).trans rfl)), hq, fr⟩
  | true =>
    rw [if_pos (of_decide_eq_true dg)]
    rw [dg] at hR
    have k0 : ch3 T D (n + 1) ⟨L, At (t ++ v).reverse v.length (t ++ v).length 0 v.length (t ++ v).length (Rr p1 p2 [(8, .bool ef)])⟩ = _ := ch5 hc hR
    by_cases c1 : res = 1
    · have d1 : (res == (1 : Int)) = true := by simp [c1]
      rw [if_pos c1]
      obtain ⟨fl, p', s', e', w, hfl⟩ := w3_ok (T := T) (D := D) hT hn (v := v) hav hlv (loc := L) h0 (s := v.length) (e := v.length) (p1 := p1) (p2 := p2) hq
      have k := k0
      rw [d1] at k
      refine ⟨upd L 6 (.int 0), p', s', e', _, ?_, hq, fun j a b => by simp [upd, L, a, b]⟩
      rcases hfl with rfl | rfl
      · exact tryB_n (pre _ (k.trans ((seqB_eq hD).trans (wh_k rfl w))))
      · exact tryB_e (pre _ (k.trans ((seqB_eq hD).trans (wh_x rfl w))))
    have d1 : (res == (1 : Int)) = false := by simp [c1]
    rw [if_neg c1]
    by_cases c2 : res = 2
    · have d2 : (res == (2 : Int)) = true := by simp [c2]
      rw [if_pos c2]
      have k := k0
      rw [d1, d2] at k
      have hT1 := hdT_ok (T := T) (c := 101) (t := t) (v := v) (loc := L) (l := (t ++ v).length) (s := v.length) (e := (t ++ v).length) (r := Rr p1 p2 [(8, .bool ef)]) h0 hl
      have q0 : binF .Sub (.int v.length) (.int 1) = some (.int ((v.length : Int) - 1)) := rfl
      cases c3 : hdIs 101 v with
      | true =>
        rw [c3] at hT1
        have z : seqB (augA .Sub 1 (lo 0) (cI 1)) (raiseB 0) ⟨L, At (t ++ v).reverse v.length (t ++ v).length 0 v.length (t ++ v).length (Rr p1 p2 [(8, .bool ef)])⟩ = some (.exc 0, ⟨L, At (t ++ v).reverse ((v.length : Int) - 1) (t ++ v).length 0 v.length (t ++ v).length (Rr p1 p2 [(8, .bool ef)])⟩) := by
          push_cast [h0, hr', q0]
        exact ⟨L, (v.length : Int) - 1, v.length, (t ++ v).length, _, tryB_e (pre _ (k.trans (seqB_x (tryB_p ((seqB_r hT1).trans z) (by decide))))), hq, fr⟩
      | false =>
        rw [c3] at hT1
        exact ⟨L, v.length, v.length, v.length, _, tryB_n (pre _ (k.trans ((seqB_eq (tryB_e (seqB_r hT1))).trans hD))), hq, fr⟩
    have d2 : (res == (2 : Int)) = false := by simp [c2]
    rw [if_neg c2]
    by_cases c3 : res = 3
    · have d3 : (res == (3 : Int)) = true := by simp [c3]
      rw [if_pos c3]
      have k := k0
      rw [d1, d2, d3] at k
      have k := k.trans (seqB_eq hD)
      cases c4 : eOk p1 v with
      | true =>
        obtain ⟨s', e', u1⟩ := e_ok (T := T) (D := D) (n := n + 1) (p2 := p2) (s := v.length) (e := v.length) (p := v.length) (l := v.length) hT hn hq hav hlv rfl rfl c4
        have z : (notT (boolT (methE (F_r_e_ending T D (n + 1)) (lo 0) nilL))) ⟨L, At v.reverse v.length v.length 0 v.length v.length (Rr p1 p2 [(8, .bool ef)])⟩ = some (!(undbl v.tail).1, ⟨L, At (undbl v.tail).2.reverse (undbl v.tail).2.length (undbl v.tail).2.length 0 s' e' (Rr p1 p2 [(8, .bool true)])⟩) := by
          push_cast [h0, u1]
        refine ⟨L, (undbl v.tail).2.length, s', e', _, ?_, .inr ⟨true, rfl⟩, fr⟩
        have z := (ifB_c (a := raiseB 0) (b := skipB) z)
        cases hz : (undbl v.tail).1 <;> rw [hz] at z
        · exact tryB_e (pre _ (k.trans z))
        · exact tryB_n (pre _ (k.trans z))
      | false =>
        obtain ⟨p', s', e', u1⟩ := e_no (T := T) (D := D) (n := n + 1) (p2 := p2) (s := v.length) (e := v.length) (p := v.length) (l := v.length) hT hq hlv rfl rfl c4
        refine ⟨L, p', s', e', _, tryB_e (pre _ (k.trans ?_)), .inr ⟨false, rfl⟩, fr⟩
        push_cast [h0, u1]
    have d3 : (res == (3 : Int)) = false := by simp [c3]
    rw [if_neg c3]
    by_cases c4 : res = 4
    · have d4 : (res == (4 : Int)) = true := by simp [c4]
      rw [if_pos c4]
      have k := k0
      rw [d1, d2, d3, d4] at k
      exact ⟨L, v.length, v.length, v.length, _, tryB_n (pre _ (k.trans hD)), hq, fr⟩
    have d4 : (res == (4 : Int)) = false := by simp [c4]
    rw [if_neg c4]
    have k := k0
    rw [d1, d2, d3, d4] at k
    have h9 : (notT (boolT (selfGet 8 (lo 0)))) ⟨L, At (t ++ v).reverse v.length (t ++ v).length 0 v.length (t ++ v).length (Rr p1 p2 [(8, .bool ef)])⟩ = some (!ef, ⟨L, At (t ++ v).reverse v.length (t ++ v).length 0 v.length (t ++ v).length (Rr p1 p2 [(8, .bool ef)])⟩) := by
      push_cast [h0, lk8, h8]
    have k := k.trans (seqB_r h9)
    cases ef with
    | true => exact ⟨L, v.length, v.length, v.length, _, tryB_n (pre _ (k.trans hD)), hq, fr⟩
    | false => exact ⟨L, v.length, v.length, (t ++ v).length, _, tryB_e (pre _ k), hq, fr⟩
end
noncomputable def st5 : List Nat → List Nat
  | [] => []
  | x :: w => if gvI.contains x then x :: w else if (sp L5 w).1 = 0 then x :: w else if outOk gv (w.drop (sp L5 w).2) then x :: w.tail else x :: w
theorem st5_cons (x : Nat) (w : List Nat) : st5 (x :: w) = if gvI.contains x then x :: w else if (sp L5 w).1 = 0 then x :: w else if outOk gv (w.drop (sp L5 w).2) then x :: w.tail else x :: w := rfl
noncomputable def ste (p1 : Int) (u : List Nat) : List Nat := if eOk p1 u then (undbl u.tail).2 else u
noncomputable def suffix (p1 p2 : Int) (u : List Nat) : List Nat := st5 (st4 p1 p2 (eOk p1 (st1 p1 u)) (st3 p1 p2 (ste p1 (st1 p1 u))))
theorem st1_mem {p1 : Int} {u : List Nat} (ha : ∀ x ∈ u, x ∈ alpha) : ∀ x ∈ st1 p1 u, x ∈ alpha := by
  intro x hx
  have hd : ∀ k, x ∈ u.drop k → x ∈ alpha := fun k h => ha x (List.drop_subset _ _ h)
  unfold st1 at hx
  repeat' split at hx
  all_goals first
    | exact ha x hx
    | exact hd _ hx
    | exact hd _ (undbl_mem hx)
    | (rcases List.mem_append.mp hx with h | h
       · exact (by decide : ∀ y ∈ ([100, 105, 101, 104] : List Nat), y ∈ alpha) x h
       · exact hd _ h)
theorem ste_mem {p1 : Int} {u : List Nat} (ha : ∀ x ∈ u, x ∈ alpha) : ∀ x ∈ ste p1 u, x ∈ alpha := by
  intro x hx
  unfold ste at hx
  split at hx
  · exact ha x (List.mem_of_mem_tail (undbl_mem hx))
  · exact ha x hx
theorem st3_mem {p1 p2 : Int} {u : List Nat} (ha : ∀ x ∈ u, x ∈ alpha) : ∀ x ∈ st3 p1 p2 u, x ∈ alpha := by
  intro x hx
  have hd : ∀ k, x ∈ u.drop k → x ∈ alpha := fun k h => ha x (List.drop_subset _ _ h)
  unfold st3 at hx
  repeat' split at hx
  all_goals first
    | exact ha x hx
    | exact hd _ hx
    | exact hd _ (undbl_mem hx)
theorem st4_mem {p1 p2 : Int} {ef : Bool} {u : List Nat} (ha : ∀ x ∈ u, x ∈ alpha) : ∀ x ∈ st4 p1 p2 ef u, x ∈ alpha := by
  intro x hx
  have hd : ∀ k, x ∈ u.drop k → x ∈ alpha := fun k h => ha x (List.drop_subset _ _ h)
  have hd2 : ∀ k j, x ∈ (u.drop k).drop j → x ∈ alpha := fun k j h => hd k (List.drop_subset _ _ h)
  unfold st4 st4a at hx
  repeat' split at hx
  all_goals first
    | exact ha x hx
    | exact hd _ hx
    | exact hd2 _ _ hx
    | exact hd _ (undbl_mem hx)
    | exact hd _ (List.mem_of_mem_tail (undbl_mem hx))
theorem st1_len (p1 : Int) (u : List Nat) : (st1 p1 u).length ≤ u.length + 4 := by
  have hd : ∀ k, (u.drop k).length ≤ u.length := fun k => by rw [List.length_drop]; omega
  have h1 := hd (sp L3 u).2
  have h2 := undbl_len (u.drop (sp L3 u).2)
  unfold st1
  repeat' split
  all_goals (try rw [List.length_append]); (try simp only [List.length_cons, List.length_nil]); omega
theorem ste_len (p1 : Int) (u : List Nat) : (ste p1 u).length ≤ u.length := by
  have h2 := undbl_len u.tail
  rw [List.length_tail] at h2
  unfold ste
  split <;> omega
theorem st3_len (p1 p2 : Int) (u : List Nat) : (st3 p1 p2 u).length ≤ u.length := by
  have h1 : (u.drop 4).length ≤ u.length := by rw [List.length_drop]; omega
  have h3 : (u.drop 6).length ≤ u.length := by rw [List.length_drop]; omega
  have h2 := undbl_len (u.drop 6)
  unfold st3
  repeat' split
  all_goals omega
theorem st4_len (p1 p2 : Int) (ef : Bool) (u : List Nat) : (st4 p1 p2 ef u).length ≤ u.length := by
  have h1 : (u.drop (sp L4 u).2).length ≤ u.length := by rw [List.length_drop]; omega
  have h3 : ((u.drop (sp L4 u).2).drop 2).length ≤ (u.drop (sp L4 u).2).length := by rw [List.length_drop]; omega
  have h4 : ((u.drop (sp L4 u).2).tail).length ≤ (u.drop (sp L4 u).2).length := by rw [List.length_tail]; omega
  have h2 := undbl_len (u.drop (sp L4 u).2)
  have h5 := undbl_len (u.drop (sp L4 u).2).tail
  unfold st4 st4a
  repeat' split
  all_goals omega
section
variable {T : Addr → Option TO} {D : WD} {n : Nat}
theorem sp5_two {u : List Nat} (h : (sp L5 u).1 ≠ 0) : ∃ x w, u = x :: w := by
  cases u with
  | nil => exact absurd (by decide) h
  | cons x w => exact ⟨x, w, rfl⟩
theorem sfx4_ok (hT : TDs T D) (hn : 20 ≤ n) {u : List Nat} (ha : ∀ x ∈ u, x ∈ alpha) (hl : u.length < 1000) {loc : Nat → Option PV} (h0 : loc 0 = some .self) {s e p1 p2 : Int} {q : List (Nat × PV)} (hq : Q8 q) :
    ∃ loc' p' s' e', sfx4 T D n ⟨loc, At u.reverse u.length u.length 0 s e (Rr p1 p2 q)⟩ = some (.next, ⟨loc', At (st5 u).reverse p' (st5 u).length 0 s' e' (Rr p1 p2 q)⟩) ∧ (∀ j, j ≠ 8 → loc' j = loc j) := by
  have hql := hq.len
  have hr : (Rr p1 p2 q).length < 800 := by simp; omega
  have hr' : (Rr p1 p2 q).length + 6 < 900 := by simp; omega
  cases u with
  | nil =>
    have o1 := outb_nil (T := T) (D := D) (n := n) (a := D.ta 7) (c := ([] : List Nat).reverse) (p := ([] : List Nat).length) (l := ([] : List Nat).length) (s := s) (e := e) (r := Rr p1 p2 q) rfl
    refine ⟨loc, ([] : List Nat).length, s, e, ?_, fun _ _ => rfl⟩
    push_cast [sfx4, h0, o1]
    try rfl
  | cons x w =>
    have hlw : w.length < 999 := by simp only [List.length_cons] at hl; omega
    have haw : ∀ y ∈ w, y ∈ alpha := fun y hy => ha y (.tail _ hy)
    have o1 := outb_cons (T := T) (D := D) (n := n) (S := gvI) hT.s7 (t := []) (v := w) (x := x) (p := (x :: w).length) (l := (x :: w).length) (s := s) (e := e) (r := Rr p1 p2 q) (by simp) hl hr
    rw [List.nil_append] at o1
    rw [st5_cons]
    cases c1 : gvI.contains x with
    | true =>
      rw [c1] at o1
      simp only [if_true] at o1 ⊢
      refine ⟨loc, (x :: w).length, s, e, ?_, fun _ _ => rfl⟩
      push_cast [sfx4, h0, o1]
    | false =>
      rw [c1] at o1
      simp only [Bool.false_eq_true, if_false] at o1 ⊢
      have hf := find_b (D := D) (res := (sp L5 w).1) (len := (sp L5 w).2) hT.t5 hn (t := [x]) (u := w) (l := (x :: w).length) (s := s) (e := e) (r := Rr p1 p2 q) hl hr (fab5 haw)
      have hf' : F_find_among_b T D n [.self, .top (D.ta 5)] (At (x :: w).reverse w.length (x :: w).length 0 s e (Rr p1 p2 q)) = some (.int (sp L5 w).1, At (x :: w).reverse ((w.length : Int) - (sp L5 w).2) (x :: w).length 0 s e (Rr p1 p2 q)) := hf
      have q0 : binF .Sub (.int (x :: w).length) (.int w.length) = some (.int 1) := sub_ (by push_cast)
      have fr : ∀ j, j ≠ 8 → upd loc 8 (.int 1) j = loc j := fun j hj => upd_ne hj
      by_cases c2 : (sp L5 w).1 = 0
      · have d2 : ((sp L5 w).1 == (0 : Int)) = true := by simp [c2]
        rw [if_pos c2]
        refine ⟨upd loc 8 (.int 1), (w.length : Int) - (sp L5 w).2, s, e, ?_, fr⟩
        push_cast [sfx4, h0, o1, q0, hf', cfEq, cfNe, cfLt, cfLe, cfGt, cfGe, cfSe, cfSn, d2]
      · have d2 : ((sp L5 w).1 == (0 : Int)) = false := by simp [c2]
        rw [if_neg c2]
        obtain ⟨a, z, rfl⟩ := sp5_two c2
        have hk := sp_le L5 (a :: z)
        have hv : (((a :: z).length : Int) - (sp L5 (a :: z)).2) = ((a :: z).drop (sp L5 (a :: z)).2).length := by rw [List.length_drop]; omega
        rw [hv] at hf'
        obtain ⟨p', o2, o3⟩ := outb (T := T) (D := D) (n := n) (S := gv) hT.s6 (t := x :: (a :: z).take (sp L5 (a :: z)).2) (v := (a :: z).drop (sp L5 (a :: z)).2) (p := ((a :: z).drop (sp L5 (a :: z)).2).length) (l := (x :: a :: z).length) (s := s) (e := e) (r := Rr p1 p2 q) rfl (by rw [List.cons_append, List.take_append_drop]; exact hl) hr
        rw [List.cons_append, List.take_append_drop] at o2
        generalize (a :: z).drop (sp L5 (a :: z)).2 = v at o2 hf' ⊢
        cases c3 : outOk gv v with
        | false =>
          rw [c3] at o2
          simp only [Bool.false_eq_true, if_false]
          refine ⟨upd loc 8 (.int 1), p', s, e, ?_, fr⟩
          push_cast [sfx4, h0, o1, q0, hf', cfEq, cfNe, cfLt, cfLe, cfGt, cfGe, cfSe, cfSn, d2, o2]
        | true =>
          rw [c3] at o2
          simp only [if_true, List.tail_cons]
          have q1 : binF .Sub (.int (x :: a :: z).length) (.int 1) = some (.int (a :: z).length) := sub_ (by push_cast)
          have q2 : binF .Sub (.int (a :: z).length) (.int 1) = some (.int z.length) := sub_ (by push_cast)
          have d3 : decide (((a :: z).length : Int) ≤ 0) = false := decide_eq_false (by push_cast)
          have hd := del_rev (T := T) (D := D) (n := n) (c := (x :: a :: z).reverse) (a := [x]) (m := [a]) (v := z) (p := z.length) (l := (x :: a :: z).length) (b := 0) (s := z.length) (e := (a :: z).length) (r := Rr p1 p2 q) rfl (by push_cast) rfl (by push_cast) (by push_cast) hr
          refine ⟨upd loc 8 (.int 1), curA z.length z.length (a :: z).length (-([a] : List Nat).length), z.length, z.length, ?_, fr⟩
          push_cast [sfx4, h0, o1, q0, hf', cfEq, cfNe, cfLt, cfLe, cfGt, cfGe, cfSe, cfSn, d2, o2, q1, d3, q2, hr', hd]
          exact congrArg some (congrArg (Prod.mk _) (congrArg (St.mk _) (at_cong rfl rfl (by simp; omega) rfl rfl rfl rfl)))
theorem std_ok (hT : TDs T D) (hn : 20 ≤ n) {u : List Nat} (ha : ∀ x ∈ u, x ∈ alpha) (hl : u.length < 900) {s e p1 p2 : Int} {q : List (Nat × PV)} (hq : Q8 q) :
    ∃ p' s' e' q', F_r_standard_suffix T D n [.self] (At u.reverse u.length u.length 0 s e (Rr p1 p2 q)) = some (.bool true, At (suffix p1 p2 u).reverse p' (suffix p1 p2 u).length 0 s' e' (Rr p1 p2 q')) ∧ Q8 q' := by
  have fix0 : ∀ m : Nat, binF .Sub (.int m) (.int m) = some (.int 0) := fun m => sub_ (by omega)
  have fix1 : ∀ m : Nat, binF .Sub (.int m) (.int 0) = some (.int m) := fun m => sub_ (by omega)
  have hr' : ∀ q, Q8 q → (Rr p1 p2 q).length + 6 < 900 := fun q hq => by have := hq.len; simp; omega
  have m1 := st1_mem (p1 := p1) ha
  have l1 := st1_len p1 u
  have m2 := ste_mem (p1 := p1) m1
  have l2 := ste_len p1 (st1 p1 u)
  have m3 := st3_mem (p1 := p1) (p2 := p2) m2
  have l3 := st3_len p1 p2 (ste p1 (st1 p1 u))
  have m4 := st4_mem (p1 := p1) (p2 := p2) (ef := eOk p1 (st1 p1 u)) m3
  have l4 := st4_len p1 p2 (eOk p1 (st1 p1 u)) (st3 p1 p2 (ste p1 (st1 p1 u)))
  obtain ⟨lo1, pa, sa, ea, x1, f1⟩ := sfx1_ok (n := n) hT hn ha (by omega) (loc := upd (startLoc [.self]) 1 (.int 0)) (by simp [upd, sl0]) (s := s) (e := e) (p1 := p1) (p2 := p2) hq
  have g0 : lo1 0 = some .self := (f1 0 (by decide)).trans (by simp [upd, sl0])
  have g1 : lo1 1 = some (.int 0) := (f1 1 (by decide)).trans (by simp [upd])
  obtain ⟨b2, pb, sb, eb, x2⟩ : ∃ b pb sb eb, F_r_e_ending T D n [.self] (At (st1 p1 u).reverse (st1 p1 u).length (st1 p1 u).length 0 sa ea (Rr p1 p2 q)) = some (.bool b, At (ste p1 (st1 p1 u)).reverse pb (ste p1 (st1 p1 u)).length 0 sb eb (Rr p1 p2 [(8, .bool (eOk p1 (st1 p1 u)))])) := by
    unfold ste
    cases h : eOk p1 (st1 p1 u) with
    | true =>
      obtain ⟨s', e', z⟩ := e_ok (T := T) (D := D) (n := n) (p2 := p2) (s := sa) (e := ea) hT hn hq m1 (by omega) rfl rfl h
      exact ⟨_, _, s', e', z⟩
    | false =>
      obtain ⟨p', s', e', z⟩ := e_no (T := T) (D := D) (n := n) (p2 := p2) (s := sa) (e := ea) hT hq (by omega) rfl rfl h
      exact ⟨_, p', s', e', z⟩
  generalize hef : eOk p1 (st1 p1 u) = ef at x2 m4 l4
  have hq2 : Q8 [(8, .bool ef)] := .inr ⟨ef, rfl⟩
  obtain ⟨pc, sc, ec, x3⟩ := sfx2_ok (n := n) hT hn m2 (by omega) (loc := upd (upd lo1 3 (.int 0)) 4 (.int 0)) (by simp [upd, g0]) (s := sb) (e := eb) (p1 := p1) (p2 := p2) hq2
  obtain ⟨lo4, pd, sd, ed, q', x4, hq4, f4⟩ := sfx3_ok (n := n) hT hn m3 (by omega) (loc := upd (upd (upd lo1 3 (.int 0)) 4 (.int 0)) 5 (.int 0)) (by simp [upd, g0]) (s := sc) (e := ec) (p1 := p1) (p2 := p2) (ef := ef)
  have k0 : lo4 0 = some .self := (f4 0 (by decide) (by decide)).trans (by simp [upd, g0])
  have k5 : lo4 5 = some (.int 0) := (f4 5 (by decide) (by decide)).trans (by simp [upd])
  obtain ⟨lo5, pe, se, ee, x5, f5⟩ := sfx4_ok (n := n) hT hn m4 (by omega) (loc := upd lo4 7 (.int 0)) (by simp [upd, k0]) (s := sd) (e := ed) (p1 := p1) (p2 := p2) hq4
  have j0 : lo5 0 = some .self := (f5 0 (by decide)).trans (by simp [upd, k0])
  have j7 : lo5 7 = some (.int 0) := (f5 7 (by decide)).trans (by simp [upd])
  have esuf : suffix p1 p2 u = st5 (st4 p1 p2 ef (st3 p1 p2 (ste p1 (st1 p1 u)))) := by unfold suffix; rw [hef]
  refine ⟨(suffix p1 p2 u).length, se, ee, q', ?_, hq4⟩
  have unf : f_r_standard_suffix T D n = seqB (asgN 1 (binE .Sub (selfGet 2 (lo 0)) (selfGet 1 (lo 0)))) (seqB (sfx1 T D n) (seqB (asgA 1 (lo 0) (binE .Sub (selfGet 2 (lo 0)) (lo 1))) (seqB (asgN 3 (binE .Sub (selfGet 2 (lo 0)) (selfGet 1 (lo 0)))) (seqB (exprB (methE (F_r_e_ending T D n) (lo 0) nilL)) (seqB (asgA 1 (lo 0) (binE .Sub (selfGet 2 (lo 0)) (lo 3))) (seqB (asgN 4 (binE .Sub (selfGet 2 (lo 0)) (selfGet 1 (lo 0)))) (seqB (sfx2 T D n) (seqB (asgA 1 (lo 0) (binE .Sub (selfGet 2 (lo 0)) (lo 4))) (seqB (asgN 5 (binE .Sub (selfGet 2 (lo 0)) (selfGet 1 (lo 0)))) (seqB (sfx3 T D n) (seqB (asgA 1 (lo 0) (binE .Sub (selfGet 2 (lo 0)) (lo 5))) (seqB (asgN 7 (binE .Sub (selfGet 2 (lo 0)) (selfGet 1 (lo 0)))) (seqB (sfx4 T D n) (seqB (asgA 1 (lo 0) (binE .Sub (selfGet 2 (lo 0)) (lo 7))) (retB (cB true)))))))))))))))) := rfl
  rw [esuf]
  refine runF_ret rfl (st := ⟨lo5, _⟩) ?_
  rw [unf]
  push_cast [sl0, fix0, fix1, x1, g0, g1, hr' q hq, x2, hr' _ hq2, x3, x4, k0, k5, hr' _ hq4, x5, j0, j7]
end
noncomputable def scan (P : Nat → Bool) : List Nat → Option Nat
  | [] => none
  | x :: y => if P x then some 0 else (scan P y).map (· + 1)
theorem scan_c {P : Nat → Bool} {x : Nat} {y : List Nat} : scan P (x :: y) = if P x then some 0 else (scan P y).map (· + 1) := rfl
theorem scan_lt {P : Nat → Bool} : ∀ {y : List Nat} {k : Nat}, scan P y = some k → k < y.length
  | [], k, h => nos h
  | x :: y, k, h => by
    rw [scan_c] at h
    by_cases e : P x
    · rw [if_pos e] at h; cases h; exact Nat.succ_pos _
    · rw [if_neg e] at h
      obtain ⟨j, hj, rfl⟩ := Option.map_eq_some_iff.mp h
      exact Nat.succ_lt_succ (scan_lt hj)
section
variable {T : Addr → Option TO} {D : WD} {n : Nat}
noncomputable def goB (T : Addr → Option TO) (op : CmpOp) : St → Option (Fl × St) := (seqB (ifB (cmpE T op (idxE T (selfGet 0 (lo 0)) (selfGet 1 (lo 0))) (lo 1)) (retB (cB true)) skipB) (augA .Add 1 (lo 0) (cI 1)))
theorem go_loop {a : Addr} {S : List Nat} (hS : T a = some (.set (S.map fun c => [c]))) (op : CmpOp) (neg : Bool) (hop : op = if neg then .NotIn else .In) {loc : Nat → Option PV} (h0 : loc 0 = some .self) (h1 : loc 1 = some (.top a)) {b s e l : Int} {r : List (Nat × PV)} (hr : r.length < 800) :
    ∀ (y x : List Nat) (n : Nat), y.length < n → x.length + y.length < 1000 → l = x.length + y.length →
    whileB (cmpE T .Lt (selfGet 1 (lo 0)) (selfGet 2 (lo 0))) (goB T op) n ⟨loc, At (x ++ y) x.length l b s e r⟩ =
      match scan (fun z => S.contains z != neg) y with
      | some k => some (.ret (.bool true), ⟨loc, At (x ++ y) ((x.length : Int) + k) l b s e r⟩)
      | none => some (.next, ⟨loc, At (x ++ y) l l b s e r⟩)
  | [], x, n, hn, hl, hll => by
    obtain ⟨m, rfl⟩ : ∃ m, n = m + 1 := ⟨n - 1, by omega⟩
    have d1 : decide ((x.length : Int) < l) = false := decide_eq_false (by push_cast)
    rw [whileB]
    push_cast [h0, cfEq, cfNe, cfLt, cfLe, cfGt, cfGe, cfSe, cfSn, d1, scan]
    exact congrArg some (congrArg (Prod.mk _) (congrArg (St.mk _) (at_cong rfl (by push_cast) rfl rfl rfl rfl rfl)))
  | z :: y, x, n, hn, hl, hll => by
    obtain ⟨m, rfl⟩ : ∃ m, n = m + 1 := ⟨n - 1, by omega⟩
    have d1 : decide ((x.length : Int) < l) = true := decide_eq_true (by push_cast)
    have ix : idxF T (.str (x ++ z :: y)) (.int x.length) = some (.str [z]) := by
      refine idxS (by omega) ?_ (by simp; simp at hl; omega)
      simp
    have q0 : binF .Add (.int x.length) (.int 1) = some (.int (x ++ [z]).length) := add_ (by simp)
    have hr' : r.length + 6 < 900 := by omega
    rw [scan_c]
    have cf : cmpF T op (.str [z]) (.top a) = some (S.contains z != neg) := by
      subst hop
      cases neg <;> simp only [if_true, Bool.false_eq_true, if_false, cfTi hS, cfTn hS, cont1] <;> cases S.contains z <;> rfl
    have lt : cmpF T .Lt (.int x.length) (.int l) = some true := by show some (decide _) = _; rw [d1]
    have tst : cmpE T .Lt (selfGet 1 (lo 0)) (selfGet 2 (lo 0)) ⟨loc, At (x ++ z :: y) x.length l b s e r⟩ = some (true, ⟨loc, At (x ++ z :: y) x.length l b s e r⟩) := by
      push_cast [h0, lt]
    cases hc : (S.contains z != neg) with
    | true =>
      rw [hc] at cf
      have body : goB T op ⟨loc, At (x ++ z :: y) x.length l b s e r⟩ = some (.ret (.bool true), ⟨loc, At (x ++ z :: y) x.length l b s e r⟩) := by
        push_cast [goB, h0, h1, ix, cf]
      rw [whileB]
      rw [tst]
      simp only [body, if_true]
      exact congrArg some (congrArg (Prod.mk _) (congrArg (St.mk _) (at_cong rfl (by omega) rfl rfl rfl rfl rfl)))
    | false =>
      rw [hc] at cf
      have body : goB T op ⟨loc, At (x ++ z :: y) x.length l b s e r⟩ = some (.next, ⟨loc, At (x ++ z :: y) (x ++ [z]).length l b s e r⟩) := by
        push_cast [goB, h0, h1, ix, cf, q0, hr']
      have ih := go_loop hS op neg hop h0 h1 (b := b) (s := s) (e := e) (l := l) hr y (x ++ [z]) m (by simp only [List.length_cons] at hn; omega) (by push_cast) (by push_cast)
      rw [List.append_assoc, List.singleton_append] at ih
      rw [whileB]
      rw [tst]
      simp only [body, Bool.false_eq_true, if_false]
      rw [ih]
      cases hs : scan (fun z => S.contains z != neg) y with
      | none => rfl
      | some k =>
        simp only [Option.map_some]
        exact congrArg some (congrArg (Prod.mk _) (congrArg (St.mk _) (at_cong rfl (by push_cast) rfl rfl rfl rfl rfl)))
noncomputable def isVw (z : Nat) : Bool := gv.contains z
theorem gout {a : Addr} (hS : T a = some (.set (gv.map fun c => [c]))) {x y : List Nat} {b s e p l : Int} {r : List (Nat × PV)} (hr : r.length < 800) (hn : y.length < n) (hl : x.length + y.length < 1000) (hp : p = x.length) (hll : l = x.length + y.length) :
    F_go_out_grouping T D n [.self, .top a] (At (x ++ y) p l b s e r) =
      match scan isVw y with
      | some k => some (.bool true, At (x ++ y) ((x.length : Int) + k) l b s e r)
      | none => some (.bool false, At (x ++ y) l l b s e r) := by
  subst hp
  have h := go_loop hS .In false rfl (loc := startLoc [.self, .top a]) sl0 sl1 (b := b) (s := s) (e := e) (l := l) hr y x n hn hl hll
  have e1 : (fun z => gv.contains z != false) = isVw := by funext z; unfold isVw; cases gv.contains z <;> rfl
  rw [e1] at h
  have unf : f_go_out_grouping T D n = seqB (whileB (cmpE T .Lt (selfGet 1 (lo 0)) (selfGet 2 (lo 0))) (goB T .In) n) (retB (cB false)) := rfl
  cases hs : scan isVw y with
  | some k =>
    rw [hs] at h
    refine runF_ret rfl (st := ⟨startLoc [.self, .top a], _⟩) ?_
    rw [unf]; unfold seqB; rw [h]
  | none =>
    rw [hs] at h
    refine runF_ret rfl (st := ⟨startLoc [.self, .top a], _⟩) ?_
    rw [unf]; unfold seqB; rw [h]; rfl
theorem gin {a : Addr} (hS : T a = some (.set (gv.map fun c => [c]))) {x y : List Nat} {b s e p l : Int} {r : List (Nat × PV)} (hr : r.length < 800) (hn : y.length < n) (hl : x.length + y.length < 1000) (hp : p = x.length) (hll : l = x.length + y.length) :
    F_go_in_grouping T D n [.self, .top a] (At (x ++ y) p l b s e r) =
      match scan (fun z => !isVw z) y with
      | some k => some (.bool true, At (x ++ y) ((x.length : Int) + k) l b s e r)
      | none => some (.bool false, At (x ++ y) l l b s e r) := by
  subst hp
  have h := go_loop hS .NotIn true rfl (loc := startLoc [.self, .top a]) sl0 sl1 (b := b) (s := s) (e := e) (l := l) hr y x n hn hl hll
  have e1 : (fun z => gv.contains z != true) = fun z => !isVw z := by funext z; unfold isVw; cases gv.contains z <;> rfl
  rw [e1] at h
  have unf : f_go_in_grouping T D n = seqB (whileB (cmpE T .Lt (selfGet 1 (lo 0)) (selfGet 2 (lo 0))) (goB T .NotIn) n) (retB (cB false)) := rfl
  cases hs : scan (fun z => !isVw z) y with
  | some k =>
    rw [hs] at h
    refine runF_ret rfl (st := ⟨startLoc [.self, .top a], _⟩) ?_
    rw [unf]; unfold seqB; rw [h]
  | none =>
    rw [hs] at h
    refine runF_ret rfl (st := ⟨startLoc [.self, .top a], _⟩) ?_
    rw [unf]; unfold seqB; rw [h]; rfl
end
noncomputable def vc (y : List Nat) : Option Nat := match scan isVw y with
  | none => none
  | some a => match scan (fun z => !isVw z) (y.drop (a + 1)) with
    | none => none
    | some b => some (a + 1 + b + 1)
noncomputable def regs (c : List Nat) : Nat × Nat := if c.length < 3 then (c.length, c.length) else match vc c with
  | none => (c.length, c.length)
  | some k => (if 3 ≤ k then k else 3, match vc (c.drop k) with
    | none => c.length
    | some j => k + j)
noncomputable def R9 (r : List (Nat × PV)) : Prop := r = [] ∨ ∃ a b q, r = Rr a b q ∧ Q8 q
theorem R9.put {r : List (Nat × PV)} (h : R9 r) : ∃ q, Q8 q ∧ ∀ a b : Int, putA 7 (.int b) (putA 6 (.int a) r) = Rr a b q := by
  rcases h with rfl | ⟨a, b, q, rfl, hq⟩
  · exact ⟨[], .inl rfl, fun a b => rfl⟩
  · exact ⟨q, hq, fun a b => rfl⟩
theorem R9.len {r : List (Nat × PV)} (h : R9 r) : r.length ≤ 3 := by
  rcases h with rfl | ⟨a, b, q, rfl, hq⟩
  · simp
  · have := hq.len; simp; omega
theorem pt6 {c : List Nat} {p l b s e : Int} {r : List (Nat × PV)} {v : PV} : putA 6 v (At c p l b s e r) = At c p l b s e (putA 6 v r) := rfl
theorem pt7 {c : List Nat} {p l b s e : Int} {r : List (Nat × PV)} {v : PV} : putA 7 v (At c p l b s e r) = At c p l b s e (putA 7 v r) := rfl
theorem pr6 {a b x : Int} {q : List (Nat × PV)} : putA 6 (.int x) (Rr a b q) = Rr x b q := rfl
theorem pr7 {a b x : Int} {q : List (Nat × PV)} : putA 7 (.int x) (Rr a b q) = Rr a x q := rfl
section
variable {T : Addr → Option TO} {D : WD} {n : Nat}
theorem gout' (hT : TDs T D) {c : List Nat} {k : Nat} {b s e p l : Int} {r : List (Nat × PV)} (hr : r.length < 800) (hn : c.length < n) (hl : c.length < 1000) (hk : k ≤ c.length) (hp : p = k) (hll : l = c.length) :
    F_go_out_grouping T D n [.self, .top (D.ta 6)] (At c p l b s e r) =
      match scan isVw (c.drop k) with
      | some j => some (.bool true, At c ((k : Int) + j) l b s e r)
      | none => some (.bool false, At c l l b s e r) := by
  have htk : (c.take k).length = k := by rw [List.length_take]; omega
  have hdk : (c.drop k).length = c.length - k := List.length_drop
  have h := gout (T := T) (D := D) (n := n) hT.s6 (x := c.take k) (y := c.drop k) (b := b) (s := s) (e := e) (p := p) (l := l) (r := r) hr (by omega) (by omega) (by omega) (by omega)
  rw [List.take_append_drop, htk] at h
  exact h
theorem gin' (hT : TDs T D) {c : List Nat} {k : Nat} {b s e p l : Int} {r : List (Nat × PV)} (hr : r.length < 800) (hn : c.length < n) (hl : c.length < 1000) (hk : k ≤ c.length) (hp : p = k) (hll : l = c.length) :
    F_go_in_grouping T D n [.self, .top (D.ta 6)] (At c p l b s e r) =
      match scan (fun z => !isVw z) (c.drop k) with
      | some j => some (.bool true, At c ((k : Int) + j) l b s e r)
      | none => some (.bool false, At c l l b s e r) := by
  have htk : (c.take k).length = k := by rw [List.length_take]; omega
  have hdk : (c.drop k).length = c.length - k := List.length_drop
  have h := gin (T := T) (D := D) (n := n) hT.s6 (x := c.take k) (y := c.drop k) (b := b) (s := s) (e := e) (p := p) (l := l) (r := r) hr (by omega) (by omega) (by omega) (by omega)
  rw [List.take_append_drop, htk] at h
  exact h
theorem mark_ok (hT : TDs T D) {c : List Nat} {b s e : Int} {r : List (Nat × PV)} (h9 : R9 r) (hn : c.length < n) (hl : c.length < 1000) :
    ∃ v p' q, F_r_mark_regions T D n [.self] (At c 0 c.length b s e r) = some (.bool v, At c p' c.length b s e (Rr (regs c).1 (regs c).2 q)) ∧ Q8 q := by
  obtain ⟨q, hq, hput⟩ := h9.put
  have h9l := h9.len
  have hql := hq.len
  have hr1 : r.length + 6 < 900 := by omega
  have hr2 : (putA 6 (.int c.length) r).length + 6 < 900 := by
    have := putA_len 6 (.int c.length) r; omega
  have hr3 : ∀ a b : Int, (Rr a b q).length + 6 < 900 := fun a b => by simp; omega
  have hr4 : ∀ a b : Int, (Rr a b q).length < 800 := fun a b => by simp; omega
  have q0 : binF .Add (.int 0) (.int 3) = some (.int 3) := rfl
  have lgt : cmpF T .Gt (.int 3) (.int c.length) = some (decide (c.length < 3)) := by
    show some (decide ((c.length : Int) < 3)) = _
    congr 1; rw [Bool.eq_iff_iff]; simp only [decide_eq_true_eq]; omega
  unfold regs
  by_cases c1 : c.length < 3
  · rw [if_pos c1]
    rw [decide_eq_true c1] at lgt
    refine ⟨false, 0, q, ?_, hq⟩
    refine runF_ret rfl (st := ⟨upd (startLoc [.self]) 1 (.int 0), _⟩) ?_
    push_cast [f_r_mark_regions, sl0, pt6, pt7, hr1, hr2, hput, q0, lgt]
  rw [if_neg c1]
  rw [decide_eq_false c1] at lgt
  have o1 := gout' (n := n) hT (c := c) (k := 0) (b := b) (s := s) (e := e) (p := 0) (l := c.length) (r := Rr c.length c.length q) (hr4 _ _) hn hl (Nat.zero_le _) rfl rfl
  rw [List.drop_zero] at o1
  unfold vc
  cases e1 : scan isVw c with
  | none =>
    rw [e1] at o1
    refine ⟨false, c.length, q, ?_, hq⟩
    refine runF_ret rfl (st := ⟨upd (upd (startLoc [.self]) 1 (.int 0)) 2 (.int 3), _⟩) ?_
    push_cast [f_r_mark_regions, sl0, pt6, pt7, hr1, hr2, hput, hr3, q0, lgt, o1]
  | some a =>
  rw [e1] at o1
  have la := scan_lt e1
  have q1 : binF .Add (.int (((0 : Nat) : Int) + a)) (.int 1) = some (.int (a + 1 : Nat)) := add_ (by omega)
  have o2 := gin' (n := n) hT (c := c) (k := a + 1) (b := b) (s := s) (e := e) (p := (a + 1 : Nat)) (l := c.length) (r := Rr c.length c.length q) (hr4 _ _) hn hl (by omega) rfl rfl
  dsimp only
  cases e2 : scan (fun z => !isVw z) (c.drop (a + 1)) with
  | none =>
    rw [e2] at o2
    refine ⟨false, c.length, q, ?_, hq⟩
    refine runF_ret rfl (st := ⟨upd (upd (startLoc [.self]) 1 (.int 0)) 2 (.int 3), _⟩) ?_
    push_cast [f_r_mark_regions, sl0, pt6, pt7, hr1, hr2, hput, hr3, q0, lgt, o1, q1, o2]
  | some d =>
  rw [e2] at o2
  have ld := scan_lt e2
  rw [List.length_drop] at ld
  have q2 : binF .Add (.int (((a + 1 : Nat) : Int) + d)) (.int 1) = some (.int (a + 1 + d + 1 : Nat)) := add_ (by omega)
  dsimp only
  generalize hk : a + 1 + d + 1 = k at q2
  have lge : cmpF T .GtE (.int k) (.int 3) = some (decide (3 ≤ k)) := by
    show some (decide ((3 : Int) ≤ k)) = _
    congr 1; rw [Bool.eq_iff_iff]; simp only [decide_eq_true_eq]; omega
  have lk6' : ∀ (x y : Int), List.lookup 6 (Rr x y q) = some (.int x) := fun _ _ => rfl
  generalize hp1 : (if 3 ≤ k then k else 3) = p1
  have o3 := gout' (n := n) hT (c := c) (k := k) (b := b) (s := s) (e := e) (p := (k : Nat)) (l := c.length) (r := Rr p1 c.length q) (hr4 _ _) hn hl (by omega) rfl rfl
  have fin : ∀ (v : Bool) (p' : Int) (p2 : Int) (st1 : St) (rest : St → Option (Fl × St)), rest ⟨upd (upd (startLoc [.self]) 1 (.int 0)) 2 (.int 3), At c k c.length b s e (Rr p1 c.length q)⟩ = some (.ret (.bool v), ⟨upd (upd (startLoc [.self]) 1 (.int 0)) 2 (.int 3), At c p' c.length b s e (Rr p1 p2 q)⟩) →
      f_r_mark_regions T D n = seqB (asgA 6 (lo 0) (selfGet 2 (lo 0))) (seqB (asgA 7 (lo 0) (selfGet 2 (lo 0))) (seqB (asgN 1 (selfGet 1 (lo 0))) (seqB (ifB (cmpE T .Gt (binE .Add (selfGet 1 (lo 0)) (cI 3)) (selfGet 2 (lo 0))) (retB (cB false)) skipB) (seqB (augA .Add 1 (lo 0) (cI 3)) (seqB (asgN 2 (selfGet 1 (lo 0))) (seqB (asgA 1 (lo 0) (lo 1)) (seqB (ifB (notT (boolT (methE (F_go_out_grouping T D n) (lo 0) (consL (cT (D.ta 6)) nilL)))) (retB (cB false)) skipB) (seqB (augA .Add 1 (lo 0) (cI 1)) (seqB (ifB (notT (boolT (methE (F_go_in_grouping T D n) (lo 0) (consL (cT (D.ta 6)) nilL)))) (retB (cB false)) skipB) (seqB (augA .Add 1 (lo 0) (cI 1)) (seqB (asgA 6 (lo 0) (selfGet 1 (lo 0))) (seqB (tryB 0 (seqB (ifB (cmpE T .GtE (selfGet 6 (lo 0)) (lo 2)) (raiseB 0) skipB) (asgA 6 (lo 0) (lo 2)))) rest)))))))))))) →
      ∃ v p' q', F_r_mark_regions T D n [.self] (At c 0 c.length b s e r) = some (.bool v, At c p' c.length b s e (Rr p1 p2 q')) ∧ Q8 q' := by
    intro v p' p2 st1 rest hrest unf
    refine ⟨v, p', q, ?_, hq⟩
    refine runF_ret rfl (st := ⟨upd (upd (startLoc [.self]) 1 (.int 0)) 2 (.int 3), _⟩) ?_
    rw [unf]
    by_cases c3 : 3 ≤ k
    · rw [if_pos c3] at hp1
      subst hp1
      rw [decide_eq_true c3] at lge
      push_cast [sl0, pt6, pt7, pr6, pr7, hr1, hr2, hput, hr3, q0, lgt, o1, q1, o2, q2, lk6, lk6', lge]
      exact hrest
    · rw [if_neg c3] at hp1
      subst hp1
      rw [decide_eq_false c3] at lge
      push_cast [sl0, pt6, pt7, pr6, pr7, hr1, hr2, hput, hr3, q0, lgt, o1, q1, o2, q2, lk6, lk6', lge]
      exact hrest
  cases e3 : scan isVw (c.drop k) with
  | none =>
    rw [e3] at o3
    refine fin false c.length c.length ⟨fun _ => none, []⟩ _ ?_ rfl
    push_cast [sl0, o3]
  | some a2 =>
  rw [e3] at o3
  have la2 := scan_lt e3
  rw [List.length_drop] at la2
  have q3 : binF .Add (.int ((k : Int) + a2)) (.int 1) = some (.int (k + a2 + 1 : Nat)) := add_ (by omega)
  have o4 := gin' (n := n) hT (c := c) (k := k + a2 + 1) (b := b) (s := s) (e := e) (p := (k + a2 + 1 : Nat)) (l := c.length) (r := Rr p1 c.length q) (hr4 _ _) hn hl (by omega) rfl rfl
  have edd : (c.drop k).drop (a2 + 1) = c.drop (k + a2 + 1) := by rw [List.drop_drop]; rfl
  dsimp only
  rw [edd]
  cases e4 : scan (fun z => !isVw z) (c.drop (k + a2 + 1)) with
  | none =>
    rw [e4] at o4
    refine fin false c.length c.length ⟨fun _ => none, []⟩ _ ?_ rfl
    push_cast [sl0, o3, q3, hr3, o4]
  | some d2 =>
  rw [e4] at o4
  have q4 : binF .Add (.int (((k + a2 + 1 : Nat) : Int) + d2)) (.int 1) = some (.int (k + (a2 + 1 + d2 + 1) : Nat)) := add_ (by omega)
  refine fin true (k + (a2 + 1 + d2 + 1) : Nat) (k + (a2 + 1 + d2 + 1) : Nat) ⟨fun _ => none, []⟩ _ ?_ rfl
  push_cast [sl0, o3, q3, hr3, o4, q4, pt7, pr7]
end
noncomputable def alphaA : List Nat := [97, 98, 99, 100, 101, 102, 103, 104, 105, 106, 107, 108, 109, 110, 111, 112, 113, 114, 115, 116, 117, 118, 119, 120, 121, 122, 232, 225, 228, 233, 235, 237, 239, 243, 246, 250, 252]
noncomputable def tab0 : List Ent := [⟨[], -1, 6⟩, ⟨[225], 0, 1⟩, ⟨[228], 0, 1⟩, ⟨[233], 0, 2⟩, ⟨[235], 0, 2⟩, ⟨[237], 0, 3⟩, ⟨[239], 0, 3⟩, ⟨[243], 0, 4⟩, ⟨[246], 0, 4⟩, ⟨[250], 0, 5⟩, ⟨[252], 0, 5⟩]
noncomputable def tab1 : List Ent := [⟨[], -1, 3⟩, ⟨[73], 0, 2⟩, ⟨[89], 0, 1⟩]
noncomputable def code (z : Nat) : Nat := if z = 225 then 1 else if z = 228 then 1 else if z = 233 then 2 else if z = 235 then 2 else if z = 237 then 3 else if z = 239 then 3 else if z = 243 then 4 else if z = 246 then 4 else if z = 250 then 5 else if z = 252 then 5 else 6
noncomputable def strip (z : Nat) : Nat := if z = 225 then 97 else if z = 228 then 97 else if z = 233 then 101 else if z = 235 then 101 else if z = 237 then 105 else if z = 239 then 105 else if z = 243 then 111 else if z = 246 then 111 else if z = 250 then 117 else if z = 252 then 117 else z
theorem fab0_nil : fab tab0 [] = some (6, 0) := by decide +kernel
theorem fab1_nil : fab tab1 [] = some (3, 0) := by decide +kernel
noncomputable def chk0 (z : Nat) : Bool := chk (fun _ _ => true) (fabQ true tab0 [.c z] fun x => if x = (((code z : Nat) : Int), if code z = 6 then 0 else 1) then .ret () else .fail) []
noncomputable def chk1 (z : Nat) : Bool := chk (fun _ _ => true) (fabQ true tab1 [.c z] fun x => if x = (3, 0) then .ret () else .fail) []
theorem chk0_all : ∀ z ∈ alphaA, chk0 z = true := by decide +kernel
theorem chk1_all : ∀ z ∈ alpha, chk1 z = true := by decide +kernel
theorem fab0_cons {z : Nat} (hz : z ∈ alphaA) (y : List Nat) : fab tab0 (z :: y) = some (((code z : Nat) : Int), if code z = 6 then 0 else 1) := by
  obtain ⟨a, D', h1, _, _⟩ := chk_ok (ρ := fun _ => 0) _ [] (fun i hi => absurd rfl hi) (chk0_all z hz)
  obtain ⟨x, h2, h3⟩ := run_fabQ (tl := y) (fun h => by cases h) h1
  by_cases e : x = (((code z : Nat) : Int), if code z = 6 then 0 else 1)
  · rw [← e]; exact h2
  · rw [if_neg e] at h3; simp [Q.run] at h3
theorem fab1_cons {z : Nat} (hz : z ∈ alpha) (y : List Nat) : fab tab1 (z :: y) = some (3, 0) := by
  obtain ⟨a, D', h1, _, _⟩ := chk_ok (ρ := fun _ => 0) _ [] (fun i hi => absurd rfl hi) (chk1_all z hz)
  obtain ⟨x, h2, h3⟩ := run_fabQ (tl := y) (fun h => by cases h) h1
  by_cases e : x = (3, 0)
  · rw [← e]; exact h2
  · rw [if_neg e] at h3; simp [Q.run] at h3
theorem code_cases : ∀ z ∈ alphaA, (code z = 1 ∧ strip z = 97) ∨ (code z = 2 ∧ strip z = 101) ∨ (code z = 3 ∧ strip z = 105) ∨ (code z = 4 ∧ strip z = 111) ∨ (code z = 5 ∧ strip z = 117) ∨ (code z = 6 ∧ strip z = z) := by decide +kernel
structure TE (T : Addr → Option TO) (D : WD) : Prop extends TDs T D where
  t0 : Tab T (D.ta 0) id tab0
  t1 : Tab T (D.ta 1) id tab1
section
variable {T : Addr → Option TO} {D : WD} {n : Nat}
noncomputable def pl1 (T : Addr → Option TO) (D : WD) (n : Nat) : St → Option (Fl × St) := (seqB (asgN 2 (selfGet 1 (lo 0))) (seqB (tryB 0 (seqB (asgA 4 (lo 0) (selfGet 1 (lo 0))) (seqB (asgN 3 (methE (F_find_among T D n) (lo 0) (consL (cT (D.ta 0)) nilL))) (seqB (asgA 5 (lo 0) (selfGet 1 (lo 0))) (seqB (ifB (cmpE T .Eq (lo 3) (cI 1)) (exprB (methE (F_slice_from T D n) (lo 0) (consL (cS [97]) nilL))) (ifB (cmpE T .Eq (lo 3) (cI 2)) (exprB (methE (F_slice_from T D n) (lo 0) (consL (cS [101]) nilL))) (ifB (cmpE T .Eq (lo 3) (cI 3)) (exprB (methE (F_slice_from T D n) (lo 0) (consL (cS [105]) nilL))) (ifB (cmpE T .Eq (lo 3) (cI 4)) (exprB (methE (F_slice_from T D n) (lo 0) (consL (cS [111]) nilL))) (ifB (cmpE T .Eq (lo 3) (cI 5)) (exprB (methE (F_slice_from T D n) (lo 0) (consL (cS [117]) nilL))) (seqB (ifB (cmpE T .GtE (selfGet 1 (lo 0)) (selfGet 2 (lo 0))) (raiseB 0) skipB) (augA .Add 1 (lo 0) (cI 1)))))))) (fun st => some (.cont, st))))))) (seqB (asgA 1 (lo 0) (lo 2)) (fun st => some (.brk, st)))))
theorem pl1_end (hT : TE T D) (hn : 20 ≤ n) {x : List Nat} {loc : Nat → Option PV} (h0 : loc 0 = some .self) {b s e l : Int} {r : List (Nat × PV)} (hr : r.length < 800) (hl : x.length < 1000) (hll : l = x.length) :
    ∃ loc' s' e', pl1 T D n ⟨loc, At x x.length l b s e r⟩ = some (.brk, ⟨loc', At x x.length l b s' e' r⟩) ∧ ∀ j, j ≠ 2 → j ≠ 3 → loc' j = loc j := by
  subst hll
  have hr' : r.length + 6 < 900 := by omega
  have hf := find_f (D := D) hT.t0 hn (t := x) (u := []) (b := b) (s := x.length) (e := e) (r := r) (by simp; omega) hr fab0_nil
  rw [List.append_nil] at hf
  have hf' : F_find_among T D n [.self, .top (D.ta 0)] (At x x.length x.length b x.length e r) = some (.int 6, At x x.length x.length b x.length e r) := by
    have e1 : ((x.length + ([] : List Nat).length : Nat) : Int) = x.length := by simp
    rw [e1] at hf
    rw [hf]; exact congrArg some (congrArg (Prod.mk _) (at_cong rfl (by omega) rfl rfl rfl rfl rfl))
  have dg : cmpF T .GtE (.int x.length) (.int x.length) = some true := by show some (decide _) = _; congr 1; exact decide_eq_true (Int.le_refl _)
  have c1 : cmpF T .Eq (.int 6) (.int 1) = some false := rfl
  have c2 : cmpF T .Eq (.int 6) (.int 2) = some false := rfl
  have c3 : cmpF T .Eq (.int 6) (.int 3) = some false := rfl
  have c4 : cmpF T .Eq (.int 6) (.int 4) = some false := rfl
  have c5 : cmpF T .Eq (.int 6) (.int 5) = some false := rfl
  refine ⟨upd (upd loc 2 (.int x.length)) 3 (.int 6), x.length, x.length, ?_, fun j a c => by simp [upd, a, c]⟩
  push_cast [pl1, h0, hr', hf', c1, c2, c3, c4, c5, dg]
theorem pl1_step (hT : TE T D) (hn : 20 ≤ n) {x y : List Nat} {z : Nat} (hz : z ∈ alphaA) {loc : Nat → Option PV} (h0 : loc 0 = some .self) {b s e l : Int} {r : List (Nat × PV)} (hr : r.length < 800) (hl : x.length + y.length < 990) (hll : l = x.length + y.length + 1) :
    ∃ loc' s' e', pl1 T D n ⟨loc, At (x ++ z :: y) x.length l b s e r⟩ = some (.cont, ⟨loc', At ((x ++ [strip z]) ++ y) (x ++ [strip z]).length l b s' e' r⟩) ∧ ∀ j, j ≠ 2 → j ≠ 3 → loc' j = loc j := by
  have hr' : r.length + 6 < 900 := by omega
  have hf := find_f (D := D) hT.t0 hn (t := x) (u := z :: y) (b := b) (s := x.length) (e := e) (r := r) (by simp; omega) hr (fab0_cons hz y)
  have hf' : F_find_among T D n [.self, .top (D.ta 0)] (At (x ++ z :: y) x.length l b x.length e r) = some (.int (code z), At (x ++ z :: y) ((x.length : Int) + (if code z = 6 then 0 else 1 : Nat)) l b x.length e r) := by
    have e1 : ((x.length + (z :: y).length : Nat) : Int) = l := (by push_cast)
    rw [e1] at hf
    exact hf
  have fr : ∀ v : PV, ∀ j, j ≠ 2 → j ≠ 3 → upd (upd loc 2 (.int x.length)) 3 v j = loc j := fun v j a c => by simp [upd, a, c]
  have sl : ∀ w : Nat, ∀ e : Int, e = (x.length : Int) + 1 → F_slice_from T D n [.self, .str [w]] (At (x ++ z :: y) ((x.length : Int) + (1 : Nat)) l b x.length ((x.length : Int) + (1 : Nat)) r) = some (.none, At ((x ++ [w]) ++ y) (x ++ [w]).length l b x.length ((x.length + ([w] : List Nat).length : Nat) : Int) r) := by
    intro w e _
    have h := slice_eq (T := T) (D := D) (n := n) (x := x) (m := [z]) (y := y) (z := [w]) (p := (x.length : Int) + (1 : Nat)) (b := b) (r := r) (by simp; omega) (by simp) hr
    have ea : At (x ++ z :: y) ((x.length : Int) + (1 : Nat)) l b x.length ((x.length : Int) + (1 : Nat)) r = At (x ++ [z] ++ y) ((x.length : Int) + (1 : Nat)) (x.length + ([z] : List Nat).length + y.length : Nat) b x.length (x.length + ([z] : List Nat).length : Nat) r :=
      at_cong (by simp) rfl (by push_cast) rfl rfl (by push_cast) rfl
    rw [ea, h]
    refine congrArg some (congrArg (Prod.mk _) (at_cong rfl ?_ (by push_cast) rfl rfl rfl rfl))
    unfold curA
    rw [if_pos (by push_cast)]; simp only [List.length_append, List.length_cons, List.length_nil]; omega
  rcases code_cases z hz with ⟨c, st⟩ | ⟨c, st⟩ | ⟨c, st⟩ | ⟨c, st⟩ | ⟨c, st⟩ | ⟨c, st⟩ <;> rw [c] at hf' <;> rw [st]
  · have c1 : cmpF T .Eq (.int (1 : Nat)) (.int 1) = some true := rfl
    have hs := sl 97 _ rfl
    rw [if_neg (by decide)] at hf'
    refine ⟨upd (upd loc 2 (.int x.length)) 3 (.int (1 : Nat)), x.length, ((x.length + ([97] : List Nat).length : Nat) : Int), ?_, fr _⟩
    push_cast [pl1, h0, hr', hf', c1, hs]
  · have c1 : cmpF T .Eq (.int (2 : Nat)) (.int 1) = some false := rfl
    have c2 : cmpF T .Eq (.int (2 : Nat)) (.int 2) = some true := rfl
    have hs := sl 101 _ rfl
    rw [if_neg (by decide)] at hf'
    refine ⟨upd (upd loc 2 (.int x.length)) 3 (.int (2 : Nat)), x.length, ((x.length + ([101] : List Nat).length : Nat) : Int), ?_, fr _⟩
    push_cast [pl1, h0, hr', hf', c1, c2, hs]
  · have c1 : cmpF T .Eq (.int (3 : Nat)) (.int 1) = some false := rfl
    have c2 : cmpF T .Eq (.int (3 : Nat)) (.int 2) = some false := rfl
    have c3 : cmpF T .Eq (.int (3 : Nat)) (.int 3) = some true := rfl
    have hs := sl 105 _ rfl
    rw [if_neg (by decide)] at hf'
    refine ⟨upd (upd loc 2 (.int x.length)) 3 (.int (3 : Nat)), x.length, ((x.length + ([105] : List Nat).length : Nat) : Int), ?_, fr _⟩
    push_cast [pl1, h0, hr', hf', c1, c2, c3, hs]
  · have c1 : cmpF T .Eq (.int (4 : Nat)) (.int 1) = some false := rfl
    have c2 : cmpF T .Eq (.int (4 : Nat)) (.int 2) = some false := rfl
    have c3 : cmpF T .Eq (.int (4 : Nat)) (.int 3) = some false := rfl
    have c4 : cmpF T .Eq (.int (4 : Nat)) (.int 4) = some true := rfl
    have hs := sl 111 _ rfl
    rw [if_neg (by decide)] at hf'
    refine ⟨upd (upd loc 2 (.int x.length)) 3 (.int (4 : Nat)), x.length, ((x.length + ([111] : List Nat).length : Nat) : Int), ?_, fr _⟩
    push_cast [pl1, h0, hr', hf', c1, c2, c3, c4, hs]
  · have c1 : cmpF T .Eq (.int (5 : Nat)) (.int 1) = some false := rfl
    have c2 : cmpF T .Eq (.int (5 : Nat)) (.int 2) = some false := rfl
    have c3 : cmpF T .Eq (.int (5 : Nat)) (.int 3) = some false := rfl
    have c4 : cmpF T .Eq (.int (5 : Nat)) (.int 4) = some false := rfl
    have c5 : cmpF T .Eq (.int (5 : Nat)) (.int 5) = some true := rfl
    have hs := sl 117 _ rfl
    rw [if_neg (by decide)] at hf'
    refine ⟨upd (upd loc 2 (.int x.length)) 3 (.int (5 : Nat)), x.length, ((x.length + ([117] : List Nat).length : Nat) : Int), ?_, fr _⟩
    push_cast [pl1, h0, hr', hf', c1, c2, c3, c4, c5, hs]
  · have c1 : cmpF T .Eq (.int (6 : Nat)) (.int 1) = some false := rfl
    have c2 : cmpF T .Eq (.int (6 : Nat)) (.int 2) = some false := rfl
    have c3 : cmpF T .Eq (.int (6 : Nat)) (.int 3) = some false := rfl
    have c4 : cmpF T .Eq (.int (6 : Nat)) (.int 4) = some false := rfl
    have c5 : cmpF T .Eq (.int (6 : Nat)) (.int 5) = some false := rfl
    rw [if_pos rfl] at hf'
    have dg : cmpF T .GtE (.int ((x.length : Int) + (0 : Nat))) (.int l) = some false := by show some (decide _) = _; congr 1; exact decide_eq_false (by omega)
    have q0 : binF .Add (.int ((x.length : Int) + (0 : Nat))) (.int 1) = some (.int (x ++ [z]).length) := add_ (by push_cast)
    refine ⟨upd (upd loc 2 (.int x.length)) 3 (.int (6 : Nat)), x.length, (x.length : Int) + (0 : Nat), ?_, fr _⟩
    push_cast [pl1, h0, hr', hf', c1, c2, c3, c4, c5, dg, q0]
    exact congrArg some (congrArg (Prod.mk _) (congrArg (St.mk _) (at_cong (by simp) rfl rfl rfl rfl rfl rfl)))
theorem pl1_loop (hT : TE T D) (hn : 20 ≤ n) {b l : Int} {r : List (Nat × PV)} (hr : r.length < 800) : ∀ (y x : List Nat) (m : Nat) (loc : Nat → Option PV) (s e : Int), (∀ z ∈ y, z ∈ alphaA) → y.length < m → x.length + y.length < 990 → l = x.length + y.length → loc 0 = some .self →
    ∃ loc' s' e', whileB (boolT (cB true)) (pl1 T D n) m ⟨loc, At (x ++ y) x.length l b s e r⟩ = some (.next, ⟨loc', At (x ++ y.map strip) l l b s' e' r⟩) ∧ ∀ j, j ≠ 2 → j ≠ 3 → loc' j = loc j
  | [], x, m, loc, s, e, hy, hm, hl, hll, h0 => by
    obtain ⟨m, rfl⟩ : ∃ k, m = k + 1 := ⟨m - 1, by omega⟩
    obtain ⟨loc', s', e', h, fr⟩ := pl1_end hT hn (x := x) h0 (b := b) (s := s) (e := e) (l := l) hr (by simp only [List.length_nil] at hl; omega) (by simpa using hll)
    refine ⟨loc', s', e', ?_, fr⟩
    have e0 : boolT (cB true) (⟨loc, At (x ++ []) x.length l b s e r⟩ : St) = some (true, ⟨loc, At (x ++ []) x.length l b s e r⟩) := rfl
    rw [whileB]
    rw [e0]
    simp only [List.append_nil, List.map_nil, h]
    exact congrArg some (congrArg (Prod.mk _) (congrArg (St.mk _) (at_cong rfl (by simpa using hll.symm) rfl rfl rfl rfl rfl)))
  | z :: y, x, m, loc, s, e, hy, hm, hl, hll, h0 => by
    obtain ⟨m, rfl⟩ : ∃ k, m = k + 1 := ⟨m - 1, by omega⟩
    simp only [List.length_cons] at hm hl hll
    obtain ⟨loc1, s1, e1, h, fr⟩ := pl1_step hT hn (x := x) (y := y) (hy z (.head _)) h0 (b := b) (s := s) (e := e) (l := l) hr (by omega) (by omega)
    obtain ⟨loc2, s2, e2, h2, fr2⟩ := pl1_loop hT hn (b := b) (l := l) hr y (x ++ [strip z]) m loc1 s1 e1 (fun w hw => hy w (.tail _ hw)) (by omega) (by push_cast) (by push_cast) ((fr 0 (by decide) (by decide)).trans h0)
    refine ⟨loc2, s2, e2, ?_, fun j a c => (fr2 j a c).trans (fr j a c)⟩
    have e0 : boolT (cB true) (⟨loc, At (x ++ z :: y) x.length l b s e r⟩ : St) = some (true, ⟨loc, At (x ++ z :: y) x.length l b s e r⟩) := rfl
    rw [whileB]
    rw [e0]
    simp only [h, h2, List.map_cons]
    rw [List.append_assoc]
    rfl
end
noncomputable def okAfter : List Nat → Bool
  | [] => true
  | z :: w => if z = 121 then false else if z = 105 then (match w with
    | [] => true
    | a :: _ => !isVw a) else true
theorem okAfter_121 (w : List Nat) : okAfter (121 :: w) = false := rfl
noncomputable def okIY : List Nat → Bool
  | [] => true
  | x :: y => (!isVw x || okAfter y) && okIY y
theorem okIY_drop : ∀ (k : Nat) {y : List Nat}, okIY y = true → okIY (y.drop k) = true
  | 0, y, h => h
  | k + 1, [], h => h
  | k + 1, x :: y, h => by
    have h := Bool.and_eq_true_iff.mp h
    rw [List.drop_succ_cons]
    exact okIY_drop k h.2
theorem okIY_at : ∀ {y : List Nat} {k : Nat}, okIY y = true → scan isVw y = some k → okAfter (y.drop (k + 1)) = true
  | [], k, h, hs => nos hs
  | x :: y, k, h, hs => by
    have h := Bool.and_eq_true_iff.mp h
    rw [scan_c] at hs
    cases hx : isVw x with
    | true =>
      rw [hx] at hs h
      simp only [if_true, Option.some.injEq] at hs
      subst hs
      simpa using h.1
    | false =>
      rw [hx] at hs
      simp only [Bool.false_eq_true, if_false] at hs
      obtain ⟨j, hj, rfl⟩ := Option.map_eq_some_iff.mp hs
      rw [List.drop_succ_cons]
      exact okIY_at h.2 hj
section
variable {T : Addr → Option TO} {D : WD} {n : Nat}
noncomputable def nxT (T : Addr → Option TO) (c : Nat) : St → Option (Bool × St) := (orT (cmpE T .Eq (selfGet 1 (lo 0)) (selfGet 2 (lo 0))) (cmpE T .NotEq (idxE T (selfGet 0 (lo 0)) (selfGet 1 (lo 0))) (cS [c])))
theorem nxT_ok {c : Nat} {x y : List Nat} {loc : Nat → Option PV} (h0 : loc 0 = some .self) {b l s e p : Int} {r : List (Nat × PV)} (hl : x.length + y.length < 1000) (hll : l = x.length + y.length) (hp : p = x.length) :
    nxT T c ⟨loc, At (x ++ y) p l b s e r⟩ = some (!hdIs c y, ⟨loc, At (x ++ y) p l b s e r⟩) := by
  cases y with
  | nil =>
    have d0 : cmpF T .Eq (.int p) (.int l) = some true := by show some (p == l) = _; congr 1; simp at hll; simp; omega
    push_cast [nxT, h0, d0, hdIs]
  | cons z y =>
    have d0 : cmpF T .Eq (.int p) (.int l) = some false := by show some (p == l) = _; congr 1; simp at hll; simp; omega
    have ix : idxF T (.str (x ++ z :: y)) (.int p) = some (.str [z]) := by
      refine idxS (by omega) ?_ (by rw [List.length_append]; exact hl)
      have : p.toNat = x.length := by omega
      rw [this]; simp
    have ne : cmpF T .NotEq (.str [z]) (.str [c]) = some (!hdIs c (z :: y)) := by
      show some (([z] : List Nat) != [c]) = _
      congr 1; unfold hdIs; rw [Bool.eq_iff_iff]; simp
    push_cast [nxT, h0, d0, ix, ne]
theorem ing_no (hT : TDs T D) {x y : List Nat} {b l s e p : Int} {r : List (Nat × PV)} (hl : x.length + y.length < 1000) (hll : l = x.length + y.length) (hp : p = x.length) (hy : ∀ z w, y = z :: w → isVw z = false) :
    F_in_grouping T D n [.self, .top (D.ta 6)] (At (x ++ y) p l b s e r) = some (.bool false, At (x ++ y) p l b s e r) := by
  cases y with
  | nil =>
    have d0 : cmpF T .GtE (.int p) (.int l) = some true := by show some (decide (l ≤ p)) = _; congr 1; simp at hll; exact decide_eq_true (by omega)
    refine runF_ret rfl (st := ⟨startLoc [.self, .top (D.ta 6)], _⟩) ?_
    push_cast [f_in_grouping, sl0, d0]
  | cons z y =>
    have d0 : cmpF T .GtE (.int p) (.int l) = some false := by show some (decide (l ≤ p)) = _; congr 1; simp at hll; exact decide_eq_false (by omega)
    have ix : idxF T (.str (x ++ z :: y)) (.int p) = some (.str [z]) := by
      refine idxS (by omega) ?_ (by rw [List.length_append]; exact hl)
      have : p.toNat = x.length := by omega
      rw [this]; simp
    have hz := hy z y rfl
    have cf : cmpF T .NotIn (.str [z]) (.top (D.ta 6)) = some true := by
      have e : gv.contains z = false := hz
      rw [cfTn hT.s6, cont1]
      show some (!gv.contains z) = _
      rw [e]; rfl
    refine runF_ret rfl (st := ⟨startLoc [.self, .top (D.ta 6)], _⟩) ?_
    push_cast [f_in_grouping, sl0, sl1, d0, ix, cf]
noncomputable def pi3 (T : Addr → Option TO) (D : WD) (n : Nat) : St → Option (Fl × St) := (seqB (asgN 7 (selfGet 1 (lo 0))) (seqB (tryB 2 (seqB (ifB (nxT T 105) (raiseB 2) skipB) (seqB (augA .Add 1 (lo 0) (cI 1)) (seqB (asgA 5 (lo 0) (selfGet 1 (lo 0))) (seqB (asgN 8 (selfGet 1 (lo 0))) (seqB (tryB 3 (seqB (ifB (notT (boolT (methE (F_in_grouping T D n) (lo 0) (consL (cT (D.ta 6)) nilL)))) (raiseB 3) skipB) (exprB (methE (F_slice_from T D n) (lo 0) (consL (cS [73]) nilL))))) (seqB (asgA 1 (lo 0) (lo 8)) (fun st => some (.brk, st))))))))) (seqB (asgA 1 (lo 0) (lo 7)) (seqB (ifB (nxT T 121) (seqB (asgA 1 (lo 0) (lo 6)) (raiseB 1)) skipB) (seqB (augA .Add 1 (lo 0) (cI 1)) (seqB (asgA 5 (lo 0) (selfGet 1 (lo 0))) (seqB (exprB (methE (F_slice_from T D n) (lo 0) (consL (cS [89]) nilL))) (fun st => some (.brk, st)))))))))
noncomputable def pl3 (T : Addr → Option TO) (D : WD) (n : Nat) : St → Option (Fl × St) := (seqB (asgN 5 (selfGet 1 (lo 0))) (seqB (tryB 0 (seqB (ifB (notT (boolT (methE (F_go_out_grouping T D n) (lo 0) (consL (cT (D.ta 6)) nilL)))) (raiseB 0) skipB) (seqB (augA .Add 1 (lo 0) (cI 1)) (seqB (asgN 6 (selfGet 1 (lo 0))) (seqB (tryB 1 (seqB (asgA 4 (lo 0) (selfGet 1 (lo 0))) (whileB (boolT (cB true)) (seqB (asgN 7 (selfGet 1 (lo 0))) (seqB (tryB 2 (seqB (ifB (orT (cmpE T .Eq (selfGet 1 (lo 0)) (selfGet 2 (lo 0))) (cmpE T .NotEq (idxE T (selfGet 0 (lo 0)) (selfGet 1 (lo 0))) (cS [105]))) (raiseB 2) skipB) (seqB (augA .Add 1 (lo 0) (cI 1)) (seqB (asgA 5 (lo 0) (selfGet 1 (lo 0))) (seqB (asgN 8 (selfGet 1 (lo 0))) (seqB (tryB 3 (seqB (ifB (notT (boolT (methE (F_in_grouping T D n) (lo 0) (consL (cT (D.ta 6)) nilL)))) (raiseB 3) skipB) (exprB (methE (F_slice_from T D n) (lo 0) (consL (cS [73]) nilL))))) (seqB (asgA 1 (lo 0) (lo 8)) (fun st => some (.brk, st))))))))) (seqB (asgA 1 (lo 0) (lo 7)) (seqB (ifB (orT (cmpE T .Eq (selfGet 1 (lo 0)) (selfGet 2 (lo 0))) (cmpE T .NotEq (idxE T (selfGet 0 (lo 0)) (selfGet 1 (lo 0))) (cS [121]))) (seqB (asgA 1 (lo 0) (lo 6)) (raiseB 1)) skipB) (seqB (augA .Add 1 (lo 0) (cI 1)) (seqB (asgA 5 (lo 0) (selfGet 1 (lo 0))) (seqB (exprB (methE (F_slice_from T D n) (lo 0) (consL (cS [89]) nilL))) (fun st => some (.brk, st))))))))) n))) (fun st => some (.cont, st))))))) (seqB (asgA 1 (lo 0) (lo 5)) (fun st => some (.brk, st)))))
theorem pi3_ok (hT : TDs T D) {x y : List Nat} {loc : Nat → Option PV} (h0 : loc 0 = some .self) (h6 : loc 6 = some (.int x.length)) {b l s e : Int} {r : List (Nat × PV)} (hr : r.length < 800) (hl : x.length + y.length < 1000) (hll : l = x.length + y.length) (ho : okAfter y = true) :
    ∃ fl loc' e' k, pi3 T D n ⟨loc, At (x ++ y) x.length l b s e r⟩ = some (fl, ⟨loc', At (x ++ y) ((x.length + k : Nat) : Int) l b s e' r⟩) ∧ (fl = .brk ∨ fl = .exc 1) ∧ k ≤ y.length ∧ ∀ j, j ≠ 7 → j ≠ 8 → loc' j = loc j := by
  have hr' : r.length + 6 < 900 := by omega
  have n1 := nxT_ok (T := T) (c := 105) (x := x) (y := y) (loc := upd loc 7 (.int x.length)) (b := b) (l := l) (s := s) (e := e) (p := x.length) (r := r) (by simp [upd, h0]) hl hll rfl
  cases hi : hdIs 105 y with
  | true =>
    rw [hi] at n1
    cases y with
    | nil => simp [hdIs] at hi
    | cons z y =>
    have hz : z = 105 := by simpa [hdIs] using hi
    subst hz
    have q0 : binF .Add (.int x.length) (.int 1) = some (.int (x ++ [105]).length) := add_ (by push_cast)
    have ig := ing_no (n := n) hT (x := x ++ [105]) (y := y) (b := b) (l := l) (s := s) (e := (x ++ [105]).length) (p := (x ++ [105]).length) (r := r) (by push_cast) (by push_cast) rfl (by
      intro a w e; subst e
      simpa [okAfter] using ho)
    rw [List.append_assoc, List.singleton_append] at ig
    refine ⟨.brk, upd (upd loc 7 (.int x.length)) 8 (.int (x ++ [105]).length), (x ++ [105]).length, 1, ?_, .inl rfl, by simp, fun j a c => by simp [upd, a, c]⟩
    push_cast [pi3, h0, n1, q0, hr', ig]
    exact congrArg some (congrArg (Prod.mk _) (congrArg (St.mk _) (at_cong rfl (by push_cast) rfl rfl rfl rfl rfl)))
  | false =>
    rw [hi] at n1
    have hy : hdIs 121 y = false := by
      cases y with
      | nil => rfl
      | cons z w =>
        have : z ≠ 105 := by simpa [hdIs] using hi
        unfold hdIs
        by_cases c : z = 121
        · subst c; rw [okAfter_121] at ho; cases ho
        · exact decide_eq_false c
    have n2 := nxT_ok (T := T) (c := 121) (x := x) (y := y) (loc := upd loc 7 (.int x.length)) (b := b) (l := l) (s := s) (e := e) (p := x.length) (r := r) (by simp [upd, h0]) hl hll rfl
    rw [hy] at n2
    refine ⟨.exc 1, upd loc 7 (.int x.length), e, 0, ?_, .inr rfl, Nat.zero_le _, fun j a c => by simp [upd, a]⟩
    push_cast [pi3, h0, h6, n1, n2, hr']
    rfl
theorem pl3_loop (hT : TDs T D) (hn : 20 ≤ n) {b l : Int} {r : List (Nat × PV)} (hr : r.length < 800) : ∀ (f : Nat) (x y : List Nat) (m : Nat) (loc : Nat → Option PV) (s e : Int), y.length < f → okIY y = true → y.length < m → x.length + y.length < n → x.length + y.length < 990 → l = x.length + y.length → loc 0 = some .self →
    ∃ loc' p' s' e', whileB (boolT (cB true)) (pl3 T D n) m ⟨loc, At (x ++ y) x.length l b s e r⟩ = some (.next, ⟨loc', At (x ++ y) p' l b s' e' r⟩) ∧ ∀ j, j ≠ 5 → j ≠ 6 → j ≠ 7 → j ≠ 8 → loc' j = loc j
  | 0, x, y, m, loc, s, e, hf, ho, hm, hln, hl, hll, h0 => by omega
  | f + 1, x, y, m, loc, s, e, hf, ho, hm, hln, hl, hll, h0 => by
    obtain ⟨m, rfl⟩ : ∃ k, m = k + 1 := ⟨m - 1, by omega⟩
    have hr' : r.length + 6 < 900 := by omega
    have e0 : boolT (cB true) (⟨loc, At (x ++ y) x.length l b s e r⟩ : St) = some (true, ⟨loc, At (x ++ y) x.length l b s e r⟩) := rfl
    have g1 := gout (T := T) (D := D) (n := n) hT.s6 (x := x) (y := y) (b := b) (s := s) (e := e) (p := x.length) (l := l) (r := r) hr (by omega) (by omega) rfl hll
    have unf : pl3 T D n = (seqB (asgN 5 (selfGet 1 (lo 0))) (seqB (tryB 0 (seqB (ifB (notT (boolT (methE (F_go_out_grouping T D n) (lo 0) (consL (cT (D.ta 6)) nilL)))) (raiseB 0) skipB) (seqB (augA .Add 1 (lo 0) (cI 1)) (seqB (asgN 6 (selfGet 1 (lo 0))) (seqB (tryB 1 (seqB (asgA 4 (lo 0) (selfGet 1 (lo 0))) (whileB (boolT (cB true)) (pi3 T D n) n))) (fun st => some (.cont, st))))))) (seqB (asgA 1 (lo 0) (lo 5)) (fun st => some (.brk, st))))) := rfl
    cases hs : scan isVw y with
    | none =>
      rw [hs] at g1
      refine ⟨upd loc 5 (.int x.length), x.length, s, e, ?_, fun j a c d f' => by simp [upd, a]⟩
      have body : pl3 T D n ⟨loc, At (x ++ y) x.length l b s e r⟩ = some (.brk, ⟨upd loc 5 (.int x.length), At (x ++ y) x.length l b s e r⟩) := by
        rw [unf]
        push_cast [h0, g1, hr']
      rw [whileB]
      rw [e0]
      simp only [body]
    | some k =>
      rw [hs] at g1
      have hk := scan_lt hs
      have hoA := okIY_at ho hs
      have hoD := okIY_drop (k + 1) ho
      have q0 : binF .Add (.int ((x.length : Int) + k)) (.int 1) = some (.int (x ++ y.take (k + 1)).length) := add_ (by rw [List.length_append, List.length_take]; omega)
      have exy : x ++ y = (x ++ y.take (k + 1)) ++ y.drop (k + 1) := by rw [List.append_assoc, List.take_append_drop]
      have hlen : (x ++ y.take (k + 1)).length = x.length + (k + 1) := by rw [List.length_append, List.length_take]; omega
      have hdl : (y.drop (k + 1)).length = y.length - (k + 1) := List.length_drop
      obtain ⟨fl, loc1, e1, k1, w1, hfl, hk1, fr1⟩ := pi3_ok (n := n) hT (x := x ++ y.take (k + 1)) (y := y.drop (k + 1)) (loc := upd (upd loc 5 (.int x.length)) 6 (.int (x ++ y.take (k + 1)).length)) (by simp [upd, h0]) (by simp [upd]) (b := b) (l := l) (s := (x ++ y.take (k + 1)).length) (e := e) (r := r) hr (by omega) (by omega) hoA
      rw [← exy] at w1
      obtain ⟨n', hn'⟩ : ∃ k, n = k + 1 := ⟨n - 1, by omega⟩
      have body : pl3 T D n ⟨loc, At (x ++ y) x.length l b s e r⟩ = some (.cont, ⟨loc1, At (x ++ y) (((x ++ y.take (k + 1)).length + k1 : Nat) : Int) l b (x ++ y.take (k + 1)).length e1 r⟩) := by
        rw [unf]
        obtain ⟨fl2, hfl2, wl⟩ : ∃ fl2, (fl2 = .next ∨ fl2 = .exc 1) ∧ whileB (boolT (cB true)) (pi3 T D n) n ⟨upd (upd loc 5 (.int x.length)) 6 (.int (x ++ y.take (k + 1)).length), At (x ++ y) (x ++ y.take (k + 1)).length l b (x ++ y.take (k + 1)).length e r⟩ =
            some (fl2, ⟨loc1, At (x ++ y) (((x ++ y.take (k + 1)).length + k1 : Nat) : Int) l b (x ++ y.take (k + 1)).length e1 r⟩) := by
          have e2 : ∀ st : St, boolT (cB true) st = some (true, st) := fun _ => rfl
          conv => rhs; ext; rhs; lhs; arg 3; rw [hn']
          rw [whileB]
          rw [e2]
          simp only [w1]
          rcases hfl with rfl | rfl
          · exact ⟨_, .inl rfl, rfl⟩
          · exact ⟨_, .inr rfl, rfl⟩
        rcases hfl2 with rfl | rfl
        · push_cast [h0, g1, hr', q0, wl]
        · push_cast [h0, g1, hr', q0, wl]
      have exy2 : x ++ y = (x ++ y.take (k + 1 + k1)) ++ y.drop (k + 1 + k1) := by rw [List.append_assoc, List.take_append_drop]
      have hlen2 : (x ++ y.take (k + 1 + k1)).length = x.length + (k + 1 + k1) := by rw [List.length_append, List.length_take]; omega
      have hdl2 : (y.drop (k + 1 + k1)).length = y.length - (k + 1 + k1) := List.length_drop
      obtain ⟨loc2, p2, s2, e2, w2, fr2⟩ := pl3_loop hT hn (b := b) (l := l) hr f (x ++ y.take (k + 1 + k1)) (y.drop (k + 1 + k1)) m loc1 (x ++ y.take (k + 1)).length e1 (by omega) (okIY_drop _ ho) (by omega) (by omega) (by omega) (by omega) ((fr1 0 (by decide) (by decide)).trans (by simp [upd, h0]))
      rw [← exy2] at w2
      have ep : (((x ++ y.take (k + 1)).length + k1 : Nat) : Int) = (x ++ y.take (k + 1 + k1)).length := by omega
      refine ⟨loc2, p2, s2, e2, ?_, fun j a c d f' => (fr2 j a c d f').trans ((fr1 j d f').trans (by simp [upd, a, c]))⟩
      rw [whileB]
      rw [e0]
      simp only [body]
      rw [ep]
      exact w2
theorem prelude_ok (hT : TE T D) (hn : 20 ≤ n) {c : List Nat} (hc : ∀ z ∈ c, z ∈ alphaA) (hl : c.length < 900) (hln : c.length < n) (ho : okIY (c.map strip) = true) (hy : hdIs 121 (c.map strip) = false) {b s e : Int} {r : List (Nat × PV)} (hr : r.length < 800) :
    ∃ v p' s' e', F_r_prelude T D n [.self] (At c 0 c.length b s e r) = some (.bool v, At (c.map strip) p' c.length b s' e' r) := by
  have hr' : r.length + 6 < 900 := by omega
  have hml : (c.map strip).length = c.length := List.length_map _
  obtain ⟨lo1, s1, e1, w1, f1⟩ := pl1_loop hT hn (b := b) (l := c.length) (r := r) hr c [] n (upd (startLoc [.self]) 1 (.int 0)) s e hc hln (by simp; omega) (by simp) (by simp [upd, sl0])
  simp only [List.nil_append] at w1
  have g0 : lo1 0 = some .self := (f1 0 (by decide) (by decide)).trans (by simp [upd, sl0])
  have g1 : lo1 1 = some (.int 0) := (f1 1 (by decide) (by decide)).trans (by simp [upd])
  have n1 := nxT_ok (T := T) (c := 121) (x := []) (y := c.map strip) (loc := upd lo1 4 (.int 0)) (b := b) (l := c.length) (s := 0) (e := e1) (p := 0) (r := r) (by simp [upd, g0]) (by simp; omega) (by simp) rfl
  rw [hy, List.nil_append] at n1
  obtain ⟨lo2, p2, s2, e2, w2, f2⟩ := pl3_loop hT.toTDs hn (b := b) (l := c.length) (r := r) hr (c.length + 1) [] (c.map strip) n (upd lo1 4 (.int 0)) 0 e1 (by omega) ho (by omega) (by simp; omega) (by simp; omega) (by simp) (by simp [upd, g0])
  simp only [List.nil_append, List.length_nil] at w2
  have unf : f_r_prelude T D n = seqB (asgN 1 (selfGet 1 (lo 0))) (seqB (whileB (boolT (cB true)) (pl1 T D n) n) (seqB (asgA 1 (lo 0) (lo 1)) (seqB (asgN 4 (selfGet 1 (lo 0))) (seqB (tryB 0 (seqB (asgA 4 (lo 0) (selfGet 1 (lo 0))) (seqB (ifB (nxT T 121) (seqB (asgA 1 (lo 0) (lo 4)) (raiseB 0)) skipB) (seqB (augA .Add 1 (lo 0) (cI 1)) (seqB (asgA 5 (lo 0) (selfGet 1 (lo 0))) (exprB (methE (F_slice_from T D n) (lo 0) (consL (cS [89]) nilL)))))))) (seqB (whileB (boolT (cB true)) (pl3 T D n) n) (retB (cB true))))))) := rfl
  refine ⟨true, p2, s2, e2, ?_⟩
  refine runF_ret rfl (st := ⟨lo2, _⟩) ?_
  rw [unf]
  have w1' : whileB (boolT (cB true)) (pl1 T D n) n ⟨upd (startLoc [.self]) 1 (.int 0), At c 0 c.length b s e r⟩ = some (.next, ⟨lo1, At (c.map strip) c.length c.length b s1 e1 r⟩) := w1
  have w2' : whileB (boolT (cB true)) (pl3 T D n) n ⟨upd lo1 4 (.int 0), At (c.map strip) 0 c.length b 0 e1 r⟩ = some (.next, ⟨lo2, At (c.map strip) p2 c.length b s2 e2 r⟩) := w2
  push_cast [sl0, w1', g0, g1, hr', n1, w2']
end
theorem st5_mem {u : List Nat} (ha : ∀ x ∈ u, x ∈ alpha) : ∀ x ∈ st5 u, x ∈ alpha := by
  intro x hx
  cases u with
  | nil => exact ha x hx
  | cons z w =>
    rw [st5_cons] at hx
    repeat' split at hx
    all_goals first
      | exact ha x hx
      | (rcases List.mem_cons.mp hx with rfl | h
         · exact ha _ (.head _)
         · exact ha _ (.tail _ (List.mem_of_mem_tail h)))
theorem suffix_mem {p1 p2 : Int} {u : List Nat} (ha : ∀ x ∈ u, x ∈ alpha) : ∀ x ∈ suffix p1 p2 u, x ∈ alpha :=
  st5_mem (st4_mem (st3_mem (ste_mem (st1_mem ha))))
theorem st5_len (u : List Nat) : (st5 u).length ≤ u.length := by
  cases u with
  | nil => exact Nat.le_refl _
  | cons z w =>
    rw [st5_cons]
    repeat' split
    all_goals simp
theorem suffix_len (p1 p2 : Int) (u : List Nat) : (suffix p1 p2 u).length ≤ u.length + 4 := by
  have l1 := st1_len p1 u
  have l2 := ste_len p1 (st1 p1 u)
  have l3 := st3_len p1 p2 (ste p1 (st1 p1 u))
  have l4 := st4_len p1 p2 (eOk p1 (st1 p1 u)) (st3 p1 p2 (ste p1 (st1 p1 u)))
  have l5 := st5_len (st4 p1 p2 (eOk p1 (st1 p1 u)) (st3 p1 p2 (ste p1 (st1 p1 u))))
  unfold suffix
  omega
section
variable {T : Addr → Option TO} {D : WD} {n : Nat}
noncomputable def po1 (T : Addr → Option TO) (D : WD) (n : Nat) : St → Option (Fl × St) := (seqB (asgN 1 (selfGet 1 (lo 0))) (seqB (tryB 0 (seqB (asgA 4 (lo 0) (selfGet 1 (lo 0))) (seqB (asgN 2 (methE (F_find_among T D n) (lo 0) (consL (cT (D.ta 1)) nilL))) (seqB (asgA 5 (lo 0) (selfGet 1 (lo 0))) (seqB (ifB (cmpE T .Eq (lo 2) (cI 1)) (exprB (methE (F_slice_from T D n) (lo 0) (consL (cS [121]) nilL))) (ifB (cmpE T .Eq (lo 2) (cI 2)) (exprB (methE (F_slice_from T D n) (lo 0) (consL (cS [105]) nilL))) (seqB (ifB (cmpE T .GtE (selfGet 1 (lo 0)) (selfGet 2 (lo 0))) (raiseB 0) skipB) (augA .Add 1 (lo 0) (cI 1))))) (fun st => some (.cont, st))))))) (seqB (asgA 1 (lo 0) (lo 1)) (fun st => some (.brk, st)))))
theorem po1_loop (hT : TE T D) (hn : 20 ≤ n) {b l : Int} {r : List (Nat × PV)} (hr : r.length < 800) : ∀ (y x : List Nat) (m : Nat) (loc : Nat → Option PV) (s e : Int), (∀ z ∈ y, z ∈ alpha) → y.length < m → x.length + y.length < 990 → l = x.length + y.length → loc 0 = some .self →
    ∃ loc' s' e', whileB (boolT (cB true)) (po1 T D n) m ⟨loc, At (x ++ y) x.length l b s e r⟩ = some (.next, ⟨loc', At (x ++ y) l l b s' e' r⟩)
  | [], x, m, loc, s, e, hy, hm, hl, hll, h0 => by
    obtain ⟨m, rfl⟩ : ∃ k, m = k + 1 := ⟨m - 1, by omega⟩
    have hlx : l = x.length := by simpa using hll
    subst hlx
    have hr' : r.length + 6 < 900 := by omega
    have hf := find_f (D := D) hT.t1 hn (t := x) (u := []) (b := b) (s := x.length) (e := e) (r := r) (by simp at hl ⊢; omega) hr fab1_nil
    have hf' : F_find_among T D n [.self, .top (D.ta 1)] (At x x.length x.length b x.length e r) = some (.int 3, At x x.length x.length b x.length e r) := by
      rw [List.append_nil] at hf
      have e1 : ((x.length + ([] : List Nat).length : Nat) : Int) = x.length := by simp
      rw [e1] at hf
      rw [hf]; exact congrArg some (congrArg (Prod.mk _) (at_cong rfl (by omega) rfl rfl rfl rfl rfl))
    have dg : cmpF T .GtE (.int x.length) (.int x.length) = some true := by show some (decide _) = _; congr 1; exact decide_eq_true (Int.le_refl _)
    have c1 : cmpF T .Eq (.int 3) (.int 1) = some false := rfl
    have c2 : cmpF T .Eq (.int 3) (.int 2) = some false := rfl
    refine ⟨upd (upd loc 1 (.int x.length)) 2 (.int 3), x.length, x.length, ?_⟩
    have body : po1 T D n ⟨loc, At x x.length x.length b s e r⟩ = some (.brk, ⟨upd (upd loc 1 (.int x.length)) 2 (.int 3), At x x.length x.length b x.length x.length r⟩) := by
      push_cast [po1, h0, hr', hf', c1, c2, dg]
    have e0 : boolT (cB true) (⟨loc, At (x ++ []) x.length x.length b s e r⟩ : St) = some (true, ⟨loc, At (x ++ []) x.length x.length b s e r⟩) := rfl
    rw [whileB]
    rw [e0]
    simp only [List.append_nil, body]
  | z :: y, x, m, loc, s, e, hy, hm, hl, hll, h0 => by
    obtain ⟨m, rfl⟩ : ∃ k, m = k + 1 := ⟨m - 1, by omega⟩
    simp only [List.length_cons] at hm hl hll
    have hr' : r.length + 6 < 900 := by omega
    have hf := find_f (D := D) hT.t1 hn (t := x) (u := z :: y) (b := b) (s := x.length) (e := e) (r := r) (by simp; omega) hr (fab1_cons (hy z (.head _)) y)
    have hf' : F_find_among T D n [.self, .top (D.ta 1)] (At (x ++ z :: y) x.length l b x.length e r) = some (.int 3, At (x ++ z :: y) x.length l b x.length e r) := by
      have e1 : ((x.length + (z :: y).length : Nat) : Int) = l := by simp only [List.length_cons]; omega
      rw [e1] at hf
      rw [hf]; exact congrArg some (congrArg (Prod.mk _) (at_cong rfl (by omega) rfl rfl rfl rfl rfl))
    have c1 : cmpF T .Eq (.int 3) (.int 1) = some false := rfl
    have c2 : cmpF T .Eq (.int 3) (.int 2) = some false := rfl
    have dg : cmpF T .GtE (.int x.length) (.int l) = some false := by show some (decide _) = _; congr 1; exact decide_eq_false (by omega)
    have q0 : binF .Add (.int x.length) (.int 1) = some (.int (x ++ [z]).length) := add_ (by simp)
    have body : po1 T D n ⟨loc, At (x ++ z :: y) x.length l b s e r⟩ = some (.cont, ⟨upd (upd loc 1 (.int x.length)) 2 (.int 3), At (x ++ z :: y) (x ++ [z]).length l b x.length x.length r⟩) := by
      push_cast [po1, h0, hr', hf', c1, c2, dg, q0]
    obtain ⟨loc2, s2, e2, h2⟩ := po1_loop hT hn (b := b) (l := l) hr y (x ++ [z]) m (upd (upd loc 1 (.int x.length)) 2 (.int 3)) x.length x.length (fun w hw => hy w (.tail _ hw)) (by omega) (by simp; omega) (by simp; omega) (by simp [upd, h0])
    refine ⟨loc2, s2, e2, ?_⟩
    have e0 : boolT (cB true) (⟨loc, At (x ++ z :: y) x.length l b s e r⟩ : St) = some (true, ⟨loc, At (x ++ z :: y) x.length l b s e r⟩) := rfl
    rw [List.append_assoc, List.singleton_append] at h2
    rw [whileB]
    rw [e0]
    simp only [body, h2]
theorem postlude_ok (hT : TE T D) (hn : 20 ≤ n) {c : List Nat} (hc : ∀ z ∈ c, z ∈ alpha) (hl : c.length < 900) (hln : c.length < n) {b s e : Int} {r : List (Nat × PV)} (hr : r.length < 800) :
    ∃ v p' s' e', F_r_postlude T D n [.self] (At c 0 c.length b s e r) = some (.bool v, At c p' c.length b s' e' r) := by
  obtain ⟨lo1, s1, e1, w1⟩ := po1_loop hT hn (b := b) (l := c.length) (r := r) hr c [] n (startLoc [.self]) s e hc hln (by simp; omega) (by simp) sl0
  simp only [List.nil_append] at w1
  have w1' : whileB (boolT (cB true)) (po1 T D n) n ⟨startLoc [.self], At c 0 c.length b s e r⟩ = some (.next, ⟨lo1, At c c.length c.length b s1 e1 r⟩) := w1
  have unf : f_r_postlude T D n = seqB (whileB (boolT (cB true)) (po1 T D n) n) (retB (cB true)) := rfl
  refine ⟨true, c.length, s1, e1, ?_⟩
  refine runF_ret rfl (st := ⟨lo1, _⟩) ?_
  rw [unf]
  push_cast [w1']
noncomputable def stemOf (c : List Nat) : List Nat := (suffix (regs (c.map strip)).1 (regs (c.map strip)).2 (c.map strip).reverse).reverse
theorem strip_alpha : ∀ z ∈ alphaA, strip z ∈ alpha := by decide +kernel
theorem stem_ok (hT : TE T D) (hn : 20 ≤ n) {c : List Nat} (hc : ∀ z ∈ c, z ∈ alphaA) (hl : c.length < 800) (hln : c.length + 4 < n) (ho : okIY (c.map strip) = true) (hy : hdIs 121 (c.map strip) = false) {b s e : Int} {r : List (Nat × PV)} (h9 : R9 r) :
    ∃ v s' e' r' p' b', F_stem T D n [.self] (At c 0 c.length b s e r) = some (.bool v, At (stemOf c) p' (stemOf c).length b' s' e' r') ∧ R9 r' := by
  have h9l := h9.len
  have hml : (c.map strip).length = c.length := List.length_map _
  have hr' : r.length + 6 < 900 := by omega
  obtain ⟨v1, p1, s1, e1, w1⟩ := prelude_ok hT hn hc (by omega) (by omega) ho hy (b := b) (s := s) (e := e) (r := r) (by omega)
  have hca : ∀ z ∈ c.map strip, z ∈ alpha := by
    intro z hz
    obtain ⟨y, hy', rfl⟩ := List.mem_map.mp hz
    exact strip_alpha y (hc y hy')
  have hcu : ∀ z ∈ (c.map strip).reverse, z ∈ alpha := fun z hz => hca z (List.mem_reverse.mp hz)
  unfold stemOf
  generalize c.map strip = u at *
  obtain ⟨v2, p2, q2, w2, hq2⟩ := mark_ok (n := n) hT.toTDs (c := u) (b := b) (s := s1) (e := e1) (r := r) h9 (by omega) (by omega)
  rw [hml] at w2
  have hr2 : ∀ q, Q8 q → (Rr (regs u).1 (regs u).2 q).length + 6 < 900 := fun q hq => by have := hq.len; simp; omega
  obtain ⟨p3, s3, e3, q3, w3, hq3⟩ := std_ok hT.toTDs hn (u := u.reverse) hcu (by rw [List.length_reverse]; omega) (s := s1) (e := e1) (p1 := (regs u).1) (p2 := (regs u).2) hq2
  rw [List.reverse_reverse, List.length_reverse, hml] at w3
  have hsm := suffix_mem (p1 := (regs u).1) (p2 := (regs u).2) hcu
  have hsl := suffix_len (regs u).1 (regs u).2 u.reverse
  rw [List.length_reverse] at hsl
  generalize hS : suffix (regs u).1 (regs u).2 u.reverse = S at *
  obtain ⟨v4, p4, s4, e4, w4⟩ := postlude_ok hT hn (c := S.reverse) (fun z hz => hsm z (List.mem_reverse.mp hz)) (by rw [List.length_reverse]; omega) (by rw [List.length_reverse]; omega) (b := 0) (s := s3) (e := e3) (r := Rr (regs u).1 (regs u).2 q3) (by have := hq3.len; simp; omega)
  rw [List.length_reverse] at w4
  refine ⟨true, s4, e4, Rr (regs u).1 (regs u).2 q3, 0, 0, ?_, .inr ⟨_, _, q3, rfl, hq3⟩⟩
  refine runF_ret rfl (st := ⟨upd (upd (upd (startLoc [.self]) 1 (.int 0)) 2 (.int 0)) 3 (.int 0), _⟩) ?_
  push_cast [f_stem, sl0, w1, hr', w2, hr2 q2 hq2, w3, hr2 q3 hq3, w4, List.length_reverse]
theorem set_ok_ {c c0 : List Nat} {p l b s e : Int} {r : List (Nat × PV)} (hl : c.length < 1000) (hr : r.length < 800) :
    F_set_current T D n [.self, .str c] (At c0 p l b s e r) = some (.none, At c 0 c.length 0 0 c.length r) := by
  have ln : biF T .len [.str c] = some (.int c.length) := len_str hl
  have hr' : r.length + 6 < 900 := by omega
  refine runF_next rfl (st := ⟨startLoc [.self, .str c], _⟩) ?_
  push_cast [f_set_current, sl0, sl1, ln, hr']
theorem stemWord_ok (hT : TE T D) (hn : 20 ≤ n) {c c0 : List Nat} (hc : ∀ z ∈ c, z ∈ alphaA) (hl : c.length < 800) (hln : c.length + 4 < n) (ho : okIY (c.map strip) = true) (hy : hdIs 121 (c.map strip) = false) {p l b s e : Int} {r : List (Nat × PV)} (h9 : R9 r) :
    ∃ p' l' b' s' e' r', F_stemWord T D n [.self, .str c] (At c0 p l b s e r) = some (.str (stemOf c), At (stemOf c) p' l' b' s' e' r') ∧ R9 r' := by
  have h9l := h9.len
  have w1 := set_ok_ (T := T) (D := D) (n := n) (c := c) (c0 := c0) (p := p) (l := l) (b := b) (s := s) (e := e) (r := r) (by omega) (by omega)
  obtain ⟨v, s', e', r', p', b', w2, h9'⟩ := stem_ok hT hn hc hl hln ho hy (b := 0) (s := 0) (e := c.length) h9
  have w3 : F_get_current T D n [.self] (At (stemOf c) p' (stemOf c).length b' s' e' r') = some (.str (stemOf c), At (stemOf c) p' (stemOf c).length b' s' e' r') := by
    refine runF_ret rfl (st := ⟨startLoc [.self], _⟩) ?_
    push_cast [f_get_current, sl0]
  refine ⟨p', (stemOf c).length, b', s', e', r', ?_, h9'⟩
  refine runF_ret rfl (st := ⟨startLoc [.self, .str c], _⟩) ?_
  push_cast [f_stemWord, sl0, sl1, w1, w2, w3]
theorem init_ok : F_init T D n [.self] [] = some (.none, At [] 0 0 0 0 0 []) := by
  refine runF_next rfl (st := ⟨startLoc [.self], _⟩) ?_
  have : F_set_current T D n [.self, .str []] [] = some (.none, At [] 0 0 0 0 0 []) := rfl
  push_cast [f_init, sl0, this]
theorem stems_ok (hT : TE T D) (hn : 20 ≤ n) : ∀ (ws : List (List Nat)) (c0 : List Nat) (p l b s e : Int) (r : List (Nat × PV)), (∀ c ∈ ws, (∀ z ∈ c, z ∈ alphaA) ∧ c.length < 800 ∧ c.length + 4 < n ∧ okIY (c.map strip) = true ∧ hdIs 121 (c.map strip) = false) → R9 r →
    ∃ att', stemsF (F_stemWord T D n) ws (At c0 p l b s e r) = some (ws.map stemOf, att')
  | [], c0, p, l, b, s, e, r, h, h9 => ⟨_, rfl⟩
  | c :: ws, c0, p, l, b, s, e, r, h, h9 => by
    obtain ⟨h1, h2, h3, h4, h5⟩ := h c (.head _)
    obtain ⟨p', l', b', s', e', r', w, h9'⟩ := stemWord_ok hT hn (c0 := c0) h1 h2 h3 h4 h5 (p := p) (l := l) (b := b) (s := s) (e := e) h9
    obtain ⟨att', w2⟩ := stems_ok hT hn ws (stemOf c) p' l' b' s' e' r' (fun c hc => h c (.tail _ hc)) h9'
    refine ⟨att', ?_⟩
    show Option.bind _ _ = _
    rw [w]
    show Option.map _ (stemsF (F_stemWord T D n) ws _) = _
    rw [w2]; rfl
end
inductive M (α : Type) where
  | fail
  | ret (a : α)
  | ask (i S : Nat) (k : Bool → M α)
noncomputable def tb (S n : Nat) : Bool := Nat.beq (Nat.land 1 (Nat.shiftRight S n)) 1
theorem tb_eq (S n : Nat) : tb S n = S.testBit n := by
  unfold tb
  rw [Nat.testBit_eq_decide_div_mod_eq]
  have h1 : Nat.land 1 (Nat.shiftRight S n) = (S / 2 ^ n) % 2 := by
    show 1 &&& (S >>> n) = _
    rw [Nat.shiftRight_eq_div_pow, Nat.one_and_eq_mod_two]
  rw [h1, Bool.eq_iff_iff, Nat.beq_eq, decide_eq_true_eq]
noncomputable def M.run {α : Type} (ρ : Nat → Nat) : M α → Option α
  | .fail => none
  | .ret a => some a
  | .ask i S k => (k (tb S (ρ i))).run ρ
noncomputable def mget : List Nat → Nat → Nat
  | [], _ => 0
  | d :: _, 0 => d
  | _ :: r, i + 1 => mget r i
noncomputable def mset : List Nat → Nat → Nat → List Nat
  | [], _, _ => []
  | _ :: r, 0, x => x :: r
  | d :: r, i + 1, x => d :: mset r i x
noncomputable def chkM {α : Type} (P : List Nat → α → Bool) : M α → List Nat → Bool
  | .fail, _ => false
  | .ret a, D => P D a
  | .ask i S k, D =>
    bif Nat.beq (mget D i) 0 then false
    else bif Nat.beq (Nat.land (mget D i) S) 0 then chkM P (k false) D
    else bif Nat.beq (Nat.land (mget D i) S) (mget D i) then chkM P (k true) D
    else (chkM P (k true) (mset D i (Nat.land (mget D i) S)) && chkM P (k false) (mset D i (Nat.xor (mget D i) (Nat.land (mget D i) S))))
noncomputable def InM (ρ : Nat → Nat) (D : List Nat) : Prop := ∀ i, mget D i ≠ 0 → (mget D i).testBit (ρ i) = true
theorem mget_set : ∀ (D : List Nat) (i : Nat) (x : Nat) (j : Nat), mget (mset D i x) j = if j = i then (if i < D.length then x else 0) else mget D j
  | [], i, x, j => (ite_self _).symm.trans (congrArg (fun y => if j = i then y else 0) (if_neg (Nat.not_lt_zero i)).symm)
  | d :: r, 0, x, 0 => by rw [if_pos rfl]; exact (if_pos (Nat.succ_pos _)).symm
  | d :: r, 0, x, j + 1 => by rw [if_neg (Nat.succ_ne_zero j)]; rfl
  | d :: r, i + 1, x, 0 => by rw [if_neg (Nat.succ_ne_zero i).symm]; rfl
  | d :: r, i + 1, x, j + 1 => by
    refine (mget_set r i x j).trans ?_
    by_cases e : j = i
    · rw [if_pos e, if_pos (congrArg (· + 1) e)]
      by_cases l : i < r.length
      · rw [if_pos l]; exact (if_pos (Nat.succ_lt_succ l)).symm
      · rw [if_neg l]; exact (if_neg fun q => l (Nat.lt_of_succ_lt_succ q)).symm
    · rw [if_neg e, if_neg fun q => e (Nat.succ.inj q)]; rfl
theorem InM.set {ρ : Nat → Nat} {D : List Nat} (h : InM ρ D) {i : Nat} {x : Nat} (hx : x.testBit (ρ i) = true) : InM ρ (mset D i x) := by
  intro j hj
  rw [mget_set] at hj ⊢
  by_cases e : j = i
  · subst e
    rw [if_pos rfl] at hj ⊢
    by_cases hl : j < D.length
    · rw [if_pos hl]; exact hx
    · rw [if_neg hl] at hj; exact absurd rfl hj
  · rw [if_neg e] at hj ⊢; exact h j hj
theorem chkM_ok {α : Type} {P : List Nat → α → Bool} {ρ : Nat → Nat} : ∀ (q : M α) (D : List Nat), InM ρ D → chkM P q D = true → ∃ a D', q.run ρ = some a ∧ InM ρ D' ∧ P D' a = true
  | .fail, D, hD, h => Bool.noConfusion h
  | .ret a, D, hD, h => ⟨a, D, rfl, hD, h⟩
  | .ask i S k, D, hD, h => by
    replace h : cond _ _ _ = true := h
    cases e0 : Nat.beq (mget D i) 0 with
    | true => rw [e0] at h; cases h
    | false =>
    rw [e0] at h
    have hm : (mget D i).testBit (ρ i) = true := hD i (fun e => by rw [e] at e0; cases e0)
    show ∃ a D', (k (tb S (ρ i))).run ρ = some a ∧ _
    rw [tb_eq]
    have hand : (Nat.land (mget D i) S).testBit (ρ i) = S.testBit (ρ i) := by
      show (mget D i &&& S).testBit (ρ i) = _
      rw [Nat.testBit_and, hm, Bool.true_and]
    cases e1 : Nat.beq (Nat.land (mget D i) S) 0 with
    | true =>
      rw [e1] at h
      have : Nat.land (mget D i) S = 0 := Nat.eq_of_beq_eq_true e1
      rw [this, Nat.zero_testBit] at hand
      rw [← hand]
      exact chkM_ok _ _ hD h
    | false =>
      rw [e1] at h
      cases e2 : Nat.beq (Nat.land (mget D i) S) (mget D i) with
      | true =>
        rw [e2] at h
        have : Nat.land (mget D i) S = mget D i := Nat.eq_of_beq_eq_true e2
        rw [this, hm] at hand
        rw [← hand]
        exact chkM_ok _ _ hD h
      | false =>
        rw [e2] at h
        simp only [cond_false, Bool.and_eq_true] at h
        cases e3 : S.testBit (ρ i) with
        | true => exact chkM_ok _ _ (hD.set (hand.trans e3)) h.1
        | false =>
          refine chkM_ok _ _ (hD.set ?_) h.2
          show (mget D i ^^^ (Nat.land (mget D i) S)).testBit (ρ i) = true
          rw [Nat.testBit_xor, hm, hand, e3]; rfl
noncomputable def eqM {α : Type} (s : Sy) (n : Nat) (k : Bool → M α) : M α := match s with
  | .c m => k (Nat.beq m n)
  | .v i => .ask i (Nat.pow 2 n) k
noncomputable def memM {α : Type} (s : Sy) (S : Nat) (k : Bool → M α) : M α := match s with
  | .c m => k (tb S m)
  | .v i => .ask i S k
noncomputable def bits : List Nat → Nat
  | [] => 0
  | x :: r => Nat.lor (Nat.pow 2 x) (bits r)
theorem bits_mem (x : Nat) : ∀ S : List Nat, (bits S).testBit x = S.contains x
  | [] => by simp [bits]
  | y :: r => by
    show (2 ^ y ||| bits r).testBit x = _
    rw [Nat.testBit_or, bits_mem x r, Nat.testBit_two_pow, List.contains_cons]
    congr 1
    rw [Bool.eq_iff_iff]; simp; exact eq_comm
section
variable {α : Type} {ρ : Nat → Nat}
theorem run_eqM {s : Sy} {n : Nat} {k : Bool → M α} : (eqM s n k).run ρ = (k (decide (s.val ρ = n))).run ρ := by
  cases s with
  | c m =>
    have : Nat.beq m n = decide (m = n) := by rw [Bool.eq_iff_iff, decide_eq_true_eq, Nat.beq_eq]
    show (k _).run ρ = _; rw [this]; rfl
  | v i =>
    have : tb (Nat.pow 2 n) (ρ i) = decide (ρ i = n) := by
      rw [tb_eq]
      show (2 ^ n).testBit (ρ i) = _
      rw [Nat.testBit_two_pow]
      rw [Bool.eq_iff_iff]; simp; exact eq_comm
    show (k _).run ρ = _; rw [this]; rfl
theorem run_memM {s : Sy} {S : List Nat} {k : Bool → M α} : (memM s (bits S) k).run ρ = (k (S.contains (s.val ρ))).run ρ := by
  cases s with
  | c m => show (k _).run ρ = _; rw [tb_eq, bits_mem]; rfl
  | v i => show (k _).run ρ = _; rw [tb_eq, bits_mem]; rfl
noncomputable def preM : List Nat → List Sy → (Option (List Sy) → M α) → M α
  | [], u, K => K (some u)
  | _ :: _, [], K => .fail
  | z :: zs, x :: u, K => eqM x z fun b => bif b then preM zs u K else K none
noncomputable def tx (ρ : Nat → Nat) (tl : List Nat) (u : List Sy) : List Nat := u.map (Sy.val ρ) ++ tl
theorem run_preM {tl : List Nat} {K : Option (List Sy) → M α} {a : α} : ∀ (z : List Nat) (u : List Sy), (preM z u K).run ρ = some a →
    (isP z (tx ρ tl u) = false ∧ (K none).run ρ = some a) ∨ ∃ w, isP z (tx ρ tl u) = true ∧ (tx ρ tl u).drop z.length = tx ρ tl w ∧ (K (some w)).run ρ = some a
  | [], u, h => .inr ⟨u, rfl, rfl, by cases u <;> exact h⟩
  | y :: z, [], h => nos h
  | y :: z, x :: u, h => by
    have h := run_eqM.symm.trans h
    have e1 : tx ρ tl (x :: u) = x.val ρ :: tx ρ tl u := rfl
    rw [e1]
    rw [isP_c]
    by_cases e : x.val ρ = y
    · rw [decide_eq_true e] at h
      rw [if_pos e]
      rcases run_preM z u h with ⟨h1, h2⟩ | ⟨w, h1, h2, h3⟩
      · exact .inl ⟨h1, h2⟩
      · exact .inr ⟨w, h1, by simpa using h2, h3⟩
    · rw [decide_eq_false e] at h
      rw [if_neg e]
      exact .inl ⟨rfl, h⟩
noncomputable def spM : List (List Nat × Int) → List Sy → (Int → List Sy → M α) → M α
  | [], u, K => K 0 u
  | (z, r) :: L, u, K => preM z u fun o => match o with
    | some w => K r w
    | none => spM L u K
theorem run_spM {tl : List Nat} {K : Int → List Sy → M α} {a : α} : ∀ (L : List (List Nat × Int)) (u : List Sy), (spM L u K).run ρ = some a →
    ∃ w, (tx ρ tl u).drop (sp L (tx ρ tl u)).2 = tx ρ tl w ∧ (K (sp L (tx ρ tl u)).1 w).run ρ = some a
  | [], u, h => ⟨u, rfl, by cases u <;> exact h⟩
  | (z, r) :: L, u, h => by
    rw [sp_c]
    rcases run_preM (tl := tl) z u h with ⟨h1, h2⟩ | ⟨w, h1, h2, h3⟩
    · rw [h1]
      simp only [Bool.false_eq_true, if_false]
      exact run_spM L u h2
    · rw [h1]
      simp only [if_true]
      exact ⟨w, h2, h3⟩
noncomputable def geM (c : Option Nat) (u : List Sy) (K : Bool → M α) : M α := match c with
  | some a => K (Nat.ble (a + 1) u.length)
  | none => match u with
    | [] => .fail
    | _ :: _ => K true
noncomputable def RG (c : Option Nat) (p : Int) (n : Nat) : Prop := match c with
  | some a => p = (n : Int) + 1 + a
  | none => p ≤ (n : Int) + 1
theorem run_geM {tl : List Nat} {c : Option Nat} {p : Int} (hc : RG c p tl.length) {u : List Sy} {K : Bool → M α} {a : α} (h : (geM c u K).run ρ = some a) : (K (decide (p ≤ ((tx ρ tl u).length : Int)))).run ρ = some a := by
  have hl : (tx ρ tl u).length = u.length + tl.length := by simp [tx]
  unfold geM at h
  cases c with
  | some b =>
    have e : Nat.ble (b + 1) u.length = decide (p ≤ ((tx ρ tl u).length : Int)) := by
      rw [Bool.eq_iff_iff, Nat.ble_eq, decide_eq_true_eq, hl]
      have : p = (tl.length : Int) + 1 + b := hc
      omega
    rw [← e]; exact h
  | none =>
    cases u with
    | nil => exact nos h
    | cons x u =>
      have e : decide (p ≤ ((tx ρ tl (x :: u)).length : Int)) = true := by
        refine decide_eq_true ?_
        have : p ≤ (tl.length : Int) + 1 := hc
        rw [hl]; simp only [List.length_cons]; omega
      rw [e]; exact h
noncomputable def outM (S : Nat) (u : List Sy) (K : Bool → M α) : M α := match u with
  | [] => .fail
  | x :: _ => memM x S fun b => K (!b)
theorem run_outM {tl : List Nat} {S : List Nat} {u : List Sy} {K : Bool → M α} {a : α} (h : (outM (bits S) u K).run ρ = some a) : (K (outOk S (tx ρ tl u))).run ρ = some a := by
  cases u with
  | nil => exact nos h
  | cons x u =>
    replace h : (memM x (bits S) fun b => K (!b)).run ρ = some a := h
    rw [run_memM] at h
    exact h
noncomputable def undM (u : List Sy) (K : List Sy → M α) : M α := spM L2 u fun r _ => K (bif decide (r = 0) then u else u.tail)
theorem run_undM {tl : List Nat} {u : List Sy} {K : List Sy → M α} {a : α} (h : (undM u K).run ρ = some a) : ∃ w, (undbl (tx ρ tl u)).2 = tx ρ tl w ∧ (K w).run ρ = some a := by
  obtain ⟨w, h1, h2⟩ := run_spM (tl := tl) L2 u h
  refine ⟨_, ?_, h2⟩
  unfold undbl
  by_cases e : (sp L2 (tx ρ tl u)).1 = 0
  · rw [if_pos e, decide_eq_true e]; rfl
  · rw [if_neg e, decide_eq_false e]
    cases u with
    | nil => exact nos h
    | cons x u => rfl
noncomputable def enM (c : Option Nat) (u : List Sy) (K : Bool → M α) : M α := geM c u fun b => bif b then outM (bits gv) u fun o => bif o then preM [109, 101, 103] u fun m => K m.isNone else K false else K false
theorem run_enM {tl : List Nat} {c : Option Nat} {p : Int} (hc : RG c p tl.length) {u : List Sy} {K : Bool → M α} {a : α} (h : (enM c u K).run ρ = some a) : (K (enOk p (tx ρ tl u))).run ρ = some a := by
  have h1 := run_geM hc h
  unfold enOk
  by_cases e : p ≤ ((tx ρ tl u).length : Int)
  · rw [decide_eq_true e] at h1 ⊢
    simp only [cond_true] at h1
    have h2 := run_outM (tl := tl) h1
    rw [Bool.true_and]
    cases e2 : outOk gv (tx ρ tl u) with
    | true =>
      rw [e2] at h2
      rw [Bool.true_and]
      rcases run_preM (tl := tl) _ u h2 with ⟨h3, h4⟩ | ⟨w, h3, h4, h5⟩
      · rw [h3]; exact h4
      · rw [h3]; exact h5
    | false => rw [e2] at h2; exact h2
  · rw [decide_eq_false e] at h1 ⊢
    exact h1
noncomputable def st1M (c1 : Option Nat) (u : List Sy) (K : List Sy → M α) : M α := spM L3 u fun r v =>
  bif decide (r = 0) then K u
  else bif decide (r = 1) then geM c1 v fun b => K (bif b then [.c 100, .c 105, .c 101, .c 104] ++ v else u)
  else bif decide (r = 2) then enM c1 v fun b => bif b then undM v K else K u
  else geM c1 v fun b => bif b then outM (bits gvj) v fun o => K (bif o then v else u) else K u
theorem run_st1M {tl : List Nat} {c1 : Option Nat} {p1 : Int} (hc : RG c1 p1 tl.length) {u : List Sy} {K : List Sy → M α} {a : α} (h : (st1M c1 u K).run ρ = some a) : ∃ w, st1 p1 (tx ρ tl u) = tx ρ tl w ∧ (K w).run ρ = some a := by
  obtain ⟨v, hv, h1⟩ := run_spM (tl := tl) L3 u h
  unfold st1
  rw [hv]
  generalize (sp L3 (tx ρ tl u)).1 = r at h1 ⊢
  by_cases c0 : r = 0
  · rw [decide_eq_true c0] at h1; rw [if_pos c0]; exact ⟨u, rfl, h1⟩
  rw [decide_eq_false c0] at h1; rw [if_neg c0]; simp only [cond_false] at h1
  by_cases c1' : r = 1
  · rw [decide_eq_true c1'] at h1; rw [if_pos c1']; simp only [cond_true] at h1
    have h2 := run_geM hc h1
    by_cases g : p1 ≤ ((tx ρ tl v).length : Int)
    · rw [decide_eq_true g] at h2; rw [if_pos g]; exact ⟨_, rfl, h2⟩
    · rw [decide_eq_false g] at h2; rw [if_neg g]; exact ⟨_, rfl, h2⟩
  rw [decide_eq_false c1'] at h1; rw [if_neg c1']; simp only [cond_false] at h1
  by_cases c2 : r = 2
  · rw [decide_eq_true c2] at h1; rw [if_pos c2]; simp only [cond_true] at h1
    have h2 := run_enM hc h1
    cases g : enOk p1 (tx ρ tl v) with
    | true => rw [g] at h2; simp only [if_true]; exact run_undM h2
    | false => rw [g] at h2; simp only [Bool.false_eq_true, if_false]; exact ⟨u, rfl, h2⟩
  rw [decide_eq_false c2] at h1; rw [if_neg c2]; simp only [cond_false] at h1
  have h2 := run_geM hc h1
  by_cases g : p1 ≤ ((tx ρ tl v).length : Int)
  · rw [decide_eq_true g] at h2; rw [if_pos g]; simp only [cond_true] at h2
    have h3 := run_outM (tl := tl) h2
    cases g2 : outOk gvj (tx ρ tl v) with
    | true => rw [g2] at h3; simp only [if_true]; exact ⟨v, rfl, h3⟩
    | false => rw [g2] at h3; simp only [Bool.false_eq_true, if_false]; exact ⟨u, rfl, h3⟩
  · rw [decide_eq_false g] at h2; rw [if_neg g]; exact ⟨u, rfl, h2⟩
noncomputable def eM (c1 : Option Nat) (u : List Sy) (K : Bool → M α) : M α := match u with
  | [] => .fail
  | x :: v => eqM x 101 fun b => bif b then geM c1 v fun g => bif g then outM (bits gv) v K else K false else K false
theorem eOk_cons (p1 : Int) (x : Nat) (v : List Nat) : eOk p1 (x :: v) = (decide (x = 101) && (decide (p1 ≤ v.length) && outOk gv v)) := rfl
theorem run_eM {tl : List Nat} {c1 : Option Nat} {p1 : Int} (hc : RG c1 p1 tl.length) {u : List Sy} {K : Bool → M α} {a : α} (h : (eM c1 u K).run ρ = some a) : (K (eOk p1 (tx ρ tl u))).run ρ = some a := by
  cases u with
  | nil => exact nos h
  | cons x v =>
    replace h : (eqM x 101 fun b => bif b then geM c1 v fun g => bif g then outM (bits gv) v K else K false else K false).run ρ = some a := h
    rw [run_eqM] at h
    have e1 : tx ρ tl (x :: v) = x.val ρ :: tx ρ tl v := rfl
    rw [e1, eOk_cons]
    by_cases e : x.val ρ = 101
    · rw [decide_eq_true e] at h ⊢
      simp only [cond_true] at h
      have h1 := run_geM hc h
      rw [Bool.true_and]
      by_cases g : p1 ≤ ((tx ρ tl v).length : Int)
      · rw [decide_eq_true g] at h1 ⊢
        rw [Bool.true_and]
        simp only [cond_true] at h1
        exact run_outM h1
      · rw [decide_eq_false g] at h1 ⊢; exact h1
    · rw [decide_eq_false e] at h ⊢; exact h
noncomputable def hdM (n : Nat) (u : List Sy) (K : Bool → M α) : M α := match u with
  | [] => .fail
  | x :: _ => eqM x n K
theorem run_hdM {tl : List Nat} {n : Nat} {u : List Sy} {K : Bool → M α} {a : α} (h : (hdM n u K).run ρ = some a) : (K (hdIs n (tx ρ tl u))).run ρ = some a := by
  cases u with
  | nil => exact nos h
  | cons x u => exact run_eqM.symm.trans h
noncomputable def steM (b : Bool) (u : List Sy) (K : List Sy → M α) : M α := bif b then (match u with
  | [] => .fail
  | _ :: v => undM v K) else K u
theorem run_steM {tl : List Nat} {p1 : Int} {u : List Sy} {K : List Sy → M α} {a : α} (h : (steM (eOk p1 (tx ρ tl u)) u K).run ρ = some a) : ∃ w, ste p1 (tx ρ tl u) = tx ρ tl w ∧ (K w).run ρ = some a := by
  unfold ste
  unfold steM at h
  cases e : eOk p1 (tx ρ tl u) with
  | true =>
    rw [e] at h
    simp only [if_true]
    cases u with
    | nil => exact nos h
    | cons x v => exact run_undM h
  | false => rw [e] at h; simp only [Bool.false_eq_true, if_false]; exact ⟨u, rfl, h⟩
end
section
variable {α : Type} {ρ : Nat → Nat}
noncomputable def st3M (c1 c2 : Option Nat) (u : List Sy) (K : List Sy → M α) : M α := preM [100, 105, 101, 104] u fun o => match o with
  | none => K u
  | some v => geM c2 v fun b => bif b then hdM 99 v fun h => bif h then K u else preM [110, 101] v fun o2 => match o2 with
    | none => K v
    | some w => enM c1 w fun e => bif e then undM w K else K v
    else K u
theorem run_st3M {tl : List Nat} {c1 c2 : Option Nat} {p1 p2 : Int} (hc1 : RG c1 p1 tl.length) (hc2 : RG c2 p2 tl.length) {u : List Sy} {K : List Sy → M α} {a : α} (h : (st3M c1 c2 u K).run ρ = some a) : ∃ w, st3 p1 p2 (tx ρ tl u) = tx ρ tl w ∧ (K w).run ρ = some a := by
  unfold st3
  rcases run_preM (tl := tl) _ u h with ⟨h1, h2⟩ | ⟨v, h1, hv, h2⟩
  · rw [h1]; simp only [Bool.false_eq_true, if_false]; exact ⟨u, rfl, h2⟩
  rw [h1]
  have hv4 : (tx ρ tl u).drop 4 = tx ρ tl v := hv
  have hv6 : (tx ρ tl u).drop 6 = (tx ρ tl v).drop 2 := by rw [← hv4, List.drop_drop]
  simp only [if_true]
  rw [hv4, hv6]
  have h3 := run_geM hc2 h2
  by_cases g : p2 ≤ ((tx ρ tl v).length : Int)
  · rw [decide_eq_true g] at h3; rw [if_pos g]
    simp only [cond_true] at h3
    have h4 := run_hdM (tl := tl) h3
    cases g2 : hdIs 99 (tx ρ tl v) with
    | true => rw [g2] at h4; simp only [if_true]; exact ⟨u, rfl, h4⟩
    | false =>
      rw [g2] at h4
      simp only [cond_false] at h4
      simp only [Bool.false_eq_true, if_false]
      rcases run_preM (tl := tl) _ v h4 with ⟨h5, h6⟩ | ⟨w, h5, hw, h6⟩
      · rw [h5]; simp only [Bool.false_eq_true, if_false]; exact ⟨v, rfl, h6⟩
      rw [h5]
      have hw2 : (tx ρ tl v).drop 2 = tx ρ tl w := hw
      simp only [if_true]
      rw [hw2]
      have h7 := run_enM hc1 h6
      cases g3 : enOk p1 (tx ρ tl w) with
      | true => rw [g3] at h7; simp only [if_true]; exact run_undM h7
      | false => rw [g3] at h7; simp only [Bool.false_eq_true, if_false]; exact ⟨v, rfl, h7⟩
  · rw [decide_eq_false g] at h3; rw [if_neg g]; exact ⟨u, rfl, h3⟩
noncomputable def st4aM (c2 : Option Nat) (v : List Sy) (K : List Sy → M α) : M α := preM [103, 105] v fun o => match o with
  | none => undM v K
  | some w => geM c2 w fun b => bif b then hdM 101 w fun h => bif h then undM v K else K w else undM v K
theorem run_st4aM {tl : List Nat} {c2 : Option Nat} {p2 : Int} (hc2 : RG c2 p2 tl.length) {v : List Sy} {K : List Sy → M α} {a : α} (h : (st4aM c2 v K).run ρ = some a) : ∃ w, st4a p2 (tx ρ tl v) = tx ρ tl w ∧ (K w).run ρ = some a := by
  unfold st4a
  rcases run_preM (tl := tl) _ v h with ⟨h1, h2⟩ | ⟨w, h1, hw, h2⟩
  · rw [h1]; simp only [Bool.false_eq_true, if_false]; exact run_undM h2
  rw [h1]
  have hw2 : (tx ρ tl v).drop 2 = tx ρ tl w := hw
  simp only [if_true]
  rw [hw2]
  have h3 := run_geM hc2 h2
  by_cases g : p2 ≤ ((tx ρ tl w).length : Int)
  · rw [decide_eq_true g] at h3; rw [if_pos g]
    simp only [cond_true] at h3
    have h4 := run_hdM (tl := tl) h3
    cases g2 : hdIs 101 (tx ρ tl w) with
    | true => rw [g2] at h4; simp only [if_true]; exact run_undM h4
    | false => rw [g2] at h4; simp only [Bool.false_eq_true, if_false]; exact ⟨w, rfl, h4⟩
  · rw [decide_eq_false g] at h3; rw [if_neg g]; exact run_undM h3
noncomputable def st4M (c1 c2 : Option Nat) (ef : Bool) (u : List Sy) (K : List Sy → M α) : M α := spM L4 u fun r v =>
  bif decide (r = 0) then K u
  else geM c2 v fun b => bif b then
    (bif decide (r = 1) then st4aM c2 v K
    else bif decide (r = 2) then hdM 101 v fun h => K (bif h then u else v)
    else bif decide (r = 3) then eM c1 v fun e => steM e v K
    else bif decide (r = 4) then K v
    else K (bif ef then v else u))
  else K u
theorem run_st4M {tl : List Nat} {c1 c2 : Option Nat} {p1 p2 : Int} (hc1 : RG c1 p1 tl.length) (hc2 : RG c2 p2 tl.length) {ef : Bool} {u : List Sy} {K : List Sy → M α} {a : α} (h : (st4M c1 c2 ef u K).run ρ = some a) : ∃ w, st4 p1 p2 ef (tx ρ tl u) = tx ρ tl w ∧ (K w).run ρ = some a := by
  obtain ⟨v, hv, h1⟩ := run_spM (tl := tl) L4 u h
  unfold st4
  rw [hv]
  generalize (sp L4 (tx ρ tl u)).1 = r at h1 ⊢
  by_cases c0 : r = 0
  · rw [decide_eq_true c0] at h1; rw [if_pos c0]; exact ⟨u, rfl, h1⟩
  rw [decide_eq_false c0] at h1; rw [if_neg c0]; simp only [cond_false] at h1
  have h2 := run_geM hc2 h1
  by_cases g : p2 ≤ ((tx ρ tl v).length : Int)
  · rw [decide_eq_true g] at h2; rw [if_pos g]
    simp only [cond_true] at h2
    by_cases c1' : r = 1
    · rw [decide_eq_true c1'] at h2; rw [if_pos c1']; exact run_st4aM hc2 h2
    rw [decide_eq_false c1'] at h2; rw [if_neg c1']; simp only [cond_false] at h2
    by_cases c2' : r = 2
    · rw [decide_eq_true c2'] at h2; rw [if_pos c2']
      simp only [cond_true] at h2
      have h3 := run_hdM (tl := tl) h2
      cases g2 : hdIs 101 (tx ρ tl v) with
      | true => rw [g2] at h3; simp only [if_true]; exact ⟨u, rfl, h3⟩
      | false => rw [g2] at h3; simp only [Bool.false_eq_true, if_false]; exact ⟨v, rfl, h3⟩
    rw [decide_eq_false c2'] at h2; rw [if_neg c2']; simp only [cond_false] at h2
    by_cases c3 : r = 3
    · rw [decide_eq_true c3] at h2; rw [if_pos c3]
      simp only [cond_true] at h2
      have h3 := run_eM hc1 h2
      have h4 := run_steM h3
      exact h4
    rw [decide_eq_false c3] at h2; rw [if_neg c3]; simp only [cond_false] at h2
    by_cases c4 : r = 4
    · rw [decide_eq_true c4] at h2; rw [if_pos c4]; exact ⟨v, rfl, h2⟩
    rw [decide_eq_false c4] at h2; rw [if_neg c4]; simp only [cond_false] at h2
    cases ef with
    | true => simp only [if_true]; exact ⟨v, rfl, h2⟩
    | false => simp only [Bool.false_eq_true, if_false]; exact ⟨u, rfl, h2⟩
  · rw [decide_eq_false g] at h2; rw [if_neg g]; exact ⟨u, rfl, h2⟩
noncomputable def st5M (u : List Sy) (K : List Sy → M α) : M α := match u with
  | [] => .fail
  | x :: w => memM x (bits gvI) fun b => bif b then K (x :: w) else spM L5 w fun r v => bif decide (r = 0) then K (x :: w) else (match w with
    | [] => .fail
    | _ :: w' => outM (bits gv) v fun o => K (bif o then x :: w' else x :: w))
theorem run_st5M {tl : List Nat} {u : List Sy} {K : List Sy → M α} {a : α} (h : (st5M u K).run ρ = some a) : ∃ w, st5 (tx ρ tl u) = tx ρ tl w ∧ (K w).run ρ = some a := by
  cases u with
  | nil => exact nos h
  | cons x w =>
    unfold st5M at h
    simp only at h
    rw [run_memM] at h
    have e1 : tx ρ tl (x :: w) = x.val ρ :: tx ρ tl w := rfl
    rw [e1, st5_cons]
    cases g : gvI.contains (x.val ρ) with
    | true => rw [g] at h; simp only [if_true]; exact ⟨x :: w, rfl, h⟩
    | false =>
      rw [g] at h
      simp only [cond_false] at h
      simp only [Bool.false_eq_true, if_false]
      obtain ⟨v, hv, h1⟩ := run_spM (tl := tl) L5 w h
      rw [hv]
      generalize (sp L5 (tx ρ tl w)).1 = r at h1 ⊢
      by_cases c0 : r = 0
      · rw [decide_eq_true c0] at h1; rw [if_pos c0]; exact ⟨x :: w, rfl, h1⟩
      rw [decide_eq_false c0] at h1; rw [if_neg c0]; simp only [cond_false] at h1
      cases w with
      | nil => exact nos h1
      | cons y w' =>
        simp only at h1
        have h2 := run_outM (tl := tl) h1
        cases g2 : outOk gv (tx ρ tl v) with
        | true => rw [g2] at h2; simp only [if_true]; exact ⟨x :: w', rfl, h2⟩
        | false => rw [g2] at h2; simp only [Bool.false_eq_true, if_false]; exact ⟨x :: y :: w', rfl, h2⟩
noncomputable def suffixM (c1 c2 : Option Nat) (u : List Sy) (K : List Sy → M α) : M α :=
  st1M c1 u fun u1 => eM c1 u1 fun e => steM e u1 fun u2 => st3M c1 c2 u2 fun u3 => st4M c1 c2 e u3 fun u4 => st5M u4 K
theorem run_suffixM {tl : List Nat} {c1 c2 : Option Nat} {p1 p2 : Int} (hc1 : RG c1 p1 tl.length) (hc2 : RG c2 p2 tl.length) {u : List Sy} {K : List Sy → M α} {a : α} (h : (suffixM c1 c2 u K).run ρ = some a) : ∃ w, suffix p1 p2 (tx ρ tl u) = tx ρ tl w ∧ (K w).run ρ = some a := by
  obtain ⟨u1, e1, h1⟩ := run_st1M hc1 h
  have h2 := run_eM hc1 h1
  unfold suffix
  rw [e1]
  obtain ⟨u2, e2, h3⟩ := run_steM h2
  rw [e2]
  obtain ⟨u3, e3, h4⟩ := run_st3M hc1 hc2 h3
  rw [e3]
  obtain ⟨u4, e4, h5⟩ := run_st4M hc1 hc2 h4
  rw [e4]
  exact run_st5M h5
noncomputable def scanM (neg : Bool) : List Sy → Nat → (Option Nat → M α) → M α
  | [], _, K => K none
  | x :: R, j, K => memM x (bits gv) fun b => bif xor b neg then K (some j) else scanM neg R (j + 1) K
theorem run_scanM {neg : Bool} {K : Option Nat → M α} {a : α} : ∀ (R : List Sy) (j : Nat), (scanM neg R j K).run ρ = some a → (K ((scan (fun z => xor (isVw z) neg) (R.map (Sy.val ρ))).map (· + j))).run ρ = some a
  | [], j, h => h
  | x :: R, j, h => by
    have h := run_memM.symm.trans h
    rw [List.map_cons]
    rw [scan_c]
    have e : gv.contains (x.val ρ) = isVw (x.val ρ) := rfl
    rw [e] at h
    cases g : xor (isVw (x.val ρ)) neg with
    | true => rw [g] at h; simp only [if_true, Option.map_some, Nat.zero_add]; exact h
    | false =>
      rw [g] at h
      have ih := run_scanM R (j + 1) h
      simp only [Bool.false_eq_true, if_false, Option.map_map]
      have e2 : ((fun x => x + j) ∘ fun x => x + 1) = fun x : Nat => x + (j + 1) := by funext x; simp only [Function.comp]; omega
      rw [e2]; exact ih
noncomputable def vcM (R : List Sy) (K : Option Nat → M α) : M α := scanM false R 0 fun o => match o with
  | none => K none
  | some a => scanM true (R.drop (a + 1)) 0 fun o2 => match o2 with
    | none => K none
    | some b => K (some (a + 1 + b + 1))
theorem run_vcM {R : List Sy} {K : Option Nat → M α} {a : α} (h : (vcM R K).run ρ = some a) : (K (vc (R.map (Sy.val ρ)))).run ρ = some a := by
  have h1 := run_scanM R 0 h
  have e1 : (fun z => xor (isVw z) false) = isVw := by funext z; simp
  have e2 : (fun z => xor (isVw z) true) = fun z => !isVw z := by funext z; simp
  have e3 : ∀ o : Option Nat, o.map (· + 0) = o := fun o => by cases o <;> rfl
  rw [e1, e3] at h1
  unfold vc
  cases g : scan isVw (R.map (Sy.val ρ)) with
  | none => rw [g] at h1; exact h1
  | some b =>
    rw [g] at h1
    have h2 := run_scanM _ 0 h1
    rw [e2, e3, List.map_drop] at h2
    simp only
    cases g2 : scan (fun z => !isVw z) ((R.map (Sy.val ρ)).drop (b + 1)) with
    | none => rw [g2] at h2; exact h2
    | some d => rw [g2] at h2; exact h2
end
structure Fam where
  wh : Nat
  deep : Nat
  deepr : List Nat
  low : Nat
  lowr : List Nat
  forms : List (List Nat × List Nat)
noncomputable def fams : List Fam := [
  ⟨0, 0, [], 0, [], [([], []), ([115], [115])]⟩,
  ⟨0, 1, [116], 1, [116], [([116, 101], [116, 101]), ([116, 101, 110], [116, 101, 110])]⟩,
  ⟨0, 1, [100], 1, [100], [([100, 101], [100, 101]), ([100, 101, 110], [100, 101, 110])]⟩,
  ⟨0, 1, [116], 1, [116], [([116], [116])]⟩,
  ⟨0, 1, [106], 1, [106], [([106, 101], [106, 101])]⟩,
  ⟨0, 1, [106, 101, 115], 1, [106, 101, 115], [([106, 101, 115], [106, 101, 115])]⟩,
  ⟨0, 0, [], 1, [104, 101, 105, 100], [([104, 101, 105, 100], [104, 101, 105, 100]), ([104, 101, 100, 101, 110], [104, 101, 100, 101, 110]), ([104, 101, 105, 100, 115], [104, 101, 105, 100])]⟩,
  ⟨0, 0, [], 1, [108, 105, 106, 107], [([108, 105, 106, 107], [108, 105, 106, 107]), ([108, 105, 106, 107, 101], [108, 105, 106, 107]), ([108, 105, 106, 107, 101, 110], [108, 105, 106, 107]), ([108, 105, 106, 107, 115], [108, 105, 106, 107]), ([108, 105, 106, 107, 104, 101, 105, 100], [108, 105, 106, 107, 104, 101, 105, 100])]⟩,
  ⟨0, 0, [], 1, [98, 97, 114], [([98, 97, 97, 114], [98, 97, 114]), ([98, 97, 114, 101], [98, 97, 114]), ([98, 97, 97, 114, 104, 101, 105, 100], [98, 97, 97, 114, 104, 101, 105, 100])]⟩,
  ⟨0, 1, [98, 97, 114], 1, [98, 97, 114], [([98, 97, 114], [98, 97, 114]), ([98, 97, 114, 101, 110], [98, 97, 114])]⟩,
  ⟨0, 1, [108, 111, 115], 1, [108, 111, 115], [([108, 111, 111, 115], [108, 111, 115]), ([108, 111, 111, 115, 104, 101, 105, 100], [108, 111, 111, 115, 104, 101, 105, 100])]⟩,
  ⟨0, 1, [108, 111, 122], 1, [108, 111, 122], [([108, 111, 122, 101], [108, 111, 122]), ([108, 111, 122, 101, 110], [108, 111, 122])]⟩,
  ⟨0, 1, [122, 97, 109], 1, [122, 97, 109], [([122, 97, 97, 109], [122, 97, 109]), ([122, 97, 109, 101], [122, 97, 109]), ([122, 97, 97, 109, 104, 101, 105, 100], [122, 97, 97, 109, 104, 101, 105, 100])]⟩,
  ⟨0, 1, [97, 99, 104, 116], 1, [97, 99, 104, 116], [([97, 99, 104, 116, 105, 103], [97, 99, 104, 116, 105, 103]), ([97, 99, 104, 116, 105, 103, 101], [97, 99, 104, 116, 105, 103]), ([97, 99, 104, 116, 105, 103, 104, 101, 105, 100], [97, 99, 104, 116, 105, 103])]⟩,
  ⟨0, 1, [115, 99, 104, 97, 112], 1, [115, 99, 104, 97, 112], [([115, 99, 104, 97, 112], [115, 99, 104, 97, 112]), ([115, 99, 104, 97, 112, 115], [115, 99, 104, 97, 112])]⟩,
  ⟨0, 1, [115, 99, 104, 97, 112, 112], 1, [115, 99, 104, 97, 112, 112], [([115, 99, 104, 97, 112, 112, 101, 110], [115, 99, 104, 97, 112, 112])]⟩,
  ⟨0, 1, [100, 111, 109], 1, [100, 111, 109], [([100, 111, 109], [100, 111, 109])]⟩,
  ⟨0, 1, [100, 111, 109, 109], 1, [100, 111, 109, 109], [([100, 111, 109, 109, 101, 110], [100, 111, 109, 109])]⟩,
  ⟨0, 1, [115, 116, 101, 114], 1, [115, 116, 101, 114], [([115, 116, 101, 114], [115, 116, 101, 114]), ([115, 116, 101, 114, 115], [115, 116, 101, 114])]⟩,
  ⟨0, 1, [115, 116], 1, [115, 116], [([115, 116], [115, 116]), ([115, 116, 101], [115, 116, 101]), ([115, 116, 101, 110], [115, 116, 101, 110])]⟩,
  ⟨1, 2, [], 2, [], [([101, 110], [101, 110]), ([101], [101]), ([101, 110, 104, 101, 105, 100], [101, 110, 104, 101, 105, 100]), ([101, 110, 104, 101, 100, 101, 110], [101, 110, 104, 101, 105, 100])]⟩,
  ⟨1, 2, [], 3, [101, 110, 100], [([101, 110, 100], [101, 110, 100]), ([101, 110, 100, 101], [101, 110, 100]), ([101, 110, 100, 101, 110], [101, 110, 100])]⟩,
  ⟨1, 2, [], 3, [105, 110, 103], [([105, 110, 103], [105, 110, 103]), ([105, 110, 103, 101, 110], [105, 110, 103]), ([105, 110, 103, 115], [105, 110, 103])]⟩,
  ⟨1, 3, [], 3, [105, 103], [([105, 103], [105, 103]), ([105, 103, 101], [105, 103]), ([105, 103, 101, 110], [105, 103]), ([105, 103, 104, 101, 105, 100], [105, 103, 104, 101, 105, 100]), ([105, 103, 104, 101, 100, 101, 110], [105, 103, 104, 101, 105, 100]), ([105, 103, 101, 110, 100], [105, 103, 101, 110, 100]), ([105, 103, 101, 110, 100, 101], [105, 103, 101, 110, 100]), ([105, 103, 105, 110, 103], [105, 103, 105, 110, 103]), ([105, 103, 105, 110, 103, 101, 110], [105, 103, 105, 110, 103])]⟩,
  ⟨1, 3, [101, 114], 3, [101, 114], [([101, 114], [101, 114]), ([101, 114, 115], [101, 114]), ([101, 114, 101, 110], [101, 114]), ([101, 114, 101], [101, 114])]⟩,
  ⟨1, 2, [], 3, [101, 108, 105, 106, 107], [([101, 108, 105, 106, 107], [101, 108, 105, 106, 107]), ([101, 108, 105, 106, 107, 101], [101, 108, 105, 106, 107]), ([101, 108, 105, 106, 107, 101, 110], [101, 108, 105, 106, 107]), ([101, 108, 105, 106, 107, 104, 101, 105, 100], [101, 108, 105, 106, 107])]⟩,
  ⟨1, 3, [101, 108], 3, [101, 108], [([101, 108, 105, 110, 103], [101, 108, 105, 110, 103]), ([101, 108, 105, 110, 103, 101, 110], [101, 108, 105, 110, 103]), ([101, 108], [101, 108]), ([101, 108, 115], [101, 108]), ([101, 108, 101, 110], [101, 108])]⟩,
  ⟨1, 3, [101, 110], 3, [101, 110], [([101, 110, 115], [101, 110])]⟩,
  ⟨1, 3, [101, 114, 105, 106], 3, [101, 114, 105, 106], [([101, 114, 105, 106], [101, 114, 105, 106])]⟩]
structure Shape where
  cl : List Sy
  sd : List Sy
  sh : List Sy
  pl : List Sy
  D : List Nat
  rel : Bool
noncomputable def mT : Nat := bits [98, 99, 100, 102, 103, 104, 106, 107, 108, 109, 110, 112, 113, 114, 115, 116, 118, 119, 120, 122]
noncomputable def mC : Nat := bits [98, 100, 102, 103, 104, 107, 108, 109, 110, 112, 113, 114, 116, 118, 119, 120, 122]
noncomputable def tS : Sy := .v 0
noncomputable def cS_ : Sy := .v 1
noncomputable def vS : Sy := .v 2
noncomputable def wS : Sy := .v 3
noncomputable def sh0 : Shape := ⟨[vS, vS, cS_], [vS, cS_], [vS, cS_], [vS, cS_], [mT, mC, bits [97, 101, 111, 117]], false⟩
noncomputable def sh1a : Shape := ⟨[vS, cS_], [vS, cS_, cS_], [vS, cS_], [vS, cS_], [mT, bits [100, 107, 116], bits [97, 101, 105, 111, 117]], false⟩
noncomputable def sh1b : Shape := ⟨[vS, cS_], [vS, cS_, cS_], [vS, cS_], [vS, cS_, cS_], [mT, bits [98, 102, 103, 104, 108, 109, 110, 112, 113, 114, 118, 119, 120, 122], bits [97, 101, 105, 111, 117]], false⟩
noncomputable def same4 (l : List Sy) (D : List Nat) (rel : Bool) : Shape := ⟨l, l, l, l, D, rel⟩
noncomputable def sh2a : Shape := same4 [vS, wS, cS_] [mT, mC, bits [111, 101, 97], bits [117]] false
noncomputable def sh2b : Shape := same4 [vS, wS, cS_] [mT, mC, bits [105, 111], bits [101]] false
noncomputable def sh2c : Shape := same4 [vS, wS, cS_] [mT, mC, bits [117, 101], bits [105]] false
noncomputable def sh2d : Shape := same4 [.c 105, .c 106, cS_] [mT, mC] false
noncomputable def sh2e : Shape := same4 [.c 232, cS_] [mT, mC] false
noncomputable def sh3a : Shape := same4 [vS, wS, cS_] [mT, mC, bits [97, 101, 105, 111, 117], mT] true
noncomputable def sh3b : Shape := same4 [vS, vS, wS, cS_] [mT, mC, bits [97, 101, 111, 117], mT] true
noncomputable def shO : Shape := ⟨[.c 111, .c 111, .c 112], [.c 111, .c 112], [.c 111, .c 112], [.c 111, .c 112], [mT], false⟩
noncomputable def shZ1 : Shape := same4 [cS_] [mT, bits [98, 102, 104, 108, 109, 110, 112, 113, 114, 116, 118, 119, 120, 122]] false
noncomputable def shZ2 : Shape := same4 [.c 107] [bits [98, 99, 100, 102, 103, 104, 107, 108, 109, 110, 112, 113, 114, 115, 116, 118, 119, 120, 122]] false
noncomputable def shZ3 : Shape := same4 [.c 107] [mT] false
noncomputable def shZ4 : Shape := same4 [cS_] [bits [98, 99, 100, 102, 103, 104, 106, 107, 108, 109, 112, 113, 114, 115, 116, 118, 119, 120, 122], bits [100, 103]] false
noncomputable def shZ5 : Shape := same4 [cS_] [mT, bits [100, 103]] false
section
variable {α : Type}
noncomputable def regM (d : Nat) (R : List Sy) (K : Option Nat → Option Nat → M α) : M α := match d with
  | 0 | 1 => vcM R fun o => match o with
    | none => K (some R.length) (some R.length)
    | some a => vcM (R.drop a) fun o2 => match o2 with
      | none => K (some a) (some R.length)
      | some b => K (some a) (some (a + b))
  | 2 => vcM R fun o => match o with
    | none => K none (some R.length)
    | some a => K none (some a)
  | _ => K none none
noncomputable def exM : List (List Nat) → List Sy → (Bool → M α) → M α
  | [], _, K => K false
  | z :: L, u, K => preM z u fun o => match o with
    | some _ => K true
    | none => exM L u K
end
noncomputable def exL : List (List Nat) := [[110, 101], [100, 110, 101], [100, 101, 104], [109, 101, 103], [100, 105, 101, 104], [103, 110, 105], [103, 105], [107, 106, 105, 108], [114, 97, 97, 98], [114, 97, 98]]
noncomputable def lastS : List Sy → Sy
  | [] => .c 0
  | [x] => x
  | _ :: r => lastS r
noncomputable def baseS (S : Shape) (i : Nat) : List Sy := match i with
  | 0 => S.sh
  | 1 => S.cl
  | 2 => S.pl
  | _ => S.sd
noncomputable def expM {α : Type} (d j : Nat) (F : Fam) (no : List Nat) (S : Shape) (K : List Sy → M α) : M α := match d with
  | 0 => K (S.cl ++ no.map Sy.c)
  | _ => let rest := K (bif Nat.beq d 1 then baseS S F.low ++ F.lowr.map Sy.c else baseS S F.deep ++ F.deepr.map Sy.c)
    bif Nat.beq j 1 then eqM (lastS S.cl) 116 fun b => bif b then K S.sh else rest
    else bif Nat.beq j 2 then eqM (lastS S.cl) 100 fun b => bif b then K S.sh else rest
    else rest
noncomputable def shiftO (n : Nat) : Option Nat → Option Nat
  | none => none
  | some a => some (a + n - 1)
noncomputable def caseM (ts : List Sy) (ex : Bool) (d j : Nat) (F : Fam) (en no : List Nat) (S : Shape) : M (Option (List Sy × List Sy)) :=
  exM (bif ex then exL else []) (S.cl.reverse ++ ts) fun b1 => bif b1 then .ret none else
  exM (bif ex then exL else []) (S.sd.reverse ++ ts) fun b2 => bif b2 then .ret none else
  regM d ((bif Nat.beq F.wh 0 then S.cl else S.sd) ++ en.map Sy.c) fun c1 c2 =>
  suffixM (shiftO ts.length c1) (shiftO ts.length c2) (((bif Nat.beq F.wh 0 then S.cl else S.sd) ++ en.map Sy.c).reverse ++ ts) fun w =>
  expM d j F no S fun e => .ret (some (w, e.reverse ++ ts))
noncomputable def one? (m : Nat) : Option Nat := bif Nat.beq m (Nat.pow 2 (Nat.log2 m)) then some (Nat.log2 m) else none
noncomputable def eqS_ (D : List Nat) : Sy → Sy → Bool
  | .c m, .c n => Nat.beq m n
  | .v i, .v j => Nat.beq i j
  | .v i, .c n => Nat.beq (mget D i) (Nat.pow 2 n)
  | .c n, .v i => Nat.beq (mget D i) (Nat.pow 2 n)
noncomputable def eqL (D : List Nat) : List Sy → List Sy → Bool
  | [], [] => true
  | x :: a, y :: b => eqS_ D x y && eqL D a b
  | _, _ => false
noncomputable def leafP (rel : Bool) (D : List Nat) : Option (List Sy × List Sy) → Bool
  | none => true
  | some (w, e) => eqL D w e || (rel && (Nat.beq (mget D 1) (mget D 3) && (Nat.beq (mget D 1) (Nat.pow 2 100) || (Nat.beq (mget D 1) (Nat.pow 2 107) || Nat.beq (mget D 1) (Nat.pow 2 116)))))
noncomputable def chkForms (ts : List Sy) (ex : Bool) (d j : Nat) (F : Fam) (S : Shape) : List (List Nat × List Nat) → Bool
  | [] => true
  | (en, no) :: L => chkM (leafP S.rel) (caseM ts ex d j F en no S) S.D && chkForms ts ex d j F S L
noncomputable def chkFams (ts : List Sy) (ex : Bool) (d : Nat) (S : Shape) : Nat → List Fam → Bool
  | _, [] => true
  | j, F :: L => chkForms ts ex d j F S F.forms && chkFams ts ex d S (j + 1) L
theorem scan_no {P : Nat → Bool} : ∀ (a b : List Nat), (∀ x ∈ a, P x = false) → scan P (a ++ b) = (scan P b).map (a.length + ·)
  | [], b, h => by cases e : scan P b <;> simp [e]
  | x :: a, b, h => by
    have hx := h x (.head _)
    rw [List.cons_append]
    show (if P x then some 0 else (scan P (a ++ b)).map (· + 1)) = _
    rw [hx, scan_no a b fun y hy => h y (.tail _ hy)]
    simp only [Bool.false_eq_true, if_false, Option.map_map]
    congr 1
    funext z; simp only [Function.comp, List.length_cons]; omega
theorem scan_app {P : Nat → Bool} : ∀ (a b : List Nat) (k : Nat), scan P a = some k → scan P (a ++ b) = some k
  | [], b, k, h => nos h
  | x :: a, b, k, h => by
    rw [List.cons_append]
    rw [scan_c] at h ⊢
    by_cases hx : P x
    · rw [if_pos hx] at h ⊢; exact h
    · rw [if_neg hx] at h ⊢
      obtain ⟨j, hj, rfl⟩ := Option.map_eq_some_iff.mp h
      rw [scan_app a b j hj]; rfl
theorem vc_le {y : List Nat} {k : Nat} (h : vc y = some k) : k ≤ y.length ∧ 2 ≤ k := by
  unfold vc at h
  split at h
  · cases h
  · rename_i a ha
    split at h
    · cases h
    · rename_i b hb
      simp only [Option.some.injEq] at h
      have h1 := scan_lt hb
      rw [List.length_drop] at h1
      omega
theorem vc_no (a b : List Nat) (h : ∀ x ∈ a, isVw x = false) : vc (a ++ b) = (vc b).map (a.length + ·) := by
  unfold vc
  rw [scan_no a b h]
  cases e : scan isVw b with
  | none => rfl
  | some s =>
    simp only [Option.map_some]
    have hd : (a ++ b).drop (a.length + s + 1) = b.drop (s + 1) := by
      rw [show a.length + s + 1 = a.length + (s + 1) by omega, List.drop_append, List.drop_eq_nil_of_le (by omega), List.nil_append]
      congr 1; omega
    rw [hd]
    cases e2 : scan (fun z => !isVw z) (b.drop (s + 1)) with
    | none => rfl
    | some t => simp only [Option.map_some]; congr 1; omega
theorem vc_app {a : List Nat} (b : List Nat) {k : Nat} (h : vc a = some k) : vc (a ++ b) = some k := by
  unfold vc at h ⊢
  split at h
  · cases h
  · rename_i s hs
    rw [scan_app a b s hs]
    have hl := scan_lt hs
    simp only
    have hd : (a ++ b).drop (s + 1) = a.drop (s + 1) ++ b := by
      rw [List.drop_append_of_le_length (by omega)]
    rw [hd]
    split at h
    · cases h
    · rename_i t ht
      rw [scan_app _ b t ht]
      exact h
noncomputable def TOLD (d : Nat) (told : List Nat) : Prop := match d with
  | 0 | 1 => told ≠ [] ∧ ∀ x ∈ told, isVw x = false
  | 2 => 3 ≤ told.length ∧ ∃ k, vc told = some k ∧ ∀ x ∈ told.drop k, isVw x = false
  | _ => 3 ≤ told.length ∧ ∃ k j, vc told = some k ∧ vc (told.drop k) = some j
noncomputable def regC (d : Nat) (R : List Nat) : Option Nat × Option Nat := match d with
  | 0 | 1 => (match vc R with
    | none => (some R.length, some R.length)
    | some a => (match vc (R.drop a) with
      | none => (some a, some R.length)
      | some b => (some a, some (a + b))))
  | 2 => (match vc R with
    | none => (none, some R.length)
    | some a => (none, some a))
  | _ => (none, none)
noncomputable def RP (c : Option Nat) (p : Int) (P : Nat) : Prop := match c with
  | some a => p = (P : Int) + a
  | none => p ≤ (P : Int)
theorem regs_of {d : Nat} {told R : List Nat} (h : TOLD d told) : RP (regC d R).1 (regs (told ++ R)).1 told.length ∧ RP (regC d R).2 (regs (told ++ R)).2 told.length := by
  have noV : (told ≠ [] ∧ ∀ x ∈ told, isVw x = false) → RP (regC 1 R).1 (regs (told ++ R)).1 told.length ∧ RP (regC 1 R).2 (regs (told ++ R)).2 told.length := by
    rintro ⟨hne, hv⟩
    have hP : 1 ≤ told.length := by cases told <;> simp at hne ⊢
    unfold regs regC
    have hvc := vc_no told R hv
    by_cases c : (told ++ R).length < 3
    · rw [if_pos c]
      have hn : vc R = none := by
        cases e : vc R with
        | none => rfl
        | some a => have := vc_le e; rw [List.length_append] at c; omega
      simp only [hn]
      exact ⟨by show ((told ++ R).length : Int) = _; rw [List.length_append]; omega, by show ((told ++ R).length : Int) = _; rw [List.length_append]; omega⟩
    · rw [if_neg c, hvc]
      cases e : vc R with
      | none =>
        simp only [Option.map_none]
        exact ⟨by show ((told ++ R).length : Int) = _; rw [List.length_append]; omega, by show ((told ++ R).length : Int) = _; rw [List.length_append]; omega⟩
      | some a =>
        have ha := vc_le e
        simp only [Option.map_some]
        have hd : (told ++ R).drop (told.length + a) = R.drop a := by
          rw [List.drop_append, List.drop_eq_nil_of_le (by omega), List.nil_append]; congr 1; omega
        rw [hd, if_pos (by omega)]
        cases e2 : vc (R.drop a) with
        | none => exact ⟨by show (_ : Int) = _; omega, by show ((told ++ R).length : Int) = _; rw [List.length_append]; omega⟩
        | some b => exact ⟨by show (_ : Int) = _; omega, by show ((told.length + a + b : Nat) : Int) = (told.length : Int) + ((a + b : Nat) : Int); omega⟩
  match d, h with
  | 0, h => exact noV h
  | 1, h => exact noV h
  | 2, h =>
    obtain ⟨h3, k, hk, hv⟩ := h
    have hkl := vc_le hk
    unfold regs regC
    rw [if_neg (by rw [List.length_append]; omega), vc_app R hk]
    simp only
    have hd : (told ++ R).drop k = told.drop k ++ R := List.drop_append_of_le_length hkl.1
    rw [hd, vc_no _ R hv]
    have hdl : (told.drop k).length = told.length - k := List.length_drop
    cases e : vc R with
    | none =>
      simp only [Option.map_none]
      refine ⟨?_, by show ((told ++ R).length : Int) = _; rw [List.length_append]; omega⟩
      show ((if 3 ≤ k then k else 3 : Nat) : Int) ≤ _
      split <;> omega
    | some a =>
      simp only [Option.map_some]
      refine ⟨?_, by show (_ : Int) = _; omega⟩
      show ((if 3 ≤ k then k else 3 : Nat) : Int) ≤ _
      split <;> omega
  | d + 3, h =>
    obtain ⟨h3, k, j, hk, hj⟩ := h
    have hkl := vc_le hk
    have hjl := vc_le hj
    rw [List.length_drop] at hjl
    unfold regs regC
    rw [if_neg (by rw [List.length_append]; omega), vc_app R hk]
    simp only
    have hd : (told ++ R).drop k = told.drop k ++ R := List.drop_append_of_le_length hkl.1
    rw [hd, vc_app R hj]
    refine ⟨?_, by show ((k + j : Nat) : Int) ≤ _; omega⟩
    show ((if 3 ≤ k then k else 3 : Nat) : Int) ≤ _
    split <;> omega
section
variable {α : Type} {ρ : Nat → Nat}
theorem run_regM {d : Nat} {R : List Sy} {K : Option Nat → Option Nat → M α} {a : α} (h : (regM d R K).run ρ = some a) : (K (regC d (R.map (Sy.val ρ))).1 (regC d (R.map (Sy.val ρ))).2).run ρ = some a := by
  have hl : (R.map (Sy.val ρ)).length = R.length := List.length_map _
  have one : (regM 1 R K).run ρ = some a → (K (regC 1 (R.map (Sy.val ρ))).1 (regC 1 (R.map (Sy.val ρ))).2).run ρ = some a := by
    intro h
    unfold regM at h
    simp only at h
    have h1 := run_vcM h
    unfold regC
    cases e : vc (R.map (Sy.val ρ)) with
    | none => rw [e] at h1; simp only [hl]; exact h1
    | some b =>
      rw [e] at h1
      have h2 := run_vcM h1
      rw [List.map_drop] at h2
      simp only
      cases e2 : vc ((R.map (Sy.val ρ)).drop b) with
      | none => rw [e2] at h2; simp only [hl]; exact h2
      | some c => rw [e2] at h2; exact h2
  match d, h with
  | 0, h => exact one h
  | 1, h => exact one h
  | 2, h =>
    unfold regM at h
    simp only at h
    have h1 := run_vcM h
    unfold regC
    cases e : vc (R.map (Sy.val ρ)) with
    | none => rw [e] at h1; simp only [hl]; exact h1
    | some b => rw [e] at h1; exact h1
  | d + 3, h => exact h
theorem run_exM {tl : List Nat} {u : List Sy} {K : Bool → M α} {a : α} : ∀ (L : List (List Nat)), (exM L u K).run ρ = some a → (K (L.any fun z => isP z (tx ρ tl u))).run ρ = some a
  | [], h => by cases u <;> exact h
  | z :: L, h => by
    rw [List.any_cons]
    rcases run_preM (tl := tl) z u h with ⟨h1, h2⟩ | ⟨w, h1, hw, h2⟩
    · rw [h1, Bool.false_or]; exact run_exM L h2
    · rw [h1, Bool.true_or]; exact h2
end
noncomputable def lastN : List Nat → Nat
  | [] => 0
  | [x] => x
  | _ :: r => lastN r
structure LS where
  cl : List Nat
  sd : List Nat
  sh : List Nat
  pl : List Nat
noncomputable def Shape.val (S : Shape) (ρ : Nat → Nat) : LS := ⟨S.cl.map (Sy.val ρ), S.sd.map (Sy.val ρ), S.sh.map (Sy.val ρ), S.pl.map (Sy.val ρ)⟩
noncomputable def baseC (S : LS) (i : Nat) : List Nat := match i with
  | 0 => S.sh
  | 1 => S.cl
  | 2 => S.pl
  | _ => S.sd
noncomputable def expC (d j : Nat) (F : Fam) (no : List Nat) (S : LS) : List Nat := match d with
  | 0 => S.cl ++ no
  | _ => if (j = 1 ∧ lastN S.cl = 116) ∨ (j = 2 ∧ lastN S.cl = 100) then S.sh
    else if d = 1 then baseC S F.low ++ F.lowr else baseC S F.deep ++ F.deepr
theorem lastS_val (ρ : Nat → Nat) : ∀ l : List Sy, l ≠ [] → (lastS l).val ρ = lastN (l.map (Sy.val ρ))
  | [], h => absurd rfl h
  | [x], _ => rfl
  | x :: y :: r, _ => by
    show (lastS (y :: r)).val ρ = lastN ((y :: r).map (Sy.val ρ))
    exact lastS_val ρ (y :: r) (by simp)
theorem map_c (ρ : Nat → Nat) (l : List Nat) : (l.map Sy.c).map (Sy.val ρ) = l := by
  rw [List.map_map]
  have : (Sy.val ρ ∘ Sy.c) = id := rfl
  rw [this, List.map_id]
theorem baseS_val (S : Shape) (ρ : Nat → Nat) (i : Nat) : (baseS S i).map (Sy.val ρ) = baseC (S.val ρ) i := by
  match i with
  | 0 => rfl
  | 1 => rfl
  | 2 => rfl
  | i + 3 => rfl
theorem run_expM {α : Type} {ρ : Nat → Nat} {d j : Nat} {F : Fam} {no : List Nat} {S : Shape} (hne : S.cl ≠ []) {K : List Sy → M α} {a : α} (h : (expM d j F no S K).run ρ = some a) : ∃ e, e.map (Sy.val ρ) = expC d j F no (S.val ρ) ∧ (K e).run ρ = some a := by
  cases d with
  | zero => exact ⟨_, by rw [List.map_append, map_c]; rfl, h⟩
  | succ d =>
    unfold expM at h
    simp only at h
    unfold expC
    simp only
    have hlast := lastS_val ρ S.cl hne
    have hcl : (S.val ρ).cl = S.cl.map (Sy.val ρ) := rfl
    rw [hcl, ← hlast]
    have rest : ∀ {K' : M α}, K' = K (bif Nat.beq (d + 1) 1 then baseS S F.low ++ F.lowr.map Sy.c else baseS S F.deep ++ F.deepr.map Sy.c) → K'.run ρ = some a → ∃ e, e.map (Sy.val ρ) = (if d + 1 = 1 then baseC (S.val ρ) F.low ++ F.lowr else baseC (S.val ρ) F.deep ++ F.deepr) ∧ (K e).run ρ = some a := by
      intro K' hK hr
      rw [hK] at hr
      refine ⟨_, ?_, hr⟩
      have hb : Nat.beq (d + 1) 1 = decide (d + 1 = 1) := by rw [Bool.eq_iff_iff, decide_eq_true_eq, Nat.beq_eq]
      rw [hb]
      by_cases c : d + 1 = 1
      · rw [decide_eq_true c, if_pos c]; simp only [cond_true, List.map_append, map_c, baseS_val]
      · rw [decide_eq_false c, if_neg c]; simp only [cond_false, List.map_append, map_c, baseS_val]
    have hb : ∀ i, Nat.beq j i = decide (j = i) := fun i => by rw [Bool.eq_iff_iff, decide_eq_true_eq, Nat.beq_eq]
    rw [hb, hb] at h
    by_cases c1 : j = 1
    · rw [decide_eq_true c1] at h
      simp only [cond_true] at h
      rw [run_eqM] at h
      by_cases c2 : (lastS S.cl).val ρ = 116
      · rw [decide_eq_true c2] at h
        rw [if_pos (.inl ⟨c1, c2⟩)]
        exact ⟨_, rfl, h⟩
      · rw [decide_eq_false c2] at h
        rw [if_neg (by rintro (⟨_, z⟩ | ⟨z, _⟩); exact c2 z; omega)]
        exact rest rfl h
    · rw [decide_eq_false c1] at h
      simp only [cond_false] at h
      by_cases c3 : j = 2
      · rw [decide_eq_true c3] at h
        simp only [cond_true] at h
        rw [run_eqM] at h
        by_cases c2 : (lastS S.cl).val ρ = 100
        · rw [decide_eq_true c2] at h
          rw [if_pos (.inr ⟨c3, c2⟩)]
          exact ⟨_, rfl, h⟩
        · rw [decide_eq_false c2] at h
          rw [if_neg (by rintro (⟨z, _⟩ | ⟨_, z⟩); omega; exact c2 z)]
          exact rest rfl h
      · rw [decide_eq_false c3] at h
        simp only [cond_false] at h
        rw [if_neg (by rintro (⟨z, _⟩ | ⟨z, _⟩) <;> omega)]
        exact rest rfl h
theorem one_of {ρ : Nat → Nat} {D : List Nat} (hD : InM ρ D) {i n : Nat} (h : mget D i = 2 ^ n) : ρ i = n := by
  have hne : mget D i ≠ 0 := by rw [h]; exact Nat.ne_of_gt (Nat.two_pow_pos n)
  have h1 := hD i hne
  rw [h, Nat.testBit_two_pow] at h1
  exact (of_decide_eq_true h1).symm
theorem eqS_ok {ρ : Nat → Nat} {D : List Nat} (hD : InM ρ D) {x y : Sy} (h : eqS_ D x y = true) : x.val ρ = y.val ρ := by
  cases x with
  | c m => cases y with
    | c n => exact Nat.eq_of_beq_eq_true h
    | v i => exact (one_of hD (Nat.eq_of_beq_eq_true h)).symm
  | v i => cases y with
    | c n => exact one_of hD (Nat.eq_of_beq_eq_true h)
    | v j => have := Nat.eq_of_beq_eq_true h; subst this; rfl
theorem eqL_ok {ρ : Nat → Nat} {D : List Nat} (hD : InM ρ D) : ∀ {a b : List Sy}, eqL D a b = true → a.map (Sy.val ρ) = b.map (Sy.val ρ)
  | [], [], _ => rfl
  | x :: a, y :: b, h => by
    have h := Bool.and_eq_true_iff.mp h
    rw [List.map_cons, List.map_cons, eqS_ok hD h.1, eqL_ok hD h.2]
  | [], _ :: _, h => Bool.noConfusion h
  | _ :: _, [], h => Bool.noConfusion h
noncomputable def exB (w : List Nat) : Bool := exL.any fun z => isP z w.reverse
theorem shift_ok {c : Option Nat} {p : Int} {P n k : Nat} (h : RP c p P) (hP : P = k + n) (hk : k = 1 ∨ (1 ≤ k ∧ c.isSome = true)) : RG (shiftO k c) p n := by
  cases c with
  | some a =>
    have h' : p = (P : Int) + a := h
    show p = (n : Int) + 1 + ((a + k - 1 : Nat) : Int)
    omega
  | none =>
    have h' : p ≤ (P : Int) := h
    show p ≤ (n : Int) + 1
    rcases hk with hk | hk
    · omega
    · simp at hk
theorem regC_some {d : Nat} (hd : d ≤ 1) (R : List Nat) : (regC d R).1.isSome = true ∧ (regC d R).2.isSome = true := by
  match d, hd with
  | 0, _ => unfold regC; cases vc R with
    | none => exact ⟨rfl, rfl⟩
    | some a => simp only; cases vc (R.drop a) <;> exact ⟨rfl, rfl⟩
  | 1, _ => unfold regC; cases vc R with
    | none => exact ⟨rfl, rfl⟩
    | some a => simp only; cases vc (R.drop a) <;> exact ⟨rfl, rfl⟩
noncomputable def restC (F : Fam) (en : List Nat) (S : LS) : List Nat := (if F.wh = 0 then S.cl else S.sd) ++ en
theorem case_ok {ρ : Nat → Nat} {ts : List Sy} {tl told : List Nat} {ex : Bool} {d j : Nat} {F : Fam} {en no : List Nat} {S : Shape} (hne : S.cl ≠ []) (hD : InM ρ S.D) (hrel : S.rel = true → ρ 1 ≠ ρ 3)
    (h : chkM (leafP S.rel) (caseM ts ex d j F en no S) S.D = true) (ht : told.reverse = ts.map (Sy.val ρ) ++ tl) (hts : ts.length = 1 ∨ (1 ≤ ts.length ∧ d ≤ 1)) (hT : TOLD d told)
    (hex : ex = true → exB (told ++ (S.val ρ).cl) = false ∧ exB (told ++ (S.val ρ).sd) = false) :
    suffix (regs (told ++ restC F en (S.val ρ))).1 (regs (told ++ restC F en (S.val ρ))).2 (told ++ restC F en (S.val ρ)).reverse = (told ++ expC d j F no (S.val ρ)).reverse := by
  obtain ⟨a, D', h1, hD', hP⟩ := chkM_ok _ _ hD h
  unfold caseM at h1
  have txr : ∀ u : List Sy, tx ρ tl (u.reverse ++ ts) = (told ++ u.map (Sy.val ρ)).reverse := by
    intro u
    unfold tx
    rw [List.map_append, List.append_assoc, ← ht, ← List.map_reverse.symm, List.reverse_append]
  have h2 := run_exM (tl := tl) _ h1
  have e1 : ((if ex then exL else []).any fun z => isP z (tx ρ tl (S.cl.reverse ++ ts))) = false := by
    cases ex with
    | true => rw [txr]; exact (hex rfl).1
    | false => rfl
  have eb : (bif ex then exL else []) = (if ex then exL else []) := by cases ex <;> rfl
  rw [eb, e1] at h2
  simp only [cond_false] at h2
  have h3 := run_exM (tl := tl) _ h2
  have e2 : ((if ex then exL else []).any fun z => isP z (tx ρ tl (S.sd.reverse ++ ts))) = false := by
    cases ex with
    | true => rw [txr]; exact (hex rfl).2
    | false => rfl
  rw [e2] at h3
  simp only [cond_false] at h3
  have hR : ((bif Nat.beq F.wh 0 then S.cl else S.sd) ++ en.map Sy.c).map (Sy.val ρ) = restC F en (S.val ρ) := by
    rw [List.map_append, map_c]
    have hb : Nat.beq F.wh 0 = decide (F.wh = 0) := by rw [Bool.eq_iff_iff, decide_eq_true_eq, Nat.beq_eq]
    rw [hb]
    unfold restC
    by_cases c : F.wh = 0
    · rw [decide_eq_true c, if_pos c]; rfl
    · rw [decide_eq_false c, if_neg c]; rfl
  have h4 := run_regM h3
  rw [hR] at h4
  have hlen : told.length = ts.length + tl.length := by
    have := congrArg List.length ht
    rw [List.length_reverse, List.length_append, List.length_map] at this
    exact this
  obtain ⟨r1_, r2_⟩ := regs_of (R := restC F en (S.val ρ)) hT
  have s1 := shift_ok (n := tl.length) (k := ts.length) r1_ hlen (hts.imp id fun x => ⟨x.1, (regC_some x.2 _).1⟩)
  have s2 := shift_ok (n := tl.length) (k := ts.length) r2_ hlen (hts.imp id fun x => ⟨x.1, (regC_some x.2 _).2⟩)
  obtain ⟨w, hw, h5⟩ := run_suffixM s1 s2 h4
  rw [txr, hR] at hw
  rw [hw]
  obtain ⟨e, he, h6⟩ := run_expM hne h5
  obtain rfl := Option.some.inj h6
  rw [← he, ← txr e]
  unfold leafP at hP
  simp only [Bool.or_eq_true, Bool.and_eq_true] at hP
  rcases hP with hP | ⟨hr, hb, hc⟩
  · unfold tx
    rw [eqL_ok hD' hP]
  · exfalso
    have hb := Nat.eq_of_beq_eq_true hb
    have fin : ∀ n, mget D' 1 = 2 ^ n → False := fun n hn => hrel hr ((one_of hD' hn).trans (one_of hD' (hb ▸ hn)).symm)
    rcases hc with hc | hc | hc
    · exact fin _ (Nat.eq_of_beq_eq_true hc)
    · exact fin _ (Nat.eq_of_beq_eq_true hc)
    · exact fin _ (Nat.eq_of_beq_eq_true hc)
theorem forms_ok {ts : List Sy} {ex : Bool} {d j : Nat} {F : Fam} {S : Shape} : ∀ {L : List (List Nat × List Nat)}, chkForms ts ex d j F S L = true → ∀ {en no}, (en, no) ∈ L → chkM (leafP S.rel) (caseM ts ex d j F en no S) S.D = true
  | (a, b) :: L, h, en, no, hm => by
    have h := Bool.and_eq_true_iff.mp h
    rcases List.mem_cons.mp hm with e | hm
    · cases e; exact h.1
    · exact forms_ok h.2 hm
theorem fams_ok {ts : List Sy} {ex : Bool} {d : Nat} {S : Shape} : ∀ {L : List Fam} {k : Nat}, chkFams ts ex d S k L = true → ∀ {j : Nat} {F : Fam}, L[j]? = some F → ∀ {en no}, (en, no) ∈ F.forms → chkM (leafP S.rel) (caseM ts ex d (k + j) F en no S) S.D = true
  | G :: L, k, h, 0, F, hj, en, no, hm => by
    have h := Bool.and_eq_true_iff.mp h
    obtain rfl := Option.some.inj hj
    exact forms_ok h.1 hm
  | G :: L, k, h, j + 1, F, hj, en, no, hm => by
    have h := Bool.and_eq_true_iff.mp h
    have := fams_ok h.2 hj hm
    rw [show k + (j + 1) = k + 1 + j by omega]
    exact this
  | [], k, h, j, F, hj, en, no, hm => nos hj
theorem ck_sh0_1 : chkFams [tS] true 1 sh0 0 fams = true := by decide +kernel
theorem ck_sh0_2 : chkFams [tS] true 2 sh0 0 fams = true := by decide +kernel
theorem ck_sh0_3 : chkFams [tS] true 3 sh0 0 fams = true := by decide +kernel
theorem ck_sh1a_1 : chkFams [tS] true 1 sh1a 0 fams = true := by decide +kernel
theorem ck_sh1a_2 : chkFams [tS] true 2 sh1a 0 fams = true := by decide +kernel
theorem ck_sh1a_3 : chkFams [tS] true 3 sh1a 0 fams = true := by decide +kernel
theorem ck_sh1b_1 : chkFams [tS] true 1 sh1b 0 fams = true := by decide +kernel
theorem ck_sh1b_2 : chkFams [tS] true 2 sh1b 0 fams = true := by decide +kernel
theorem ck_sh1b_3 : chkFams [tS] true 3 sh1b 0 fams = true := by decide +kernel
theorem ck_sh2a_1 : chkFams [tS] true 1 sh2a 0 fams = true := by decide +kernel
theorem ck_sh2a_2 : chkFams [tS] true 2 sh2a 0 fams = true := by decide +kernel
theorem ck_sh2a_3 : chkFams [tS] true 3 sh2a 0 fams = true := by decide +kernel
theorem ck_sh2b_1 : chkFams [tS] true 1 sh2b 0 fams = true := by decide +kernel
theorem ck_sh2b_2 : chkFams [tS] true 2 sh2b 0 fams = true := by decide +kernel
theorem ck_sh2b_3 : chkFams [tS] true 3 sh2b 0 fams = true := by decide +kernel
theorem ck_sh2c_1 : chkFams [tS] true 1 sh2c 0 fams = true := by decide +kernel
theorem ck_sh2c_2 : chkFams [tS] true 2 sh2c 0 fams = true := by decide +kernel
theorem ck_sh2c_3 : chkFams [tS] true 3 sh2c 0 fams = true := by decide +kernel
theorem ck_sh2d_1 : chkFams [tS] true 1 sh2d 0 fams = true := by decide +kernel
theorem ck_sh2d_2 : chkFams [tS] true 2 sh2d 0 fams = true := by decide +kernel
theorem ck_sh2d_3 : chkFams [tS] true 3 sh2d 0 fams = true := by decide +kernel
theorem ck_sh2e_1 : chkFams [tS] true 1 sh2e 0 fams = true := by decide +kernel
theorem ck_sh2e_2 : chkFams [tS] true 2 sh2e 0 fams = true := by decide +kernel
theorem ck_sh2e_3 : chkFams [tS] true 3 sh2e 0 fams = true := by decide +kernel
theorem ck_sh3a_1 : chkFams [tS] true 1 sh3a 0 fams = true := by decide +kernel
theorem ck_sh3a_2 : chkFams [tS] true 2 sh3a 0 fams = true := by decide +kernel
theorem ck_sh3a_3 : chkFams [tS] true 3 sh3a 0 fams = true := by decide +kernel
theorem ck_sh3b_1 : chkFams [tS] true 1 sh3b 0 fams = true := by decide +kernel
theorem ck_sh3b_2 : chkFams [tS] true 2 sh3b 0 fams = true := by decide +kernel
theorem ck_sh3b_3 : chkFams [tS] true 3 sh3b 0 fams = true := by decide +kernel
theorem ck_shO_1 : chkFams [tS] false 1 shO 0 fams = true := by decide +kernel
theorem ck_shO_2 : chkFams [tS] false 2 shO 0 fams = true := by decide +kernel
theorem ck_shO_3 : chkFams [tS] false 3 shO 0 fams = true := by decide +kernel
theorem ck_shZ1 : chkFams [tS] false 0 shZ1 0 fams = true := by decide +kernel
theorem ck_shZ2 : chkFams [tS] false 0 shZ2 0 fams = true := by decide +kernel
theorem ck_shZ3 : chkFams [.c 106, tS] false 0 shZ3 0 fams = true := by decide +kernel
theorem ck_shZ4 : chkFams [tS] false 0 shZ4 0 fams = true := by decide +kernel
theorem ck_shZ5 : chkFams [.c 110, tS] false 0 shZ5 0 fams = true := by decide +kernel
section
variable {α : Type} {ρ : Nat → Nat}
noncomputable def allM : List Sy → (Bool → M α) → M α
  | [], K => K true
  | x :: R, K => memM x (bits alpha) fun b => bif b then allM R K else K false
theorem run_allM {K : Bool → M α} {a : α} : ∀ (R : List Sy), (allM R K).run ρ = some a → (K ((R.map (Sy.val ρ)).all fun z => alpha.contains z)).run ρ = some a
  | [], h => h
  | x :: R, h => by
    have h := run_memM.symm.trans h
    rw [List.map_cons, List.all_cons]
    cases e : alpha.contains (x.val ρ) with
    | true => rw [e] at h; rw [Bool.true_and]; exact run_allM R h
    | false => rw [e] at h; exact h
noncomputable def aftM (u : List Sy) (K : Bool → M α) : M α := match u with
  | [] => K true
  | z :: w => eqM z 121 fun b => bif b then K false else eqM z 105 fun c => bif c then (match w with
    | [] => K true
    | a :: _ => memM a (bits gv) fun e => K (!e)) else K true
theorem okAfter_cons (z : Nat) (w : List Nat) : okAfter (z :: w) = if z = 121 then false else if z = 105 then (match w with
    | [] => true
    | a :: _ => !isVw a) else true := rfl
theorem run_aftM {u : List Sy} {K : Bool → M α} {a : α} (h : (aftM u K).run ρ = some a) : (K (okAfter (u.map (Sy.val ρ)))).run ρ = some a := by
  cases u with
  | nil => exact h
  | cons z w =>
    unfold aftM at h
    simp only at h
    rw [run_eqM] at h
    rw [List.map_cons, okAfter_cons]
    by_cases e : z.val ρ = 121
    · rw [decide_eq_true e] at h; rw [if_pos e]; exact h
    rw [decide_eq_false e] at h; rw [if_neg e]; simp only [cond_false] at h
    rw [run_eqM] at h
    by_cases e2 : z.val ρ = 105
    · rw [decide_eq_true e2] at h; rw [if_pos e2]; simp only [cond_true] at h
      cases w with
      | nil => exact h
      | cons y w =>
        simp only at h
        rw [run_memM] at h
        exact h
    · rw [decide_eq_false e2] at h; rw [if_neg e2]; exact h
noncomputable def iyM : List Sy → (Bool → M α) → M α
  | [], K => K true
  | x :: y, K => memM x (bits gv) fun b => bif b then aftM y fun o => bif o then iyM y K else K false else iyM y K
theorem run_iyM {K : Bool → M α} {a : α} : ∀ (R : List Sy), (iyM R K).run ρ = some a → (K (okIY (R.map (Sy.val ρ)))).run ρ = some a
  | [], h => h
  | x :: R, h => by
    have h := run_memM.symm.trans h
    rw [List.map_cons]
    show (K ((!isVw (x.val ρ) || okAfter (R.map (Sy.val ρ))) && okIY (R.map (Sy.val ρ)))).run ρ = some a
    have e0 : isVw (x.val ρ) = gv.contains (x.val ρ) := rfl
    rw [e0]
    cases e : gv.contains (x.val ρ) with
    | true =>
      rw [e] at h
      simp only [cond_true] at h
      have h1 := run_aftM h
      rw [Bool.not_true, Bool.false_or]
      cases e2 : okAfter (R.map (Sy.val ρ)) with
      | true => rw [e2] at h1; rw [Bool.true_and]; exact run_iyM R h1
      | false => rw [e2] at h1; exact h1
    | false => rw [e] at h; rw [Bool.not_false, Bool.true_or, Bool.true_and]; exact run_iyM R h
end
noncomputable def restM (F : Fam) (en : List Nat) (S : Shape) : M Bool := allM ((bif Nat.beq F.wh 0 then S.cl else S.sd) ++ en.map Sy.c) fun b => bif b then iyM ((bif Nat.beq F.wh 0 then S.cl else S.sd) ++ en.map Sy.c) fun o => .ret (o && Nat.ble ((bif Nat.beq F.wh 0 then S.cl else S.sd) ++ en.map Sy.c).length 20) else .ret false
noncomputable def chkRF (F : Fam) (S : Shape) : List (List Nat × List Nat) → Bool
  | [] => true
  | (en, _) :: L => chkM (fun _ b => b) (restM F en S) S.D && chkRF F S L
noncomputable def chkR (S : Shape) : List Fam → Bool
  | [] => true
  | F :: L => chkRF F S F.forms && chkR S L
theorem cr : [sh0, sh1a, sh1b, sh2a, sh2b, sh2c, sh2d, sh2e, sh3a, sh3b, shO].all (fun S => chkR S fams) = true := by decide +kernel
theorem crZ : [shZ1, shZ2, shZ3, shZ4, shZ5].all (fun S => chkR S fams) = true := by decide +kernel
noncomputable def concB (t c : Nat) : Bool := (List.range fams.length).all fun j => match fams[j]? with
  | none => true
  | some F => F.forms.all fun x =>
    let S : LS := ⟨[c], [c], [c], [c]⟩
    let w := [t] ++ restC F x.1 S
    decide (suffix (regs w).1 (regs w).2 w.reverse = ([t] ++ expC 0 j F x.2 S).reverse)
theorem cc : concB 106 107 = true ∧ concB 110 100 = true ∧ concB 110 103 = true := by decide +kernel
noncomputable def Good (d : Nat) (told : List Nat) (S : LS) : Prop := ∀ (j : Nat) (F : Fam) (en no : List Nat), fams[j]? = some F → (en, no) ∈ F.forms →
  suffix (regs (told ++ restC F en S)).1 (regs (told ++ restC F en S)).2 (told ++ restC F en S).reverse = (told ++ expC d j F no S).reverse
noncomputable def RestOK (S : LS) : Prop := ∀ (j : Nat) (F : Fam) (en no : List Nat), fams[j]? = some F → (en, no) ∈ F.forms → (∀ x ∈ restC F en S, x ∈ alpha) ∧ okIY (restC F en S) = true ∧ (restC F en S).length ≤ 20
noncomputable def InK (k : Nat) (ρ : Nat → Nat) (D : List Nat) : Prop := ∀ i, mget D i ≠ 0 → (mget D i).testBit (ρ (k + i)) = true
theorem InK.nil {k : Nat} {ρ : Nat → Nat} : InK k ρ [] := fun i h => absurd rfl h
theorem InK.cons {k : Nat} {ρ : Nat → Nat} {L : List Nat} {r : List Nat} (h : ρ k ∈ L) (hr : InK (k + 1) ρ r) : InK k ρ (bits L :: r) := fun i hi => by
  cases i with
  | zero => show (bits L).testBit (ρ k) = true; rw [bits_mem]; exact List.contains_iff_mem.mpr h
  | succ i => have := hr i hi; rw [show k + (i + 1) = k + 1 + i by omega]; exact this
theorem InK.inM {ρ : Nat → Nat} {D : List Nat} (h : InK 0 ρ D) : InM ρ D := fun i hi => by have := h i hi; rwa [Nat.zero_add] at this
theorem good_of {ρ : Nat → Nat} {ts : List Sy} {tl told : List Nat} {ex : Bool} {d : Nat} {S : Shape} (hne : S.cl ≠ []) (hD : InM ρ S.D) (hrel : S.rel = true → ρ 1 ≠ ρ 3)
    (h : chkFams ts ex d S 0 fams = true) (ht : told.reverse = ts.map (Sy.val ρ) ++ tl) (hts : ts.length = 1 ∨ (1 ≤ ts.length ∧ d ≤ 1)) (hT : TOLD d told)
    (hex : ex = true → exB (told ++ (S.val ρ).cl) = false ∧ exB (told ++ (S.val ρ).sd) = false) : Good d told (S.val ρ) := by
  intro j F en no hj hm
  have h1 := fams_ok h hj hm
  rw [Nat.zero_add] at h1
  exact case_ok hne hD hrel h1 ht hts hT hex
theorem restF_ok {ρ : Nat → Nat} {F : Fam} {S : Shape} (hD : InM ρ S.D) : ∀ {L : List (List Nat × List Nat)}, chkRF F S L = true → ∀ {en no}, (en, no) ∈ L → (∀ x ∈ restC F en (S.val ρ), x ∈ alpha) ∧ okIY (restC F en (S.val ρ)) = true ∧ (restC F en (S.val ρ)).length ≤ 20
  | (a, b) :: L, h, en, no, hm => by
    have h := Bool.and_eq_true_iff.mp h
    rcases List.mem_cons.mp hm with e | hm
    · cases e
      obtain ⟨x, D', h1, _, hx⟩ := chkM_ok _ _ hD h.1
      have hR : ((bif Nat.beq F.wh 0 then S.cl else S.sd) ++ a.map Sy.c).map (Sy.val ρ) = restC F a (S.val ρ) := by
        rw [List.map_append, map_c]
        have hb : Nat.beq F.wh 0 = decide (F.wh = 0) := by rw [Bool.eq_iff_iff, decide_eq_true_eq, Nat.beq_eq]
        rw [hb]
        unfold restC
        by_cases c : F.wh = 0
        · rw [decide_eq_true c, if_pos c]; rfl
        · rw [decide_eq_false c, if_neg c]; rfl
      have h2 := run_allM _ h1
      have hl : ((bif Nat.beq F.wh 0 then S.cl else S.sd) ++ a.map Sy.c).length = (restC F a (S.val ρ)).length := by rw [← hR, List.length_map]
      rw [hR] at h2
      subst hx
      cases e2 : (restC F a (S.val ρ)).all fun z => alpha.contains z with
      | false => rw [e2] at h2; cases h2
      | true =>
        rw [e2] at h2
        simp only [cond_true] at h2
        have h3 := run_iyM _ h2
        rw [hR, hl] at h3
        have h3 := Bool.and_eq_true_iff.mp (Option.some.inj h3)
        refine ⟨fun x hx => List.contains_iff_mem.mp (List.all_eq_true.mp e2 x hx), h3.1, ?_⟩
        have := h3.2
        rwa [Nat.ble_eq] at this
    · exact restF_ok hD h.2 hm
theorem rest_of {ρ : Nat → Nat} {S : Shape} (hD : InM ρ S.D) : ∀ {L : List Fam}, chkR S L = true → ∀ (j : Nat) (F : Fam) (en no : List Nat), L[j]? = some F → (en, no) ∈ F.forms → (∀ x ∈ restC F en (S.val ρ), x ∈ alpha) ∧ okIY (restC F en (S.val ρ)) = true ∧ (restC F en (S.val ρ)).length ≤ 20
  | [], h, j, F, en, no, hj, hm => nos hj
  | G :: L, h, 0, F, en, no, hj, hm => by
    have h := Bool.and_eq_true_iff.mp h
    obtain rfl := Option.some.inj hj
    exact restF_ok hD h.1 hm
  | G :: L, h, j + 1, F, en, no, hj, hm => by
    have h := Bool.and_eq_true_iff.mp h
    exact rest_of hD h.2 j F en no hj hm
noncomputable def lsame (l : List Nat) : LS := ⟨l, l, l, l⟩
noncomputable def twoL : List (List Nat) := [[105, 101], [111, 101], [117, 105], [101, 117], [111, 117], [101, 105], [105, 106], [97, 117], [232]]
inductive LastOK : LS → Prop
  | k0 {v c : Nat} : v ∈ [97, 101, 111, 117] → c ∈ closes → LastOK ⟨[v, v, c], [v, c], [v, c], [v, c]⟩
  | k1a {v c : Nat} : v ∈ [97, 101, 105, 111, 117] → c ∈ [100, 107, 116] → LastOK ⟨[v, c], [v, c, c], [v, c], [v, c]⟩
  | k1b {v c : Nat} : v ∈ [97, 101, 105, 111, 117] → c ∈ closes → c ∉ [100, 107, 116] → LastOK ⟨[v, c], [v, c, c], [v, c], [v, c, c]⟩
  | k2 {w : List Nat} {c : Nat} : w ∈ twoL → c ∈ closes → LastOK (lsame (w ++ [c]))
  | k3a {v b c : Nat} : v ∈ [97, 101, 105, 111, 117] → b ∈ sounds → c ∈ closes → b ≠ c → LastOK (lsame [v, b, c])
  | k3b {v b c : Nat} : v ∈ [97, 101, 111, 117] → b ∈ sounds → c ∈ closes → b ≠ c → LastOK (lsame [v, v, b, c])
noncomputable def rho (t c v w : Nat) : Nat → Nat
  | 0 => t
  | 1 => c
  | 2 => v
  | _ => w
theorem all_get {P : Shape → Bool} {L : List Shape} (h : L.all P = true) {S : Shape} (hS : S ∈ L) : P S = true := List.all_eq_true.mp h S hS
section
variable {told tl : List Nat} {t : Nat} (ht : told.reverse = t :: tl) (hts : t ∈ sounds)
include ht hts
theorem good_shape {S : Shape} {d : Nat} {c v w : Nat} (hne : S.cl ≠ []) (hD : InM (rho t c v w) S.D) (hrel : S.rel = true → c ≠ w)
    (h : chkFams [tS] true d S 0 fams = true) (hr : chkR S fams = true) (hT : TOLD d told) (h1 : exB (told ++ (S.val (rho t c v w)).cl) = false) (h2 : exB (told ++ (S.val (rho t c v w)).sd) = false) :
    Good d told (S.val (rho t c v w)) ∧ RestOK (S.val (rho t c v w)) :=
  ⟨good_of hne hD hrel h (ts := [tS]) (by rw [ht]; rfl) (.inl rfl) hT fun _ => ⟨h1, h2⟩, fun j F en no hj hm => rest_of hD hr j F en no hj hm⟩
theorem good_last {d : Nat} (hd : d = 1 ∨ d = 2 ∨ d = 3) (hT : TOLD d told) {S : LS} (hS : LastOK S) (h1 : exB (told ++ S.cl) = false) (h2 : exB (told ++ S.sd) = false) : Good d told S ∧ RestOK S := by
  have three : ∀ {P : Nat → Prop}, P 1 → P 2 → P 3 → P d := fun a b c => by rcases hd with rfl | rfl | rfl <;> assumption
  have g : ∀ S ∈ [sh0, sh1a, sh1b, sh2a, sh2b, sh2c, sh2d, sh2e, sh3a, sh3b, shO], chkR S fams = true := fun S hS => all_get cr hS
  cases hS with
  | @k0 v c hv hc =>
    exact good_shape ht hts (S := sh0) (c := c) (v := v) (w := 0) (by decide) (InK.inM (.cons hts (.cons hc (.cons hv .nil)))) (fun h => by cases h) (three (P := fun d => chkFams [tS] true d sh0 0 fams = true) ck_sh0_1 ck_sh0_2 ck_sh0_3) (g _ (by simp)) hT h1 h2
  | @k1a v c hv hc =>
    exact good_shape ht hts (S := sh1a) (c := c) (v := v) (w := 0) (by decide) (InK.inM (.cons hts (.cons hc (.cons hv .nil)))) (fun h => by cases h) (three (P := fun d => chkFams [tS] true d sh1a 0 fams = true) ck_sh1a_1 ck_sh1a_2 ck_sh1a_3) (g _ (by simp)) hT h1 h2
  | @k1b v c hv hc hn =>
    have hc' : c ∈ [98, 102, 103, 104, 108, 109, 110, 112, 113, 114, 118, 119, 120, 122] := by
      have : ∀ c ∈ closes, c ∉ [100, 107, 116] → c ∈ [98, 102, 103, 104, 108, 109, 110, 112, 113, 114, 118, 119, 120, 122] := by decide
      exact this c hc hn
    exact good_shape ht hts (S := sh1b) (c := c) (v := v) (w := 0) (by decide) (InK.inM (.cons hts (.cons hc' (.cons hv .nil)))) (fun h => by cases h) (three (P := fun d => chkFams [tS] true d sh1b 0 fams = true) ck_sh1b_1 ck_sh1b_2 ck_sh1b_3) (g _ (by simp)) hT h1 h2
  | @k2 w c hw hc =>
    have two : ∀ (S : Shape) (v z : Nat), S ∈ [sh2a, sh2b, sh2c] → S.D = [mT, mC, S.D.getD 2 0, S.D.getD 3 0] → S.rel = false → S.cl = [vS, wS, cS_] → True := fun _ _ _ _ _ _ _ => trivial
    have ca : ∀ v z, v ∈ [111, 101, 97] → z ∈ [117] → w = [v, z] → Good d told (lsame (w ++ [c])) ∧ RestOK (lsame (w ++ [c])) := fun v z hv hz e => by
      subst e
      exact good_shape ht hts (S := sh2a) (c := c) (v := v) (w := z) (by decide) (InK.inM (.cons hts (.cons hc (.cons hv (.cons hz .nil))))) (fun h => by cases h) (three (P := fun d => chkFams [tS] true d sh2a 0 fams = true) ck_sh2a_1 ck_sh2a_2 ck_sh2a_3) (g _ (by simp)) hT h1 h2
    have cb : ∀ v z, v ∈ [105, 111] → z ∈ [101] → w = [v, z] → Good d told (lsame (w ++ [c])) ∧ RestOK (lsame (w ++ [c])) := fun v z hv hz e => by
      subst e
      exact good_shape ht hts (S := sh2b) (c := c) (v := v) (w := z) (by decide) (InK.inM (.cons hts (.cons hc (.cons hv (.cons hz .nil))))) (fun h => by cases h) (three (P := fun d => chkFams [tS] true d sh2b 0 fams = true) ck_sh2b_1 ck_sh2b_2 ck_sh2b_3) (g _ (by simp)) hT h1 h2
    have cc_ : ∀ v z, v ∈ [117, 101] → z ∈ [105] → w = [v, z] → Good d told (lsame (w ++ [c])) ∧ RestOK (lsame (w ++ [c])) := fun v z hv hz e => by
      subst e
      exact good_shape ht hts (S := sh2c) (c := c) (v := v) (w := z) (by decide) (InK.inM (.cons hts (.cons hc (.cons hv (.cons hz .nil))))) (fun h => by cases h) (three (P := fun d => chkFams [tS] true d sh2c 0 fams = true) ck_sh2c_1 ck_sh2c_2 ck_sh2c_3) (g _ (by simp)) hT h1 h2
    simp only [twoL, List.mem_cons, List.not_mem_nil, or_false] at hw
    rcases hw with e | e | e | e | e | e | e | e | e
    · exact cb 105 101 (by decide) (by decide) e
    · exact cb 111 101 (by decide) (by decide) e
    · exact cc_ 117 105 (by decide) (by decide) e
    · exact ca 101 117 (by decide) (by decide) e
    · exact ca 111 117 (by decide) (by decide) e
    · exact cc_ 101 105 (by decide) (by decide) e
    · subst e
      exact good_shape ht hts (S := sh2d) (c := c) (v := 0) (w := 0) (by decide) (InK.inM (.cons hts (.cons hc .nil))) (fun h => by cases h) (three (P := fun d => chkFams [tS] true d sh2d 0 fams = true) ck_sh2d_1 ck_sh2d_2 ck_sh2d_3) (g _ (by simp)) hT h1 h2
    · exact ca 97 117 (by decide) (by decide) e
    · subst e
      exact good_shape ht hts (S := sh2e) (c := c) (v := 0) (w := 0) (by decide) (InK.inM (.cons hts (.cons hc .nil))) (fun h => by cases h) (three (P := fun d => chkFams [tS] true d sh2e 0 fams = true) ck_sh2e_1 ck_sh2e_2 ck_sh2e_3) (g _ (by simp)) hT h1 h2
  | @k3a v b c hv hb hc hbc =>
    exact good_shape ht hts (S := sh3a) (c := c) (v := v) (w := b) (by decide) (InK.inM (.cons hts (.cons hc (.cons hv (.cons hb .nil))))) (fun _ e => hbc e.symm) (three (P := fun d => chkFams [tS] true d sh3a 0 fams = true) ck_sh3a_1 ck_sh3a_2 ck_sh3a_3) (g _ (by simp)) hT h1 h2
  | @k3b v b c hv hb hc hbc =>
    exact good_shape ht hts (S := sh3b) (c := c) (v := v) (w := b) (by decide) (InK.inM (.cons hts (.cons hc (.cons hv (.cons hb .nil))))) (fun _ e => hbc e.symm) (three (P := fun d => chkFams [tS] true d sh3b 0 fams = true) ck_sh3b_1 ck_sh3b_2 ck_sh3b_3) (g _ (by simp)) hT h1 h2
theorem good_oop {d : Nat} (hd : d = 1 ∨ d = 2 ∨ d = 3) (hT : TOLD d told) : Good d told ⟨[111, 111, 112], [111, 112], [111, 112], [111, 112]⟩ ∧ RestOK ⟨[111, 111, 112], [111, 112], [111, 112], [111, 112]⟩ := by
  have three : ∀ {P : Nat → Prop}, P 1 → P 2 → P 3 → P d := fun a b c => by rcases hd with rfl | rfl | rfl <;> assumption
  have hD : InM (rho t 0 0 0) shO.D := InK.inM (.cons hts .nil)
  have ck := three (P := fun d => chkFams [tS] false d shO 0 fams = true) ck_shO_1 ck_shO_2 ck_shO_3
  exact ⟨good_of (S := shO) (by decide) hD (fun h => by cases h) ck (ts := [tS]) (by rw [ht]; rfl) (.inl rfl) hT (fun h => by cases h), fun j F en no hj hm => rest_of hD (all_get cr (by simp)) j F en no hj hm⟩
end
theorem noV_sounds : ∀ x ∈ sounds, isVw x = false := by decide
theorem conc_ok {t c : Nat} (h : concB t c = true) : Good 0 [t] (lsame [c]) := by
  intro j F en no hj hm
  have hjl := (List.getElem?_eq_some_iff.mp hj).1
  have h1 := List.all_eq_true.mp h j (List.mem_range.mpr hjl)
  rw [hj] at h1
  have h2 := List.all_eq_true.mp h1 (en, no) hm
  exact of_decide_eq_true h2
theorem good_zero {told : List Nat} (hne : told ≠ []) (hs : ∀ x ∈ told, x ∈ sounds) {c : Nat} (hc : c ∈ closes) : Good 0 told (lsame [c]) ∧ RestOK (lsame [c]) := by
  have hT : TOLD 0 told := ⟨hne, fun x hx => noV_sounds x (hs x hx)⟩
  obtain ⟨t, tl, ht⟩ : ∃ t tl, told.reverse = t :: tl := by
    cases e : told.reverse with
    | nil => simp at e; exact absurd e hne
    | cons t tl => exact ⟨t, tl, rfl⟩
  have hts : ∀ x ∈ t :: tl, x ∈ sounds := fun x hx => hs x (List.mem_reverse.mp (ht ▸ hx))
  have rz : RestOK (lsame [c]) := by
    have cl : ∀ c ∈ closes, c ∈ [98, 102, 104, 108, 109, 110, 112, 113, 114, 116, 118, 119, 120, 122] ∨ c = 107 ∨ c ∈ [100, 103] := by decide
    rcases cl c hc with h | rfl | h
    · exact fun j F en no hj hm => rest_of (S := shZ1) (ρ := rho t c 0 0) (InK.inM (.cons (hts t (.head _)) (.cons h .nil))) (all_get crZ (by simp)) j F en no hj hm
    · exact fun j F en no hj hm => rest_of (S := shZ3) (ρ := rho t 0 0 0) (InK.inM (.cons (hts t (.head _)) .nil)) (all_get crZ (by simp)) j F en no hj hm
    · exact fun j F en no hj hm => rest_of (S := shZ5) (ρ := rho t c 0 0) (InK.inM (.cons (hts t (.head _)) (.cons h .nil))) (all_get crZ (by simp)) j F en no hj hm
  refine ⟨?_, rz⟩
  have cl : ∀ c ∈ closes, c ∈ [98, 102, 104, 108, 109, 110, 112, 113, 114, 116, 118, 119, 120, 122] ∨ c = 107 ∨ c ∈ [100, 103] := by decide
  have single : tl = [] → told = [t] := fun e => by
    have := congrArg List.reverse ht
    rw [List.reverse_reverse, e] at this
    exact this
  rcases cl c hc with h | rfl | h
  · exact good_of (S := shZ1) (ρ := rho t c 0 0) (by decide) (InK.inM (.cons (hts t (.head _)) (.cons h .nil))) (fun h => by cases h) ck_shZ1 (ts := [tS]) (by rw [ht]; rfl) (.inl rfl) hT fun h => by cases h
  · by_cases hj : t = 106
    · subst hj
      cases tl with
      | nil => rw [single rfl]; exact conc_ok cc.1
      | cons t2 tl =>
        exact good_of (S := shZ3) (ρ := rho t2 0 0 0) (by decide) (InK.inM (.cons (hts t2 (.tail _ (.head _))) .nil)) (fun h => by cases h) ck_shZ3 (ts := [.c 106, tS]) (by rw [ht]; rfl) (.inr ⟨by decide, by decide⟩) hT fun h => by cases h
    · have h1 : t ∈ [98, 99, 100, 102, 103, 104, 107, 108, 109, 110, 112, 113, 114, 115, 116, 118, 119, 120, 122] := by
        have : ∀ t ∈ sounds, t ≠ 106 → t ∈ [98, 99, 100, 102, 103, 104, 107, 108, 109, 110, 112, 113, 114, 115, 116, 118, 119, 120, 122] := by decide
        exact this t (hts t (.head _)) hj
      exact good_of (S := shZ2) (ρ := rho t 0 0 0) (by decide) (InK.inM (.cons h1 .nil)) (fun h => by cases h) ck_shZ2 (ts := [tS]) (by rw [ht]; rfl) (.inl rfl) hT fun h => by cases h
  · by_cases hj : t = 110
    · subst hj
      cases tl with
      | nil =>
        rw [single rfl]
        simp only [List.mem_cons, List.not_mem_nil, or_false] at h
        rcases h with rfl | rfl
        · exact conc_ok cc.2.1
        · exact conc_ok cc.2.2
      | cons t2 tl =>
        exact good_of (S := shZ5) (ρ := rho t2 c 0 0) (by decide) (InK.inM (.cons (hts t2 (.tail _ (.head _))) (.cons h .nil))) (fun h => by cases h) ck_shZ5 (ts := [.c 110, tS]) (by rw [ht]; rfl) (.inr ⟨by decide, by decide⟩) hT fun h => by cases h
    · have h1 : t ∈ [98, 99, 100, 102, 103, 104, 106, 107, 108, 109, 112, 113, 114, 115, 116, 118, 119, 120, 122] := by
        have : ∀ t ∈ sounds, t ≠ 110 → t ∈ [98, 99, 100, 102, 103, 104, 106, 107, 108, 109, 112, 113, 114, 115, 116, 118, 119, 120, 122] := by decide
        exact this t (hts t (.head _)) hj
      exact good_of (S := shZ4) (ρ := rho t c 0 0) (by decide) (InK.inM (.cons h1 (.cons h .nil))) (fun h => by cases h) ck_shZ4 (ts := [tS]) (by rw [ht]; rfl) (.inl rfl) hT fun h => by cases h
section
variable {T : Addr → Option TO} {D : WD} {n : Nat} {att : List (Nat × PV)}
theorem mod_ok (a : Int) (m : Nat) (h0 : 0 < m) (h1 : m < 1000) : ∃ r : Nat, r < m ∧ binF .Mod (.int a) (.int m) = some (.int r) := by
  have hb : (0 : Int) < m := by omega
  have h2 := Int.fmod_nonneg_of_pos a hb
  have h3 := Int.fmod_lt_of_pos a hb
  refine ⟨(a.fmod m).toNat, by omega, ?_⟩
  rw [bI]
  unfold binI; simp only; rw [if_pos (by omega)]
  congr 2; omega
theorem div_ok (a : Int) (m : Nat) (h0 : 0 < m) (h1 : m < 1000) : ∃ r : Int, binF .FloorDiv (.int a) (.int m) = some (.int r) := by
  refine ⟨a.fdiv m, ?_⟩
  rw [bI]
  unfold binI; simp only; rw [if_pos (by omega)]
theorem idx_mem {s : List Nat} {r : Nat} (h : r < s.length) (hl : s.length < 1000) : ∃ x ∈ s, idxF T (.str s) (.int r) = some (.str [x]) :=
  ⟨s[r], List.getElem_mem h, idxS (by omega) (by rw [Int.toNat_natCast]; exact List.getElem?_eq_getElem h) hl⟩
theorem at_ok {ns : List Int} (hn : ns.length ≤ 63) (i : Nat) (hi : i < 1000) : ∃ v : Int, F_law_at T D n [.ivs ns, .int i] att = some (.int v, att) := by
  have ln : biF T .len [.ivs ns] = some (.int ns.length) := by
    exact lnV (by omega)
  have m1 : binF .Mult (.int 37) (.int i) = some (.int (37 * i)) := by
    rw [bI]; unfold binI; simp only; exact if_pos (by decide)
  by_cases h : i < ns.length
  · have d1 : cmpF T .Lt (.int i) (.int ns.length) = some true := by show some (decide _) = _; congr 1; exact decide_eq_true (by omega)
    have ix : idxF T (.ivs ns) (.int i) = some (.int ns[i]) := by
      rw [ixV, if_pos (by omega), Int.toNat_natCast, List.getElem?_eq_getElem h]; rfl
    have a1 : binF .Add (.int ns[i]) (.int (37 * i)) = some (.int (ns[i] + 37 * i)) := rfl
    refine ⟨ns[i] + 37 * i, runF_ret rfl (st := ⟨startLoc [.ivs ns, .int i], att⟩) ?_⟩
    push_cast [dispE, callE, asgT, updL, forLB, f_law_at, sl0, sl1, ln, d1, ix, m1, a1]
  · have d1 : cmpF T .Lt (.int i) (.int ns.length) = some false := by show some (decide _) = _; congr 1; exact decide_eq_false (by omega)
    refine ⟨37 * i, runF_ret rfl (st := ⟨startLoc [.ivs ns, .int i], att⟩) ?_⟩
    push_cast [dispE, callE, asgT, updL, forLB, f_law_at, sl0, sl1, ln, d1, m1]
noncomputable def Cons (s : List Nat) : Prop := (∃ x ∈ sounds, s = [x]) ∨ ∃ x ∈ sounds, ∃ y ∈ sounds, s = [x, y]
theorem some_ok (v : Int) : ∃ s, F_law_some T D n [.int v] att = some (.str s, att) ∧ Cons s := by
  obtain ⟨r1, h1, m1⟩ := mod_ok v 20 (by decide) (by decide)
  obtain ⟨x, hx, i1⟩ := idx_mem (T := T) (s := sounds) (r := r1) h1 (by decide)
  obtain ⟨v2, d1⟩ := div_ok v 20 (by decide) (by decide)
  obtain ⟨r2, h2, m2⟩ := mod_ok v2 2 (by decide) (by decide)
  obtain ⟨v3, d2⟩ := div_ok v2 2 (by decide) (by decide)
  obtain ⟨r3, h3, m3⟩ := mod_ok v3 20 (by decide) (by decide)
  obtain ⟨y, hy, i2⟩ := idx_mem (T := T) (s := sounds) (r := r3) h3 (by decide)
  have a1 : binF .Add (.str [x]) (.str [y]) = some (.str [x, y]) := addS (by simp)
  have m1 : binF .Mod (.int v) (.int 20) = some (.int r1) := m1
  have d1 : binF .FloorDiv (.int v) (.int 20) = some (.int v2) := d1
  have m2 : binF .Mod (.int v2) (.int 2) = some (.int r2) := m2
  have d2 : binF .FloorDiv (.int v2) (.int 2) = some (.int v3) := d2
  have m3 : binF .Mod (.int v3) (.int 20) = some (.int r3) := m3
  by_cases c : r2 = 1
  · have c1 : cmpF T .Eq (.int r2) (.int 1) = some true := by subst c; rfl
    refine ⟨[x, y], ?_, .inr ⟨x, hx, y, hy, rfl⟩⟩
    refine runF_ret rfl (st := ⟨upd (upd (upd (startLoc [.int v]) 1 (.str [x])) 0 (.int v2)) 1 (.str [x, y]), att⟩) ?_
    push_cast [dispE, callE, asgT, updL, forLB, f_law_some, sl0, m1, i1, d1, m2, c1, d2, m3, i2, a1]
  · have c1 : cmpF T .Eq (.int r2) (.int 1) = some false := by show some ((r2 : Int) == 1) = _; congr 1; simp; omega
    refine ⟨[x], ?_, .inl ⟨x, hx, rfl⟩⟩
    refine runF_ret rfl (st := ⟨upd (upd (startLoc [.int v]) 1 (.str [x])) 0 (.int v2), att⟩) ?_
    push_cast [dispE, callE, asgT, updL, forLB, f_law_some, sl0, m1, i1, d1, m2, c1]
noncomputable def vowL : List (List Nat × List Nat) := [([97], [97]), ([101], [101]), ([105], [105]), ([111], [111]), ([117], [117]), ([121], [121]), ([232], [232]), ([97, 97], [97, 97]), ([101, 101], [101, 101]), ([111, 111], [111, 111]), ([117, 117], [117, 117]), ([105, 101], [105, 101]), ([111, 101], [111, 101]), ([117, 105], [117, 105]), ([101, 117], [101, 117]), ([111, 117], [111, 117]), ([101, 105], [101, 105]), ([105, 106], [105, 106]), ([97, 117], [97, 117]), ([225], [97]), ([233], [101]), ([237], [105]), ([243], [111]), ([250], [117]), ([228], [97]), ([235], [101]), ([239], [105]), ([246], [111]), ([252], [117])]
noncomputable def vowPV : PV := .seq false (vowL.map fun p => .seq true [.str p.1, .str p.2])
theorem vowels_ok : F_law_vowels T D n [] att = some (vowPV, att) := by
  refine runF_ret rfl (st := ⟨startLoc [], att⟩) ?_
  rfl
theorem vow_idx {r : Nat} (h : r < 29) : ∃ p ∈ vowL, idxF T vowPV (.int r) = some (.seq true [.str p.1, .str p.2]) := by
  have hl : r < vowL.length := h
  refine ⟨vowL[r], List.getElem_mem hl, ?_⟩
  unfold vowPV
  rw [ixQ]; unfold seqAt
  rw [if_pos (by omega), Int.toNat_natCast, List.getElem?_map, List.getElem?_eq_getElem hl]
  rfl
noncomputable def twoPV : PV := .seq false (twoL.map PV.str)
theorem two_ok : F_law_two T D n [] att = some (twoPV, att) := by
  refine runF_ret rfl (st := ⟨startLoc [], att⟩) ?_
  rfl
theorem two_idx {r : Nat} (h : r < 9) : ∃ w ∈ twoL, idxF T twoPV (.int r) = some (.str w) := by
  have hl : r < twoL.length := h
  refine ⟨twoL[r], List.getElem_mem hl, ?_⟩
  unfold twoPV
  rw [ixQ]; unfold seqAt
  rw [if_pos (by omega), Int.toNat_natCast, List.getElem?_map, List.getElem?_eq_getElem hl]
  rfl
noncomputable def closedL : List (List Nat) := [[101, 110], [101, 110, 100], [104, 101, 100], [103, 101, 109], [104, 101, 105, 100], [105, 110, 103], [105, 103], [108, 105, 106, 107], [98, 97, 97, 114], [98, 97, 114]]
theorem closed_ok : F_law_closed T D n [] att = some (.seq false (closedL.map PV.str), att) := by
  refine runF_ret rfl (st := ⟨startLoc [], att⟩) ?_
  rfl
noncomputable def lsPV (S : LS) : PV := .seq true [.str S.cl, .str S.sd, .str S.sh, .str S.pl]
theorem dkt_ok : ∀ c ∈ closes, PySem.Txt.contains (toStr [100, 107, 116]) (toStr [c]) = decide (c ∈ [100, 107, 116]) := by decide +kernel
theorem last_ok (a m : Int) : ∃ S, F_law_last T D n [.int a, .int m] att = some (lsPV S, att) ∧ LastOK S := by
  obtain ⟨k, hk, m1⟩ := mod_ok a 4 (by decide) (by decide)
  obtain ⟨a2, d1⟩ := div_ok a 4 (by decide) (by decide)
  obtain ⟨r1, h1, m2⟩ := mod_ok m 17 (by decide) (by decide)
  obtain ⟨c, hc, i1⟩ := idx_mem (T := T) (s := closes) (r := r1) h1 (by decide)
  obtain ⟨m', d2⟩ := div_ok m 17 (by decide) (by decide)
  obtain ⟨r4, h4, m4⟩ := mod_ok a2 4 (by decide) (by decide)
  obtain ⟨v4, hv4, i4⟩ := idx_mem (T := T) (s := [97, 101, 111, 117]) (r := r4) h4 (by decide)
  obtain ⟨r5, h5, m5⟩ := mod_ok a2 5 (by decide) (by decide)
  obtain ⟨v5, hv5, i5⟩ := idx_mem (T := T) (s := [97, 101, 105, 111, 117]) (r := r5) h5 (by decide)
  obtain ⟨r9, h9, m9⟩ := mod_ok a2 9 (by decide) (by decide)
  obtain ⟨w9, hw9, i9⟩ := two_idx (T := T) h9
  obtain ⟨a3, d3⟩ := div_ok a2 5 (by decide) (by decide)
  obtain ⟨r2, h2, m6⟩ := mod_ok a3 2 (by decide) (by decide)
  obtain ⟨r20, h20, m7⟩ := mod_ok m' 20 (by decide) (by decide)
  obtain ⟨b, hb, i20⟩ := idx_mem (T := T) (s := sounds) (r := r20) h20 (by decide)
  have m1 : binF .Mod (.int a) (.int 4) = some (.int k) := m1
  have d1 : binF .FloorDiv (.int a) (.int 4) = some (.int a2) := d1
  have m2 : binF .Mod (.int m) (.int 17) = some (.int r1) := m2
  have d2 : binF .FloorDiv (.int m) (.int 17) = some (.int m') := d2
  have m4 : binF .Mod (.int a2) (.int 4) = some (.int r4) := m4
  have m5 : binF .Mod (.int a2) (.int 5) = some (.int r5) := m5
  have m9 : binF .Mod (.int a2) (.int 9) = some (.int r9) := m9
  have d3 : binF .FloorDiv (.int a2) (.int 5) = some (.int a3) := d3
  have m6 : binF .Mod (.int a3) (.int 2) = some (.int r2) := m6
  have m7 : binF .Mod (.int m') (.int 20) = some (.int r20) := m7
  have ek : ∀ j : Nat, cmpF T .Eq (.int k) (.int j) = some (decide (k = j)) := fun j => by
    show some ((k : Int) == j) = _; congr 1; rw [Bool.eq_iff_iff, beq_iff_eq, decide_eq_true_eq]; omega
  have ek0 : cmpF T .Eq (.int k) (.int 0) = some (decide (k = 0)) := ek 0
  have ek1 : cmpF T .Eq (.int k) (.int 1) = some (decide (k = 1)) := ek 1
  have ek2 : cmpF T .Eq (.int k) (.int 2) = some (decide (k = 2)) := ek 2
  have ad : ∀ x y : List Nat, x.length + y.length ≤ 100000 → binF .Add (.str x) (.str y) = some (.str (x ++ y)) := fun x y h => addS h
  by_cases k0 : k = 0
  · rw [decide_eq_true k0] at ek0
    have s1 := ad [v4] [v4] (by simp)
    have s2 := ad ([v4] ++ [v4]) [c] (by simp)
    have s3 := ad [v4] [c] (by simp)
    refine ⟨⟨[v4, v4, c], [v4, c], [v4, c], [v4, c]⟩, ?_, .k0 hv4 hc⟩
    refine runF_ret rfl (st := ⟨upd (upd (upd (upd (upd (startLoc [.int a, .int m]) 2 (.int k)) 0 (.int a2)) 3 (.str [c])) 1 (.int m')) 4 (.str [v4]), att⟩) ?_
    push_cast [dispE, callE, asgT, updL, forLB, f_law_last, sl0, sl1, m1, d1, m2, i1, d2, ek0, m4, i4, s1, s2, s3, List.length_cons, List.length_nil, Nat.reduceLeDiff, Nat.reduceAdd]
    rfl
  rw [decide_eq_false k0] at ek0
  by_cases k1 : k = 1
  · rw [decide_eq_true k1] at ek1
    have s3 := ad [v5] [c] (by simp)
    have s4 := ad ([v5] ++ [c]) [c] (by simp)
    have ct : cmpF T .In (.str [c]) (.str [100, 107, 116]) = some (decide (c ∈ [100, 107, 116])) := by show some (PySem.Txt.contains _ _) = _; rw [dkt_ok c hc]
    by_cases hd : c ∈ [100, 107, 116]
    · rw [decide_eq_true hd] at ct
      refine ⟨⟨[v5, c], [v5, c, c], [v5, c], [v5, c]⟩, ?_, .k1a hv5 hd⟩
      refine runF_ret rfl (st := ⟨upd (upd (upd (upd (upd (upd (startLoc [.int a, .int m]) 2 (.int k)) 0 (.int a2)) 3 (.str [c])) 1 (.int m')) 4 (.str [v5])) 5 (.str ([v5] ++ [c])), att⟩) ?_
      push_cast [dispE, callE, asgT, updL, forLB, f_law_last, sl0, sl1, m1, d1, m2, i1, d2, ek0, ek1, m5, i5, s3, s4, ct, List.length_cons, List.length_nil, Nat.reduceLeDiff, Nat.reduceAdd]
      rfl
    · rw [decide_eq_false hd] at ct
      refine ⟨⟨[v5, c], [v5, c, c], [v5, c], [v5, c, c]⟩, ?_, .k1b hv5 hc hd⟩
      refine runF_ret rfl (st := ⟨upd (upd (upd (upd (upd (upd (startLoc [.int a, .int m]) 2 (.int k)) 0 (.int a2)) 3 (.str [c])) 1 (.int m')) 4 (.str [v5])) 5 (.str ([v5] ++ [c])), att⟩) ?_
      push_cast [dispE, callE, asgT, updL, forLB, f_law_last, sl0, sl1, m1, d1, m2, i1, d2, ek0, ek1, m5, i5, s3, s4, ct, List.length_cons, List.length_nil, Nat.reduceLeDiff, Nat.reduceAdd]
      rfl
  rw [decide_eq_false k1] at ek1
  by_cases k2 : k = 2
  · rw [decide_eq_true k2] at ek2
    have hwl : w9.length ≤ 2 := by
      have : ∀ w ∈ twoL, w.length ≤ 2 := by decide
      exact this w9 hw9
    have s3 := ad w9 [c] (by simp; omega)
    have tw : ∀ att, F_law_two T D n [] att = some (twoPV, att) := fun att => two_ok
    refine ⟨lsame (w9 ++ [c]), ?_, .k2 hw9 hc⟩
    refine runF_ret rfl (st := ⟨upd (upd (upd (upd (upd (startLoc [.int a, .int m]) 2 (.int k)) 0 (.int a2)) 3 (.str [c])) 1 (.int m')) 4 (.str w9), att⟩) ?_
    push_cast [dispE, callE, asgT, updL, forLB, f_law_last, sl0, sl1, m1, d1, m2, i1, d2, ek0, ek1, ek2, tw, m9, i9, s3, List.length_cons, List.length_nil, Nat.reduceLeDiff, Nat.reduceAdd]
    rfl
  rw [decide_eq_false k2] at ek2
  obtain ⟨b', hb', hbc, eb⟩ : ∃ b', b' ∈ sounds ∧ b' ≠ c ∧ b' = if b = c then 115 else b := by
    by_cases e : b = c
    · refine ⟨115, by decide, ?_, by rw [if_pos e]⟩
      have : ∀ c ∈ closes, (115 : Nat) ≠ c := by decide
      exact this c hc
    · exact ⟨b, hb, e, by rw [if_neg e]⟩
  have ceq : cmpF T .Eq (.str [b]) (.str [c]) = some (decide (b = c)) := by
    show some (([b] : List Nat) == [c]) = _; congr 1; rw [Bool.eq_iff_iff]; simp
  have cne : cmpF T .NotEq (.str [v5]) (.str [105]) = some (!decide (v5 = 105)) := by
    show some (([v5] : List Nat) != [105]) = _; congr 1; rw [Bool.eq_iff_iff]; simp
  have e21 : cmpF T .Eq (.int r2) (.int 1) = some (decide (r2 = 1)) := by
    show some ((r2 : Int) == 1) = _; congr 1; rw [Bool.eq_iff_iff, beq_iff_eq, decide_eq_true_eq]; omega
  have sv := ad [v5] [v5] (by simp)
  have s1 : ∀ z : Nat, binF .Add (.str [v5]) (.str [z]) = some (.str ([v5] ++ [z])) := fun z => ad _ _ (by simp)
  have s2 : ∀ z : Nat, binF .Add (.str ([v5] ++ [z])) (.str [c]) = some (.str ([v5] ++ [z] ++ [c])) := fun z => ad _ _ (by simp)
  have s3 : ∀ z : Nat, binF .Add (.str ([v5] ++ [v5])) (.str [z]) = some (.str ([v5] ++ [v5] ++ [z])) := fun z => ad _ _ (by simp)
  have s4 : ∀ z : Nat, binF .Add (.str ([v5] ++ [v5] ++ [z])) (.str [c]) = some (.str ([v5] ++ [v5] ++ [z] ++ [c])) := fun z => ad _ _ (by simp)
  by_cases hdb : v5 ≠ 105 ∧ r2 = 1
  · have hv4' : v5 ∈ [97, 101, 111, 117] := by
      have : ∀ v ∈ [97, 101, 105, 111, 117], v ≠ 105 → v ∈ [97, 101, 111, 117] := by decide
      exact this v5 hv5 hdb.1
    rw [decide_eq_false hdb.1] at cne
    rw [decide_eq_true hdb.2] at e21
    refine ⟨lsame [v5, v5, b', c], ?_, .k3b hv4' hb' hc hbc⟩
    by_cases e : b = c
    · rw [decide_eq_true e] at ceq
      rw [if_pos e] at eb
      subst eb
      refine runF_ret rfl (st := ⟨upd (upd (upd (upd (upd (upd (upd (upd (upd (startLoc [.int a, .int m]) 2 (.int k)) 0 (.int a2)) 3 (.str [c])) 1 (.int m')) 4 (.str [v5])) 4 (.str ([v5] ++ [v5]))) 6 (.str [b])) 6 (.str [115])) 7 (.str ([v5] ++ [v5] ++ [115] ++ [c])), att⟩) ?_
      push_cast [dispE, callE, asgT, updL, forLB, f_law_last, sl0, sl1, m1, d1, m2, i1, d2, ek0, ek1, ek2, m5, i5, cne, d3, m6, e21, sv, m7, i20, ceq, s3, s4, List.length_cons, List.length_nil, Nat.reduceLeDiff, Nat.reduceAdd]
      rfl
    · rw [decide_eq_false e] at ceq
      rw [if_neg e] at eb
      subst eb
      refine runF_ret rfl (st := ⟨upd (upd (upd (upd (upd (upd (upd (upd (startLoc [.int a, .int m]) 2 (.int k)) 0 (.int a2)) 3 (.str [c])) 1 (.int m')) 4 (.str [v5])) 4 (.str ([v5] ++ [v5]))) 6 (.str [b'])) 7 (.str ([v5] ++ [v5] ++ [b'] ++ [c])), att⟩) ?_
      push_cast [dispE, callE, asgT, updL, forLB, f_law_last, sl0, sl1, m1, d1, m2, i1, d2, ek0, ek1, ek2, m5, i5, cne, d3, m6, e21, sv, m7, i20, ceq, s3, s4, List.length_cons, List.length_nil, Nat.reduceLeDiff, Nat.reduceAdd]
      rfl
  · refine ⟨lsame [v5, b', c], ?_, .k3a hv5 hb' hc hbc⟩
    have tst : ∀ loc : Nat → Option PV, loc 4 = some (.str [v5]) → loc 0 = some (.int a2) → andT (cmpE T .NotEq (lo 4) (cS [105])) (cmpE T .Eq (binE .Mod (binE .FloorDiv (lo 0) (cI 5)) (cI 2)) (cI 1)) (⟨loc, att⟩ : St) = some (false, ⟨loc, att⟩) := by
      intro loc g4 g0
      by_cases e5 : v5 = 105
      · rw [decide_eq_true e5] at cne
        push_cast [dispE, callE, asgT, updL, forLB, g4, g0, cne]
      · rw [decide_eq_false e5] at cne
        have : r2 ≠ 1 := fun e => hdb ⟨e5, e⟩
        rw [decide_eq_false this] at e21
        push_cast [dispE, callE, asgT, updL, forLB, g4, g0, cne, d3, m6, e21]
    have unf : f_law_last T D n = seqB (asgN 2 (binE .Mod (lo 0) (cI 4))) (seqB (asgN 0 (binE .FloorDiv (lo 0) (cI 4))) (seqB (asgN 3 (idxE T (cS closes) (binE .Mod (lo 1) (cI 17)))) (seqB (asgN 1 (binE .FloorDiv (lo 1) (cI 17))) (seqB (ifB (cmpE T .Eq (lo 2) (cI 0)) (seqB (asgN 4 (idxE T (cS [97, 101, 111, 117]) (binE .Mod (lo 0) (cI 4)))) (retB (dispE true (consL (binE .Add (binE .Add (lo 4) (lo 4)) (lo 3)) (consL (binE .Add (lo 4) (lo 3)) (consL (binE .Add (lo 4) (lo 3)) (consL (binE .Add (lo 4) (lo 3)) nilL))))))) skipB) (seqB (ifB (cmpE T .Eq (lo 2) (cI 1)) (seqB (asgN 4 (idxE T (cS [97, 101, 105, 111, 117]) (binE .Mod (lo 0) (cI 5)))) (seqB (asgN 5 (binE .Add (lo 4) (lo 3))) (seqB (ifB (cmpE T .In (lo 3) (cS [100, 107, 116])) (retB (dispE true (consL (lo 5) (consL (binE .Add (lo 5) (lo 3)) (consL (lo 5) (consL (lo 5) nilL)))))) skipB) (retB (dispE true (consL (lo 5) (consL (binE .Add (lo 5) (lo 3)) (consL (lo 5) (consL (binE .Add (lo 5) (lo 3)) nilL))))))))) skipB) (seqB (ifB (cmpE T .Eq (lo 2) (cI 2)) (seqB (asgN 4 (idxE T (callE (F_law_two T D n) nilL) (binE .Mod (lo 0) (cI 9)))) (retB (dispE true (consL (binE .Add (lo 4) (lo 3)) (consL (binE .Add (lo 4) (lo 3)) (consL (binE .Add (lo 4) (lo 3)) (consL (binE .Add (lo 4) (lo 3)) nilL))))))) skipB) (seqB (asgN 4 (idxE T (cS [97, 101, 105, 111, 117]) (binE .Mod (lo 0) (cI 5)))) (seqB (ifB (andT (cmpE T .NotEq (lo 4) (cS [105])) (cmpE T .Eq (binE .Mod (binE .FloorDiv (lo 0) (cI 5)) (cI 2)) (cI 1))) (asgN 4 (binE .Add (lo 4) (lo 4))) skipB) (seqB (asgN 6 (idxE T (cS sounds) (binE .Mod (lo 1) (cI 20)))) (seqB (ifB (cmpE T .Eq (lo 6) (lo 3)) (asgN 6 (cS [115])) skipB) (seqB (asgN 7 (binE .Add (binE .Add (lo 4) (lo 6)) (lo 3))) (retB (dispE true (consL (lo 7) (consL (lo 7) (consL (lo 7) (consL (lo 7) nilL))))))))))))))))) := rfl
    generalize hloc : upd (upd (upd (upd (upd (startLoc [.int a, .int m]) 2 (.int k)) 0 (.int a2)) 3 (.str [c])) 1 (.int m')) 4 (.str [v5]) = loc
    have l4 : loc 4 = some (.str [v5]) := by rw [← hloc]; simp [upd]
    have l0 : loc 0 = some (.int a2) := by rw [← hloc]; simp [upd]
    have l1 : loc 1 = some (.int m') := by rw [← hloc]; simp [upd]
    have l3 : loc 3 = some (.str [c]) := by rw [← hloc]; simp [upd]
    have t8 := tst loc l4 l0
    have pre8 : ∀ rest : St → Option (Fl × St), seqB (asgN 2 (binE .Mod (lo 0) (cI 4))) (seqB (asgN 0 (binE .FloorDiv (lo 0) (cI 4))) (seqB (asgN 3 (idxE T (cS closes) (binE .Mod (lo 1) (cI 17)))) (seqB (asgN 1 (binE .FloorDiv (lo 1) (cI 17))) (seqB (ifB (cmpE T .Eq (lo 2) (cI 0)) (seqB (asgN 4 (idxE T (cS [97, 101, 111, 117]) (binE .Mod (lo 0) (cI 4)))) (retB (dispE true (consL (binE .Add (binE .Add (lo 4) (lo 4)) (lo 3)) (consL (binE .Add (lo 4) (lo 3)) (consL (binE .Add (lo 4) (lo 3)) (consL (binE .Add (lo 4) (lo 3)) nilL))))))) skipB) (seqB (ifB (cmpE T .Eq (lo 2) (cI 1)) (seqB (asgN 4 (idxE T (cS [97, 101, 105, 111, 117]) (binE .Mod (lo 0) (cI 5)))) (seqB (asgN 5 (binE .Add (lo 4) (lo 3))) (seqB (ifB (cmpE T .In (lo 3) (cS [100, 107, 116])) (retB (dispE true (consL (lo 5) (consL (binE .Add (lo 5) (lo 3)) (consL (lo 5) (consL (lo 5) nilL)))))) skipB) (retB (dispE true (consL (lo 5) (consL (binE .Add (lo 5) (lo 3)) (consL (lo 5) (consL (binE .Add (lo 5) (lo 3)) nilL))))))))) skipB) (seqB (ifB (cmpE T .Eq (lo 2) (cI 2)) (seqB (asgN 4 (idxE T (callE (F_law_two T D n) nilL) (binE .Mod (lo 0) (cI 9)))) (retB (dispE true (consL (binE .Add (lo 4) (lo 3)) (consL (binE .Add (lo 4) (lo 3)) (consL (binE .Add (lo 4) (lo 3)) (consL (binE .Add (lo 4) (lo 3)) nilL))))))) skipB) (seqB (asgN 4 (idxE T (cS [97, 101, 105, 111, 117]) (binE .Mod (lo 0) (cI 5)))) rest))))))) ⟨startLoc [.int a, .int m], att⟩ = rest ⟨loc, att⟩ := by
      intro rest
      rw [← hloc]
      push_cast [dispE, callE, asgT, updL, forLB, sl0, sl1, m1, d1, m2, i1, d2, ek0, ek1, ek2, m5, i5]
    by_cases e : b = c
    · rw [decide_eq_true e] at ceq
      rw [if_pos e] at eb
      subst eb
      refine runF_ret rfl (st := ⟨upd (upd (upd loc 6 (.str [b])) 6 (.str [115])) 7 (.str ([v5] ++ [115] ++ [c])), att⟩) ?_
      rw [unf, pre8]
      rw [seqB_eq (st1 := ⟨loc, att⟩) (by unfold ifB; rw [t8]; rfl)]
      push_cast [dispE, callE, asgT, updL, forLB, l1, l3, l4, m7, i20, ceq, s1, s2, List.length_cons, List.length_nil, Nat.reduceLeDiff, Nat.reduceAdd]
      rfl
    · rw [decide_eq_false e] at ceq
      rw [if_neg e] at eb
      subst eb
      refine runF_ret rfl (st := ⟨upd (upd loc 6 (.str [b'])) 7 (.str ([v5] ++ [b'] ++ [c])), att⟩) ?_
      rw [unf, pre8]
      rw [seqB_eq (st1 := ⟨loc, att⟩) (by unfold ifB; rw [t8]; rfl)]
      push_cast [dispE, callE, asgT, updL, forLB, l1, l3, l4, m7, i20, ceq, s1, s2, List.length_cons, List.length_nil, Nat.reduceLeDiff, Nat.reduceAdd]
      rfl
end
structure TF (T : Addr → Option TO) (D : WD) : Prop where
  at_ : ∃ as : List Addr, T D.fams = some (.seq false (as.map PV.top)) ∧ ∀ (j : Nat) (F : Fam), fams[j]? = some F → ∃ a b : Addr, as[j]? = some a ∧ T a = some (.seq true [.int F.wh, .int F.deep, .str F.deepr, .int F.low, .str F.lowr, .top b]) ∧
    ∃ bs : List Addr, T b = some (.seq false (bs.map PV.top)) ∧ bs.length = F.forms.length ∧ ∀ (k : Nat) (e : List Nat × List Nat), F.forms[k]? = some e → ∃ c : Addr, bs[k]? = some c ∧ T c = some (.seq true [.str e.1, .str e.2])
noncomputable def oop : LS := ⟨[111, 111, 112], [111, 112], [111, 112], [111, 112]⟩
theorem runF_retE {n : Nat} {f : St → Option (Fl × St)} {pvs : List PV} {att att' : List (Nat × PV)} {v : PV} (hn : pvs.length = n) (h : ∃ loc, f ⟨startLoc pvs, att⟩ = some (.ret v, ⟨loc, att'⟩)) : runF n f pvs att = some (v, att') := by
  obtain ⟨loc, h⟩ := h
  exact runF_ret hn h
theorem ends_rev (z w : List Nat) : z.isSuffixOf w = isP z.reverse w.reverse := by
  have := suf_isP z w.reverse
  rwa [List.reverse_reverse] at this
section
variable {T : Addr → Option TO} {D : WD} {n : Nat} {att : List (Nat × PV)}
noncomputable def rootB (T : Addr → Option TO) : St → Option (Fl × St) := (ifB (orT (boolT (endsE (binE .Add (lo 0) (idxE T (lo 3) (cI 0))) (lo 4))) (boolT (endsE (binE .Add (lo 0) (idxE T (lo 3) (cI 1))) (lo 4)))) (retB (dispE true (consL (cS [111, 111, 112]) (consL (cS [111, 112]) (consL (cS [111, 112]) (consL (cS [111, 112]) nilL)))))) skipB)
noncomputable def hit (told : List Nat) (S : LS) (z : List Nat) : Bool := z.isSuffixOf (told ++ S.cl) || z.isSuffixOf (told ++ S.sd)
theorem ix0 (S : LS) : idxF T (lsPV S) (.int 0) = some (.str S.cl) := rfl
theorem ix1 (S : LS) : idxF T (lsPV S) (.int 1) = some (.str S.sd) := rfl
theorem root_loop {told : List Nat} {S : LS} (hl1 : told.length + S.cl.length ≤ 1000) (hl2 : told.length + S.sd.length ≤ 1000) : ∀ (L : List (List Nat)) (loc : Nat → Option PV), loc 0 = some (.str told) → loc 3 = some (lsPV S) →
    ∃ loc', forB 4 (rootB T) (L.map PV.str) ⟨loc, att⟩ = some (if L.any (hit told S) then .ret (lsPV oop) else .next, ⟨loc', att⟩) ∧ loc' 3 = some (lsPV S)
  | [], loc, h0, h3 => ⟨loc, rfl, h3⟩
  | z :: L, loc, h0, h3 => by
    have a1 : binF .Add (.str told) (.str S.cl) = some (.str (told ++ S.cl)) := addS (by omega)
    have a2 : binF .Add (.str told) (.str S.sd) = some (.str (told ++ S.sd)) := addS (by omega)
    have h0' : upd loc 4 (.str z) 0 = some (.str told) := by simp [upd, h0]
    have h3' : upd loc 4 (.str z) 3 = some (lsPV S) := by simp [upd, h3]
    have h4' : upd loc 4 (.str z) 4 = some (.str z) := by simp [upd]
    have body : rootB T ⟨upd loc 4 (.str z), att⟩ = some (if hit told S z then .ret (lsPV oop) else .next, ⟨upd loc 4 (.str z), att⟩) := by
      unfold hit
      cases e1 : z.isSuffixOf (told ++ S.cl) with
      | true =>
        push_cast [dispE, callE, asgT, updL, forLB, rootB, h0, h3, ix0, ix1, a1, a2, e1, List.length_cons, List.length_nil, Nat.reduceLeDiff, Nat.reduceAdd, Bool.true_or]
        rfl
      | false =>
        cases e2 : z.isSuffixOf (told ++ S.sd) with
        | true =>
          push_cast [dispE, callE, asgT, updL, forLB, rootB, h0, h3, ix0, ix1, a1, a2, e1, e2, List.length_cons, List.length_nil, Nat.reduceLeDiff, Nat.reduceAdd, Bool.false_or]
          rfl
        | false =>
          push_cast [dispE, callE, asgT, updL, forLB, rootB, h0, h3, ix0, ix1, a1, a2, e1, e2, List.length_cons, List.length_nil, Nat.reduceLeDiff, Nat.reduceAdd, Bool.false_or]
    rw [List.map_cons, List.any_cons]
    rw [forB]
    simp only [body]
    cases hz : hit told S z with
    | true => exact ⟨_, rfl, h3'⟩
    | false =>
      simp only [Bool.false_eq_true, if_false, Bool.false_or]
      exact root_loop hl1 hl2 L _ h0' h3'
theorem any_or {α : Type} (L : List α) (p q : α → Bool) : L.any (fun z => p z || q z) = (L.any p || L.any q) := by
  induction L with
  | nil => rfl
  | cons x L ih => rw [List.any_cons, List.any_cons, List.any_cons, ih]; cases p x <;> cases q x <;> simp
theorem exB_eq (w : List Nat) : closedL.any (fun z => z.isSuffixOf w) = exB w := by
  unfold exB
  have e : exL = closedL.map List.reverse := by decide
  rw [e, List.any_map]
  congr 1
  funext z
  exact ends_rev z w
theorem last_len {S : LS} (h : LastOK S) : S.cl.length ≤ 5 ∧ S.sd.length ≤ 5 ∧ S.sh.length ≤ 5 ∧ S.pl.length ≤ 5 ∧ S.cl ≠ [] := by
  cases h with
  | k0 => simp
  | k1a => simp
  | k1b => simp
  | @k2 w c hw =>
    have : ∀ w ∈ twoL, w.length ≤ 2 := by decide
    have := this w hw
    simp [lsame]; omega
  | k3a => simp [lsame]
  | k3b => simp [lsame]
theorem root_ok (told : List Nat) (hl : told.length ≤ 100) (a m : Int) : ∃ S, F_law_root T D n [.str told, .int a, .int m] att = some (lsPV S, att) ∧ ((LastOK S ∧ exB (told ++ S.cl) = false ∧ exB (told ++ S.sd) = false) ∨ S = oop) := by
  obtain ⟨S, h1, hS⟩ := last_ok (T := T) (D := D) (n := n) (att := att) a m
  obtain ⟨b1, b2, _⟩ := last_len hS
  have cl : ∀ st : St, callE (F_law_closed T D n) nilL st = some (.seq false (closedL.map PV.str), st) := fun st => by
    have := closed_ok (T := T) (D := D) (n := n) (att := st.att)
    push_cast [dispE, callE, asgT, updL, forLB, this]
  obtain ⟨loc', h2, h3⟩ := root_loop (T := T) (att := att) (told := told) (S := S) (by omega) (by omega) closedL (upd (startLoc [.str told, .int a, .int m]) 3 (lsPV S)) (by simp [upd, sl0]) (by simp [upd])
  have unf : f_law_root T D n = seqB (asgN 3 (callE (F_law_last T D n) (consL (lo 1) (consL (lo 2) nilL)))) (seqB (forLB 4 (callE (F_law_closed T D n) nilL) (rootB T)) (retB (lo 3))) := rfl
  have hany : closedL.any (hit told S) = (exB (told ++ S.cl) || exB (told ++ S.sd)) := by
    rw [← exB_eq, ← exB_eq, ← any_or]; rfl
  have first : (asgN 3 (callE (F_law_last T D n) (consL (lo 1) (consL (lo 2) nilL)))) (⟨startLoc [.str told, .int a, .int m], att⟩ : St) = some (.next, ⟨upd (startLoc [.str told, .int a, .int m]) 3 (lsPV S), att⟩) := by
    push_cast [dispE, callE, asgT, updL, forLB, sl1, sl2, h1]
  cases hh : closedL.any (hit told S) with
  | true =>
    rw [hh] at h2
    refine ⟨oop, ?_, .inr rfl⟩
    refine runF_retE rfl ⟨loc', ?_⟩
    rw [unf, seqB_eq first]
    unfold seqB forLB
    rw [cl]
    simp only
    rw [h2]
    rfl
  | false =>
    rw [hh] at h2
    rw [hany, Bool.or_eq_false_iff] at hh
    refine ⟨S, ?_, .inl ⟨hS, hh.1, hh.2⟩⟩
    refine runF_retE rfl ⟨loc', ?_⟩
    rw [unf, seqB_eq first]
    have second : forLB 4 (callE (F_law_closed T D n) nilL) (rootB T) ⟨upd (startLoc [.str told, .int a, .int m]) 3 (lsPV S), att⟩ = some (.next, ⟨loc', att⟩) := by
      unfold forLB
      rw [cl]
      exact h2
    rw [seqB_eq second]
    push_cast [dispE, callE, asgT, updL, forLB, h3]
end
theorem fam_small : ∀ F ∈ fams, 0 < F.forms.length ∧ F.forms.length ≤ 10 ∧ F.deep ≤ 3 ∧ F.low ≤ 3 ∧ F.deepr.length ≤ 10 ∧ F.lowr.length ≤ 10 ∧ F.forms.all (fun x => decide (x.1.length ≤ 10) && decide (x.2.length ≤ 10)) = true := by decide
theorem getLast_lastN : ∀ l : List Nat, l ≠ [] → l.getLast? = some (lastN l)
  | [], h => absurd rfl h
  | [x], _ => rfl
  | x :: y :: r, _ => by
    rw [List.getLast?_cons_cons]
    exact getLast_lastN (y :: r) (by simp)
section
variable {T : Addr → Option TO} {D : WD} {n : Nat} {att : List (Nat × PV)}
theorem word_ok (hF : TF T D) {front told : List Nat} {S : LS} (h1 : front.length ≤ 100) (h2 : told.length ≤ 100) (hS : S.cl.length ≤ 5 ∧ S.sd.length ≤ 5 ∧ S.sh.length ≤ 5 ∧ S.pl.length ≤ 5 ∧ S.cl ≠ []) {dp : Nat} (hd : dp = 0 ∨ dp = 1 ∨ dp = 2) (x : Int) :
    ∃ j F en no, fams[j]? = some F ∧ (en, no) ∈ F.forms ∧ F_law_word T D n [.str front, .str told, lsPV S, .int dp, .int x] att = some (.seq true [.str (front ++ restC F en S), .str (told ++ expC dp j F no S)], att) := by
  obtain ⟨s1, s2, s3, s4, s5⟩ := hS
  obtain ⟨as, t1, t2⟩ := hF.at_
  obtain ⟨j, hj, m1⟩ := mod_ok x 29 (by decide) (by decide)
  have hfl : fams.length = 29 := by decide
  have hFj : fams[j]? = some (fams[j]'(by omega)) := List.getElem?_eq_getElem (by omega)
  generalize fams[j]'(by omega) = F at hFj
  have hFm : F ∈ fams := List.mem_of_getElem? hFj
  obtain ⟨f1, f2, f3, f4, f5, f6, f7⟩ := fam_small F hFm
  obtain ⟨a, b, ha, ta, bs, tb_, hbl, hbs⟩ := t2 j F hFj
  obtain ⟨x2, d1⟩ := div_ok x 29 (by decide) (by decide)
  obtain ⟨k, hk, m2⟩ := mod_ok x2 F.forms.length f1 (by omega)
  have hek : F.forms[k]? = some (F.forms[k]) := List.getElem?_eq_getElem hk
  generalize F.forms[k] = e at hek
  obtain ⟨en, no⟩ := e
  have hem : (en, no) ∈ F.forms := List.mem_of_getElem? hek
  obtain ⟨c, hc, tc⟩ := hbs k (en, no) hek
  have hsm := List.all_eq_true.mp f7 (en, no) hem
  simp only [Bool.and_eq_true, decide_eq_true_eq] at hsm
  obtain ⟨g1, g2⟩ := hsm
  have m1 : binF .Mod (.int x) (.int 29) = some (.int j) := m1
  have d1 : binF .FloorDiv (.int x) (.int 29) = some (.int x2) := d1
  have i1 : idxF T (.top D.fams) (.int j) = some (.top a) := by
    rw [ixT t1]
    unfold seqAt
    rw [if_pos (by omega), Int.toNat_natCast, List.getElem?_map, ha]; rfl
  have ln : biF T .len [.top b] = some (.int F.forms.length) := by
    rw [lnT tb_, List.length_map, hbl]
  have i2 : idxF T (.top b) (.int k) = some (.top c) := by
    rw [ixT tb_]
    unfold seqAt
    rw [if_pos (by omega), Int.toNat_natCast, List.getElem?_map, hc]; rfl
  have ad : ∀ x y : List Nat, x.length + y.length ≤ 100000 → binF .Add (.str x) (.str y) = some (.str (x ++ y)) := fun x y h => addS h
  have eqn : ∀ p q : Nat, cmpF T .Eq (.int p) (.int q) = some (decide (p = q)) := fun p q => by
    show some ((p : Int) == q) = _; congr 1; rw [Bool.eq_iff_iff, beq_iff_eq, decide_eq_true_eq]; omega
  have w0 : cmpF T .Eq (.int F.wh) (.int 0) = some (decide (F.wh = 0)) := eqn F.wh 0
  have q0 : cmpF T .Eq (.int dp) (.int 0) = some (decide (dp = 0)) := eqn dp 0
  have q1 : cmpF T .Eq (.int dp) (.int 1) = some (decide (dp = 1)) := eqn dp 1
  have j1 : cmpF T .Eq (.int j) (.int 1) = some (decide (j = 1)) := eqn j 1
  have j2 : cmpF T .Eq (.int j) (.int 2) = some (decide (j = 2)) := eqn j 2
  have u1 := ad front S.cl (by omega)
  have u2 := ad front S.sd (by omega)
  have u3 := ad (front ++ S.cl) en (by rw [List.length_append]; omega)
  have u4 := ad (front ++ S.sd) en (by rw [List.length_append]; omega)
  have b0 := ad told S.sh (by omega)
  have b1 := ad told S.cl (by omega)
  have b2 := ad told S.pl (by omega)
  have b3 := ad told S.sd (by omega)
  have u5 := ad (told ++ S.cl) no (by rw [List.length_append]; omega)
  let L1 : Nat → Option PV := upd (upd (upd (upd (startLoc [.str front, .str told, lsPV S, .int dp, .int x]) 5 (.str S.cl)) 6 (.str S.sd)) 7 (.str S.sh)) 8 (.str S.pl)
  let L2 : Nat → Option PV := upd (upd (upd (upd (upd (upd L1 9 (.int F.wh)) 10 (.int F.deep)) 11 (.str F.deepr)) 12 (.int F.low)) 13 (.str F.lowr)) 14 (.top b)
  let L3 : Nat → Option PV := upd (upd L2 15 (.str en)) 16 (.str no)
  have sx3 : startLoc [.str front, .str told, lsPV S, .int dp, .int x] 3 = some (.int dp) := rfl
  have sx4 : startLoc [.str front, .str told, lsPV S, .int dp, .int x] 4 = some (.int x) := rfl
  have e0 : (asgT [5, 6, 7, 8] T (lo 2)) (⟨startLoc [.str front, .str told, lsPV S, .int dp, .int x], att⟩ : St) = some (.next, ⟨L1, att⟩) := by
    push_cast [dispE, callE, asgT, updL, forLB, sl2, lsPV]
    rfl
  have l2 : L1 2 = some (lsPV S) := rfl
  have l4 : L1 4 = some (.int x) := rfl
  have e1 : (asgT [9, 10, 11, 12, 13, 14] T (idxE T (cT D.fams) (binE .Mod (lo 4) (cI 29)))) (⟨L1, att⟩ : St) = some (.next, ⟨L2, att⟩) := by
    push_cast [dispE, callE, asgT, updL, forLB, l4, m1, i1, ta]
    rfl
  have k14 : L2 14 = some (.top b) := rfl
  have k4 : L2 4 = some (.int x) := rfl
  have e2 : (asgT [15, 16] T (idxE T (lo 14) (binE .Mod (binE .FloorDiv (lo 4) (cI 29)) (biE T .len (consL (lo 14) nilL))))) (⟨L2, att⟩ : St) = some (.next, ⟨L3, att⟩) := by
    push_cast [dispE, callE, asgT, updL, forLB, k14, k4, d1, ln, m2, i2, tc]
    rfl
  have z0 : L3 0 = some (.str front) := rfl
  have z1 : L3 1 = some (.str told) := rfl
  have z3 : L3 3 = some (.int dp) := rfl
  have z4 : L3 4 = some (.int x) := rfl
  have z5 : L3 5 = some (.str S.cl) := rfl
  have z6 : L3 6 = some (.str S.sd) := rfl
  have z7 : L3 7 = some (.str S.sh) := rfl
  have z8 : L3 8 = some (.str S.pl) := rfl
  have z9 : L3 9 = some (.int F.wh) := rfl
  have z10 : L3 10 = some (.int F.deep) := rfl
  have z11 : L3 11 = some (.str F.deepr) := rfl
  have z12 : L3 12 = some (.int F.low) := rfl
  have z13 : L3 13 = some (.str F.lowr) := rfl
  have z15 : L3 15 = some (.str en) := rfl
  have z16 : L3 16 = some (.str no) := rfl
  generalize L3 = L3' at *
  have e3 : (ifB (cmpE T .Eq (lo 9) (cI 0)) (asgN 17 (binE .Add (binE .Add (lo 0) (lo 5)) (lo 15))) (asgN 17 (binE .Add (binE .Add (lo 0) (lo 6)) (lo 15)))) (⟨L3', att⟩ : St) = some (.next, ⟨upd L3' 17 (.str (front ++ restC F en S)), att⟩) := by
    unfold restC
    by_cases c0 : F.wh = 0
    · rw [decide_eq_true c0] at w0
      rw [if_pos c0]
      push_cast [dispE, callE, asgT, updL, forLB, z9, w0, z0, z5, z15, u1, u3, List.append_assoc]
    · rw [decide_eq_false c0] at w0
      rw [if_neg c0]
      push_cast [dispE, callE, asgT, updL, forLB, z9, w0, z0, z6, z15, u2, u4, List.append_assoc]
  have unf : f_law_word T D n = seqB (asgT [5, 6, 7, 8] T (lo 2)) (seqB (asgT [9, 10, 11, 12, 13, 14] T (idxE T (cT D.fams) (binE .Mod (lo 4) (cI 29)))) (seqB (asgT [15, 16] T (idxE T (lo 14) (binE .Mod (binE .FloorDiv (lo 4) (cI 29)) (biE T .len (consL (lo 14) nilL))))) (seqB (ifB (cmpE T .Eq (lo 9) (cI 0)) (asgN 17 (binE .Add (binE .Add (lo 0) (lo 5)) (lo 15))) (asgN 17 (binE .Add (binE .Add (lo 0) (lo 6)) (lo 15)))) (seqB (ifB (cmpE T .Eq (lo 3) (cI 0)) (retB (dispE true (consL (lo 17) (consL (binE .Add (binE .Add (lo 1) (lo 5)) (lo 16)) nilL)))) skipB) (seqB (asgN 18 (dispE false (consL (binE .Add (lo 1) (lo 7)) (consL (binE .Add (lo 1) (lo 5)) (consL (binE .Add (lo 1) (lo 8)) (consL (binE .Add (lo 1) (lo 6)) nilL)))))) (seqB (ifB (orT (andT (cmpE T .Eq (binE .Mod (lo 4) (cI 29)) (cI 1)) (cmpE T .Eq (idxE T (lo 5) (negE (cI 1))) (cS [116]))) (andT (cmpE T .Eq (binE .Mod (lo 4) (cI 29)) (cI 2)) (cmpE T .Eq (idxE T (lo 5) (negE (cI 1))) (cS [100])))) (retB (dispE true (consL (lo 17) (consL (idxE T (lo 18) (cI 0)) nilL)))) skipB) (seqB (ifB (cmpE T .Eq (lo 3) (cI 1)) (retB (dispE true (consL (lo 17) (consL (binE .Add (idxE T (lo 18) (lo 12)) (lo 13)) nilL)))) skipB) (retB (dispE true (consL (lo 17) (consL (binE .Add (idxE T (lo 18) (lo 10)) (lo 11)) nilL))))))))))) := rfl
  refine ⟨j, F, en, no, hFj, hem, ?_⟩
  refine runF_retE rfl ?_
  rw [unf, seqB_eq e0, seqB_eq e1, seqB_eq e2, seqB_eq e3]
  generalize hL4 : upd L3' 17 (.str (front ++ restC F en S)) = L4
  have y : ∀ m, m ≠ 17 → L4 m = L3' m := fun m hm => by rw [← hL4]; exact upd_ne hm
  have y17 : L4 17 = some (.str (front ++ restC F en S)) := by rw [← hL4]; exact upd_eq
  have y1 := (y 1 (by decide)).trans z1
  have y3 := (y 3 (by decide)).trans z3
  have y4 := (y 4 (by decide)).trans z4
  have y5 := (y 5 (by decide)).trans z5
  have y6 := (y 6 (by decide)).trans z6
  have y7 := (y 7 (by decide)).trans z7
  have y8 := (y 8 (by decide)).trans z8
  have y10 := (y 10 (by decide)).trans z10
  have y11 := (y 11 (by decide)).trans z11
  have y12 := (y 12 (by decide)).trans z12
  have y13 := (y 13 (by decide)).trans z13
  have y16 := (y 16 (by decide)).trans z16
  clear hL4
  by_cases c0 : dp = 0
  · rw [decide_eq_true c0] at q0
    subst c0
    refine ⟨L4, ?_⟩
    push_cast [dispE, callE, asgT, updL, forLB, y3, q0, y17, y1, y5, y16, b1, u5, List.length_cons, List.length_nil, Nat.reduceLeDiff, Nat.reduceAdd]
    rw [List.append_assoc]
    rfl
  rw [decide_eq_false c0] at q0
  have hexp : expC dp j F no S = if (j = 1 ∧ lastN S.cl = 116) ∨ (j = 2 ∧ lastN S.cl = 100) then S.sh else if dp = 1 then baseC S F.low ++ F.lowr else baseC S F.deep ++ F.deepr := by
    cases dp with
    | zero => exact absurd rfl c0
    | succ m => rfl
  have e4 : (ifB (cmpE T .Eq (lo 3) (cI 0)) (retB (dispE true (consL (lo 17) (consL (binE .Add (binE .Add (lo 1) (lo 5)) (lo 16)) nilL)))) skipB) (⟨L4, att⟩ : St) = some (.next, ⟨L4, att⟩) := by
    push_cast [dispE, callE, asgT, updL, forLB, y3, q0]
  let B : PV := .seq false [.str (told ++ S.sh), .str (told ++ S.cl), .str (told ++ S.pl), .str (told ++ S.sd)]
  have e5 : (asgN 18 (dispE false (consL (binE .Add (lo 1) (lo 7)) (consL (binE .Add (lo 1) (lo 5)) (consL (binE .Add (lo 1) (lo 8)) (consL (binE .Add (lo 1) (lo 6)) nilL)))))) (⟨L4, att⟩ : St) = some (.next, ⟨upd L4 18 B, att⟩) := by
    push_cast [dispE, callE, asgT, updL, forLB, y1, y5, y6, y7, y8, b0, b1, b2, b3, List.length_cons, List.length_nil, Nat.reduceLeDiff, Nat.reduceAdd]
    rfl
  have bidx : ∀ i : Nat, i ≤ 3 → idxF T B (.int i) = some (.str (told ++ baseC S i)) := fun i hi => by
    match i, hi with
    | 0, _ => rfl
    | 1, _ => rfl
    | 2, _ => rfl
    | 3, _ => rfl
    | i + 4, h => omega
  have blen : ∀ i : Nat, (baseC S i).length ≤ 5 := fun i => by
    match i with
    | 0 => exact s3
    | 1 => exact s1
    | 2 => exact s4
    | i + 3 => exact s2
  rw [seqB_eq e4, seqB_eq e5]
  have hB : upd L4 18 B 18 = some B := upd_eq
  have v : ∀ m, m ≠ 18 → upd L4 18 B m = L4 m := fun m hm => upd_ne hm
  generalize upd L4 18 B = L5 at *
  have v17 := (v 17 (by decide)).trans y17
  have v3 := (v 3 (by decide)).trans y3
  have v4 := (v 4 (by decide)).trans y4
  have v5 := (v 5 (by decide)).trans y5
  have v10 := (v 10 (by decide)).trans y10
  have v11 := (v 11 (by decide)).trans y11
  have v12 := (v 12 (by decide)).trans y12
  have v13 := (v 13 (by decide)).trans y13
  have il : idxF T (.str S.cl) (.int (-1)) = some (.str [lastN S.cl]) := by
    rw [ixS]; unfold idxSt
    rw [if_neg (by omega)]
    simp only [if_true, getLast_lastN _ s5]
    rfl
  have ce : ∀ c : Nat, cmpF T .Eq (.str [lastN S.cl]) (.str [c]) = some (decide (lastN S.cl = c)) := fun c => by
    show some (([lastN S.cl] : List Nat) == [c]) = _; congr 1; rw [Bool.eq_iff_iff]; simp
  have tst : orT (andT (cmpE T .Eq (binE .Mod (lo 4) (cI 29)) (cI 1)) (cmpE T .Eq (idxE T (lo 5) (negE (cI 1))) (cS [116]))) (andT (cmpE T .Eq (binE .Mod (lo 4) (cI 29)) (cI 2)) (cmpE T .Eq (idxE T (lo 5) (negE (cI 1))) (cS [100]))) (⟨L5, att⟩ : St) = some (decide ((j = 1 ∧ lastN S.cl = 116) ∨ (j = 2 ∧ lastN S.cl = 100)), ⟨L5, att⟩) := by
    have c1 := ce 116
    have c2 := ce 100
    by_cases a1 : j = 1
    · have a2 : ¬ j = 2 := by omega
      rw [decide_eq_true a1] at j1
      rw [decide_eq_false a2] at j2
      by_cases a3 : lastN S.cl = 116
      · rw [decide_eq_true a3] at c1
        have : decide ((j = 1 ∧ lastN S.cl = 116) ∨ (j = 2 ∧ lastN S.cl = 100)) = true := decide_eq_true (.inl ⟨a1, a3⟩)
        rw [this]
        push_cast [dispE, callE, asgT, updL, forLB, v4, v5, m1, j1, j2, il, c1]
      · rw [decide_eq_false a3] at c1
        have : decide ((j = 1 ∧ lastN S.cl = 116) ∨ (j = 2 ∧ lastN S.cl = 100)) = false := decide_eq_false (by rintro (⟨_, z⟩ | ⟨z, _⟩); exact a3 z; exact a2 z)
        rw [this]
        push_cast [dispE, callE, asgT, updL, forLB, v4, v5, m1, j1, j2, il, c1]
    · rw [decide_eq_false a1] at j1
      by_cases a2 : j = 2
      · rw [decide_eq_true a2] at j2
        by_cases a3 : lastN S.cl = 100
        · rw [decide_eq_true a3] at c2
          have : decide ((j = 1 ∧ lastN S.cl = 116) ∨ (j = 2 ∧ lastN S.cl = 100)) = true := decide_eq_true (.inr ⟨a2, a3⟩)
          rw [this]
          push_cast [dispE, callE, asgT, updL, forLB, v4, v5, m1, j1, j2, il, c2]
        · rw [decide_eq_false a3] at c2
          have : decide ((j = 1 ∧ lastN S.cl = 116) ∨ (j = 2 ∧ lastN S.cl = 100)) = false := decide_eq_false (by rintro (⟨z, _⟩ | ⟨_, z⟩); exact a1 z; exact a3 z)
          rw [this]
          push_cast [dispE, callE, asgT, updL, forLB, v4, v5, m1, j1, j2, il, c2]
      · rw [decide_eq_false a2] at j2
        have : decide ((j = 1 ∧ lastN S.cl = 116) ∨ (j = 2 ∧ lastN S.cl = 100)) = false := decide_eq_false (by rintro (⟨z, _⟩ | ⟨z, _⟩); exact a1 z; exact a2 z)
        rw [this]
        push_cast [dispE, callE, asgT, updL, forLB, v4, v5, m1, j1, j2, il]
  rw [hexp]
  by_cases hx : (j = 1 ∧ lastN S.cl = 116) ∨ (j = 2 ∧ lastN S.cl = 100)
  · rw [decide_eq_true hx] at tst
    rw [if_pos hx]
    refine ⟨L5, ?_⟩
    have bi := bidx 0 (by decide)
    have e6 : (ifB (orT (andT (cmpE T .Eq (binE .Mod (lo 4) (cI 29)) (cI 1)) (cmpE T .Eq (idxE T (lo 5) (negE (cI 1))) (cS [116]))) (andT (cmpE T .Eq (binE .Mod (lo 4) (cI 29)) (cI 2)) (cmpE T .Eq (idxE T (lo 5) (negE (cI 1))) (cS [100])))) (retB (dispE true (consL (lo 17) (consL (idxE T (lo 18) (cI 0)) nilL)))) skipB) (⟨L5, att⟩ : St) = some (.ret (.seq true [.str (front ++ restC F en S), .str (told ++ S.sh)]), ⟨L5, att⟩) := by
      unfold ifB
      rw [tst]
      have bi' : idxF T B (.int 0) = some (.str (told ++ S.sh)) := bi
      push_cast [dispE, callE, asgT, updL, forLB, v17, hB, bi', List.length_cons, List.length_nil, Nat.reduceLeDiff, Nat.reduceAdd]
    unfold seqB
    rw [e6]
  · rw [decide_eq_false hx] at tst
    rw [if_neg hx]
    have e6 : (ifB (orT (andT (cmpE T .Eq (binE .Mod (lo 4) (cI 29)) (cI 1)) (cmpE T .Eq (idxE T (lo 5) (negE (cI 1))) (cS [116]))) (andT (cmpE T .Eq (binE .Mod (lo 4) (cI 29)) (cI 2)) (cmpE T .Eq (idxE T (lo 5) (negE (cI 1))) (cS [100])))) (retB (dispE true (consL (lo 17) (consL (idxE T (lo 18) (cI 0)) nilL)))) skipB) (⟨L5, att⟩ : St) = some (.next, ⟨L5, att⟩) := by
      unfold ifB
      rw [tst]
      rfl
    rw [seqB_eq e6]
    by_cases c1 : dp = 1
    · rw [decide_eq_true c1] at q1
      rw [if_pos c1]
      have bi := bidx F.low f4
      have aa := ad (told ++ baseC S F.low) F.lowr (by rw [List.length_append]; have := blen F.low; omega)
      refine ⟨L5, ?_⟩
      push_cast [dispE, callE, asgT, updL, forLB, v3, q1, v17, hB, v12, v13, bi, aa, List.length_cons, List.length_nil, Nat.reduceLeDiff, Nat.reduceAdd, List.append_assoc]
    · rw [decide_eq_false c1] at q1
      rw [if_neg c1]
      have bi := bidx F.deep f3
      have aa := ad (told ++ baseC S F.deep) F.deepr (by rw [List.length_append]; have := blen F.deep; omega)
      refine ⟨L5, ?_⟩
      push_cast [dispE, callE, asgT, updL, forLB, v3, q1, v17, hB, v10, v11, bi, aa, List.length_cons, List.length_nil, Nat.reduceLeDiff, Nat.reduceAdd, List.append_assoc]
end
inductive Built : Nat → List Nat → List Nat → List Nat → Prop
  | base {s : List Nat} : Cons s → Built 0 s s s
  | step {k : Nat} {f t b s : List Nat} {p : List Nat × List Nat} : Built k f t b → p ∈ vowL → Cons s → Built (k + 1) (f ++ p.1 ++ s) (t ++ p.2 ++ s) (b ++ s)
theorem Cons.mem {s : List Nat} (h : Cons s) : ∀ x ∈ s, x ∈ sounds := by
  rcases h with ⟨x, hx, rfl⟩ | ⟨x, hx, y, hy, rfl⟩
  · intro z hz; simp at hz; subst hz; exact hx
  · intro z hz; simp at hz; rcases hz with rfl | rfl <;> assumption
theorem Cons.len {s : List Nat} (h : Cons s) : 1 ≤ s.length ∧ s.length ≤ 2 := by
  rcases h with ⟨x, hx, rfl⟩ | ⟨x, hx, y, hy, rfl⟩ <;> simp
theorem Cons.noV {s : List Nat} (h : Cons s) : ∀ x ∈ s, isVw x = false := fun x hx => noV_sounds x (h.mem x hx)
theorem sounds_strip : ∀ x ∈ sounds, strip x = x := by decide
theorem sounds_alpha : ∀ x ∈ sounds, x ∈ alphaA := by decide
theorem sounds_121 : ∀ x ∈ sounds, x ≠ 121 := by decide
theorem alpha_strip : ∀ x ∈ alpha, strip x = x := by decide
theorem alpha_A : ∀ x ∈ alpha, x ∈ alphaA := by decide
theorem vow_strip : ∀ p ∈ vowL, p.1.map strip = p.2 := by decide
theorem vow_alpha : ∀ p ∈ vowL, ∀ x ∈ p.1, x ∈ alphaA := by decide
theorem vow_len : ∀ p ∈ vowL, 1 ≤ p.1.length ∧ p.1.length ≤ 2 ∧ 1 ≤ p.2.length ∧ p.2.length ≤ 2 := by decide
theorem map_id {s : List Nat} (h : ∀ x ∈ s, strip x = x) : s.map strip = s := by
  rw [List.map_congr_left h, List.map_id']
theorem okIY_cons (x : Nat) (y : List Nat) : okIY (x :: y) = ((!isVw x || okAfter y) && okIY y) := rfl
theorem okIY_noV : ∀ {s : List Nat}, (∀ x ∈ s, isVw x = false) → okIY s = true
  | [], _ => rfl
  | x :: s, h => by
    rw [okIY_cons, h x (.head _), okIY_noV fun y hy => h y (.tail _ hy)]; rfl
theorem okAfter_noV {x : Nat} (h : isVw x = false) (s : List Nat) : okAfter (x :: s) = true := by
  have h1 : x ≠ 121 := fun e => by subst e; revert h; decide
  have h2 : x ≠ 105 := fun e => by subst e; revert h; decide
  rw [okAfter_cons, if_neg h1, if_neg h2]
theorem okAfter_app {t : Nat} (ht : isVw t = false) (b : List Nat) : ∀ (a : List Nat), okAfter (a ++ [t]) = true → okAfter (a ++ t :: b) = true
  | [], _ => okAfter_noV ht b
  | [z], h => by
    show okAfter (z :: t :: b) = true
    have h' : okAfter (z :: [t]) = true := h
    rw [okAfter_cons] at h' ⊢
    exact h'
  | z :: y :: a, h => by
    show okAfter (z :: y :: (a ++ t :: b)) = true
    have h' : okAfter (z :: y :: (a ++ [t])) = true := h
    rw [okAfter_cons] at h' ⊢
    exact h'
theorem okIY_app {t : Nat} (ht : isVw t = false) {b : List Nat} (hb : okIY b = true) : ∀ (a : List Nat), okIY (a ++ [t]) = true → okIY (a ++ t :: b) = true
  | [], _ => by
    show okIY (t :: b) = true
    rw [okIY_cons, ht, hb]; rfl
  | x :: a, h => by
    have h' : okIY (x :: (a ++ [t])) = true := h
    show okIY (x :: (a ++ t :: b)) = true
    rw [okIY_cons, Bool.and_eq_true] at h' ⊢
    refine ⟨?_, okIY_app ht hb a h'.2⟩
    have h1 := h'.1
    cases hx : isVw x with
    | false => rfl
    | true =>
      rw [hx] at h1
      simp only [Bool.not_true, Bool.false_or] at h1 ⊢
      exact okAfter_app ht b a h1
theorem vow_shape : ∀ p ∈ vowL, (match p.2 with
    | [v] => isVw v
    | [v, w] => isVw v && decide (w ≠ 121)
    | _ => false) = true := by decide
theorem scan_cons (P : Nat → Bool) (x : Nat) (y : List Nat) : scan P (x :: y) = if P x then some 0 else (scan P y).map (· + 1) := rfl
theorem vow_vc {p : List Nat × List Nat} (hp : p ∈ vowL) {s : List Nat} (hs : Cons s) : (∃ k, vc (p.2 ++ s) = some k ∧ ∀ x ∈ (p.2 ++ s).drop k, isVw x = false) ∧ okIY (p.2 ++ s) = true := by
  have hsh := vow_shape p hp
  have hn := hs.noV
  obtain ⟨x, s', rfl⟩ : ∃ x s', s = x :: s' := by
    cases s with
    | nil => have := hs.len; simp at this
    | cons x s' => exact ⟨x, s', rfl⟩
  have hx := hn x (.head _)
  have hs' : ∀ y ∈ s', isVw y = false := fun y hy => hn y (.tail _ hy)
  generalize p.2 = q at hsh ⊢
  match q, hsh with
  | [v], hsh =>
    have hv : isVw v = true := hsh
    refine ⟨⟨2, ?_, ?_⟩, ?_⟩
    · simp [vc, scan_cons, hv, hx]
    · intro y hy; exact hs' y hy
    · show okIY (v :: x :: s') = true
      rw [okIY_cons, okAfter_noV hx, okIY_noV hn]; simp
  | [v, w], hsh =>
    rw [Bool.and_eq_true] at hsh
    have hv := hsh.1
    have hw := of_decide_eq_true hsh.2
    have oa : okAfter (w :: x :: s') = true := by
      rw [okAfter_cons, if_neg hw]
      split
      · simp [hx]
      · rfl
    have oiy : okIY (v :: w :: x :: s') = true := by
      rw [okIY_cons, oa, okIY_cons, okAfter_noV hx, okIY_noV hn]; simp
    cases hwv : isVw w with
    | true =>
      refine ⟨⟨3, ?_, ?_⟩, oiy⟩
      · simp [vc, scan_cons, hv, hx, hwv]
      · intro y hy; exact hs' y hy
    | false =>
      refine ⟨⟨2, ?_, ?_⟩, oiy⟩
      · simp [vc, scan_cons, hv, hx, hwv]
      · intro y hy; exact hn y hy
structure Known (k : Nat) (f t b : List Nat) : Prop where
  st : f.map strip = t
  al : ∀ x ∈ f, x ∈ alphaA
  fl : f.length ≤ 2 + 4 * k
  tl : t.length ≤ 2 + 4 * k
  bl : b.length ≤ 2 + 2 * k
  iy : okIY t = true
  la : ∃ a z, t = a ++ [z] ∧ z ∈ sounds
  hd : ∃ z a, t = z :: a ∧ z ∈ sounds
  bm : ∀ x ∈ b, x ∈ sounds
  bn : b ≠ []
  to : TOLD (k + 1) t
theorem Cons.last {s : List Nat} (h : Cons s) : ∃ a z, s = a ++ [z] ∧ z ∈ sounds := by
  rcases h with ⟨x, hx, rfl⟩ | ⟨x, hx, y, hy, rfl⟩
  · exact ⟨[], x, rfl, hx⟩
  · exact ⟨[x], y, rfl, hy⟩
theorem Cons.head {s : List Nat} (h : Cons s) : ∃ z a, s = z :: a ∧ z ∈ sounds := by
  rcases h with ⟨x, hx, rfl⟩ | ⟨x, hx, y, hy, rfl⟩
  · exact ⟨x, [], rfl, hx⟩
  · exact ⟨x, [y], rfl, hx⟩
theorem Built.known {k : Nat} {f t b : List Nat} (h : Built k f t b) : Known k f t b := by
  induction h with
  | @base s hs =>
    have hl := hs.len
    exact ⟨map_id fun x hx => sounds_strip x (hs.mem x hx), fun x hx => sounds_alpha x (hs.mem x hx), by omega, by omega, by omega, okIY_noV hs.noV, hs.last, hs.head, hs.mem, fun e => by rw [e] at hl; simp at hl, ⟨fun e => by rw [e] at hl; simp at hl, hs.noV⟩⟩
  | @step k f t b s p hb hp hs ih =>
    have hl := hs.len
    have hvl := vow_len p hp
    obtain ⟨⟨kv, v1, v2⟩, viy⟩ := vow_vc hp hs
    obtain ⟨a0, z0, ea, hz⟩ := ih.la
    have hz0 := noV_sounds z0 hz
    refine ⟨?_, ?_, by simp only [List.length_append]; have := ih.fl; omega, by simp only [List.length_append]; have := ih.tl; omega, by simp only [List.length_append]; have := ih.bl; omega, ?_, ?_, ?_, ?_, by simp [ih.bn], ?_⟩
    · rw [List.map_append, List.map_append, ih.st, vow_strip p hp, map_id fun x hx => sounds_strip x (hs.mem x hx)]
    · intro x hx
      rcases List.mem_append.mp hx with hx | hx
      · rcases List.mem_append.mp hx with hx | hx
        · exact ih.al x hx
        · exact vow_alpha p hp x hx
      · exact sounds_alpha x (hs.mem x hx)
    · rw [List.append_assoc, ea, List.append_assoc, List.singleton_append]
      exact okIY_app hz0 viy a0 (ea ▸ ih.iy)
    · obtain ⟨a, z, e, hz'⟩ := hs.last
      exact ⟨t ++ p.2 ++ a, z, by rw [e]; simp, hz'⟩
    · obtain ⟨z, a, e, hz'⟩ := ih.hd
      exact ⟨z, a ++ p.2 ++ s, by rw [e]; simp, hz'⟩
    · intro x hx
      rcases List.mem_append.mp hx with hx | hx
      · exact ih.bm x hx
      · exact hs.mem x hx
    · have ht1 : 1 ≤ t.length := by rw [ea]; simp
      have h3 : 3 ≤ (t ++ p.2 ++ s).length := by simp only [List.length_append]; omega
      have hto := ih.to
      match k, hto with
      | 0, hto =>
        refine ⟨h3, t.length + kv, ?_, ?_⟩
        · rw [List.append_assoc, vc_no _ _ hto.2, v1]; rfl
        · intro x hx
          rw [List.append_assoc, List.drop_append, List.drop_eq_nil_of_le (by omega), List.nil_append] at hx
          refine v2 x ?_
          rwa [show t.length + kv - t.length = kv by omega] at hx
      | 1, hto =>
        obtain ⟨_, k1, e1, e2⟩ := hto
        have hk1 := vc_le e1
        refine ⟨h3, k1, (t.drop k1).length + kv, ?_, ?_⟩
        · rw [List.append_assoc]; exact vc_app _ e1
        · rw [List.append_assoc, List.drop_append_of_le_length hk1.1, vc_no _ _ e2, v1]; rfl
      | k + 2, hto =>
        obtain ⟨_, k1, k2, e1, e2⟩ := hto
        have hk1 := vc_le e1
        refine ⟨h3, k1, k2, ?_, ?_⟩
        · rw [List.append_assoc]; exact vc_app _ e1
        · rw [List.append_assoc, List.drop_append_of_le_length hk1.1]; exact vc_app _ e2
structure Law (f t : List Nat) (S : LS) (dp : Nat) : Prop where
  dd : dp = 0 ∨ dp = 1 ∨ dp = 2
  st : f.map strip = t
  al : ∀ x ∈ f, x ∈ alphaA
  fl : f.length ≤ 20
  tl : t.length ≤ 20
  sl : S.cl.length ≤ 5 ∧ S.sd.length ≤ 5 ∧ S.sh.length ≤ 5 ∧ S.pl.length ≤ 5 ∧ S.cl ≠ []
  iy : okIY t = true
  la : ∃ a z, t = a ++ [z] ∧ z ∈ sounds
  hd : ∃ z a, t = z :: a ∧ z ∈ sounds
  rs : RestOK S
  gd : ∀ (j : Nat) (F : Fam) (en no : List Nat), fams[j]? = some F → (en, no) ∈ F.forms →
    suffix (regs (t ++ restC F en S)).1 (regs (t ++ restC F en S)).2 (t ++ restC F en S).reverse = (t ++ expC dp j F no S).reverse
theorem expC_3 (j : Nat) (F : Fam) (no : List Nat) (S : LS) : expC 3 j F no S = expC 2 j F no S := rfl
theorem law_deep {k : Nat} {f t b : List Nat} (h : Built k f t b) (hk : k ≤ 2) {S : LS} (hS : (LastOK S ∧ exB (t ++ S.cl) = false ∧ exB (t ++ S.sd) = false) ∨ S = oop) : Law f t S (if 2 < k + 1 then 2 else k + 1) := by
  have K := h.known
  obtain ⟨a, z, ea, hz⟩ := K.la
  have ht : t.reverse = z :: a.reverse := by rw [ea, List.reverse_append]; rfl
  have hd : k + 1 = 1 ∨ k + 1 = 2 ∨ k + 1 = 3 := by omega
  have g : Good (k + 1) t S ∧ RestOK S := by
    rcases hS with ⟨h1, h2, h3⟩ | rfl
    · exact good_last ht hz hd K.to h1 h2 h3
    · exact good_oop ht hz hd K.to
  have sl : S.cl.length ≤ 5 ∧ S.sd.length ≤ 5 ∧ S.sh.length ≤ 5 ∧ S.pl.length ≤ 5 ∧ S.cl ≠ [] := by
    rcases hS with ⟨h1, _⟩ | rfl
    · exact last_len h1
    · decide
  refine ⟨by split <;> omega, K.st, K.al, by have := K.fl; omega, by have := K.tl; omega, sl, K.iy, K.la, K.hd, g.2, ?_⟩
  intro j F en no hj hm
  have := g.1 j F en no hj hm
  rcases hd with e | e | e
  · rw [if_neg (by omega)]; exact this
  · rw [if_neg (by omega)]; exact this
  · rw [if_pos (by omega), ← expC_3]; rw [e] at this; exact this
theorem law_bare {k : Nat} {f t b : List Nat} (h : Built k f t b) (hk : k ≤ 2) {c : Nat} (hc : c ∈ closes) : Law b b (lsame [c]) 0 := by
  have K := h.known
  have g := good_zero K.bn K.bm hc
  obtain ⟨z, a, e⟩ : ∃ z a, b = z :: a := by
    cases e : b with
    | nil => exact absurd e K.bn
    | cons z a => exact ⟨z, a, rfl⟩
  have la : ∃ a z, b = a ++ [z] ∧ z ∈ sounds := by
    refine ⟨b.dropLast, b.getLast K.bn, (List.dropLast_concat_getLast K.bn).symm, K.bm _ (List.getLast_mem K.bn)⟩
  exact ⟨.inl rfl, map_id fun x hx => sounds_strip x (K.bm x hx), fun x hx => sounds_alpha x (K.bm x hx), by have := K.bl; omega, by have := K.bl; omega, by simp [lsame], okIY_noV fun x hx => noV_sounds x (K.bm x hx), la, ⟨z, a, e, K.bm z (by rw [e]; exact .head _)⟩, g.2, g.1⟩
theorem Law.form {f t : List Nat} {S : LS} {dp : Nat} (L : Law f t S dp) {j : Nat} {F : Fam} {en no : List Nat} (hj : fams[j]? = some F) (hm : (en, no) ∈ F.forms) :
    stemOf (f ++ restC F en S) = t ++ expC dp j F no S ∧ (∀ z ∈ f ++ restC F en S, z ∈ alphaA) ∧ (f ++ restC F en S).length ≤ 40 ∧ okIY ((f ++ restC F en S).map strip) = true ∧ hdIs 121 ((f ++ restC F en S).map strip) = false := by
  obtain ⟨r1, r2, r3⟩ := L.rs j F en no hj hm
  have hR : (restC F en S).map strip = restC F en S := map_id fun x hx => alpha_strip x (r1 x hx)
  have hm' : (f ++ restC F en S).map strip = t ++ restC F en S := by rw [List.map_append, L.st, hR]
  refine ⟨?_, ?_, ?_, ?_, ?_⟩
  · unfold stemOf
    rw [hm', L.gd j F en no hj hm, List.reverse_reverse]
  · intro z hz
    rcases List.mem_append.mp hz with hz | hz
    · exact L.al z hz
    · exact alpha_A z (r1 z hz)
  · rw [List.length_append]; have := L.fl; omega
  · rw [hm']
    obtain ⟨a, z, e, hz⟩ := L.la
    rw [e, List.append_assoc, List.singleton_append]
    exact okIY_app (noV_sounds z hz) r2 a (e ▸ L.iy)
  · rw [hm']
    obtain ⟨z, a, e, hz⟩ := L.hd
    rw [e]
    exact decide_eq_false (sounds_121 z hz)
section
variable {T : Addr → Option TO} {D : WD} {n : Nat}
noncomputable def lawB (T : Addr → Option TO) (D : WD) (n : Nat) : St → Option (Fl × St) := (seqB (asgN 6 (idxE T (callE (F_law_vowels T D n) nilL) (binE .Mod (callE (F_law_at T D n) (consL (lo 0) (consL (binE .Add (cI 2) (binE .Mult (cI 2) (lo 5))) nilL))) (cI 29)))) (seqB (asgN 7 (callE (F_law_some T D n) (consL (callE (F_law_at T D n) (consL (lo 0) (consL (binE .Add (cI 3) (binE .Mult (cI 2) (lo 5))) nilL))) nilL))) (seqB (asgN 1 (binE .Add (binE .Add (lo 1) (idxE T (lo 6) (cI 0))) (lo 7))) (seqB (asgN 2 (binE .Add (binE .Add (lo 2) (idxE T (lo 6) (cI 1))) (lo 7))) (asgN 3 (binE .Add (lo 3) (lo 7)))))))
theorem lawB_ok {ns : List Int} (hn : ns.length ≤ 63) {loc : Nat → Option PV} {i : Nat} (hi : i ≤ 2) {f t b : List Nat} (hb : Built i f t b) (h0 : loc 0 = some (.ivs ns)) (h1 : loc 1 = some (.str f)) (h2 : loc 2 = some (.str t)) (h3 : loc 3 = some (.str b)) (h5 : loc 5 = some (.int i)) :
    ∃ loc' f' t' b', lawB T D n ⟨loc, []⟩ = some (.next, ⟨loc', []⟩) ∧ Built (i + 1) f' t' b' ∧ loc' 0 = some (.ivs ns) ∧ loc' 1 = some (.str f') ∧ loc' 2 = some (.str t') ∧ loc' 3 = some (.str b') ∧ loc' 4 = loc 4 := by
  have K := hb.known
  obtain ⟨v1, a1⟩ := at_ok (T := T) (D := D) (n := n) (att := []) hn (2 + 2 * i) (by omega)
  obtain ⟨v2, a2⟩ := at_ok (T := T) (D := D) (n := n) (att := []) hn (3 + 2 * i) (by omega)
  obtain ⟨r, hr, m1⟩ := mod_ok v1 29 (by decide) (by decide)
  obtain ⟨p, hp, i1⟩ := vow_idx (T := T) hr
  obtain ⟨s, s1, hs⟩ := some_ok (T := T) (D := D) (n := n) (att := []) v2
  have m1 : binF .Mod (.int v1) (.int 29) = some (.int r) := m1
  have hpl := vow_len p hp
  have hsl := hs.len
  have mu : binF .Mult (.int 2) (.int i) = some (.int (2 * i)) := by rw [bI]; unfold binI; simp only; exact if_pos (by decide)
  have e1 : binF .Add (.int 2) (.int (2 * i)) = some (.int (2 + 2 * i : Nat)) := add_ (by omega)
  have e2 : binF .Add (.int 3) (.int (2 * i)) = some (.int (3 + 2 * i : Nat)) := add_ (by omega)
  have vk := vowels_ok (T := T) (D := D) (n := n) (att := [])
  have x0 : idxF T (.seq true [.str p.1, .str p.2]) (.int 0) = some (.str p.1) := rfl
  have x1 : idxF T (.seq true [.str p.1, .str p.2]) (.int 1) = some (.str p.2) := rfl
  have kf := K.fl
  have kt := K.tl
  have kb := K.bl
  have u1 : binF .Add (.str f) (.str p.1) = some (.str (f ++ p.1)) := addS (by omega)
  have u2 : binF .Add (.str (f ++ p.1)) (.str s) = some (.str (f ++ p.1 ++ s)) := addS (by rw [List.length_append]; omega)
  have u3 : binF .Add (.str t) (.str p.2) = some (.str (t ++ p.2)) := addS (by omega)
  have u4 : binF .Add (.str (t ++ p.2)) (.str s) = some (.str (t ++ p.2 ++ s)) := addS (by rw [List.length_append]; omega)
  have u5 : binF .Add (.str b) (.str s) = some (.str (b ++ s)) := addS (by omega)
  refine ⟨upd (upd (upd (upd (upd loc 6 (.seq true [.str p.1, .str p.2])) 7 (.str s)) 1 (.str (f ++ p.1 ++ s))) 2 (.str (t ++ p.2 ++ s))) 3 (.str (b ++ s)), _, _, _, ?_, .step hb hp hs, by simp [upd, h0], by simp [upd], by simp [upd], by simp [upd], by simp [upd]⟩
  push_cast [dispE, callE, asgT, updL, forLB, lawB, h0, h1, h2, h3, h5, vk, mu, e1, e2, a1, a2, m1, i1, s1, x0, x1, u1, u2, u3, u4, u5]
theorem law_loop {ns : List Int} (hn : ns.length ≤ 63) : ∀ (m i : Nat) (loc : Nat → Option PV) (f t b : List Nat), i + m ≤ 2 → Built i f t b → loc 0 = some (.ivs ns) → loc 1 = some (.str f) → loc 2 = some (.str t) → loc 3 = some (.str b) →
    ∃ loc' f' t' b', forB 5 (lawB T D n) (rangeL (i : Int) 1 m) ⟨loc, []⟩ = some (.next, ⟨loc', []⟩) ∧ Built (i + m) f' t' b' ∧ loc' 0 = some (.ivs ns) ∧ loc' 1 = some (.str f') ∧ loc' 2 = some (.str t') ∧ loc' 3 = some (.str b') ∧ loc' 4 = loc 4
  | 0, i, loc, f, t, b, hm, hb, h0, h1, h2, h3 => ⟨loc, f, t, b, rfl, hb, h0, h1, h2, h3, rfl⟩
  | m + 1, i, loc, f, t, b, hm, hb, h0, h1, h2, h3 => by
    obtain ⟨loc1, f1, t1, b1, w1, hb1, g0, g1, g2, g3, g4⟩ := lawB_ok (T := T) (D := D) (n := n) hn (loc := upd loc 5 (.int i)) (i := i) (by omega) hb (by simp [upd, h0]) (by simp [upd, h1]) (by simp [upd, h2]) (by simp [upd, h3]) (by simp [upd])
    obtain ⟨loc2, f2, t2, b2, w2, hb2, k0, k1, k2, k3, k4⟩ := law_loop hn m (i + 1) loc1 f1 t1 b1 (by omega) hb1 g0 g1 g2 g3
    refine ⟨loc2, f2, t2, b2, ?_, by rw [show i + (m + 1) = i + 1 + m by omega]; exact hb2, k0, k1, k2, k3, k4.trans (g4.trans (by simp [upd]))⟩
    rw [rangeL, forB]
    simp only [w1]
    rw [show (i : Int) + 1 = ((i + 1 : Nat) : Int) by omega]
    exact w2
theorem f_law_ok {ns : List Int} (hn : ns.length ≤ 63) : ∃ loc f t S dp, f_law T D n ⟨startLoc [.ivs ns], []⟩ = some (.next, ⟨loc, []⟩) ∧ Law f t S dp ∧ loc 0 = some (.ivs ns) ∧ loc 1 = some (.str f) ∧ loc 2 = some (.str t) ∧ loc 8 = some (lsPV S) ∧ loc 9 = some (.int dp) := by
  have AT := fun i (hi : i < 1000) => at_ok (T := T) (D := D) (n := n) (att := []) hn i hi
  obtain ⟨x0, a0⟩ := AT 0 (by decide)
  obtain ⟨x1, a1⟩ := AT 1 (by decide)
  obtain ⟨x6, a6⟩ := AT 6 (by decide)
  obtain ⟨x7, a7⟩ := AT 7 (by decide)
  obtain ⟨x8, a8⟩ := AT 8 (by decide)
  have a0 : F_law_at T D n [.ivs ns, .int 0] [] = some (.int x0, []) := a0
  have a1 : F_law_at T D n [.ivs ns, .int 1] [] = some (.int x1, []) := a1
  have a6 : F_law_at T D n [.ivs ns, .int 6] [] = some (.int x6, []) := a6
  have a7 : F_law_at T D n [.ivs ns, .int 7] [] = some (.int x7, []) := a7
  have a8 : F_law_at T D n [.ivs ns, .int 8] [] = some (.int x8, []) := a8
  obtain ⟨s, s0, hs⟩ := some_ok (T := T) (D := D) (n := n) (att := []) x0
  obtain ⟨r, hr, m1⟩ := mod_ok x1 3 (by decide) (by decide)
  have m1 : binF .Mod (.int x1) (.int 3) = some (.int r) := m1
  let L0 : Nat → Option PV := upd (upd (upd (upd (startLoc [.ivs ns]) 1 (.str s)) 2 (.str s)) 3 (.str s)) 4 (.int r)
  obtain ⟨loc, f, t, b, w, hb, g0, g1, g2, g3, g4⟩ := law_loop (T := T) (D := D) (n := n) hn r 0 L0 s s s (by omega) (.base hs) rfl rfl rfl rfl
  rw [Nat.zero_add] at hb
  have g4 : loc 4 = some (.int r) := g4
  have K := hb.known
  obtain ⟨S, hS, hS2⟩ := root_ok (T := T) (D := D) (n := n) (att := []) t (by have := K.tl; omega) x6 x7
  have e4 : binF .Add (.int r) (.int 1) = some (.int (r + 1 : Nat)) := add_ (by omega)
  have emin : biF T .min [.int (r + 1 : Nat), .int 2] = some (.int ((if 2 < r + 1 then 2 else r + 1 : Nat) : Int)) := by
    show some (PV.int (if (2 : Int) < (r + 1 : Nat) then 2 else (r + 1 : Nat))) = _
    by_cases c : 2 < r + 1
    · rw [if_pos c, if_pos (by omega)]; rfl
    · rw [if_neg c, if_neg (by omega)]
  obtain ⟨q, hq, m5⟩ := mod_ok x8 5 (by decide) (by decide)
  have m5 : binF .Mod (.int x8) (.int 5) = some (.int q) := m5
  have e5 : cmpF T .Eq (.int q) (.int 4) = some (decide (q = 4)) := by
    show some ((q : Int) == 4) = _; congr 1; rw [Bool.eq_iff_iff, beq_iff_eq, decide_eq_true_eq]; omega
  have rg : rangeF [.int r] = some (0, (r : Int), 1) := by
    exact rgF1 (by omega)
  have rl : rangeLen 0 (r : Int) 1 = r := by unfold rangeLen; rw [if_pos rfl]; omega
  have unf : f_law T D n = (seqB (asgN 1 (callE (F_law_some T D n) (consL (callE (F_law_at T D n) (consL (lo 0) (consL (cI 0) nilL))) nilL))) (seqB (asgN 2 (lo 1)) (seqB (asgN 3 (lo 1)) (seqB (asgN 4 (binE .Mod (callE (F_law_at T D n) (consL (lo 0) (consL (cI 1) nilL))) (cI 3))) (seqB (forR 5 (consL (lo 4) nilL) (lawB T D n)) (seqB (asgN 8 (callE (F_law_root T D n) (consL (lo 2) (consL (callE (F_law_at T D n) (consL (lo 0) (consL (cI 6) nilL))) (consL (callE (F_law_at T D n) (consL (lo 0) (consL (cI 7) nilL))) nilL))))) (seqB (asgN 9 (biE T .min (consL (binE .Add (lo 4) (cI 1)) (consL (cI 2) nilL)))) (ifB (cmpE T .Eq (binE .Mod (callE (F_law_at T D n) (consL (lo 0) (consL (cI 8) nilL))) (cI 5)) (cI 4)) (seqB (asgN 9 (cI 0)) (seqB (asgN 1 (lo 3)) (seqB (asgN 2 (lo 3)) (seqB (asgN 10 (idxE T (cS closes) (binE .Mod (callE (F_law_at T D n) (consL (lo 0) (consL (cI 7) nilL))) (cI 17)))) (asgN 8 (dispE true (consL (lo 10) (consL (lo 10) (consL (lo 10) (consL (lo 10) nilL)))))))))) skipB)))))))) := rfl
  have sl00 : startLoc [.ivs ns] 0 = some (.ivs ns) := rfl
  have l04 : L0 4 = some (.int r) := rfl
  have hfor : forR 5 (consL (lo 4) nilL) (lawB T D n) ⟨L0, []⟩ = some (.next, ⟨loc, []⟩) := by
    push_cast [dispE, callE, asgT, updL, forLB, forR, l04, rg, rl]
    exact w
  have pre : ∀ rest : St → Option (Fl × St), seqB (asgN 1 (callE (F_law_some T D n) (consL (callE (F_law_at T D n) (consL (lo 0) (consL (cI 0) nilL))) nilL))) (seqB (asgN 2 (lo 1)) (seqB (asgN 3 (lo 1)) (seqB (asgN 4 (binE .Mod (callE (F_law_at T D n) (consL (lo 0) (consL (cI 1) nilL))) (cI 3))) rest))) ⟨startLoc [.ivs ns], []⟩ = rest ⟨L0, []⟩ := by
    intro rest
    push_cast [dispE, callE, asgT, updL, forLB, sl00, a0, s0, a1, m1]
    rfl
  rw [unf, pre, seqB_eq hfor]
  by_cases c : q = 4
  · rw [decide_eq_true c] at e5
    obtain ⟨r7, h7, m7⟩ := mod_ok x7 17 (by decide) (by decide)
    obtain ⟨z, hz, i7⟩ := idx_mem (T := T) (s := closes) (r := r7) h7 (by decide)
    have m7 : binF .Mod (.int x7) (.int 17) = some (.int r7) := m7
    refine ⟨upd (upd (upd (upd (upd (upd (upd loc 8 (lsPV S)) 9 (.int ((if 2 < r + 1 then 2 else r + 1 : Nat) : Int))) 9 (.int 0)) 1 (.str b)) 2 (.str b)) 10 (.str [z])) 8 (lsPV (lsame [z])), b, b, lsame [z], 0, ?_, law_bare hb (by omega) hz, by simp [upd, g0], by simp [upd], by simp [upd], by simp [upd], by simp [upd]⟩
    push_cast [dispE, callE, asgT, updL, forLB, g0, g1, g2, g3, g4, a6, a7, a8, hS, e4, emin, m5, e5, m7, i7, List.length_cons, List.length_nil, Nat.reduceLeDiff, Nat.reduceAdd]
    rfl
  · rw [decide_eq_false c] at e5
    refine ⟨upd (upd loc 8 (lsPV S)) 9 (.int ((if 2 < r + 1 then 2 else r + 1 : Nat) : Int)), f, t, S, _, ?_, law_deep hb (by omega) hS2, by simp [upd, g0], by simp [upd, g1], by simp [upd, g2], by simp [upd], by simp [upd]⟩
    push_cast [dispE, callE, asgT, updL, forLB, g0, g1, g2, g3, g4, a6, a7, a8, hS, e4, emin, m5, e5]
theorem f_word_ok (hF : TF T D) {ns : List Int} (hn : ns.length ≤ 63) {f t : List Nat} {S : LS} {dp : Nat} (L : Law f t S dp) (i : Nat) (hi : i ≤ 2) :
    ∃ w s, (∀ loc : Nat → Option PV, loc 0 = some (.ivs ns) → loc 1 = some (.str f) → loc 2 = some (.str t) → loc 8 = some (lsPV S) → loc 9 = some (.int dp) → loc 5 = some (.int i) → f_word T D n ⟨loc, []⟩ = some (.next, ⟨upd (upd loc 13 (.str w)) 14 (.str s), []⟩)) ∧
      stemOf w = s ∧ (∀ z ∈ w, z ∈ alphaA) ∧ w.length ≤ 40 ∧ okIY (w.map strip) = true ∧ hdIs 121 (w.map strip) = false := by
  obtain ⟨x, a⟩ := at_ok (T := T) (D := D) (n := n) (att := []) hn (9 + i) (by omega)
  obtain ⟨j, F, en, no, hj, hm, hw⟩ := word_ok (T := T) (D := D) (n := n) (att := []) (front := f) (told := t) (S := S) hF (by have := L.fl; omega) (by have := L.tl; omega) L.sl L.dd x
  obtain ⟨h1, h2, h3, h4, h5⟩ := L.form hj hm
  have e1 : binF .Add (.int 9) (.int i) = some (.int (9 + i : Nat)) := add_ (by omega)
  refine ⟨_, _, ?_, h1, h2, h3, h4, h5⟩
  intro loc g0 g1 g2 g8 g9 g5
  push_cast [dispE, callE, asgT, updL, forLB, f_word, g0, g1, g2, g8, g9, g5, e1, a, hw, List.length_cons, List.length_nil, Nat.reduceAdd]
theorem tail_step {k : Nat} {a : Int} {st st2 : St} {L : Nat → Option PV} {at_ : List (Nat × PV)} {w s : List Nat} {ws ss : List (List Nat)} (h : f_word T D n ⟨upd st.loc 5 (.int a), st.att⟩ = some (.next, ⟨upd (upd L 13 (.str w)) 14 (.str s), at_⟩))
    (h2 : tailL T D n k (a + 1) ⟨upd (upd L 13 (.str w)) 14 (.str s), at_⟩ = some (ws, ss, st2)) : tailL T D n (k + 1) a st = some (w :: ws, s :: ss, st2) := by
  show Option.bind _ _ = _
  rw [h]
  show Option.map _ (tailL T D n k (a + 1) _) = _
  rw [h2]; rfl
theorem strOk_alpha {s : List Nat} (h : ∀ x ∈ s, x ∈ alpha) : PyData.strOk (toStr s) = true := by
  have hb : ∀ x ∈ alpha, x < 0x110000 := by decide
  unfold PyData.strOk toStr
  simp only [List.all_toArray, List.all_eq_true, decide_eq_true_eq]
  exact fun x hx => hb x (h x hx)
theorem stemOf_alpha {c : List Nat} (hc : ∀ z ∈ c, z ∈ alphaA) : ∀ x ∈ stemOf c, x ∈ alpha := by
  intro x hx
  unfold stemOf at hx
  refine suffix_mem ?_ x (List.mem_reverse.mp hx)
  intro y hy
  obtain ⟨z, hz, rfl⟩ := List.mem_map.mp (List.mem_reverse.mp hy)
  exact strip_alpha z (hc z hz)
theorem plain_ok (hT : TE T D) (hF : TF T D) (hn : 100 ≤ n) {ns : List Int} (h63 : ns.length ≤ 63) : PlainOK T D n ⟨startLoc [.ivs ns], []⟩ := by
  obtain ⟨loc, f, t, S, dp, h1, L, g0, g1, g2, g8, g9⟩ := f_law_ok (T := T) (D := D) (n := n) h63
  obtain ⟨w0, s0, e0, p0, q0⟩ := f_word_ok (n := n) hF h63 L 0 (by decide)
  obtain ⟨w1, s1, e1, p1, q1⟩ := f_word_ok (n := n) hF h63 L 1 (by decide)
  obtain ⟨w2, s2, e2, p2, q2⟩ := f_word_ok (n := n) hF h63 L 2 (by decide)
  have hw : ∀ c ∈ [w0, w1, w2], (∀ z ∈ c, z ∈ alphaA) ∧ c.length < 800 ∧ c.length + 4 < n ∧ okIY (c.map strip) = true ∧ hdIs 121 (c.map strip) = false := by
    intro c hc
    simp only [List.mem_cons, List.not_mem_nil, or_false] at hc
    rcases hc with rfl | rfl | rfl
    · exact ⟨q0.1, by have := q0.2.1; omega, by have := q0.2.1; omega, q0.2.2⟩
    · exact ⟨q1.1, by have := q1.2.1; omega, by have := q1.2.1; omega, q1.2.2⟩
    · exact ⟨q2.1, by have := q2.2.1; omega, by have := q2.2.1; omega, q2.2.2⟩
  obtain ⟨att', hs⟩ := stems_ok (T := T) (D := D) hT (by omega) [w0, w1, w2] [] 0 0 0 0 0 [] hw (.inl rfl)
  refine ⟨⟨loc, []⟩, [w0, w1, w2], [s0, s1, s2], _, att', h1, ?_, init_ok, ?_, by simp, ?_⟩
  · intro a b
    have f0 := e0 (upd (upd (upd loc 11 (.top a)) 12 (.top b)) 5 (.int 0)) (by simp [upd, g0]) (by simp [upd, g1]) (by simp [upd, g2]) (by simp [upd, g8]) (by simp [upd, g9]) (by simp [upd])
    have f1 := e1 (upd (upd (upd (upd (upd (upd loc 11 (.top a)) 12 (.top b)) 5 (.int 0)) 13 (.str w0)) 14 (.str s0)) 5 (.int 1)) (by simp [upd, g0]) (by simp [upd, g1]) (by simp [upd, g2]) (by simp [upd, g8]) (by simp [upd, g9]) (by simp [upd])
    have f2 := e2 (upd (upd (upd (upd (upd (upd (upd (upd (upd loc 11 (.top a)) 12 (.top b)) 5 (.int 0)) 13 (.str w0)) 14 (.str s0)) 5 (.int 1)) 13 (.str w1)) 14 (.str s1)) 5 (.int 2)) (by simp [upd, g0]) (by simp [upd, g1]) (by simp [upd, g2]) (by simp [upd, g8]) (by simp [upd, g9]) (by simp [upd])
    exact ⟨_, tail_step f0 (tail_step f1 (tail_step f2 rfl))⟩
  · rw [hs]
    simp only [List.map_cons, List.map_nil, p0, p1, p2]
  · intro x hx
    simp only [List.mem_cons, List.not_mem_nil, or_false] at hx
    rcases hx with rfl | rfl | rfl
    · rw [← p0]; exact strOk_alpha (stemOf_alpha q0.1)
    · rw [← p1]; exact strOk_alpha (stemOf_alpha q1.1)
    · rw [← p2]; exact strOk_alpha (stemOf_alpha q2.1)
end
theorem maps {α β γ : Type} {f : α → γ} {g : β → γ} {as : List α} {bs : List β} (h : as.map f = bs.map g) {k : Nat} {b : β} (hb : bs[k]? = some b) : ∃ a, as[k]? = some a ∧ f a = g b := by
  have q : (as.map f)[k]? = (bs.map g)[k]? := congrArg (·[k]?) h
  rw [List.getElem?_map, List.getElem?_map, hb] at q
  exact Option.map_eq_some_iff.mp q
theorem maps_len {α β γ : Type} {f : α → γ} {g : β → γ} {as : List α} {bs : List β} (h : as.map f = bs.map g) : as.length = bs.length := by
  rw [← List.length_map (f := f), h, List.length_map]
theorem tab_of {T : Addr → Option TO} {ta : Addr} {kf : List Nat → List Nat} {tab : List Ent} (as : List Addr) (h1 : T ta = some (.seq false (as.map PV.top))) (h2 : as.map T = tab.map fun e => some (.amg (kf e.key) e.sub e.res)) (h3 : (tab.all (fun e => Nat.blt e.key.length 1000) && Nat.blt tab.length 1000) = true) : Tab T ta kf tab := by
  obtain ⟨h3, h4⟩ := Bool.and_eq_true_iff.mp h3
  refine ⟨⟨as, h1, maps_len h2, fun k e he => ?_⟩, Nat.blt_eq.mp h4⟩
  obtain ⟨a, q1, q2⟩ := maps h2 he
  exact ⟨a, q1, q2, Nat.blt_eq.mp (List.all_eq_true.mp h3 e (List.mem_of_getElem? he))⟩
theorem te0 : TE tobj0 D0 where
  t2 := tab_of [348, 351, 354] (by kernel_rfl) (by kernel_rfl) (by kernel_rfl)
  t3 := tab_of [358, 361, 364, 367, 370] (by kernel_rfl) (by kernel_rfl) (by kernel_rfl)
  t4 := tab_of [374, 377, 380, 383, 386, 389] (by kernel_rfl) (by kernel_rfl) (by kernel_rfl)
  t5 := tab_of [393, 396, 399, 402] (by kernel_rfl) (by kernel_rfl) (by kernel_rfl)
  s6 := by kernel_rfl
  s7 := by kernel_rfl
  s8 := by kernel_rfl
  t0 := tab_of [304, 307, 310, 313, 316, 319, 322, 325, 328, 331, 334] (by kernel_rfl) (by kernel_rfl) (by kernel_rfl)
  t1 := tab_of [338, 341, 344] (by kernel_rfl) (by kernel_rfl) (by kernel_rfl)
noncomputable def famR : List (Addr × Addr × List Addr) := [(486, 485, [483, 484]), (490, 489, [487, 488]), (494, 493, [491, 492]), (497, 496, [495]), (500, 499, [498]), (503, 502, [501]), (508, 507, [504, 505, 506]), (515, 514, [509, 510, 511, 512, 513]), (520, 519, [516, 517, 518]), (524, 523, [521, 522]), (528, 527, [525, 526]), (532, 531, [529, 530]), (537, 536, [533, 534, 535]), (542, 541, [538, 539, 540]), (546, 545, [543, 544]), (549, 548, [547]), (552, 551, [550]), (555, 554, [553]), (559, 558, [556, 557]), (564, 563, [560, 561, 562]), (570, 569, [565, 566, 567, 568]), (575, 574, [571, 572, 573]), (580, 579, [576, 577, 578]), (591, 590, [581, 582, 583, 584, 585, 586, 587, 588, 589]), (597, 596, [592, 593, 594, 595]), (603, 602, [598, 599, 600, 601]), (610, 609, [604, 605, 606, 607, 608]), (613, 612, [611]), (616, 615, [614])]
noncomputable def famT (p : (Addr × Addr × List Addr) × Fam) : Option TO × Option TO × List (Option TO) := (some (.seq true [.int p.2.wh, .int p.2.deep, .str p.2.deepr, .int p.2.low, .str p.2.lowr, .top p.1.2.1]), some (.seq false (p.1.2.2.map PV.top)), p.2.forms.map fun e => some (.seq true [.str e.1, .str e.2]))
theorem fam_eq : ((famR.zip fams).map fun p => (tobj0 p.1.1, tobj0 p.1.2.1, p.1.2.2.map tobj0)) = (famR.zip fams).map famT := by kernel_rfl
theorem tf0 : TF tobj0 D0 := by
  refine ⟨famR.map (·.1), by kernel_rfl, fun j F hF => ?_⟩
  have hr : j < famR.length := (show famR.length = fams.length from rfl) ▸ (List.getElem?_eq_some_iff.mp hF).1
  have hr := List.getElem?_eq_getElem hr
  generalize famR[j] = r at hr
  have e := List.map_inj_left.mp fam_eq (r, F) (List.mem_of_getElem? (List.getElem?_zip_eq_some.mpr ⟨hr, hF⟩))
  have e3 := congrArg (·.2.2) e
  exact ⟨r.1, r.2.1, by rw [List.getElem?_map, hr]; rfl, congrArg (·.1) e, r.2.2, congrArg (·.2.1) e, maps_len e3, fun k x hx => maps e3 hx⟩
theorem plain0 (ns : List Int) (h : ns.length ≤ 63) : PlainOK tobj0 D0 200 ⟨startLoc [.ivs ns], []⟩ := plain_ok te0 tf0 (by decide) h
end DL
theorem PySem.Challenge.cw_ar0042_01_holds : PySem.Challenge.rw_ar0042_01.Holds :=
  DL.hd DL.plain0
