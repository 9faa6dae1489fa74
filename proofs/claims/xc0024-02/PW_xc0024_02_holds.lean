import PyProof.Rows.All
import Wide.All
import OpenK.AllK
import Wide.FinOn
import Lean
import PySem.Challenge.RW_xc0024_02
set_option Elab.async false
set_option genSizeOf false
set_option genInjectivity false
set_option backward.match.sparseCases false
set_option bootstrap.genMatcherCode false
set_option tactic.hygienic false
set_option linter.unusedVariables false
namespace Mine
open PySem PySem.Calls PyProof.Rows PySem.W

/-- abstract values: tokens forgotten; an object of the store by its place -/
inductive AV where
  | none | bool (b : Bool) | int (i : Int) | str (s : Str)
  | loc (l : Nat) | ext (a : Addr) | typ (n : String) | blt (n : String) | scr
  deriving DecidableEq, Inhabited

/-- abstract objects -/
inductive AO where
  | list (xs : List AV) | tup (xs : List AV)
  | obj (C : Addr) (d : Nat) | acc (C : Addr) (d : Nat) (xs : List AV)
  | ns (kvs : List (Nat × AV))
  | dict (kvs : List (Str × AV))
  | cell (v : Option AV)
  | lam (i : Nat) (cl : List Nat) (d : Option Nat)
  deriving Inhabited

structure LamI where
  params : Arguments
  body : PySem.Expr
  scope : Scope
  free : List Str

/-- what stands all the while -/
structure Gl where
  prog : Program
  w : World
  K : Frag
  h₀ : Heap
  scr : Addr
  P : Addr
  nms : List Str
  /-- what a lambda of that number may be -/
  lamOk : Nat → LamI → Prop
  /-- the name of the lambdas -/
  lq : Str

noncomputable def VR (G : Gl) (ρ : List Addr) (a : AV) (v : Value) : Prop := match a with
  | .none => v = .none
  | .bool b => v = .bool b
  | .int i => ∃ t, v = .int i t
  | .str x => ∃ t, v = .str x t
  | .loc l => ∃ a, v = .ref a ∧ ρ[l]? = some a
  | .ext a => v = .ref a
  | .typ n => v = .type n
  | .blt n => v = .builtin n
  | .scr => v = .ref G.scr
section
variable {G : Gl} {ρ : List Addr} {v : Value}
theorem VR.none : VR G ρ .none .none := rfl
theorem VR.bool (b : Bool) : VR G ρ (.bool b) (.bool b) := rfl
theorem VR.int (i : Int) (t : Tok) : VR G ρ (.int i) (.int i t) := ⟨t, rfl⟩
theorem VR.str (x : Str) (t : Tok) : VR G ρ (.str x) (.str x t) := ⟨t, rfl⟩
theorem VR.loc {l : Nat} {a : Addr} (e : ρ[l]? = some a) : VR G ρ (.loc l) (.ref a) := ⟨a, rfl, e⟩
theorem VR.ext (a : Addr) : VR G ρ (.ext a) (.ref a) := rfl
theorem VR.typ (n : String) : VR G ρ (.typ n) (.type n) := rfl
theorem VR.blt (n : String) : VR G ρ (.blt n) (.builtin n) := rfl
theorem VR.scr : VR G ρ .scr (.ref G.scr) := rfl
theorem VR.none_ (h : VR G ρ .none v) : v = .none := h
theorem VR.int_ {i : Int} (h : VR G ρ (.int i) v) : ∃ t, v = .int i t := h
theorem VR.str_ {i : Str} (h : VR G ρ (.str i) v) : ∃ t, v = .str i t := h
theorem VR.bool_ {i : Bool} (h : VR G ρ (.bool i) v) : v = .bool i := h
theorem VR.loc_ {l : Nat} (h : VR G ρ (.loc l) v) : ∃ a, v = .ref a ∧ ρ[l]? = some a := h
theorem VR.ext_ {a : Addr} (h : VR G ρ (.ext a) v) : v = .ref a := h
theorem VR.typ_ {n : String} (h : VR G ρ (.typ n) v) : v = .type n := h
theorem VR.blt_ {n : String} (h : VR G ρ (.blt n) v) : v = .builtin n := h
theorem VR.scr_ (h : VR G ρ .scr v) : v = .ref G.scr := h
end

theorem noS {α : Type} {x : α} {P : Prop} (h : none = some x) : P := (Option.some_ne_none x h.symm).elim
theorem noB {P : Prop} (h : false = true) : P := Bool.false_ne_true.elim h
noncomputable def Pre (ρ ρ' : List Addr) : Prop := ∃ r, ρ' = ρ ++ r
theorem Pre.rfl {ρ : List Addr} : Pre ρ ρ := ⟨[], (List.append_nil _).symm⟩
theorem Pre.trans {a b c : List Addr} (x : Pre a b) (y : Pre b c) : Pre a c := by
  obtain ⟨r, rfl⟩ := x; obtain ⟨q, rfl⟩ := y; exact ⟨r ++ q, by rw [List.append_assoc]⟩
theorem Pre.get {ρ ρ' : List Addr} (x : Pre ρ ρ') {l : Nat} {a : Addr} (e : ρ[l]? = some a) : ρ'[l]? = some a := by
  obtain ⟨r, rfl⟩ := x
  rw [List.getElem?_append_left (by obtain ⟨h, _⟩ := List.getElem?_eq_some_iff.mp e; exact h)]; exact e
theorem Pre.snoc (ρ : List Addr) (a : Addr) : Pre ρ (ρ ++ [a]) := ⟨[a], Eq.refl _⟩

theorem nodup_inj {α : Type} {l : List α} (h : l.Nodup) {i j : Nat} {a : α} (e1 : l[i]? = some a) (e2 : l[j]? = some a) : i = j := by
  obtain ⟨p1, q1⟩ := List.getElem?_eq_some_iff.mp e1
  obtain ⟨p2, q2⟩ := List.getElem?_eq_some_iff.mp e2
  have := List.pairwise_iff_getElem.mp h
  rcases Nat.lt_trichotomy i j with z | z | z
  · exact absurd (q1.trans q2.symm) (this i j p1 p2 z)
  · exact z
  · exact absurd (q2.trans q1.symm) (this j i p2 p1 z)

variable {G : Gl} {ρ ρ' : List Addr}
theorem VR.mono (x : Pre ρ ρ') {av : AV} {v : Value} (h : VR G ρ av v) : VR G ρ' av v := by
  cases av with
  | loc => exact h.imp fun a => And.imp_right (x.get ·)
  | _ => exact h

/-- two lists, item by item -/
noncomputable def A2 {α β : Type} (R : α → β → Prop) : List α → List β → Prop
  | [], l => l = []
  | a :: as, l => ∃ b r, l = b :: r ∧ R a b ∧ A2 R as r
namespace A2
variable {α β : Type} {R R' : α → β → Prop}
theorem map (f : ∀ {a b}, R a b → R' a b) {as bs} (h : A2 R as bs) : A2 R' as bs := by
  induction as generalizing bs with
  | nil => exact h
  | cons x as ih => exact Exists.imp (fun b => Exists.imp fun r h => ⟨h.1, f h.2.1, ih h.2.2⟩) h
theorem length {as bs} (h : A2 R as bs) : bs.length = as.length := by
  induction as generalizing bs with
  | nil => exact congrArg List.length h
  | cons x as ih => exact Exists.elim h fun b h => Exists.elim h fun r h => h.1 ▸ congrArg (· + 1) (ih h.2.2)
theorem append {as bs cs ds} (h : A2 R as bs) (y : A2 R cs ds) : A2 R (as ++ cs) (bs ++ ds) := by
  induction as generalizing bs with
  | nil => exact (show bs = [] from h) ▸ y
  | cons x as ih => exact Exists.imp (fun b h => Exists.elim h fun r h => ⟨_, congrArg (· ++ ds) h.1, h.2.1, ih h.2.2⟩) h
theorem split {as cs bs} (h : A2 R (as ++ cs) bs) : ∃ x y, bs = x ++ y ∧ A2 R as x ∧ A2 R cs y := by
  induction as generalizing bs with
  | nil => exact ⟨[], bs, rfl, rfl, h⟩
  | cons a as ih => exact Exists.elim h fun b h => Exists.elim h fun r h => Exists.elim (ih h.2.2) fun x k => Exists.elim k fun y k => ⟨b :: x, y, h.1.trans (congrArg (List.cons b) k.1), ⟨b, x, rfl, h.2.1, k.2.1⟩, k.2.2⟩
theorem get {as bs} {i : Nat} {a} (h : A2 R as bs) (q : as[i]? = some a) : ∃ v, bs[i]? = some v ∧ R a v := by
  induction as generalizing bs i with
  | nil => exact noS q
  | cons x as ih => exact Exists.elim h fun b h => Exists.elim h fun r h => h.1 ▸ match i with
    | 0 => ⟨b, rfl, Option.some.inj q ▸ h.2.1⟩
    | i + 1 => ih (bs := r) (i := i) h.2.2 q
theorem get' {as bs} {i : Nat} {v} (h : A2 R as bs) (q : bs[i]? = some v) : ∃ a, as[i]? = some a ∧ R a v :=
  have hi : i < as.length := h.length ▸ (List.getElem?_eq_some_iff.mp q).1
  Exists.elim (h.get (List.getElem?_eq_getElem hi)) fun w h => ⟨_, List.getElem?_eq_getElem hi, Option.some.inj (h.1.symm.trans q) ▸ h.2⟩
theorem take {as bs} (n : Nat) (h : A2 R as bs) : A2 R (as.take n) (bs.take n) := by
  induction as generalizing bs n with
  | nil => rw [show bs = [] from h, List.take_nil, List.take_nil]; rfl
  | cons x as ih => cases n with
    | zero => rfl
    | succ n => exact Exists.imp (fun b h => Exists.elim h fun r h => ⟨_, congrArg (List.take (n + 1)) h.1, h.2.1, ih n h.2.2⟩) h
theorem drop {as bs} (n : Nat) (h : A2 R as bs) : A2 R (as.drop n) (bs.drop n) := by
  induction as generalizing bs n with
  | nil => rw [show bs = [] from h, List.drop_nil, List.drop_nil]; rfl
  | cons x as ih => cases n with
    | zero => exact h
    | succ n => exact Exists.elim h fun b h => Exists.elim h fun r h => h.1 ▸ ih n h.2.2
theorem set {as bs} {i : Nat} {a v} (h : A2 R as bs) (q : R a v) : A2 R (as.set i a) (bs.set i v) := by
  induction as generalizing bs i with
  | nil => rw [show bs = [] from h]; rfl
  | cons x as ih => exact Exists.elim h fun b h => Exists.elim h fun r h => h.1 ▸ match i with
    | 0 => ⟨v, r, rfl, q, h.2.2⟩
    | i + 1 => ⟨b, _, rfl, h.2.1, ih h.2.2⟩
end A2
noncomputable def VRs (G : Gl) (ρ : List Addr) : List AV → List Value → Prop := A2 (VR G ρ)
namespace VRs
variable {as bs : List AV} {vs ws : List Value} {a : AV} {v : Value}
theorem nil : VRs G ρ [] [] := rfl
theorem cons (h : VR G ρ a v) (t : VRs G ρ as vs) : VRs G ρ (a :: as) (v :: vs) := ⟨v, vs, rfl, h, t⟩
theorem nil_ (h : VRs G ρ [] vs) : vs = [] := h
theorem cons_ (h : VRs G ρ (a :: as) vs) : ∃ v r, vs = v :: r ∧ VR G ρ a v ∧ VRs G ρ as r := h
theorem mono (x : Pre ρ ρ') (h : VRs G ρ as vs) : VRs G ρ' as vs := A2.map (·.mono x) h
theorem length (h : VRs G ρ as vs) : vs.length = as.length := A2.length h
theorem append (h : VRs G ρ as vs) (t : VRs G ρ bs ws) : VRs G ρ (as ++ bs) (vs ++ ws) := A2.append h t
theorem one (h : VR G ρ a v) : VRs G ρ [a] [v] := .cons h .nil
theorem get {i : Nat} (h : VRs G ρ as vs) (e : as[i]? = some a) : ∃ v, vs[i]? = some v ∧ VR G ρ a v := A2.get h e
theorem get' {i : Nat} (h : VRs G ρ as vs) (e : vs[i]? = some v) : ∃ a, as[i]? = some a ∧ VR G ρ a v := A2.get' h e
theorem take (n : Nat) (h : VRs G ρ as vs) : VRs G ρ (as.take n) (vs.take n) := A2.take n h
theorem drop (n : Nat) (h : VRs G ρ as vs) : VRs G ρ (as.drop n) (vs.drop n) := A2.drop n h
theorem set {i : Nat} (h : VRs G ρ as vs) (e : VR G ρ a v) : VRs G ρ (as.set i a) (vs.set i v) := A2.set h e
theorem inv1 (h : VRs G ρ [a] vs) : ∃ v, vs = [v] ∧ VR G ρ a v := Exists.imp (fun v h => h.elim fun r h => ⟨(show r = [] from h.2.2) ▸ h.1, h.2.1⟩) h
theorem inv2 {b : AV} (h : VRs G ρ [a, b] vs) : ∃ v w, vs = [v, w] ∧ VR G ρ a v ∧ VR G ρ b w := Exists.imp (fun v h => h.elim fun r h => (inv1 h.2.2).imp fun w k => ⟨h.1.trans (congrArg (List.cons v) k.1), h.2.1, k.2⟩) h
end VRs

noncomputable def KVs (G : Gl) (ρ : List Addr) : List (Str × AV) → List DictEntry → Prop := A2 fun p e => ∃ t v, e = ⟨PyData.keyHash G.w.params p.1, .str p.1 t, v⟩ ∧ VR G ρ p.2 v
theorem KVs.nil : KVs G ρ [] [] := rfl
theorem KVs.cons {x : Str} {a : AV} {t : Tok} {v : Value} {r : List (Str × AV)} {es : List DictEntry} (h : VR G ρ a v) (q : KVs G ρ r es) : KVs G ρ ((x, a) :: r) (⟨PyData.keyHash G.w.params x, .str x t, v⟩ :: es) := ⟨_, _, rfl, ⟨t, v, rfl, h⟩, q⟩
theorem KVs.cons_ {x : Str} {a : AV} {r : List (Str × AV)} {es : List DictEntry} (h : KVs G ρ ((x, a) :: r) es) : ∃ t v es', es = ⟨PyData.keyHash G.w.params x, .str x t, v⟩ :: es' ∧ VR G ρ a v ∧ KVs G ρ r es' :=
  h.elim fun d h => h.elim fun es' h => h.2.1.imp fun t => Exists.imp fun v g => ⟨es', h.1.trans (congrArg (fun d => List.cons d es') g.1), g.2, h.2.2⟩
theorem KVs.nil_ {es : List DictEntry} (h : KVs G ρ [] es) : es = [] := h
theorem KVs.mono (x : Pre ρ ρ') {as : List (Str × AV)} {vs : List DictEntry} (h : KVs G ρ as vs) : KVs G ρ' as vs := A2.map (fun h => h.imp fun t => Exists.imp fun v h => ⟨h.1, h.2.mono x⟩) h

noncomputable abbrev tupOf (vs : Array Value) (n : Nat) : Obj := { cls := .type "tuple", data := .seq vs n }
noncomputable abbrev accObj (C dx : Addr) (vs : Array Value) (n : Nat) : Obj := { cls := .ref C, dict := some dx, data := .seq vs n }

noncomputable def Gl.nm (G : Gl) (k : Nat) : Str := G.nms.getD k Str.empty
noncomputable abbrev named (G : Gl) (kvs : List (Nat × AV)) : List (Str × AV) := kvs.map fun p => (G.nm p.1, p.2)

/-- the object of a lambda -/
noncomputable abbrev lamObj (q : Str) (l : LamI) (cs : List Addr) (pm : Value) (c' : Addr) (ctv : Value) (od : Option Addr) : Obj :=
  { cls := .type "function", dict := od, data := .func (kla_fn "<lambda>" q l.params l.body l.scope (l.free.zip cs) pm (.ref c') ctv) }

/-- what a cell holds -/
noncomputable def VRo (G : Gl) (ρ : List Addr) (a : Option AV) (w : Option Value) : Prop := match a with
  | none => w = none
  | some a => ∃ v, w = some v ∧ VR G ρ a v
/-- the object o, C telling the code records -/
noncomputable def OS (G : Gl) (ρ : List Addr) (C : Value → Str → Prop) (ao : AO) (o : Obj) : Prop := match ao with
  | .list xs => ∃ vs n, o = listOf vs.toArray n ∧ VRs G ρ xs vs
  | .tup xs => ∃ vs n, o = tupOf vs.toArray n ∧ VRs G ρ xs vs
  | .obj D d => ∃ dx, o = instObj D dx ∧ ρ[d]? = some dx
  | .acc D d xs => ∃ dx vs n, o = accObj D dx vs.toArray n ∧ ρ[d]? = some dx ∧ VRs G ρ xs vs
  | .ns kvs => ∃ es n, o = dictOf es n ∧ KVs G ρ (named G kvs) es ∧ (∀ p ∈ kvs, p.1 < G.nms.length) ∧ kvs.length ≤ 900
  | .dict kvs => ∃ es n, o = dictOf es n ∧ KVs G ρ kvs es
  | .cell a => ∃ w, o.data = .cell w ∧ VRo G ρ a w
  | .lam i cl d => ∃ l pm c' ctv cs dx, o = lamObj G.lq l cs pm c' ctv dx ∧ G.lamOk i l ∧ cl.map (ρ[·]?) = cs.map some ∧ C (.ref c') G.lq ∧ d.map (ρ[·]?) = dx.map some
/-- the object at address a -/
noncomputable def OR (G : Gl) (ρ : List Addr) (h : Heap) (ao : AO) (a : Addr) : Prop := ∃ o, h.get? a = some o ∧ OS G ρ h.CodeRec ao o
namespace OR
variable {G : Gl} {ρ : List Addr} {h : Heap} {a : Addr} {xs : List AV} {D : Addr} {d : Nat} {kvs : List (Nat × AV)}
theorem list {vs : List Value} {n : Nat} (e : h.get? a = some (listOf vs.toArray n)) (q : VRs G ρ xs vs) : OR G ρ h (.list xs) a := ⟨_, e, vs, n, rfl, q⟩
theorem tup {vs : List Value} {n : Nat} (e : h.get? a = some (tupOf vs.toArray n)) (q : VRs G ρ xs vs) : OR G ρ h (.tup xs) a := ⟨_, e, vs, n, rfl, q⟩
theorem obj {dx : Addr} (q : ρ[d]? = some dx) (e : h.get? a = some (instObj D dx)) : OR G ρ h (.obj D d) a := ⟨_, e, dx, rfl, q⟩
theorem acc {dx : Addr} {vs : List Value} {n : Nat} (q : ρ[d]? = some dx) (e : h.get? a = some (accObj D dx vs.toArray n)) (g : VRs G ρ xs vs) : OR G ρ h (.acc D d xs) a := ⟨_, e, dx, vs, n, rfl, q, g⟩
theorem ns {es : List DictEntry} {n : Nat} (e : h.get? a = some (dictOf es n)) (q : KVs G ρ (named G kvs) es) (l : ∀ p ∈ kvs, p.1 < G.nms.length) (z : kvs.length ≤ 900) : OR G ρ h (.ns kvs) a := ⟨_, e, es, n, rfl, q, l, z⟩
theorem dict {kvs : List (Str × AV)} {es : List DictEntry} {n : Nat} (e : h.get? a = some (dictOf es n)) (q : KVs G ρ kvs es) : OR G ρ h (.dict kvs) a := ⟨_, e, es, n, rfl, q⟩
theorem cell0 {o : Obj} (e : h.get? a = some o) (q : o.data = .cell none) : OR G ρ h (.cell none) a := ⟨_, e, _, q, rfl⟩
theorem cell {o : Obj} {av : AV} {v : Value} (e : h.get? a = some o) (q : o.data = .cell (some v)) (r : VR G ρ av v) : OR G ρ h (.cell (some av)) a := ⟨_, e, _, q, v, rfl, r⟩
theorem lam {i : Nat} {cl : List Nat} {l : LamI} {pm : Value} {c' : Addr} {ctv : Value} {cs : List Addr} (q : G.lamOk i l) (r : cl.map (ρ[·]?) = cs.map some) (e : h.get? a = some (lamObj G.lq l cs pm c' ctv none)) (k : h.CodeRec (.ref c') G.lq) : OR G ρ h (.lam i cl none) a :=
  ⟨_, e, l, pm, c', ctv, cs, none, rfl, q, r, k, rfl⟩
theorem lamD {i : Nat} {cl : List Nat} {l : LamI} {pm : Value} {c' : Addr} {ctv : Value} {cs : List Addr} {dx : Addr} (q : G.lamOk i l) (r : cl.map (ρ[·]?) = cs.map some) (e : h.get? a = some (lamObj G.lq l cs pm c' ctv (some dx))) (k : h.CodeRec (.ref c') G.lq) (z : ρ[d]? = some dx) : OR G ρ h (.lam i cl (some d)) a :=
  ⟨_, e, l, pm, c', ctv, cs, some dx, rfl, q, r, k, congrArg some z⟩
theorem list_ (r : OR G ρ h (.list xs) a) : ∃ vs n, h.get? a = some (listOf vs.toArray n) ∧ VRs G ρ xs vs := r.elim fun o r => r.2.imp fun vs => Exists.imp fun n q => ⟨r.1.trans (congrArg some q.1), q.2⟩
theorem tup_ (r : OR G ρ h (.tup xs) a) : ∃ vs n, h.get? a = some (tupOf vs.toArray n) ∧ VRs G ρ xs vs := r.elim fun o r => r.2.imp fun vs => Exists.imp fun n q => ⟨r.1.trans (congrArg some q.1), q.2⟩
theorem obj_ (r : OR G ρ h (.obj D d) a) : ∃ dx, ρ[d]? = some dx ∧ h.get? a = some (instObj D dx) := r.elim fun o r => r.2.imp fun dx q => ⟨q.2, r.1.trans (congrArg some q.1)⟩
theorem acc_ (r : OR G ρ h (.acc D d xs) a) : ∃ dx vs n, ρ[d]? = some dx ∧ h.get? a = some (accObj D dx vs.toArray n) ∧ VRs G ρ xs vs := r.elim fun o r => r.2.imp fun dx => Exists.imp fun vs => Exists.imp fun n q => ⟨q.2.1, r.1.trans (congrArg some q.1), q.2.2⟩
theorem ns_ (r : OR G ρ h (.ns kvs) a) : ∃ es n, h.get? a = some (dictOf es n) ∧ KVs G ρ (named G kvs) es ∧ (∀ p ∈ kvs, p.1 < G.nms.length) ∧ kvs.length ≤ 900 := r.elim fun o r => r.2.imp fun es => Exists.imp fun n q => ⟨r.1.trans (congrArg some q.1), q.2⟩
theorem dict_ {kvs : List (Str × AV)} (r : OR G ρ h (.dict kvs) a) : ∃ es n, h.get? a = some (dictOf es n) ∧ KVs G ρ kvs es := r.elim fun o r => r.2.imp fun es => Exists.imp fun n q => ⟨r.1.trans (congrArg some q.1), q.2⟩
theorem cell_ {v : Option AV} (r : OR G ρ h (.cell v) a) : ∃ o w, h.get? a = some o ∧ o.data = .cell w ∧ VRo G ρ v w := r.imp fun o r => r.2.imp fun w q => ⟨r.1, q⟩
theorem lam_ {i : Nat} {cl : List Nat} {d : Option Nat} (r : OR G ρ h (.lam i cl d) a) : ∃ l pm c' ctv cs dx, h.get? a = some (lamObj G.lq l cs pm c' ctv dx) ∧ G.lamOk i l ∧ cl.map (ρ[·]?) = cs.map some ∧ h.CodeRec (.ref c') G.lq ∧ d.map (ρ[·]?) = dx.map some :=
  r.elim fun o r => r.2.imp fun l => Exists.imp fun pm => Exists.imp fun c' => Exists.imp fun ctv => Exists.imp fun cs => Exists.imp fun dx q => ⟨r.1.trans (congrArg some q.1), q.2⟩
end OR

theorem Pre.gets {ρ ρ' : List Addr} (x : Pre ρ ρ') {cl : List Nat} {cs : List Addr} (h : cl.map (ρ[·]?) = cs.map some) : cl.map (ρ'[·]?) = cs.map some := by
  rw [← h]
  refine List.map_congr_left fun j hj => ?_
  have : ρ[j]? ∈ cl.map (ρ[·]?) := List.mem_map_of_mem hj
  rw [h] at this
  obtain ⟨c, _, e⟩ := List.mem_map.mp this
  rw [← e, x.get e.symm]

theorem Pre.getO {ρ ρ' : List Addr} (x : Pre ρ ρ') {d : Option Nat} {dx : Option Addr} (h : d.map (ρ[·]?) = dx.map some) : d.map (ρ'[·]?) = dx.map some := by
  cases d with
  | none => exact h
  | some d => cases dx with
    | none => exact noS h.symm
    | some dx => exact congrArg some (x.get (Option.some.inj h))
theorem VRo.mono (x : Pre ρ ρ') {a : Option AV} {w : Option Value} (h : VRo G ρ a w) : VRo G ρ' a w := by
  cases a with
  | none => exact h
  | some a => exact h.imp fun v => And.imp_right (·.mono x)
/-- h' keeps what stands at a, and h's code records -/
theorem OR.to {h h' : Heap} {ao : AO} {a : Addr} (x : Pre ρ ρ') (r : OR G ρ h ao a) (e : h'.get? a = h.get? a) (hc : ∀ c q, h.CodeRec c q → h'.CodeRec c q) : OR G ρ' h' ao a :=
  r.imp fun o r => ⟨e.trans r.1, by
    have r := r.2
    cases ao with
    | list => exact r.imp fun vs => Exists.imp fun n => And.imp_right (·.mono x)
    | tup => exact r.imp fun vs => Exists.imp fun n => And.imp_right (·.mono x)
    | obj => exact r.imp fun dx => And.imp_right (x.get ·)
    | acc => exact r.imp fun dx => Exists.imp fun vs => Exists.imp fun n => And.imp_right (And.imp (x.get ·) (·.mono x))
    | ns => exact r.imp fun vs => Exists.imp fun n => And.imp_right (And.imp_left (·.mono x))
    | dict => exact r.imp fun vs => Exists.imp fun n => And.imp_right (·.mono x)
    | cell => exact r.imp fun w => And.imp_right (·.mono x)
    | lam => exact r.imp fun l => Exists.imp fun pm => Exists.imp fun c' => Exists.imp fun ctv => Exists.imp fun cs => Exists.imp fun dx => And.imp_right (And.imp_right (And.imp (x.gets ·) (And.imp (hc _ _ ·) (x.getO ·))))⟩
theorem OR.mono {h : Heap} {ao : AO} {a : Addr} (x : Pre ρ ρ') (r : OR G ρ h ao a) : OR G ρ' h ao a := r.to x rfl fun _ _ z => z
theorem OR.at {h h' : Heap} {ao : AO} {a : Addr} (r : OR G ρ h ao a) (e : h'.get? a = h.get? a) (hc : ∀ c q, h.CodeRec c q → h'.CodeRec c q) : OR G ρ h' ao a := r.to .rfl e hc

/-- the state of a body's run: slots, cells, store -/
structure St where
  vars : List (Option AV)
  σ : List AO

/-- the table of code objects that lambdas are noted in -/
noncomputable def TabR (G : Gl) (h : Heap) : Prop :=
  ∃ ps, h.get? G.P = some (tabObj ps) ∧ TriplesOk ps.toList ∧ ∀ pos v, codeAmong pos ps.toList = some v → ∃ c', v = .ref c' ∧ h.CodeRec v G.lq

structure Rep (G : Gl) (ρ : List Addr) (L : Addr) (ln : List Str) (st : St) (s : Shared) : Prop where
  len : ρ.length = st.σ.length
  nod : ρ.Nodup
  obj : ∀ (l : Nat) (ao : AO) (a : Addr), st.σ[l]? = some ao → ρ[l]? = some a → OR G ρ s.heap ao a
  own : ∀ a ∈ ρ, G.h₀.get? a = none ∧ a ≠ L ∧ a ≠ G.P ∧ ∃ o, s.heap.get? a = some o
  base : G.h₀.StaysIn s.heap
  low : G.h₀.objs.size ≤ L
  tab : TabR G s.heap
  tabL : G.P ≠ L ∧ G.h₀.get? G.P = none
  frame : ∃ m, s.heap.Ns L m ∧ ∀ (i : Nat) (x : Str) (av : AV), ln[i]? = some x → st.vars[i]? = some (some av) → ∃ v, m x = some v ∧ VR G ρ av v
  gens : s.gens = #[]

/-- the store alone, whatever the frame -/
structure RepC (G : Gl) (ρ : List Addr) (σ : List AO) (s : Shared) : Prop where
  len : ρ.length = σ.length
  nod : ρ.Nodup
  obj : ∀ (l : Nat) (ao : AO) (a : Addr), σ[l]? = some ao → ρ[l]? = some a → OR G ρ s.heap ao a
  own : ∀ a ∈ ρ, G.h₀.get? a = none ∧ a ≠ G.P ∧ ∃ o, s.heap.get? a = some o
  base : G.h₀.StaysIn s.heap
  size : G.h₀.objs.size ≤ s.heap.objs.size
  tab : TabR G s.heap
  tab0 : G.h₀.get? G.P = none
  gens : s.gens = #[]

/-- what a run keeps -/
structure Step (G : Gl) (L : Addr) (ρ : List Addr) (s : Shared) (ρ' : List Addr) (s' : Shared) : Prop where
  pre : Pre ρ ρ'
  keep : ∀ b o, s.heap.get? b = some o → b ∉ ρ → b ≠ L → b ≠ G.P → s'.heap.get? b = some o
  live : ∀ b o, s.heap.get? b = some o → ∃ o', s'.heap.get? b = some o'
  new : ∀ a ∈ ρ', a ∈ ρ ∨ s.heap.get? a = none
  os : s'.os = s.os
theorem Step.rfl {L : Addr} {s : Shared} : Step G L ρ s ρ s := ⟨.rfl, fun _ _ e _ _ _ => e, fun _ o e => ⟨o, e⟩, fun _ h => .inl h, Eq.refl _⟩
theorem Step.trans {L : Addr} {ρ₁ ρ₂ : List Addr} {s s₁ s₂ : Shared} (x : Step G L ρ s ρ₁ s₁) (y : Step G L ρ₁ s₁ ρ₂ s₂) : Step G L ρ s ρ₂ s₂ := by
  have k : ∀ b o, s.heap.get? b = some o → b ∉ ρ → b ∉ ρ₁ := fun b o e h q => (x.new b q).elim h fun z => by rw [z] at e; cases e
  refine ⟨x.pre.trans y.pre, fun b o e h hL hP => y.keep b o (x.keep b o e h hL hP) (k b o e h) hL hP, fun b o e => ?_, fun a h => ?_, y.os.trans x.os⟩
  · obtain ⟨o', e'⟩ := x.live b o e
    exact y.live b o' e'
  · rcases y.new a h with h | h
    · exact x.new a h
    · right
      cases z : s.heap.get? a with
      | none => rfl
      | some o => obtain ⟨o', e'⟩ := x.live a o z; rw [h] at e'; cases e'

noncomputable def Ret (G : Gl) (ρ : List Addr) (L : Addr) (ln : List Str) (s : Shared) (Q : AV → St → Prop) (v : Value) (s' : Shared) : Prop :=
  ∃ ρ' av st', VR G ρ' av v ∧ Rep G ρ' L ln st' s' ∧ Step G L ρ s ρ' s' ∧ Q av st'
theorem Ret.after {L : Addr} {ln : List Str} {ρ₁ : List Addr} {s s₁ : Shared} {Q : AV → St → Prop} {v : Value} {s' : Shared} (x : Step G L ρ s ρ₁ s₁) (h : Ret G ρ₁ L ln s₁ Q v s') : Ret G ρ L ln s Q v s' := by
  obtain ⟨ρ', av, st', h1, h2, h3, h4⟩ := h
  exact ⟨ρ', av, st', h1, h2, x.trans h3, h4⟩
theorem Ret.el {L : Addr} {ln : List Str} {s : Shared} {Q : AV → St → Prop} {v : Value} {s' : Shared} {P : Prop} (h : Ret G ρ L ln s Q v s') (k : ∀ ρ' av st', VR G ρ' av v → Rep G ρ' L ln st' s' → Step G L ρ s ρ' s' → Q av st' → P) : P := let ⟨a, b, c, d, e, f, g⟩ := h; k a b c d e f g
noncomputable def RetU (G : Gl) (ρ : List Addr) (L : Addr) (ln : List Str) (s : Shared) (Q : St → Prop) (s' : Shared) : Prop :=
  ∃ ρ' st', Rep G ρ' L ln st' s' ∧ Step G L ρ s ρ' s' ∧ Q st'
theorem RetU.el {L : Addr} {ln : List Str} {s : Shared} {Q : St → Prop} {s' : Shared} {P : Prop} (h : RetU G ρ L ln s Q s') (k : ∀ ρ' st', Rep G ρ' L ln st' s' → Step G L ρ s ρ' s' → Q st' → P) : P := let ⟨a, c, e, f, g⟩ := h; k a c e f g
theorem RetU.after {L : Addr} {ln : List Str} {ρ₁ : List Addr} {s s₁ : Shared} {Q : St → Prop} {s' : Shared} (x : Step G L ρ s ρ₁ s₁) (h : RetU G ρ₁ L ln s₁ Q s') : RetU G ρ L ln s Q s' := by
  obtain ⟨ρ', st', h2, h3, h4⟩ := h
  exact ⟨ρ', st', h2, x.trans h3, h4⟩

namespace Rep
variable {L : Addr} {ln : List Str} {st : St} {s : Shared}
theorem get (R : Rep G ρ L ln st s) {l : Nat} {ao : AO} (e : st.σ[l]? = some ao) : ∃ a, ρ[l]? = some a ∧ OR G ρ s.heap ao a := by
  have hl : l < ρ.length := by rw [R.len]; exact (List.getElem?_eq_some_iff.mp e).1
  exact ⟨ρ[l], List.getElem?_eq_getElem hl, R.obj l ao _ e (List.getElem?_eq_getElem hl)⟩
theorem mem {l : Nat} {a : Addr} (e : ρ[l]? = some a) : a ∈ ρ := List.mem_of_getElem? e
theorem code_of {h h' : Heap} {X : Addr → Prop} (k : ∀ b o, h.get? b = some o → ¬ X b → h'.get? b = some o) (n : ∀ b o, X b → h.get? b = some o → ∀ vs, o.data ≠ .fields vs) {c : Value} {q : Str} (x : h.CodeRec c q) : h'.CodeRec c q := by
  obtain ⟨a, o, vs, t, e1, e2, e3, e4⟩ := x
  refine ⟨a, o, vs, t, e1, k a o e2 fun z => n a o z e2 vs e3, e3, e4⟩

/-- what the frame's names hold -/
noncomputable def Loc (G : Gl) (ρ : List Addr) (ln : List Str) (st : St) (m : Str → Option Value) : Prop :=
  ∀ (i : Nat) (x : Str) (av : AV), ln[i]? = some x → st.vars[i]? = some (some av) → ∃ v, m x = some v ∧ VR G ρ av v
theorem codeL (R : Rep G ρ L ln st s) {h' : Heap} (hk : ∀ b o, b ≠ L → s.heap.get? b = some o → h'.get? b = some o) {c : Value} {q : Str} (x : s.heap.CodeRec c q) : h'.CodeRec c q :=
  code_of (X := (· = L)) (fun b o e n => hk b o n e) (fun b o z e vs hd => by
    obtain ⟨m', ⟨oL, es, ep, h1, h2, _⟩, _⟩ := R.frame
    rw [z, h1] at e; cases e; rw [h2] at hd; cases hd) x

theorem hasL (R : Rep G ρ L ln st s) : ∃ o, s.heap.get? L = some o := R.frame.elim fun m h => h.1.imp fun o h => h.elim fun es h => h.elim fun ep h => h.1
theorem notL (R : Rep G ρ L ln st s) {b : Addr} (h : s.heap.get? b = none) : b ≠ L := fun q => R.hasL.elim fun o e => noS ((q ▸ h : s.heap.get? L = none).symm.trans e)
/-- what stands is changed at X, and things are made; L is another frame's dict or the same -/
theorem chg (R : Rep G ρ L ln st s) {h' : Heap} {st' : St} {t : Nat} {m : Str → Option Value} {X : Addr → Prop} (hp : Pre ρ ρ') (hnd : ρ'.Nodup) (hlen : ρ'.length = st'.σ.length)
    (hnew : ∀ a ∈ ρ', a ∈ ρ ∨ s.heap.get? a = none ∧ a ≠ G.P ∧ ∃ o, h'.get? a = some o) (hm : Loc G ρ' ln st' m) (hn : h'.Ns L m) (hk : ∀ b o, b ≠ L → ¬ X b → s.heap.get? b = some o → h'.get? b = some o)
    (hX : ∀ b, X b → b ∈ ρ ∧ (∃ o, h'.get? b = some o) ∧ ∀ o, s.heap.get? b = some o → ∀ vs, o.data ≠ .fields vs)
    (ho : ∀ (l : Nat) (ao : AO) (a : Addr), st'.σ[l]? = some ao → ρ'[l]? = some a → st.σ[l]? = some ao ∧ ρ[l]? = some a ∧ ¬ X a ∨ OR G ρ' h' ao a) :
    Rep G ρ' L ln st' { s with heap := h', toks := t } ∧ Step G L ρ s ρ' { s with heap := h', toks := t } :=
  have hcode : ∀ c q, s.heap.CodeRec c q → h'.CodeRec c q := fun c q x => code_of (X := fun b => b = L ∨ X b) (fun b o e n => hk b o (fun z => n (.inl z)) (fun z => n (.inr z)) e) (fun b o z e vs hd => z.elim (fun z => by
    obtain ⟨m', ⟨oL, es, ep, h1, h2, _⟩, _⟩ := R.frame
    rw [z, h1] at e; cases e; rw [h2] at hd; cases hd) fun z => (hX b z).2.2 o e vs hd) x
  have live : ∀ b o, s.heap.get? b = some o → ∃ o', h'.get? b = some o' := fun b o e => (Classical.em (b = L)).elim (fun q => q ▸ hn.imp fun o h => h.elim fun es h => h.elim fun ep h => h.1) fun q => (Classical.em (X b)).elim (fun z => (hX b z).2.1) fun z => ⟨o, hk b o q z e⟩
  have base : ∀ b o, G.h₀.get? b = some o → h'.get? b = some o := fun b o e => hk b o (Nat.ne_of_lt (Nat.lt_of_lt_of_le (Heap.lt_size e) R.low)) (fun z => noS ((R.own b (hX b z).1).1.symm.trans e)) (R.base b o e)
  ⟨{ len := hlen, nod := hnd, low := R.low, tabL := R.tabL, gens := R.gens, base := base, frame := ⟨m, hn, hm⟩
     obj := fun l ao a e1 e2 => (ho l ao a e1 e2).elim (fun h => (R.obj l ao a h.1 h.2.1).to hp ((R.own a (mem h.2.1)).2.2.2.elim fun o e => (hk a o (R.own a (mem h.2.1)).2.1 h.2.2 e).trans e.symm) hcode) id
     own := fun a h => (hnew a h).elim (fun h => have o := R.own a h; ⟨o.1, o.2.1, o.2.2.1, o.2.2.2.elim fun x e => live a x e⟩) fun h =>
       ⟨(by cases q : G.h₀.get? a with | none => rfl | some o => exact noS (h.1.symm.trans (R.base a o q))), R.notL h.1, h.2.1, h.2.2⟩
     tab := R.tab.imp fun ps h => ⟨hk _ _ R.tabL.1 (fun z => (R.own _ (hX _ z).1).2.2.1 rfl) h.1, h.2.1, fun pos v e => (h.2.2 pos v e).imp fun c h => ⟨h.1, hcode _ _ h.2⟩⟩ },
   { pre := hp, keep := fun b o e hb hL _ => hk b o hL (fun z => hb (hX b z).1) e, live := live, new := fun a h => (hnew a h).imp id (·.1), os := rfl }⟩
/-- the store grows by one object that is made; whatever else is made beside it -/
theorem allocL (R : Rep G ρ L ln st s) {h' : Heap} {a : Addr} {ao : AO} {t : Nat} {m : Str → Option Value} (hm : Loc G ρ ln st m) (hn : h'.Ns L m) (hk : ∀ b o, b ≠ L → s.heap.get? b = some o → h'.get? b = some o)
    (ha : s.heap.get? a = none) (he : ∃ o, h'.get? a = some o) (hP : a ≠ G.P) (o : OR G (ρ ++ [a]) h' ao a) :
    Rep G (ρ ++ [a]) L ln { st with σ := st.σ ++ [ao] } { s with heap := h', toks := t } ∧ Step G L ρ s (ρ ++ [a]) { s with heap := h', toks := t } ∧ (ρ ++ [a])[st.σ.length]? = some a := by
  have hna : a ∉ ρ := fun q => (R.own a q).2.2.2.elim fun o e => noS (ha.symm.trans e)
  have hat : (ρ ++ [a])[st.σ.length]? = some a := by rw [← R.len]; exact List.getElem?_concat_length
  have hnd : (ρ ++ [a]).Nodup := List.nodup_append.mpr ⟨R.nod, List.pairwise_singleton .., fun x hx y hy q => hna (List.mem_singleton.mp hy ▸ q ▸ hx)⟩
  have c := R.chg (t := t) (st' := { st with σ := st.σ ++ [ao] }) (X := fun _ => False) (.snoc ρ a) hnd (by rw [List.length_append, List.length_append, R.len]; rfl)
    (fun b hb => (List.mem_append.mp hb).imp id fun hb => List.mem_singleton.mp hb ▸ ⟨ha, hP, he⟩) (fun i x av e1 e2 => (hm i x av e1 e2).imp fun v h => ⟨h.1, h.2.mono (.snoc ρ a)⟩) hn (fun b o n _ => hk b o n) (fun _ h => h.elim) fun l ao' b e1 e2 => by
      rcases Nat.lt_or_ge l st.σ.length with hl | hl
      · exact .inl ⟨(List.getElem?_append_left hl).symm.trans e1, (List.getElem?_append_left (R.len ▸ hl)).symm.trans e2, id⟩
      · have hl2 := Nat.le_antisymm (Nat.le_of_lt_succ (Nat.lt_of_lt_of_eq (List.getElem?_eq_some_iff.mp e1).1 List.length_append)) hl
        subst hl2
        exact .inr (Option.some.inj (List.getElem?_concat_length.symm.trans e1) ▸ Option.some.inj (hat.symm.trans e2) ▸ o)
  exact ⟨c.1, c.2, hat⟩
theorem alloc (R : Rep G ρ L ln st s) {h' : Heap} {a : Addr} {ao : AO} {t : Nat} (hk : ∀ b o, s.heap.get? b = some o → h'.get? b = some o) (ha : s.heap.get? a = none) (he : ∃ o, h'.get? a = some o)
    (hP : a ≠ G.P) (o : OR G (ρ ++ [a]) h' ao a) :
    Rep G (ρ ++ [a]) L ln { st with σ := st.σ ++ [ao] } { s with heap := h', toks := t } ∧ Step G L ρ s (ρ ++ [a]) { s with heap := h', toks := t } ∧ (ρ ++ [a])[st.σ.length]? = some a :=
  let ⟨_, h1, h2⟩ := R.frame
  R.allocL h2 (h1.keeps hk) (fun b o _ e => hk b o e) ha he hP o

/-- things are made that the store does not hold -/
theorem growL (R : Rep G ρ L ln st s) {h' : Heap} {t : Nat} {m : Str → Option Value} (hm : Loc G ρ ln st m) (hn : h'.Ns L m) (hk : ∀ b o, b ≠ L → s.heap.get? b = some o → h'.get? b = some o) :
    Rep G ρ L ln st { s with heap := h', toks := t } ∧ Step G L ρ s ρ { s with heap := h', toks := t } :=
  R.chg (X := fun _ => False) .rfl R.nod R.len (fun _ h => .inl h) hm hn (fun b o n _ => hk b o n) (fun _ h => h.elim) fun _ _ _ e1 e2 => .inl ⟨e1, e2, id⟩
theorem grow (R : Rep G ρ L ln st s) {h' : Heap} {t : Nat} (hk : ∀ b o, s.heap.get? b = some o → h'.get? b = some o) :
    Rep G ρ L ln st { s with heap := h', toks := t } ∧ Step G L ρ s ρ { s with heap := h', toks := t } :=
  let ⟨_, h1, h2⟩ := R.frame
  R.growL h2 (h1.keeps hk) fun b o _ e => hk b o e

theorem toks (R : Rep G ρ L ln st s) (t : Nat) : Rep G ρ L ln st { s with toks := t } ∧ Step G L ρ s ρ { s with toks := t } := by
  have := R.grow (h' := s.heap) (t := t) fun b o e => e
  exact this

/-- one object of the store is changed; things may be made beside -/
theorem setL (R : Rep G ρ L ln st s) {h' : Heap} {l : Nat} {a : Addr} {ao₀ ao : AO} {t : Nat} {m : Str → Option Value} (hm : Loc G ρ ln st m) (hn : h'.Ns L m) (e₀ : st.σ[l]? = some ao₀) (ea : ρ[l]? = some a) (hk : ∀ b o, b ≠ L → b ≠ a → s.heap.get? b = some o → h'.get? b = some o)
    (hd : ∀ o, s.heap.get? a = some o → ∀ vs, o.data ≠ .fields vs) (he : ∃ o, h'.get? a = some o) (o : OR G ρ h' ao a) :
    Rep G ρ L ln { st with σ := st.σ.set l ao } { s with heap := h', toks := t } ∧ Step G L ρ s ρ { s with heap := h', toks := t } :=
  R.chg (X := (· = a)) .rfl R.nod (R.len.trans List.length_set.symm) (fun _ h => .inl h) hm hn hk (fun b q => q ▸ ⟨mem ea, he, hd⟩) fun j ao' b e1 e2 => (Nat.decEq l j).byCases
    (fun q => .inr (by subst q; exact Option.some.inj ((List.getElem?_set_self (List.getElem?_eq_some_iff.mp e₀).1).symm.trans e1) ▸ Option.some.inj (ea.symm.trans e2) ▸ o))
    fun q => .inl ⟨(List.getElem?_set_ne q).symm.trans e1, e2, fun z => q (nodup_inj R.nod (z ▸ ea) e2)⟩
theorem set (R : Rep G ρ L ln st s) {h' : Heap} {l : Nat} {a : Addr} {ao₀ ao : AO} {t : Nat} (e₀ : st.σ[l]? = some ao₀) (ea : ρ[l]? = some a) (hk : ∀ b o, b ≠ a → s.heap.get? b = some o → h'.get? b = some o)
    (hd : ∀ o, s.heap.get? a = some o → ∀ vs, o.data ≠ .fields vs) (he : ∃ o, h'.get? a = some o) (o : OR G ρ h' ao a) :
    Rep G ρ L ln { st with σ := st.σ.set l ao } { s with heap := h', toks := t } ∧ Step G L ρ s ρ { s with heap := h', toks := t } :=
  R.frame.elim fun m h => R.setL h.2 (h.1.imp fun oL h => h.imp fun es => Exists.imp fun ep h => ⟨hk _ _ (R.own a (mem ea)).2.1.symm h.1, h.2⟩) e₀ ea (fun b o _ => hk b o) hd he o

/-- a local is stored -/
theorem store (R : Rep G ρ L ln st s) {h' : Heap} {i : Nat} {x : Str} {av : AV} {v : Value} {m : Str → Option Value} {t : Nat} (hx : ln[i]? = some x) (hd : ln.Nodup) (hi : i < st.vars.length)
    (hm : ∀ (i : Nat) (x : Str) (av : AV), ln[i]? = some x → st.vars[i]? = some (some av) → ∃ v, m x = some v ∧ VR G ρ av v)
    (hn : h'.Ns L (fun y => if y = x then some v else m y)) (hs : Heap.SameBut L s.heap h') (hv : VR G ρ av v) :
    Rep G ρ L ln { st with vars := st.vars.set i (some av) } { s with heap := h', toks := t } ∧ Step G L ρ s ρ { s with heap := h', toks := t } :=
  R.chg (X := fun _ => False) .rfl R.nod R.len (fun _ h => .inl h) (fun j y av' e1 e2 => (Nat.decEq i j).byCases
    (fun q => by
      subst q
      exact ⟨v, if_pos (Option.some.inj (e1.symm.trans hx)), Option.some.inj (Option.some.inj ((List.getElem?_set_self hi).symm.trans e2)) ▸ hv⟩)
    fun q => (hm j y av' e1 ((List.getElem?_set_ne q).symm.trans e2)).imp fun w h => ⟨(if_neg fun z : y = x => q (nodup_inj hd hx (z ▸ e1))).trans h.1, h.2⟩) hn (fun b o n _ e => (hs.2 b n).trans e) (fun _ h => h.elim) fun _ _ _ e1 e2 => .inl ⟨e1, e2, id⟩

/-! the library's ledger: all that stands -/
noncomputable def restL (h₀ h : Heap) (L : Addr) (X : List Addr) : List (Addr × Obj) :=
  (List.range h.objs.size).filterMap fun a => if a = L ∨ a ∈ X ∨ (h₀.get? a).isSome then none else (h.get? a).map fun o => (a, o)
theorem rest_mem {h₀ h : Heap} {L : Addr} {X : List Addr} {b : Addr} {o : Obj} (e : h.get? b = some o) (h1 : b ≠ L) (h2 : b ∉ X) (h3 : h₀.get? b = none) : (b, o) ∈ restL h₀ h L X := by
  refine List.mem_filterMap.mpr ⟨b, List.mem_range.mpr (Heap.lt_size e), ?_⟩
  rw [if_neg (by rw [h3]; simp [h1, h2]), e]; rfl
set_option tactic.hygienic true in
theorem rest_of {h₀ h : Heap} {L : Addr} {X : List Addr} {p : Addr × Obj} (hp : p ∈ restL h₀ h L X) : h.get? p.1 = some p.2 ∧ p.1 ≠ L ∧ p.1 ∉ X ∧ h₀.get? p.1 = none := by
  obtain ⟨a, _, e⟩ := List.mem_filterMap.mp hp
  split at e
  · cases e
  · rename_i hn
    simp only [not_or] at hn
    obtain ⟨o, e1, e2⟩ := Option.map_eq_some_iff.mp e
    subst e2
    refine ⟨e1, hn.1, hn.2.1, ?_⟩
    cases q : h₀.get? a with
    | none => rfl
    | some o' => exact absurd (by rw [q]; rfl) hn.2.2
theorem rest_news {h₀ h : Heap} {L : Addr} {X : List Addr} : News h₀ L h (restL h₀ h L X) := fun _ hp => let ⟨h1, h2, _, h4⟩ := rest_of hp; ⟨h1, h2, h4⟩
theorem rest_keep {h₀ h h' : Heap} {L : Addr} {X : List Addr} {m m' : Str → Option Value} {news : List (Addr × Obj)} (F : Fr h₀ L h m) (F' : Fr h₀ L h' m') (N' : News h₀ L h' news) (hs : ∀ p ∈ restL h₀ h L X, p ∈ news) :
    ∀ b o, b ≠ L → b ∉ X → h.get? b = some o → h'.get? b = some o := fun b o h1 h2 e => by
  cases q : h₀.get? b with
  | none => exact (N' _ (hs _ (rest_mem e h1 h2 q))).1
  | some o' =>
    have := F.keep b o' q
    rw [e] at this; cases this
    exact F'.keep b o q
end Rep
/-! certified views: one match each, no equation lemmas -/
/-- x is of the form mk, or none -/
noncomputable abbrev As {α β : Type} (e : β) (mk : α → β) : Type := Option { t : α // e = mk t }
noncomputable def seen {α β : Type} {e : β} {mk : α → β} (o : As e mk) (k : α → Bool) : Bool := match o with
  | some ⟨t, _⟩ => k t
  | none => false
noncomputable def onV {α β γ : Type} {x : β} {mk : α → β} (d : γ) (o : As x mk) (f : α → γ) : γ := match o with
  | some ⟨t, _⟩ => f t
  | none => d
section
variable {α β γ : Type} {x : β} {mk : α → β} {o : As x mk}
theorem seen_inv {k : α → Bool} (h : seen o k = true) : ∃ t, x = mk t ∧ k t = true := by
  cases o with
  | some t => exact ⟨t.1, t.2, h⟩
  | none => exact noB h
theorem onV_or {d : Prop} {f : α → Prop} (h : onV d o f) : (∃ t, x = mk t ∧ f t) ∨ d := by
  cases o with
  | some t => exact .inl ⟨t.1, t.2, h⟩
  | none => exact .inr h
theorem onV_b {d : γ} {f : α → γ} {r : γ} (h : onV d o f = r) : (∃ t, x = mk t ∧ f t = r) ∨ d = r := by
  cases o with
  | some t => exact .inl ⟨t.1, t.2, h⟩
  | none => exact .inr h
theorem ite_b {c : Prop} [Decidable c] {a b r : γ} (h : (if c then a else b) = r) : (c ∧ a = r) ∨ (¬ c ∧ b = r) := by
  by_cases q : c
  · rw [if_pos q] at h; exact .inl ⟨q, h⟩
  · rw [if_neg q] at h; exact .inr ⟨q, h⟩
theorem onV_p {f : α → Prop} (h : onV False o f) : ∃ t, x = mk t ∧ f t := (onV_or h).elim id False.elim
theorem onV_s {f : α → Option γ} {r : γ} (h : onV none o f = some r) : ∃ t, x = mk t ∧ f t = some r := (onV_b h).elim id noS
theorem ite_s {c : Prop} [Decidable c] {a : Option γ} {r : γ} (h : (if c then a else none) = some r) : c ∧ a = some r := (ite_b h).elim id fun h => noS h.2
end
noncomputable def asAI : (x : AV) → As x AV.int
  | .int i => some ⟨i, rfl⟩
  | _ => none
noncomputable def asAB : (x : AV) → As x AV.bool
  | .bool i => some ⟨i, rfl⟩
  | _ => none
noncomputable def asAS : (x : AV) → As x AV.str
  | .str i => some ⟨i, rfl⟩
  | _ => none
noncomputable def asAL : (x : AV) → As x AV.loc
  | .loc i => some ⟨i, rfl⟩
  | _ => none
noncomputable def asAE : (x : AV) → As x AV.ext
  | .ext i => some ⟨i, rfl⟩
  | _ => none
noncomputable def asAX : (x : AV) → As x fun _ : Unit => AV.scr
  | .scr => some ⟨(), rfl⟩
  | _ => none
noncomputable def asOL : (x : Option AO) → As x fun t => some (AO.list t)
  | some (.list t) => some ⟨t, rfl⟩
  | _ => none
noncomputable def asOT : (x : Option AO) → As x fun t => some (AO.tup t)
  | some (.tup t) => some ⟨t, rfl⟩
  | _ => none
noncomputable def asOC : (x : Option AO) → As x fun t => some (AO.cell t)
  | some (.cell t) => some ⟨t, rfl⟩
  | _ => none
noncomputable def asON : (x : Option AO) → As x fun t => some (AO.ns t)
  | some (.ns t) => some ⟨t, rfl⟩
  | _ => none
noncomputable def asOb : (x : Option AO) → As x fun t : Addr × Nat => some (AO.obj t.1 t.2)
  | some (.obj C d) => some ⟨(C, d), rfl⟩
  | _ => none
noncomputable def asOA : (x : Option AO) → As x fun t : Addr × Nat × List AV => some (AO.acc t.1 t.2.1 t.2.2)
  | some (.acc C d xs) => some ⟨(C, d, xs), rfl⟩
  | _ => none
noncomputable def asOF : (x : Option AO) → As x fun t : Nat × List Nat × Option Nat => some (AO.lam t.1 t.2.1 t.2.2)
  | some (.lam i cl d) => some ⟨(i, cl, d), rfl⟩
  | _ => none
noncomputable def asS {α : Type} : (x : Option α) → As x some
  | some v => some ⟨v, rfl⟩
  | none => none
noncomputable def asC {α : Type} : (l : List α) → As l fun t : α × List α => t.1 :: t.2
  | x :: r => some ⟨(x, r), rfl⟩
  | [] => none
noncomputable def asNil {α : Type} : (l : List α) → As l fun _ : Unit => []
  | [] => some ⟨(), rfl⟩
  | _ :: _ => none
end Mine

set_option Elab.async false
set_option genSizeOf false
set_option genInjectivity false
set_option backward.match.sparseCases false
set_option bootstrap.genMatcherCode false
set_option tactic.hygienic false
set_option linter.unusedVariables false
namespace Mine
open PySem PySem.Calls PyProof.Rows PySem.W
noncomputable abbrev MM (G : Gl) : Model := model G.prog G.w
variable {G : Gl} {ρ : List Addr} {A : Around} {L : Addr} {ln : List Str} {st : St} {s : Shared} {Q : AV → St → Prop} {E : Value → Shared → Prop}

theorem ret0 (R : Rep G ρ L ln st s) {av : AV} {v : Value} {t : Nat} (hv : VR G ρ av v) (hq : Q av st) : Ret G ρ L ln s Q v { s with toks := t } :=
  ⟨ρ, av, st, hv, (R.toks t).1, (R.toks t).2, hq⟩
theorem retS (R : Rep G ρ L ln st s) {av : AV} {v : Value} (hv : VR G ρ av v) (hq : Q av st) : Ret G ρ L ln s Q v s := ret0 (t := s.toks) R hv hq
theorem none_size (h : Heap) : h.get? h.objs.size = none := Heap.get?_none_of_le (Nat.le_refl _)
theorem Rep.fr (R : Rep G ρ L ln st s) : ∃ m, Fr G.h₀ L s.heap m := let ⟨m, h, _⟩ := R.frame; ⟨m, h, R.base, R.low⟩
theorem Rep.Psize (R : Rep G ρ L ln st s) : s.heap.objs.size ≠ G.P := fun q => by
  obtain ⟨ps, e, _⟩ := R.tab
  rw [← q, none_size] at e; cases e
theorem Rep.push (R : Rep G ρ L ln st s) {ob : Obj} {ao : AO} {t : Nat} (hf : ob.isFreed = false) (o : OR G (ρ ++ [s.heap.objs.size]) (s.heap.push ob) ao s.heap.objs.size) :
    Rep G (ρ ++ [s.heap.objs.size]) L ln { st with σ := st.σ ++ [ao] } { s with heap := s.heap.push ob, toks := t } ∧ Step G L ρ s (ρ ++ [s.heap.objs.size]) { s with heap := s.heap.push ob, toks := t } ∧ (ρ ++ [s.heap.objs.size])[st.σ.length]? = some s.heap.objs.size :=
  R.alloc (fun b o e => Heap.get?_push_of_some _ e) (none_size _) ⟨_, Heap.get?_push_size _ hf⟩ R.Psize o
theorem ret_alloc (R : Rep G ρ L ln st s) {h' : Heap} {a : Addr} {ao : AO} {t : Nat} {m : Str → Option Value} (hm : Rep.Loc G ρ ln st m) (hn : h'.Ns L m) (hk : ∀ b o, b ≠ L → s.heap.get? b = some o → h'.get? b = some o)
    (ha : s.heap.get? a = none) (he : ∃ o, h'.get? a = some o) (hP : a ≠ G.P) (o : OR G (ρ ++ [a]) h' ao a) (hq : Q (.loc st.σ.length) { st with σ := st.σ ++ [ao] }) : Ret G ρ L ln s Q (.ref a) { s with heap := h', toks := t } :=
  let ⟨h1, h2, h3⟩ := R.allocL (t := t) hm hn hk ha he hP o
  ⟨_, _, _, .loc h3, h1, h2, hq⟩
theorem ret_push (R : Rep G ρ L ln st s) {ob : Obj} {ao : AO} {t : Nat} (hf : ob.isFreed = false) (o : OR G (ρ ++ [s.heap.objs.size]) (s.heap.push ob) ao s.heap.objs.size)
    (hq : Q (.loc st.σ.length) { st with σ := st.σ ++ [ao] }) : Ret G ρ L ln s Q (.ref s.heap.objs.size) { s with heap := s.heap.push ob, toks := t } :=
  let ⟨h1, h2, h3⟩ := R.push (t := t) hf o
  ⟨_, _, _, .loc h3, h1, h2, hq⟩

/-! ints, strs, bools -/
section
variable {a b : Int} {t u : Tok}
theorem p_add_int (R : Rep G ρ L ln st s) (h : Q (.int (a + b)) st) : wpAny (MM G) A (binaryOp .Add (.int a t) (.int b u)) (Ret G ρ L ln s Q) E s := PyProof.Rows.add_int (ret0 R (.int _ _) h)
theorem p_sub_int (R : Rep G ρ L ln st s) (h : Q (.int (a - b)) st) : wpAny (MM G) A (binaryOp .Sub (.int a t) (.int b u)) (Ret G ρ L ln s Q) E s := PyProof.Rows.sub_int (ret0 R (.int _ _) h)
theorem p_mul_int (R : Rep G ρ L ln st s) (hm : Builtin.Int.intBits a ≤ 64 ∨ Builtin.Int.intBits b ≤ 64) (h : Q (.int (a * b)) st) : wpAny (MM G) A (binaryOp .Mult (.int a t) (.int b u)) (Ret G ρ L ln s Q) E s :=
  PyProof.Rows.mul_int (ret0 R (.int _ _) h) (hm.elim IntMulOk.of_left IntMulOk.of_right)
theorem p_mod_int (R : Rep G ρ L ln st s) (hb : b ≠ 0) (h : Q (.int (a.fmod b)) st) : wpAny (MM G) A (binaryOp .Mod (.int a t) (.int b u)) (Ret G ρ L ln s Q) E s := PyProof.Rows.mod_int hb (ret0 R (.int _ _) h)
theorem p_div_int (R : Rep G ρ L ln st s) (hb : b ≠ 0) (hp : Builtin.divisionGoesByPylong a b = false) (h : Q (.int (a.fdiv b)) st) : wpAny (MM G) A (binaryOp .FloorDiv (.int a t) (.int b u)) (Ret G ρ L ln s Q) E s :=
  PyProof.Rows.floordiv_int hb (ret0 R (.int _ _) h) (.inl hp)
theorem p_eq_int (R : Rep G ρ L ln st s) (h : Q (.bool (a == b)) st) : wpAny (MM G) A (compareOp .Eq (.int a t) (.int b u)) (Ret G ρ L ln s Q) E s := PyProof.Rows.eq_int (retS R (.bool _) h)
theorem p_ne_int (R : Rep G ρ L ln st s) (h : Q (.bool (a != b)) st) : wpAny (MM G) A (compareOp .NotEq (.int a t) (.int b u)) (Ret G ρ L ln s Q) E s := PyProof.Rows.ne_int (retS R (.bool _) h)
theorem p_lt_int (R : Rep G ρ L ln st s) (h : Q (.bool (decide (a < b))) st) : wpAny (MM G) A (compareOp .Lt (.int a t) (.int b u)) (Ret G ρ L ln s Q) E s := PyProof.Rows.lt_int (retS R (.bool _) h)
theorem p_le_int (R : Rep G ρ L ln st s) (h : Q (.bool (decide (a ≤ b))) st) : wpAny (MM G) A (compareOp .LtE (.int a t) (.int b u)) (Ret G ρ L ln s Q) E s := PyProof.Rows.le_int (retS R (.bool _) h)
theorem p_gt_int (R : Rep G ρ L ln st s) (h : Q (.bool (decide (b < a))) st) : wpAny (MM G) A (compareOp .Gt (.int a t) (.int b u)) (Ret G ρ L ln s Q) E s := PyProof.Rows.gt_int (retS R (.bool _) h)
theorem p_ge_int (R : Rep G ρ L ln st s) (h : Q (.bool (decide (b ≤ a))) st) : wpAny (MM G) A (compareOp .GtE (.int a t) (.int b u)) (Ret G ρ L ln s Q) E s := PyProof.Rows.ge_int (retS R (.bool _) h)
end
theorem p_eq_str {x y : Str} {t u : Tok} (R : Rep G ρ L ln st s) (h : Q (.bool (x == y)) st) : wpAny (MM G) A (compareOp .Eq (.str x t) (.str y u)) (Ret G ρ L ln s Q) E s := PyProof.Rows.eq_str (retS R (.bool _) h)
theorem p_add_str {x y : Str} {t u : Tok} (R : Rep G ρ L ln st s) (hz : x.length + y.length ≤ sizeLine) (h : Q (.str (x ++ y)) st) : wpAny (MM G) A (binaryOp .Add (.str x t) (.str y u)) (Ret G ρ L ln s Q) E s :=
  PyProof.Rows.add_str (fun _ _ => ret0 R (.str _ _) h) hz
theorem p_mul_str {x : Str} {n : Int} {t u : Tok} (R : Rep G ρ L ln st s) (hz : MulOk x n) (h : Q (.str (Txt.mul x n)) st) : wpAny (MM G) A (binaryOp .Mult (.str x t) (.int n u)) (Ret G ρ L ln s Q) E s :=
  SB.mul hz fun _ _ => ret0 R (.str _ _) h
theorem p_is {a b : Bool} (R : Rep G ρ L ln st s) (h : Q (.bool (a == b)) st) : wpAny (MM G) A (compareOp .Is (.bool a) (.bool b)) (Ret G ρ L ln s Q) E s := by
  refine wpAny_of_eq (a := Value.bool (a == b)) ?_ (retS R (.bool _) h)
  cases a <;> cases b <;> rfl
theorem p_isnot {a b : Bool} (R : Rep G ρ L ln st s) (h : Q (.bool (a != b)) st) : wpAny (MM G) A (compareOp .IsNot (.bool a) (.bool b)) (Ret G ρ L ln s Q) E s := by
  refine wpAny_of_eq (a := Value.bool (a != b)) ?_ (retS R (.bool _) h)
  cases a <;> cases b <;> rfl

/-! lists and tuples -/
theorem isl {h : Heap} {a : Addr} {its : Array Value} {n : Nat} (x : h.get? a = some (listOf its n)) : h.IsList a its := ⟨_, x, rfl, n, rfl⟩
theorem ist {h : Heap} {a : Addr} {its : Array Value} {n : Nat} (x : h.get? a = some (tupOf its n)) : IsTup h a its := ⟨_, x, rfl, n, rfl⟩
theorem Rep.list (R : Rep G ρ L ln st s) {l : Nat} {xs : List AV} (h : st.σ[l]? = some (.list xs)) {v : Value} (hv : VR G ρ (.loc l) v) : ∃ a vs n, v = .ref a ∧ ρ[l]? = some a ∧ s.heap.get? a = some (listOf vs.toArray n) ∧ VRs G ρ xs vs := by
  obtain ⟨_, rfl, e⟩ := hv.loc_
  obtain ⟨_, _, g1, g2⟩ := (R.obj _ _ _ h e).list_; exact ⟨_, _, _, rfl, e, g1, g2⟩
theorem Rep.tup (R : Rep G ρ L ln st s) {l : Nat} {xs : List AV} (h : st.σ[l]? = some (.tup xs)) {v : Value} (hv : VR G ρ (.loc l) v) : ∃ a vs n, v = .ref a ∧ ρ[l]? = some a ∧ s.heap.get? a = some (tupOf vs.toArray n) ∧ VRs G ρ xs vs := by
  obtain ⟨_, rfl, e⟩ := hv.loc_
  obtain ⟨_, _, g1, g2⟩ := (R.obj _ _ _ h e).tup_; exact ⟨_, _, _, rfl, e, g1, g2⟩
theorem p_newList (R : Rep G ρ L ln st s) {xs : List AV} {vs : List Value} (h : VRs G ρ xs vs) (hz : xs.length ≤ sizeLine) (hq : Q (.loc st.σ.length) { st with σ := st.σ ++ [.list xs] }) :
    wpAny (MM G) A (newList vs) (Ret G ρ L ln s Q) E s :=
  wpAny_newObj_type (ret_push R rfl (.list (Heap.get?_push_size _ rfl) (h.mono (.snoc _ _))) hq) (by show vs.toArray.size ≤ sizeLine; rw [List.size_toArray, h.length]; exact hz)
theorem p_newTuple (R : Rep G ρ L ln st s) {xs : List AV} {vs : List Value} (h : VRs G ρ xs vs) (hz : xs.length ≤ sizeLine) (hq : Q (.loc st.σ.length) { st with σ := st.σ ++ [.tup xs] }) :
    wpAny (MM G) A (newTuple vs) (Ret G ρ L ln s Q) E s :=
  wpAny_newObj_type (ret_push R rfl (.tup (Heap.get?_push_size _ rfl) (h.mono (.snoc _ _))) hq) (by show vs.toArray.size ≤ sizeLine; rw [List.size_toArray, h.length]; exact hz)
theorem p_add_list (R : Rep G ρ L ln st s) {a b : Nat} {xs ys : List AV} {va vb : Value} (h1 : st.σ[a]? = some (.list xs)) (h2 : st.σ[b]? = some (.list ys)) (va' : VR G ρ (.loc a) va) (vb' : VR G ρ (.loc b) vb)
    (hz : xs.length + ys.length ≤ sizeLine) (hq : Q (.loc st.σ.length) { st with σ := st.σ ++ [.list (xs ++ ys)] }) : wpAny (MM G) A (binaryOp .Add va vb) (Ret G ρ L ln s Q) E s := by
  obtain ⟨_, vs, n, rfl, _, g1, g2⟩ := R.list h1 va'
  obtain ⟨_, ws, m, rfl, _, g3, g4⟩ := R.list h2 vb'
  refine P.add_list g1 g3 (ret_push (ao := .list (xs ++ ys)) R rfl (.list (n := 0) (vs := vs ++ ws) ?_ ((g2.append g4).mono (.snoc _ _))) hq) (by simpa [g2.length, g4.length] using hz)
  rw [Heap.get?_push_size _ rfl]; simp
theorem p_mul_list (R : Rep G ρ L ln st s) {a : Nat} {xs : List AV} {va : Value} {n : Int} {u : Tok} (h1 : st.σ[a]? = some (.list xs)) (va' : VR G ρ (.loc a) va)
    (hn : xs.length * n.toNat ≤ 256 ∧ -1000 ≤ n ∧ n < 1000000) (hq : Q (.loc st.σ.length) { st with σ := st.σ ++ [.list (List.replicate n.toNat xs).flatten] }) : wpAny (MM G) A (binaryOp .Mult va (.int n u)) (Ret G ρ L ln s Q) E s := by
  obtain ⟨_, vs, k, rfl, _, g1, g2⟩ := R.list h1 va'
  obtain ⟨m, hns, hm⟩ := R.frame
  have F : Fr G.h₀ L s.heap m := ⟨hns, R.base, R.low⟩
  refine KMa.mul F (Rep.rest_news (X := [])) (isl g1) (by lia) (by lia) (by rw [g2.length]; exact hn.1) rfl fun D h' F' N' hlt => ?_
  have hD : s.heap.get? D = none := by
    cases q : s.heap.get? D with
    | none => rfl
    | some o =>
      exfalso
      have hN := N' _ (.head _)
      have : (D, o) ∈ Rep.restL G.h₀ s.heap L [] := Rep.rest_mem q hN.2.1 (by simp) hN.2.2
      exact Nat.lt_irrefl _ (hlt _ this)
  refine ret_alloc (ao := .list (List.replicate n.toNat xs).flatten) R hm F'.ns (fun b o hb e => Rep.rest_keep F F' N' (fun p hp => .tail _ hp) b o hb (by simp) e) hD ⟨_, (N' _ (.head _)).1⟩ ?_ ?_ hq
  · intro q
    obtain ⟨ps, e, _⟩ := R.tab
    rw [← q, hD] at e; cases e
  · refine .list (N' _ (.head _)).1 (VRs.mono (.snoc _ _) ?_)
    clear hn hq N' F' hlt
    induction n.toNat with
    | zero => exact .nil
    | succ k ih => rw [List.replicate_succ, List.replicate_succ]; exact g2.append ih
theorem p_getItem (R : Rep G ρ L ln st s) {l : Nat} {xs : List AV} {x : AV} {v : Value} {k : Int} {u : Tok} (h : st.σ[l]? = some (.list xs)) (hv : VR G ρ (.loc l) v) (h0 : 0 ≤ k) (h1 : k < 2 ^ 63) (hx : xs[k.toNat]? = some x) (hq : Q x st) :
    wpAny (MM G) A (getItem v (.int k u)) (Ret G ρ L ln s Q) E s := by
  obtain ⟨_, vs, n, rfl, _, g1, g2⟩ := R.list h hv
  obtain ⟨w, e, hw⟩ := g2.get hx
  exact wpAny_getItem_list (isl g1) h0 h1 (by simpa using e) (retS R hw hq)
theorem p_getItemT (R : Rep G ρ L ln st s) {l : Nat} {xs : List AV} {x : AV} {v : Value} {k : Int} {u : Tok} (h : st.σ[l]? = some (.tup xs)) (hv : VR G ρ (.loc l) v) (h0 : 0 ≤ k) (h1 : k < 2 ^ 63) (hx : xs[k.toNat]? = some x) (hq : Q x st) :
    wpAny (MM G) A (getItem v (.int k u)) (Ret G ρ L ln s Q) E s := by
  obtain ⟨_, vs, n, rfl, _, g1, g2⟩ := R.tup h hv
  obtain ⟨w, e, hw⟩ := g2.get hx
  refine P.getItem_tuple (k := k.toNat) g1 (by lia) h1 ?_ (by simpa using e) (retS R hw hq)
  have hl := (List.getElem?_eq_some_iff.mp e).1
  unfold seqIndex?
  simp only [List.size_toArray]
  have e1 : ¬ k < 0 := by lia
  have e2 : k < (vs.length : Int) := by lia
  simp [e1, h0, e2]
theorem p_len_list (R : Rep G ρ L ln st s) {l : Nat} {xs : List AV} {v : Value} (h : st.σ[l]? = some (.list xs)) (hv : VR G ρ (.loc l) v) (hz : xs.length < 2 ^ 62) (hq : Q (.int xs.length) st) :
    wpAny (MM G) A (call (.builtin "len") [v]) (Ret G ρ L ln s Q) E s := by
  obtain ⟨_, vs, n, rfl, _, g1, g2⟩ := R.list h hv
  have e : vs.toArray.size = xs.length := by rw [List.size_toArray, g2.length]
  exact call_len_list (isl g1) (by rw [e]; lia) (by rw [e]; exact ret0 R (.int _ _) hq)
/-- an object of the store changed by the model's own update -/
theorem ret_set (R : Rep G ρ L ln st s) {l : Nat} {a : Addr} {ao₀ ao : AO} {f : Obj → Obj} {o : Obj} {t : Nat} {av : AV} {v : Value} (e₀ : st.σ[l]? = some ao₀) (ea : ρ[l]? = some a) (ho : s.heap.get? a = some o) (hd : ∀ vs, o.data ≠ .fields vs)
    (hf : (f o).isFreed = false) (hr : (s.heap.update a f).get? a = some (f o) → OR G ρ (s.heap.update a f) ao a) (hv : VR G ρ av v) (hq : Q av { st with σ := st.σ.set l ao }) : Ret G ρ L ln s Q v { s with heap := s.heap.update a f, toks := t } := by
  have he := Heap.get?_update_self f ho hf
  obtain ⟨h1, h2⟩ := R.set (t := t) (h' := s.heap.update a f) e₀ ea (fun b o' hb e => (Heap.get?_update_other _ _ (Ne.symm hb)).trans e) (fun o' e vs => by rw [ho] at e; cases e; exact hd vs) ⟨_, he⟩ (hr he)
  exact ⟨ρ, av, _, hv, h1, h2, hq⟩
theorem p_setItem (R : Rep G ρ L ln st s) {Q : St → Prop} {l : Nat} {xs : List AV} {x : AV} {v w : Value} {k : Int} {u : Tok} (h : st.σ[l]? = some (.list xs)) (hv : VR G ρ (.loc l) v) (h0 : 0 ≤ k) (h1 : k < 2 ^ 63) (hx : k.toNat < xs.length) (hw : VR G ρ x w)
    (hq : Q { st with σ := st.σ.set l (.list (xs.set k.toNat x)) }) : wpAny (MM G) A (setItem v (.int k u) w) (fun _ => RetU G ρ L ln s Q) E s := by
  obtain ⟨a, vs, n, rfl, e, g1, g2⟩ := R.list h hv
  refine ki_setAt g1 h0 h1 (by simp [g2.length]; lia) ?_
  obtain ⟨ρ', av, st', hv', R', S', rfl, rfl⟩ := ret_set (t := s.toks) (av := .none) (v := .none) (ao := .list (xs.set k.toNat x)) (Q := fun av st' => av = .none ∧ st' = { st with σ := st.σ.set l (.list (xs.set k.toNat x)) }) (f := Obj.mapSeq (·.setIfInBounds k.toNat w)) R h e g1 (by simp) rfl (fun he => by
      refine .list (n := n) (vs := vs.set k.toNat w) ?_ (g2.set hw)
      rw [he]; simp [Obj.mapSeq]) .none ⟨rfl, rfl⟩
  exact ⟨_, _, R', S', hq⟩
end Mine

set_option Elab.async false
set_option genSizeOf false
set_option genInjectivity false
set_option backward.match.sparseCases false
set_option bootstrap.genMatcherCode false
set_option tactic.hygienic false
set_option linter.unusedVariables false
namespace Mine
open PySem PySem.Calls PyProof.Rows PySem.W
variable {G : Gl} {ρ : List Addr} {A : Around} {L : Addr} {ln : List Str} {st : St} {s : Shared} {Q : AV → St → Prop} {E : Value → Shared → Prop}

theorem p_append (R : Rep G ρ L ln st s) {l : Nat} {xs : List AV} {x : AV} {v w : Value} (h : st.σ[l]? = some (.list xs)) (hv : VR G ρ (.loc l) v) (hw : VR G ρ x w) (hz : xs.length ≤ sizeLine)
    (hq : Q .none { st with σ := st.σ.set l (.list (xs ++ [x])) }) : wpAny (MM G) A (call (.builtin "list.append") [v, w]) (Ret G ρ L ln s Q) E s := by
  obtain ⟨a, vs, n, rfl, e, g1, g2⟩ := R.list h hv
  refine call_meets F.slot_list_append ⟨_, g1, rfl⟩ F.entry_list_append (F.args_list_append_2 _ _) (list_append a vs.toArray n w (by simpa [g2.length] using hz)) ⟨g1, ?_⟩
  refine ret_set (ao := .list (xs ++ [x])) R h e g1 (by simp) rfl (fun he => ?_) .none hq
  refine .list (n := n + 1) (vs := vs ++ [w]) ?_ (g2.append (.one hw))
  rw [he]; simp [Obj.mapSeq]
theorem p_extend (R : Rep G ρ L ln st s) {l b : Nat} {xs ys : List AV} {v w : Value} (h : st.σ[l]? = some (.list xs)) (h2 : st.σ[b]? = some (.list ys)) (hv : VR G ρ (.loc l) v) (hw : VR G ρ (.loc b) w) (hz : xs.length + ys.length ≤ 4096)
    (hq : Q .none { st with σ := st.σ.set l (.list (xs ++ ys)) }) : wpAny (MM G) A (call (.builtin "list.extend") [v, w]) (Ret G ρ L ln s Q) E s := by
  obtain ⟨a, vs, n, rfl, e, g1, g2⟩ := R.list h hv
  obtain ⟨a2, ws, m, rfl, e2, g3, g4⟩ := R.list h2 hw
  have z1 : vs.toArray.size + ws.toArray.size ≤ 4096 := by simpa [g2.length, g4.length] using hz
  refine call_meets F.slot_list_extend ⟨_, g1, rfl⟩ F.entry_list_extend (F.args_list_extend_2 _ _) (AutoSeq1.list_extend_list_list_0 a vs.toArray n a2 ws.toArray m ?_ (by rw [sizeLine_eq]; lia) (by rw [sizeLine_eq]; lia)) ⟨g1, g3, ?_⟩
  · simp only [Builtin.List.listTooLong, sizeLine_eq, Bool.and_eq_true, decide_eq_true_eq]; lia
  · refine ret_set (ao := .list (xs ++ ys)) R h e g1 (by simp) rfl (fun he => ?_) .none hq
    refine .list (n := if (vs ++ ws).length == vs.length then n else n + 1) (vs := vs ++ ws) ?_ (g2.append g4)
    rw [he]; simp [Obj.mapSeq]
theorem p_tupleOf (R : Rep G ρ L ln st s) {l : Nat} {xs : List AV} {v : Value} (h : st.σ[l]? = some (.list xs)) (hv : VR G ρ (.loc l) v) (hz : xs.length ≤ sizeLine) (hq : Q (.loc st.σ.length) { st with σ := st.σ ++ [.tup xs] }) :
    wpAny (MM G) A (call (.type "tuple") [v]) (Ret G ρ L ln s Q) E s := by
  obtain ⟨a, vs, n, rfl, e, g1, g2⟩ := R.list h hv
  refine call_tuple_list (isl g1) (fun h' hk => ?_) (by simpa [g2.length] using hz)
  obtain ⟨m, hn, hm⟩ := R.frame
  refine ret_alloc (t := s.toks) (ao := .tup xs) R hm ((hn.keeps hk).push _) (fun b o _ e => Heap.get?_push_of_some _ (hk b o e)) ?_ ⟨_, Heap.get?_push_size _ rfl⟩ ?_ (.tup (Heap.get?_push_size _ rfl) (g2.mono (.snoc _ _))) hq
  · cases q : s.heap.get? h'.objs.size with
    | none => rfl
    | some o => exact absurd (Heap.lt_size (hk _ _ q)) (Nat.lt_irrefl _)
  · intro q
    obtain ⟨ps, e, _⟩ := R.tab
    exact absurd (Heap.lt_size (hk _ _ e)) (by rw [← q]; exact Nat.lt_irrefl _)

/-! slices -/
theorem p_slice_from (R : Rep G ρ L ln st s) {l : Nat} {xs : List AV} {v : Value} {k : Nat} {u : Tok} (h : st.σ[l]? = some (.list xs)) (hv : VR G ρ (.loc l) v) (hz : xs.length ≤ sizeLine)
    (hq : Q (.loc st.σ.length) { st with σ := st.σ ++ [.list (xs.drop k)] }) :
    wpAny (MM G) A (do let sl ← newFields "slice" [.int k u, .none, .none]; getItem v sl) (Ret G ρ L ln s Q) E s := by
  obtain ⟨a, vs, n, rfl, e, g1, g2⟩ := R.list h hv
  refine wpAny_bind (wpAny_newObj_type ?_ (by size_fits))
  obtain ⟨R1, S1⟩ := R.grow (t := s.toks) (h' := s.heap.push { cls := .type "slice", data := .fields #[.int k u, .none, .none] }) fun b o e => Heap.get?_push_of_some _ e
  refine wpAny_getItem_list_slice (lo := some k) (hi := none) (st := none) ((isl g1).push _) (Heap.IsSliceOf.new ..) (.int _ _) .none .none (by simp) ?_ (by simpa [g2.length] using hz)
  rw [slicePick_from']
  exact .after S1 (ret_push (ao := .list (xs.drop k)) R1 rfl (.list (Heap.get?_push_size _ rfl) ((g2.drop k).mono (.snoc _ _))) hq)
theorem p_slice_upto (R : Rep G ρ L ln st s) {l : Nat} {xs : List AV} {v : Value} {k : Nat} {u : Tok} (h : st.σ[l]? = some (.list xs)) (hv : VR G ρ (.loc l) v) (hz : xs.length ≤ sizeLine)
    (hq : Q (.loc st.σ.length) { st with σ := st.σ ++ [.list (xs.take k)] }) :
    wpAny (MM G) A (do let sl ← newFields "slice" [.none, .int k u, .none]; getItem v sl) (Ret G ρ L ln s Q) E s := by
  obtain ⟨a, vs, n, rfl, e, g1, g2⟩ := R.list h hv
  refine wpAny_bind (wpAny_newObj_type ?_ (by size_fits))
  obtain ⟨R1, S1⟩ := R.grow (t := s.toks) (h' := s.heap.push { cls := .type "slice", data := .fields #[.none, .int k u, .none] }) fun b o e => Heap.get?_push_of_some _ e
  refine wpAny_getItem_list_slice (lo := none) (hi := some k) (st := none) ((isl g1).push _) (Heap.IsSliceOf.new ..) .none (.int _ _) .none (by simp) ?_ (by simpa [g2.length] using hz)
  rw [slicePick_upto']
  exact .after S1 (ret_push (ao := .list (xs.take k)) R1 rfl (.list (Heap.get?_push_size _ rfl) ((g2.take k).mono (.snoc _ _))) hq)

/-! equality, at any depth -/
noncomputable def eq0 (a b : AV) : Option Bool :=
  onV (onV (onV none (asAB a) fun x => onV none (asAB b) fun y => some (x == y)) (asAS a) fun x => onV none (asAS b) fun y => some (x == y)) (asAI a) fun x => onV none (asAI b) fun y => some (x == y)
noncomputable def and2O (a b : Option Bool) : Option Bool := a.bind fun x => b.map fun y => x && y
noncomputable def eqVs (f : AV → AV → Option Bool) : List AV → List AV → Option Bool
  | [], _ => some true
  | x :: xs, l => onV (some true) (asC l) fun t => and2O (f x t.1) (eqVs f xs t.2)
noncomputable def eqO (f : AV → AV → Option Bool) (a b : Option AO) : Option Bool :=
  onV (onV none (asOT a) fun xs => onV none (asOT b) fun ys => (eqVs f xs ys).map fun b => b && xs.length == ys.length) (asOL a) fun xs => onV none (asOL b) fun ys => if xs.length = ys.length then eqVs f xs ys else some false
noncomputable def eqV : Nat → List AO → AV → AV → Option Bool
  | 0, _, a, b => eq0 a b
  | n + 1, σ, a, b => onV (eq0 a b) (asAL a) fun x => onV (eq0 a b) (asAL b) fun y => if x = y then some true else eqO (eqV n σ) σ[x]? σ[y]?
theorem and2O_s {a b : Option Bool} {r : Bool} (h : and2O a b = some r) : ∃ x y, a = some x ∧ b = some y ∧ r = (x && y) :=
  (Option.bind_eq_some_iff.mp h).imp fun x h => (Option.map_eq_some_iff.mp h.2).imp fun y k => ⟨h.1, k.1, k.2.symm⟩
end Mine

set_option Elab.async false
set_option genSizeOf false
set_option genInjectivity false
set_option backward.match.sparseCases false
set_option bootstrap.genMatcherCode false
set_option tactic.hygienic false
set_option linter.unusedVariables false
namespace Mine
open PySem PySem.Calls PyProof.Rows PySem.W PySem.SeqAt
variable {G : Gl} {ρ : List Addr} {A : Around} {L : Addr} {ln : List Str} {st : St} {s : Shared} {Q : AV → St → Prop} {E : Value → Shared → Prop}

set_option tactic.hygienic true in
theorem eqVs_at {f : AV → AV → Option Bool} {xs : List AV} : ∀ {ys : List AV} {r : Bool}, eqVs f xs ys = some r →
    ∃ e : Nat → Bool, (∀ (j : Nat) (x y : AV), xs[j]? = some x → ys[j]? = some y → f x y = some (e j)) ∧ r = (List.range (min xs.length ys.length)).all e := by
  induction xs with
  | nil => exact fun h => ⟨fun _ => true, fun j x y e => noS e, (Option.some.inj h).symm.trans (by rw [List.length_nil, Nat.zero_min]; rfl)⟩
  | cons x xs ih =>
    intro ys r h
    cases ys with
    | nil => exact ⟨fun _ => true, fun j x y _ e => noS e, (Option.some.inj h).symm⟩
    | cons y ys =>
      obtain ⟨b, c, h1, h2, hr⟩ := and2O_s h
      obtain ⟨e, he, hc⟩ := ih h2
      refine ⟨fun j => Nat.casesOn j b e, fun j x' y' e1 e2 => ?_, ?_⟩
      · cases j with
        | zero => exact Option.some.inj e1 ▸ Option.some.inj e2 ▸ h1
        | succ j => exact he j x' y' e1 e2
      · rw [List.length_cons, List.length_cons, Nat.succ_min_succ, List.range_succ_eq_map, List.all_cons, List.all_map, hr, hc]
        rfl
theorem Around.in1_units (A : Around) : A.in1.units = A.units + 1 := rfl
theorem eq0_at {a b : AV} {r : Bool} {va vb : Value} (h : eq0 a b = some r) (ha : VR G ρ a va) (hb : VR G ρ b vb) : EqAt A s va vb r := by
  rcases onV_b h with ⟨x, e, h⟩ | h
  · obtain ⟨y, e', h⟩ := onV_s h
    obtain ⟨t, q⟩ := (show VR G ρ (.int x) va from e ▸ ha)
    obtain ⟨u, q'⟩ := (show VR G ρ (.int y) vb from e' ▸ hb)
    rw [q, q', ← Option.some.inj h]; exact EqAt.int_int _ _ _ _
  rcases onV_b h with ⟨x, e, h⟩ | h
  · obtain ⟨y, e', h⟩ := onV_s h
    obtain ⟨t, q⟩ := (show VR G ρ (.str x) va from e ▸ ha)
    obtain ⟨u, q'⟩ := (show VR G ρ (.str y) vb from e' ▸ hb)
    rw [q, q', ← Option.some.inj h]; exact EqAt.str_str _ _ _ _
  · obtain ⟨x, e, h⟩ := onV_s h
    obtain ⟨y, e', h⟩ := onV_s h
    rw [show va = .bool x from (e ▸ ha : VR G ρ (.bool x) va), show vb = .bool y from (e' ▸ hb : VR G ρ (.bool y) vb), ← Option.some.inj h]; exact EqAt.bool_bool _ _
theorem eqO_at (R : Rep G ρ L ln st s) {f : AV → AV → Option Bool} (hf : ∀ {x y : AV} {r : Bool} {vx vy : Value}, f x y = some r → VR G ρ x vx → VR G ρ y vy → EqAt A.in1 s vx vy r)
    {a b : Nat} {aa ab : Addr} {r : Bool} (h : eqO f st.σ[a]? st.σ[b]? = some r) (e1 : ρ[a]? = some aa) (e2 : ρ[b]? = some ab) (hu : A.units < cLine) : RcAt A s (.ref aa) (.ref ab) r := by
  have item : ∀ {xs ys : List AV} {vs ws : List Value} {e : Nat → Bool} {j : Nat}, VRs G ρ xs vs → VRs G ρ ys ws → (∀ (j : Nat) (x y : AV), xs[j]? = some x → ys[j]? = some y → f x y = some (e j)) → (h1 : j < vs.toArray.size) → (h2 : j < ws.toArray.size) → EqAt A.in1 s vs.toArray[j] ws.toArray[j] (e j) :=
    fun g2 g4 he h1 h2 => (g2.get' (List.getElem?_eq_getElem (by simpa using h1))).elim fun x q => (g4.get' (List.getElem?_eq_getElem (by simpa using h2))).elim fun y q' => hf (he _ x y q.1 q'.1) q.2 q'.2
  have sz : ∀ {xs : List AV} {vs : List Value}, VRs G ρ xs vs → vs.toArray.size = xs.length := fun g => List.size_toArray.trans g.length
  rcases onV_b h with ⟨xs, h1, h⟩ | h
  · obtain ⟨ys, h2, h⟩ := onV_s h
    obtain ⟨vs, n, g1, g2⟩ := (R.obj _ _ _ h1 e1).list_
    obtain ⟨ws, m, g3, g4⟩ := (R.obj _ _ _ h2 e2).list_
    rcases ite_b h with ⟨hl, h⟩ | ⟨hl, h⟩
    · obtain ⟨e, he, hr⟩ := eqVs_at h
      rw [hr, ← hl, Nat.min_self, ← sz g2]
      exact RcAt.lists (isl g1) (isl g3) (by rw [sz g2, sz g4, hl]) (by lia) fun j h1 h2 => item g2 g4 he h1 h2
    · rw [← Option.some.inj h]
      exact RcAt.lists_lengths (isl g1) (isl g3) (by rw [sz g2, sz g4]; exact bne_iff_ne.mpr hl) (by lia)
  · obtain ⟨xs, h1, h⟩ := onV_s h
    obtain ⟨ys, h2, h⟩ := onV_s h
    obtain ⟨vs, n, g1, g2⟩ := (R.obj _ _ _ h1 e1).tup_
    obtain ⟨ws, m, g3, g4⟩ := (R.obj _ _ _ h2 e2).tup_
    obtain ⟨r', hv, hr⟩ := Option.map_eq_some_iff.mp h
    obtain ⟨e, he, hr'⟩ := eqVs_at hv
    rw [← hr, hr', ← sz g2, ← sz g4]
    exact RcAt.tuples (ist g1) (ist g3) (by lia) fun j h1 h2 => item g2 g4 he h1 h2
theorem eqV_at (R : Rep G ρ L ln st s) (n : Nat) : ∀ {A : Around} {a b : AV} {r : Bool} {va vb : Value}, eqV n st.σ a b = some r → VR G ρ a va → VR G ρ b vb → A.units + n < cLine → EqAt A s va vb r := by
  induction n with
  | zero => exact fun h ha hb _ => eq0_at h ha hb
  | succ n ih =>
    intro A a b r va vb h ha hb hu
    rcases onV_b h with ⟨x, ea, h⟩ | h
    · rcases onV_b h with ⟨y, eb, h⟩ | h
      · obtain ⟨aa, q, e1⟩ := (show VR G ρ (.loc x) va from ea ▸ ha)
        obtain ⟨ab, q', e2⟩ := (show VR G ρ (.loc y) vb from eb ▸ hb)
        rw [q, q']
        rcases ite_b h with ⟨hl, h3⟩ | ⟨hl, h3⟩
        · subst hl; rw [← Option.some.inj h3, Option.some.inj (e1.symm.trans e2)]; exact EqAt.same _
        · exact EqAt.of_refs (fun q => hl (nodup_inj R.nod e1 (q ▸ e2))) (eqO_at R (fun h ha hb => ih h ha hb (by rw [Around.in1_units]; lia)) h3 e1 e2 (by lia))
      · exact eq0_at h ha hb
    · exact eq0_at h ha hb

/-- == of two objects -/
theorem p_eq (R : Rep G ρ L ln st s) (n : Nat) {a b : Nat} {r : Bool} {va vb : Value} (h : eqO (eqV n st.σ) st.σ[a]? st.σ[b]? = some r) (ha : VR G ρ (.loc a) va) (hb : VR G ρ (.loc b) vb) (hu : A.units + n + 1 < cLine)
    (hq : Q (.bool r) st) : wpAny (MM G) A (compareOp .Eq va vb) (Ret G ρ L ln s Q) E s := by
  obtain ⟨_, rfl, e1⟩ := ha.loc_
  obtain ⟨_, rfl, e2⟩ := hb.loc_
  exact eqO_at (A := A) R (fun h ha hb => eqV_at R n h ha hb (by rw [Around.in1_units]; lia)) h e1 e2 (by lia) _ _ _ _ (retS R (.bool _) hq)
/-- == of an object with itself -/
theorem p_eq_self (R : Rep G ρ L ln st s) {a : Nat} {xs : List AV} {va vb : Value} (h : st.σ[a]? = some (.tup xs) ∨ st.σ[a]? = some (.list xs)) (ha : VR G ρ (.loc a) va) (hb : VR G ρ (.loc a) vb) (hu : A.units < cLine)
    (hq : Q (.bool true) st) : wpAny (MM G) A (compareOp .Eq va vb) (Ret G ρ L ln s Q) E s := by
  obtain ⟨x, e, e1⟩ := ha.loc_
  obtain ⟨y, e', e2⟩ := hb.loc_
  rw [e, e', ← Option.some.inj (e1.symm.trans e2)]
  have hall : ∀ l : List Nat, (l.all fun _ => true) = true := fun l => List.all_eq_true.mpr fun _ _ => rfl
  rcases h with h | h
  · obtain ⟨_, _, g1, g2⟩ := (R.obj _ _ _ h e1).tup_
    refine SeqAt.eq_tupleAt (e := fun _ => true) (ist g1) (ist g1) hu (fun j _ _ => EqAt.same _) ?_
    rw [hall, beq_self_eq_true]; exact retS R (.bool _) hq
  · obtain ⟨_, _, g1, g2⟩ := (R.obj _ _ _ h e1).list_
    refine SeqAt.eq_listAt (e := fun _ => true) (isl g1) (isl g1) rfl hu (fun j _ _ => EqAt.same _) ?_
    rw [hall]; exact retS R (.bool _) hq

/-- v in xs, xs a list or a tuple of ints -/
noncomputable def memI (i : Int) : List AV → Option Bool
  | [] => some false
  | x :: r => onV none (asAI x) fun j => (memI i r).map fun b => (j == i) || b
noncomputable def isI (i : Int) : Value → Bool
  | .int j _ => j == i
  | _ => false
theorem memI_any {i : Int} {t : Tok} {xs : List AV} : ∀ {vs : List Value}, VRs G ρ xs vs → ∀ {r : Bool}, memI i xs = some r → ∃ e : Value → Bool, (∀ y ∈ vs, ∀ (A : Around) (s : Shared), EqAt A s y (.int i t) (e y)) ∧ r = vs.any e := by
  refine fun {vs} g {r} h => ⟨isI i, ?_⟩
  induction xs generalizing vs r with
  | nil => rw [g.nil_, ← Option.some.inj h]; exact ⟨fun y hy => (List.not_mem_nil hy).elim, rfl⟩
  | cons x xs ih =>
    obtain ⟨j, e, h⟩ := onV_s h
    obtain ⟨b, hb, hr⟩ := Option.map_eq_some_iff.mp h
    obtain ⟨v, ws, e', h1, h2⟩ := g.cons_
    obtain ⟨k1, k2⟩ := ih h2 hb
    obtain ⟨u, q⟩ := (show VR G ρ (.int j) v from e ▸ h1)
    rw [e', q, ← hr, k2]
    exact ⟨fun y hy A s => (List.mem_cons.mp hy).elim (fun hy => hy ▸ EqAt.int_int _ _ _ _) fun hy => k1 y hy A s, rfl⟩
theorem p_in (R : Rep G ρ L ln st s) {l : Nat} {xs : List AV} {v : Value} {i : Int} {t : Tok} {r : Bool} (h : st.σ[l]? = some (.list xs)) (hv : VR G ρ (.loc l) v) (hm : memI i xs = some r) (hq : Q (.bool r) st) :
    wpAny (MM G) A (compareOp .In (.int i t) v) (Ret G ρ L ln s Q) E s := by
  obtain ⟨_, vs, n, rfl, _, g1, g2⟩ := R.list h hv
  obtain ⟨e, he, rfl⟩ := memI_any (t := t) g2 hm
  exact SeqAt.in_listAt e (isl g1) (fun y hy => he y (by simpa using hy) _ _) (by simpa using retS R (.bool _) hq)
theorem p_notin (R : Rep G ρ L ln st s) {l : Nat} {xs : List AV} {v : Value} {i : Int} {t : Tok} {r : Bool} (h : st.σ[l]? = some (.list xs)) (hv : VR G ρ (.loc l) v) (hm : memI i xs = some r) (hq : Q (.bool (!r)) st) :
    wpAny (MM G) A (compareOp .NotIn (.int i t) v) (Ret G ρ L ln s Q) E s := by
  obtain ⟨_, vs, n, rfl, _, g1, g2⟩ := R.list h hv
  obtain ⟨e, he, rfl⟩ := memI_any (t := t) g2 hm
  exact SeqAt.notIn_listAt e (isl g1) (fun y hy => he y (by simpa using hy) _ _) (by simpa using retS R (.bool _) hq)
theorem p_inT (R : Rep G ρ L ln st s) {l : Nat} {xs : List AV} {v : Value} {i : Int} {t : Tok} {r : Bool} (h : st.σ[l]? = some (.tup xs)) (hv : VR G ρ (.loc l) v) (hm : memI i xs = some r) (hq : Q (.bool r) st) :
    wpAny (MM G) A (compareOp .In (.int i t) v) (Ret G ρ L ln s Q) E s := by
  obtain ⟨_, vs, n, rfl, _, g1, g2⟩ := R.tup h hv
  obtain ⟨e, he, rfl⟩ := memI_any (t := t) g2 hm
  exact SeqAt.in_tupleAt e (ist g1) (fun y hy => he y (by simpa using hy) _ _) (by simpa using retS R (.bool _) hq)
end Mine

set_option Elab.async false
set_option genSizeOf false
set_option genInjectivity false
set_option backward.match.sparseCases false
set_option bootstrap.genMatcherCode false
set_option tactic.hygienic false
set_option linter.unusedVariables false
namespace Mine
open PySem PySem.Calls PyProof.Rows PySem.W PySem.SeqAt
variable {G : Gl} {ρ : List Addr} {A : Around} {L : Addr} {ln : List Str} {st : St} {s : Shared} {Q : AV → St → Prop} {E : Value → Shared → Prop}

noncomputable def intsOf : List AV → Option (List Int)
  | [] => some []
  | x :: r => onV none (asAI x) fun i => (intsOf r).map (i :: ·)
noncomputable def strsOf : List AV → Option (List Str)
  | [] => some []
  | x :: r => onV none (asAS x) fun i => (strsOf r).map (i :: ·)
noncomputable def boolsOf : List AV → Option (List Bool)
  | [] => some []
  | x :: r => onV none (asAB x) fun i => (boolsOf r).map (i :: ·)
theorem ints_items {xs : List AV} {vs : List Value} {is : List Int} (g : VRs G ρ xs vs) (h : intsOf xs = some is) : ∃ ps : List (Int × Tok), vs = ps.map (fun p => .int p.1 p.2) ∧ ps.map (·.1) = is := by
  induction xs generalizing vs is with
  | nil => exact ⟨[], g.nil_, Option.some.inj h⟩
  | cons x xs ih =>
    obtain ⟨i, e, h⟩ := onV_s h
    obtain ⟨r, hr, h⟩ := Option.map_eq_some_iff.mp h
    obtain ⟨v, ws, e', h1, h2⟩ := g.cons_
    obtain ⟨t, q⟩ := (show VR G ρ (.int i) v from e ▸ h1)
    obtain ⟨ps, k1, k2⟩ := ih h2 hr
    exact ⟨(i, t) :: ps, by rw [e', q, k1]; rfl, by rw [← h, ← k2]; rfl⟩
theorem strs_are {xs : List AV} {vs : List Value} {is : List Str} (g : VRs G ρ xs vs) (h : strsOf xs = some is) : StrsAre vs is := by
  induction xs generalizing vs is with
  | nil => rw [g.nil_, ← Option.some.inj h]; exact .nil
  | cons x xs ih =>
    obtain ⟨i, e, h⟩ := onV_s h
    obtain ⟨r, hr, h⟩ := Option.map_eq_some_iff.mp h
    obtain ⟨v, ws, e', h1, h2⟩ := g.cons_
    obtain ⟨t, q⟩ := (show VR G ρ (.str i) v from e ▸ h1)
    rw [e', q, ← h]; exact .cons _ _ (ih h2 hr)
theorem bools_are {xs : List AV} {vs : List Value} {is : List Bool} (g : VRs G ρ xs vs) (h : boolsOf xs = some is) : vs = is.map .bool := by
  induction xs generalizing vs is with
  | nil => rw [g.nil_, ← Option.some.inj h]; rfl
  | cons x xs ih =>
    obtain ⟨i, e, h⟩ := onV_s h
    obtain ⟨r, hr, h⟩ := Option.map_eq_some_iff.mp h
    obtain ⟨v, ws, e', h1, h2⟩ := g.cons_
    rw [e', show v = .bool i from (e ▸ h1 : VR G ρ (.bool i) v), ih h2 hr, ← h]; rfl

/-- what has grown: the same state -/
theorem retG (R : Rep G ρ L ln st s) {h' : Heap} {t : Nat} {av : AV} {v : Value} (hk : ∀ b o, s.heap.get? b = some o → h'.get? b = some o) (hv : VR G ρ av v) (hq : Q av st) : Ret G ρ L ln s Q v { s with heap := h', toks := t } :=
  let ⟨h1, h2⟩ := R.grow (t := t) hk
  ⟨ρ, av, st, hv, h1, h2, hq⟩
theorem p_sum (R : Rep G ρ L ln st s) (hh : A.handled = none) {l : Nat} {xs : List AV} {v : Value} {is : List Int} (h : st.σ[l]? = some (.list xs)) (hv : VR G ρ (.loc l) v) (hi : intsOf xs = some is) (hq : Q (.int is.sum) st) :
    wpAny (MM G) A (call (.builtin "sum") [v]) (Ret G ρ L ln s Q) E s := by
  obtain ⟨_, vs, n, rfl, _, g1, g2⟩ := R.list h hv
  obtain ⟨ps, e, rfl⟩ := ints_items g2 hi
  refine sum_intListG hh (xs := ps.toArray) (show s.heap.IsList _ (intItems ps.toArray) from (show vs.toArray = intItems ps.toArray by rw [e, intItems, List.map_toArray]) ▸ isl g1) fun h' tk t' hk => retG R hk (.int _ t') ?_
  rw [preSum_eq, List.take_of_length_le (by simp)]; exact hq
theorem p_min (R : Rep G ρ L ln st s) (hh : A.handled = none) {a b : Int} {t u : Tok} (hq : Q (.int (if b < a then b else a)) st) : wpAny (MM G) A (call (.builtin "min") [.int a t, .int b u]) (Ret G ρ L ln s Q) E s :=
  min_two_ints hh fun h' tk hk => retG R hk (by split <;> exact .int _ _) hq
theorem p_max (R : Rep G ρ L ln st s) (hh : A.handled = none) {a b : Int} {t u : Tok} (hq : Q (.int (if b > a then b else a)) st) : wpAny (MM G) A (call (.builtin "max") [.int a t, .int b u]) (Ret G ρ L ln s Q) E s :=
  max_two_ints hh fun h' tk hk => retG R hk (by split <;> exact .int _ _) hq
theorem p_all (R : Rep G ρ L ln st s) (hh : A.handled = none) {l : Nat} {xs : List AV} {v : Value} {is : List Bool} (h : st.σ[l]? = some (.list xs)) (hv : VR G ρ (.loc l) v) (hi : boolsOf xs = some is) (hq : Q (.bool (is.all id)) st) :
    wpAny (MM G) A (call (.builtin "all") [v]) (Ret G ρ L ln s Q) E s := by
  obtain ⟨a, vs, n, rfl, _, g1, g2⟩ := R.list h hv
  have hlt := Heap.lt_size g1
  refine call_all_walk (wpAny_pyIter_list (isl g1) ⟨s.heap.objs.size, _, _, _, _, _, fun i => is.getD i false, rfl, Walks.list (A := A.in1) hh s.heap.objs.size a (Nat.ne_of_lt hlt) vs.toArray, ⟨⟨_, Heap.get?_push_size _ rfl, rfl, rfl⟩, (isl g1).push _⟩, ?_, fun h' tk hk => ?_⟩)
  · intro i v s Q E hP hQ
    have e := bools_are g2 hi
    rw [e, List.getElem?_toArray, List.getElem?_map] at hP
    obtain ⟨b, q, q'⟩ := Option.map_eq_some_iff.mp hP
    rw [← q']
    exact wpAny_truthy_bool (by rw [show b = is.getD i false from by rw [List.getD_eq_getElem?_getD, q]; rfl] ; exact hQ)
  · have e : (List.range vs.toArray.size).all (fun i => is.getD i false) = is.all id := by
      have hl : vs.toArray.size = is.length := by rw [bools_are g2 hi, List.size_toArray, List.length_map]
      rw [hl]
      clear hq hi hl
      induction is with
      | nil => rfl
      | cons b r ih => rw [List.length_cons, List.range_succ_eq_map, List.all_cons, List.all_map, List.all_cons, ← ih]; rfl
    rw [e]
    refine retG (s := s) R (fun b o e => ?_) (.bool _) hq
    have hb := Heap.lt_size e
    exact hk b o (by rw [List.mem_singleton]; exact Nat.ne_of_lt hb) (Heap.get?_push_of_some _ e)

theorem p_len_str (R : Rep G ρ L ln st s) {x : Str} {t : Tok} (hz : x.length < 2 ^ 62) (hq : Q (.int x.length) st) : wpAny (MM G) A (call (.builtin "len") [.str x t]) (Ret G ρ L ln s Q) E s :=
  PyProof.Rows.len_str (by lia) (ret0 R (.int _ _) hq)
theorem p_count_str (R : Rep G ρ L ln st s) {x y : Str} {t u : Tok} (hq : Q (.int (Txt.count x y)) st) : wpAny (MM G) A (call (.builtin "str.count") [.str x t, .str y u]) (Ret G ρ L ln s Q) E s :=
  SC.count (ret0 R (.int _ _) hq)
theorem p_join (R : Rep G ρ L ln st s) {l : Nat} {xs : List AV} {v : Value} {x : Str} {t : Tok} {ys : List Str} (h : st.σ[l]? = some (.list xs)) (hv : VR G ρ (.loc l) v) (hi : strsOf xs = some ys)
    (hz : (ys.map (·.length)).sum + ys.length * x.length ≤ 16777216) (hq : Q (.str (Txt.join x ys)) st) : wpAny (MM G) A (call (.builtin "str.join") [.str x t, v]) (Ret G ρ L ln s Q) E s := by
  obtain ⟨_, vs, n, rfl, _, g1, g2⟩ := R.list h hv
  exact join_list (isl g1) (by simpa using strs_are g2 hi) hz fun t' k => ret0 R (.str _ _) hq
theorem p_item_str (R : Rep G ρ L ln st s) {x : Str} {t u : Tok} {k : Int} {c : Nat} (h0 : 0 ≤ k) (h1 : k < 2 ^ 63) (hc : x.cps[k.toNat]? = some c) (hq : Q (.str ⟨#[c]⟩) st) :
    wpAny (MM G) A (getItem (.str x t) (.int k u)) (Ret G ρ L ln s Q) E s := by
  refine PyProof.Rows.getItem_str (c := c) (by rw [Bool.or_eq_false_iff]; exact ⟨decide_eq_false (by lia), decide_eq_false (by lia)⟩) ?_ (ret0 R (.str _ _) hq)
  have hl : k.toNat < x.length := (Array.getElem?_eq_some_iff.mp hc).1
  unfold seqIndex?
  have e1 : ¬ k < 0 := by lia
  have e2 : k < (x.length : Int) := by have := Int.toNat_of_nonneg h0; lia
  simp [e1, h0, e2, hc]
end Mine

set_option Elab.async false
set_option genSizeOf false
set_option genInjectivity false
set_option backward.match.sparseCases false
set_option bootstrap.genMatcherCode false
set_option tactic.hygienic false
set_option linter.unusedVariables false
namespace Mine
open PySem PySem.Calls PyProof.Rows PySem.W PySem.SeqAt
variable {G : Gl} {ρ : List Addr} {A : Around} {L : Addr} {ln : List Str} {st : St} {s : Shared} {Q : AV → St → Prop} {E : Value → Shared → Prop}

theorem isStr_str (x y : Str) (t : Tok) : (Value.str x t).isStr y = (x == y) := rfl
theorem lookup_cons' {x y : Str} {av : AV} {r : List (Str × AV)} : ((y, av) :: r).lookup x = if y == x then some av else r.lookup x := by
  rw [List.lookup_cons]
  by_cases h : y = x
  · subst h; simp
  · rw [if_neg (by simpa using h), (by simpa using fun e => h e.symm : (x == y) = false)]
theorem getL_cons {x y : Str} {hh : Int} {t : Tok} {v : Value} {es : List DictEntry} : PySem.W.getL x (⟨hh, .str y t, v⟩ :: es) = if y == x then some (some v) else PySem.W.getL x es := by
  unfold PySem.W.getL
  have hr : (DictEntry.refKey ⟨hh, .str y t, v⟩) = false := rfl
  rw [List.find?_cons, List.any_cons, hr, Bool.false_or]
  show (match (match y == x with | true => some (⟨hh, .str y t, v⟩ : DictEntry) | false => _) with | some e => _ | none => _) = _
  cases y == x <;> rfl
theorem KVs.getL {x : Str} {kv : List (Str × AV)} {es : List DictEntry} (h : KVs G ρ kv es) : match kv.lookup x with | some av => ∃ v, getL x es = some (some v) ∧ VR G ρ av v | none => getL x es = some none := by
  induction kv generalizing es with
  | nil => rw [h.nil_]; rfl
  | cons p kv ih =>
    obtain ⟨t, v, es', e, h1, h2⟩ := h.cons_
    rw [e, lookup_cons', getL_cons]
    cases p.1 == x with
    | true => exact ⟨v, rfl, h1⟩
    | false => exact ih h2
noncomputable def putS (x : Str) (av : AV) : List (Str × AV) → List (Str × AV)
  | [] => [(x, av)]
  | (y, b) :: r => if y == x then (y, av) :: r else (y, b) :: putS x av r
theorem putL_hit {x y : Str} {h h0 : Int} {k v v0 : Value} {t : Tok} {es : List DictEntry} (q : (y == x) = true) : PySem.W.putL x h k v (⟨h0, .str y t, v0⟩ :: es) = ⟨h0, .str y t, v⟩ :: es := if_pos q
theorem putL_miss {x y : Str} {h h0 : Int} {k v v0 : Value} {t : Tok} {es : List DictEntry} (q : ¬ (y == x) = true) : PySem.W.putL x h k v (⟨h0, .str y t, v0⟩ :: es) = ⟨h0, .str y t, v0⟩ :: PySem.W.putL x h k v es := if_neg q
theorem KVs.putL {x : Str} {av : AV} {v : Value} {t : Tok} (hv : VR G ρ av v) {kv : List (Str × AV)} {es : List DictEntry} (h : KVs G ρ kv es) : KVs G ρ (putS x av kv) (putL x (PyData.keyHash G.w.params x) (.str x t) v es) := by
  induction kv generalizing es with
  | nil => rw [h.nil_]; exact .cons hv .nil
  | cons p kv ih =>
    obtain ⟨t, v, es', e, h1, h2⟩ := h.cons_
    rw [e]
    by_cases q : (p.1 == x) = true
    · rw [putL_hit q, show putS x av (p :: kv) = (p.1, av) :: kv from if_pos q]; exact .cons hv h2
    · rw [putL_miss q, show putS x av (p :: kv) = (p.1, p.2) :: putS x av kv from if_neg q]; exact .cons h1 (ih h2)
theorem KVs.length {kv : List (Str × AV)} {es : List DictEntry} (h : KVs G ρ kv es) : es.length = kv.length := A2.length h

/-- by codes -/
noncomputable def putK (k : Nat) (av : AV) : List (Nat × AV) → List (Nat × AV)
  | [] => [(k, av)]
  | (j, b) :: r => if j = k then (j, av) :: r else (j, b) :: putK k av r
noncomputable def getK (k : Nat) : List (Nat × AV) → Option AV
  | [] => none
  | (j, b) :: r => if j = k then some b else getK k r
theorem nm_inj (hn : G.nms.Nodup) {j k : Nat} (hj : j < G.nms.length) (hk : k < G.nms.length) (e : G.nm j = G.nm k) : j = k := by
  unfold Gl.nm at e
  rw [List.getD_eq_getElem?_getD, List.getD_eq_getElem?_getD, List.getElem?_eq_getElem hj, List.getElem?_eq_getElem hk] at e
  simp only [Option.getD_some] at e
  exact nodup_inj hn (List.getElem?_eq_getElem hj) (by rw [List.getElem?_eq_getElem hk, e])
theorem named_get (hn : G.nms.Nodup) {k : Nat} (hk : k < G.nms.length) : ∀ {kvs : List (Nat × AV)}, (∀ p ∈ kvs, p.1 < G.nms.length) → (named G kvs).lookup (G.nm k) = getK k kvs
  | [], _ => rfl
  | (j, b) :: r, h => by
    have hj := h _ (.head _)
    rw [named, List.map_cons, lookup_cons', getK]
    by_cases q : j = k
    · subst q; simp
    · have : (G.nm j == G.nm k) = false := by simpa using fun e => q (nm_inj hn hj hk e)
      rw [this, if_neg (by simp), if_neg q]
      exact named_get hn hk fun p hp => h p (.tail _ hp)
theorem named_put (hn : G.nms.Nodup) {k : Nat} (hk : k < G.nms.length) {av : AV} : ∀ {kvs : List (Nat × AV)}, (∀ p ∈ kvs, p.1 < G.nms.length) → putS (G.nm k) av (named G kvs) = named G (putK k av kvs)
  | [], _ => rfl
  | (j, b) :: r, h => by
    have hj := h _ (.head _)
    rw [named, List.map_cons, putS, putK]
    by_cases q : j = k
    · subst q; simp
    · have : (G.nm j == G.nm k) = false := by simpa using fun e => q (nm_inj hn hj hk e)
      rw [this, if_neg (by simp), if_neg q]
      simp only [List.map_cons]
      exact congrArg _ (named_put hn hk fun p hp => h p (.tail _ hp))
theorem putK_mem {k : Nat} {av : AV} {kvs : List (Nat × AV)} (hk : k < G.nms.length) (h : ∀ p ∈ kvs, p.1 < G.nms.length) : ∀ p ∈ putK k av kvs, p.1 < G.nms.length := by
  induction kvs with
  | nil => intro p hp; rcases List.mem_singleton.mp hp with rfl; exact hk
  | cons q r ih =>
    obtain ⟨j, b⟩ := q
    intro p hp
    unfold putK at hp
    split at hp
    · rcases List.mem_cons.mp hp with rfl | hp
      · exact h (j, b) (.head _)
      · exact h p (.tail _ hp)
    · rcases List.mem_cons.mp hp with rfl | hp
      · exact h (j, b) (.head _)
      · exact ih (fun p hp => h p (.tail _ hp)) p hp
theorem putK_length {k : Nat} {av : AV} : ∀ (kvs : List (Nat × AV)), (putK k av kvs).length ≤ kvs.length + 1
  | [] => by simp [putK]
  | (j, b) :: r => by
    unfold putK
    split
    · simp
    · have := putK_length (k := k) (av := av) r; simp; omega

/-- the class's answers that attribute access asks -/
structure ClsOk (G : Gl) (C : Addr) : Prop where
  get : findIn G.K (.ref C) "__getattribute__" = some (some (.builtin "object.__getattribute__"))
  hook : findIn G.K (.ref C) "__getattr__" = some none
  dict : hasDictIn G.K C = true
  set : findIn G.K (.ref C) "__setattr__" = some (some (.builtin "object.__setattr__"))

/-- what of the world is kept fixed -/
structure GlOk (G : Gl) : Prop where
  X : G.K.In G.h₀
  nms : G.nms.Nodup
  low : ∃ p loose mean mg mb, Top p loose mean mg mb G.h₀

theorem Rep.K (Wk : GlOk G) (R : Rep G ρ L ln st s) : G.K.In s.heap := Wk.X.keeps R.base
theorem Rep.fr' (R : Rep G ρ L ln st s) : ∃ m, Fr G.h₀ L s.heap m := let ⟨m, h, _⟩ := R.frame; ⟨m, h, R.base, R.low⟩

theorem handedR {av : AV} {v : Value} (h : VR G ρ av v) (hb : ∀ n, av ≠ .blt n) : handedIn v = true := by
  cases av with
  | none => rw [h.none_]; rfl
  | bool => rw [h.bool_]; rfl
  | int => obtain ⟨t, e⟩ := h.int_; rw [e]; rfl
  | str => obtain ⟨t, e⟩ := h.str_; rw [e]; rfl
  | loc => obtain ⟨t, e, _⟩ := h.loc_; rw [e]; rfl
  | ext => rw [h.ext_]; rfl
  | typ => rw [h.typ_]; rfl
  | blt => exact (hb _ rfl).elim
  | scr => rw [h.scr_]; rfl

theorem Rep.inst (R : Rep G ρ L ln st s) {l d : Nat} {C : Addr} {kvs : List (Nat × AV)} {v : Value} (h : st.σ[l]? = some (.obj C d)) (hd : st.σ[d]? = some (.ns kvs)) (hv : VR G ρ (.loc l) v) :
    ∃ x dx es n, v = .ref x ∧ ρ[l]? = some x ∧ ρ[d]? = some dx ∧ PySem.W.InstAt s.heap x (instObj C dx) C (some (dictOf es n)) ∧ s.heap.get? dx = some (dictOf es n) ∧ KVs G ρ (named G kvs) es ∧ (∀ p ∈ kvs, p.1 < G.nms.length) ∧ kvs.length ≤ 900 := by
  obtain ⟨_, rfl, e⟩ := hv.loc_
  obtain ⟨_, g1, g2⟩ := (R.obj _ _ _ h e).obj_
  obtain ⟨_, _, k1, k2, k3, k4⟩ := (R.obj _ _ _ hd g1).ns_
  exact ⟨_, _, _, _, rfl, e, g1, ⟨g2, rfl, rfl, k1⟩, k1, k2, k3, k4⟩

theorem p_getattr (Wk : GlOk G) (R : Rep G ρ L ln st s) {l d : Nat} {C : Addr} {kvs : List (Nat × AV)} {v : Value} {k : Nat} {av : AV} {expr : Bool} (K : ClsOk G C) (h : st.σ[l]? = some (.obj C d)) (hd : st.σ[d]? = some (.ns kvs)) (hv : VR G ρ (.loc l) v)
    (hk : k < G.nms.length) (hg : getK k kvs = some av) (hc : findIn G.K (.ref C) (G.nm k) = some none) (hb : ∀ n, av ≠ .blt n) (hq : Q av st) : wpAny (MM G) A (getAttr v (G.nm k) expr) (Ret G ρ L ln s Q) E s := by
  obtain ⟨x, dx, es, n, rfl, e1, e2, I, k1, k2, k3, k4⟩ := R.inst h hd hv
  have g := KVs.getL (x := G.nm k) k2
  rw [named_get Wk.nms hk k3, hg] at g
  obtain ⟨w, g1, g2⟩ := g
  exact get_value (R.K Wk) I K.get (findObj_own K.dict hc rfl g1) (handedR g2 hb) (ret0 R g2 hq)

/-- a method of the class: f, with the object first -/
theorem p_getmeth (Wk : GlOk G) (R : Rep G ρ L ln st s) {l d : Nat} {C : Addr} {kvs : List (Nat × AV)} {v : Value} {k : Nat} {f : Addr} {pl : Sem Bool} {Q : Value × List Value → Shared → Prop} (K : ClsOk G C) (h : st.σ[l]? = some (.obj C d)) (hd : st.σ[d]? = some (.ns kvs)) (hv : VR G ρ (.loc l) v)
    (hk : k < G.nms.length) (hg : getK k kvs = none) (hc : findIn G.K (.ref C) (G.nm k) = some (some (.ref f))) (ht : typeIn G.K (.ref f) = some (.type "function")) (hq : Q (.ref f, [v]) s) : wpAny (MM G) A (getMethod v (G.nm k) pl) Q E s := by
  obtain ⟨x, dx, es, n, rfl, e1, e2, I, k1, k2, k3, k4⟩ := R.inst h hd hv
  have g := KVs.getL (x := G.nm k) k2
  rw [named_get Wk.nms hk k3, hg] at g
  exact method_fn (R.K Wk) I K.get K.hook hc ht (by show (lookIn _ (dictOf es n)).map _ = _; rw [lookIn_dict, g]; rfl) hq

theorem putK_le {k : Nat} {kvs : List (Nat × AV)} {es : List DictEntry} {v : Value} {t : Tok} {hsh : Int} (h : KVs G ρ (named G kvs) es) (hl : kvs.length ≤ 900) : (PySem.W.putL (G.nm k) hsh (.str (G.nm k) t) v es).length ≤ 901 := by
  have : ∀ es : List DictEntry, (PySem.W.putL (G.nm k) hsh (.str (G.nm k) t) v es).length ≤ es.length + 1 := by
    intro es
    induction es with
    | nil => simp [W.putL]
    | cons e r ih => unfold PySem.W.putL; split <;> simp <;> omega
  have h1 := this es
  have h2 := h.length
  simp at h2; omega


theorem p_setattr (Wk : GlOk G) (R : Rep G ρ L ln st s) {Q : St → Prop} {l d : Nat} {C : Addr} {kvs : List (Nat × AV)} {v w : Value} {k : Nat} {av : AV} (K : ClsOk G C) (hpl : plainOver G.K C = true) (ht : takerIn G.K C (G.nm k) = some none)
    (h : st.σ[l]? = some (.obj C d)) (hd : st.σ[d]? = some (.ns kvs)) (hv : VR G ρ (.loc l) v) (hw : VR G ρ av w) (hk : k < G.nms.length) (hz : kvs.length < 900)
    (hq : Q { st with σ := st.σ.set d (.ns (putK k av kvs)) }) : wpAny (MM G) A (setAttr v (G.nm k) w) (fun _ => RetU G ρ L ln s Q) E s := by
  obtain ⟨x, dx, es, n, rfl, e1, e2, I, k1, k2, k3, k4⟩ := R.inst h hd hv
  obtain ⟨m, hns, hm⟩ := R.frame
  have F : Fr G.h₀ L s.heap m := ⟨hns, R.base, R.low⟩
  have hdx := R.own dx (Rep.mem e2)
  have g := KVs.getL (x := G.nm k) k2
  have hgs : (PySem.W.getL (G.nm k) es).isSome = true := by
    cases q : (named G kvs).lookup (G.nm k) with
    | none => rw [q] at g; rw [g]; rfl
    | some av => rw [q] at g; obtain ⟨v, g1, _⟩ := g; rw [g1]; rfl
  have N : News G.h₀ L s.heap ((dx, dictOf es n) :: Rep.restL G.h₀ s.heap L [dx]) := fun p hp => by
    rcases List.mem_cons.mp hp with rfl | hp
    · exact ⟨k1, hdx.2.1, hdx.1⟩
    · exact Rep.rest_news p hp
  refine set_dict F Wk.X N I rfl K.set hpl ht K.dict hgs rfl (.head fun p hp => ?_) (Nat.le_trans (putK_le k2 (by omega)) (by omega)) fun h' F' N' => ?_
  · exact fun q => (Rep.rest_of hp).2.2.1 (by rw [q]; exact List.mem_singleton.mpr rfl)
  · have hk' := Rep.rest_keep F F' N' fun p hp => .tail _ hp
    have hat := (N' _ (.head _)).1
    have hput := KVs.putL (x := G.nm k) (t := s.toks + 1) hw k2
    rw [named_put Wk.nms hk k3] at hput
    obtain ⟨R', S'⟩ := R.setL (t := s.toks + 2) hm F'.ns hd e2 (fun b o n1 n2 e => hk' b o n1 (by simpa using n2) e)
      (fun o e vs hdd => by rw [k1] at e; cases e; cases hdd) ⟨_, hat⟩ (.ns (kvs := putK k av kvs) hat hput (putK_mem hk k3) (by have := putK_length (k := k) (av := av) kvs; omega))
    exact ⟨_, _, R', S', hq⟩
end Mine

set_option Elab.async false
set_option genSizeOf false
set_option genInjectivity false
set_option backward.match.sparseCases false
set_option bootstrap.genMatcherCode false
set_option tactic.hygienic false
set_option linter.unusedVariables false
namespace Mine
open PySem PySem.Calls PyProof.Rows PySem.W PySem.SeqAt

/-! a small language: a program's text with its names resolved -/
inductive Bop where
  | add | sub | mul | mod | fdiv
  deriving DecidableEq
inductive Cop where
  | eq | ne | lt | le | gt | ge | is | isnot | isin | notin
  deriving DecidableEq

set_option genCtorIdx false
mutual
inductive CE where
  | lit (v : AV) | loc (i : Nat) | cel (j : Nat)
  | bin (o : Bop) (a b : CE) | cmp (o : Cop) (a b : CE) | cmp2 (o p : Cop) (a b c : CE)
  | and (a b : CE) | or (a b : CE) | not (a : CE) | ite (c a b : CE)
  | lst (es : CEs) | tup (es : CEs) | dict0 | merge (i j : Nat)
  | attr (e : CE) (k : Nat) | item (e i : CE) | sfrom (e a : CE) | supto (e a : CE)
  | call (f : CE) (as : CEs) | meth (e : CE) (k : Nat) (as : CEs)
  | comp (up : List Nat) (own nl : Nat) (t : CT) (it : CI) (ifs : CEs) (r : CLs)
  | lam (i : Nat) (cl : List Nat)
inductive CEs where
  | nil | cons (e : CE) (r : CEs)
inductive CI where
  | rng1 (a : CE) | rng2 (a b : CE) | of (e : CE)
inductive CT where
  | loc (i : Nat) | cel (j : Nat) | attr (e : CE) (k : Nat) | item (e i : CE) | sfrom (e a : CE) | tup (ts : CTs)
inductive CTs where
  | nil | cons (t : CT) (r : CTs)
inductive CLs where
  | elt (e : CE) | cons (t : CT) (it : CI) (ifs : CEs) (r : CLs)
end
mutual
inductive CS where
  | expr (e : CE) | ret (e : CE) | asg (t : CT) (e : CE) | asgs (ts : CTs) (e : CE) | swap (i j : Nat) (a b : CE) | use (i : Nat) (e : CE)
  | augl (i : Nat) (o : Bop) (e : CE) | augi (o i : CE) (p : Bop) (e : CE)
  | ife (c : CE) (a b : CSs) | whl (c : CE) (b : CSs) | for (t : CT) (it : CI) (b : CSs) | brk
inductive CSs where
  | nil | cons (s : CS) (r : CSs)
end

noncomputable def CTs.len : CTs → Nat
  | .nil => 0
  | .cons _ r => r.len + 1

noncomputable abbrev Sto := List AO
noncomputable abbrev CallT := AV → List AV → Sto → (AV → Sto → Prop) → Prop

noncomputable def onI {α : Type} (d : α) (x : AV) (f : Int → α) : α := onV d (asAI x) f
noncomputable def onBo {α : Type} (d : α) (x : AV) (f : Bool → α) : α := onV d (asAB x) f
noncomputable def onLo {α : Type} (d : α) (x : AV) (f : Nat → α) : α := onV d (asAL x) f
noncomputable def onSt {α : Type} (d : α) (x : AV) (f : Str → α) : α := onV d (asAS x) f
noncomputable def onExt (x : AV) (f : Addr → Prop) : Prop := onV False (asAE x) f
noncomputable def on3 {α : Type} (d : α) (x : AV) (fi : Int → α) (fs : Str → α) (fl : Nat → α) : α := onV (onV (onV d (asAL x) fl) (asAS x) fs) (asAI x) fi
noncomputable def onLst {α : Type} (d : α) (o : Option AO) (f : List AV → α) : α := onV d (asOL o) f
noncomputable def onTup (o : Option AO) (f : List AV → Prop) : Prop := onV False (asOT o) f
noncomputable def onVar (o : Option (Option AV)) (K : AV → Prop) : Prop := onV False (asS o) fun o => onV False (asS o) K
noncomputable def onCell (o : Option AO) (K : AV → Prop) : Prop := onV False (asOC o) fun o => onV False (asS o) K
noncomputable def onSlot (o : Option AO) (K : Prop) : Prop := onV False (asOC o) fun _ => K
noncomputable def onAt (o : Option Nat) (K : Nat → Prop) : Prop := onV False (asS o) K
theorem onI_p {x : AV} {f : Int → Prop} (h : onI False x f) : ∃ i, x = .int i ∧ f i := onV_p h
theorem onSt_p {x : AV} {f : Str → Prop} (h : onSt False x f) : ∃ i, x = .str i ∧ f i := onV_p h
theorem onLo_p {x : AV} {f : Nat → Prop} (h : onLo False x f) : ∃ i, x = .loc i ∧ f i := onV_p h
theorem onI_s {α : Type} {x : AV} {f : Int → Option α} {r : α} (h : onI none x f = some r) : ∃ i, x = .int i ∧ f i = some r := onV_s h
theorem onBo_s {α : Type} {x : AV} {f : Bool → Option α} {r : α} (h : onBo none x f = some r) : ∃ i, x = .bool i ∧ f i = some r := onV_s h
theorem onLo_s {α : Type} {x : AV} {f : Nat → Option α} {r : α} (h : onLo none x f = some r) : ∃ i, x = .loc i ∧ f i = some r := onV_s h
theorem onSt_s {α : Type} {x : AV} {f : Str → Option α} {r : α} (h : onSt none x f = some r) : ∃ i, x = .str i ∧ f i = some r := onV_s h
theorem on3_p {x : AV} {fi : Int → Prop} {fs : Str → Prop} {fl : Nat → Prop} (h : on3 False x fi fs fl) : (∃ i, x = .int i ∧ fi i) ∨ (∃ i, x = .str i ∧ fs i) ∨ (∃ i, x = .loc i ∧ fl i) := (onV_or h).imp id fun h => (onV_or h).imp id onV_p
theorem on3_s {α : Type} {x : AV} {fi : Int → Option α} {fs : Str → Option α} {fl : Nat → Option α} {r : α} (h : on3 none x fi fs fl = some r) : (∃ i, x = .int i ∧ fi i = some r) ∨ (∃ i, x = .str i ∧ fs i = some r) ∨ (∃ i, x = .loc i ∧ fl i = some r) :=
  (onV_b h).imp id fun h => (onV_b h).imp id onV_s
theorem onLst_p {o : Option AO} {f : List AV → Prop} (h : onLst False o f) : ∃ xs, o = some (.list xs) ∧ f xs := onV_p h
theorem onLst_s {α : Type} {o : Option AO} {f : List AV → Option α} {r : α} (h : onLst none o f = some r) : ∃ xs, o = some (.list xs) ∧ f xs = some r := onV_s h
theorem onVar_p {o : Option (Option AV)} {K : AV → Prop} (h : onVar o K) : ∃ v, o = some (some v) ∧ K v := (onV_p h).elim fun o h => (onV_p h.2).imp fun v k => ⟨h.1.trans (congrArg some k.1), k.2⟩
theorem onCell_p {o : Option AO} {K : AV → Prop} (h : onCell o K) : ∃ v, o = some (.cell (some v)) ∧ K v := (onV_p h).elim fun o h => (onV_p h.2).imp fun v k => ⟨h.1.trans (congrArg (fun o => some (AO.cell o)) k.1), k.2⟩
theorem onAt_p {o : Option Nat} {K : Nat → Prop} (h : onAt o K) : ∃ v, o = some v ∧ K v := onV_p h
theorem onExt_p {x : AV} {K : Addr → Prop} (h : onExt x K) : ∃ v, x = .ext v ∧ K v := onV_p h
theorem onSlot_p {o : Option AO} {K : Prop} (h : onSlot o K) : ∃ v, o = some (.cell v) ∧ K := onV_p h
theorem onTup_p {o : Option AO} {K : List AV → Prop} (h : onTup o K) : ∃ v, o = some (.tup v) ∧ K v := onV_p h
noncomputable def binV (o : Bop) (x y : AV) (σ : Sto) (Q : AV → Sto → Prop) : Prop := match o with
  | .add => on3 False x (fun a => onI False y fun b => Q (.int (a + b)) σ) (fun a => onSt False y fun b => a.length + b.length ≤ 100000 ∧ Q (.str (a ++ b)) σ)
      (fun a => onLo False y fun b => onLst False σ[a]? fun xs => onLst False σ[b]? fun ys => xs.length + ys.length ≤ 4096 ∧ Q (.loc σ.length) (σ ++ [.list (xs ++ ys)]))
  | .sub => onI False x fun a => onI False y fun b => Q (.int (a - b)) σ
  | .mul => onI False y fun n => on3 False x (fun a => (Builtin.Int.intBits a ≤ 64 ∨ Builtin.Int.intBits n ≤ 64) ∧ Q (.int (a * n)) σ) (fun a => MulOk a n ∧ Q (.str (Txt.mul a n)) σ)
      (fun a => onLst False σ[a]? fun xs => (xs.length * n.toNat ≤ 256 ∧ -1000 ≤ n ∧ n < 1000000) ∧ Q (.loc σ.length) (σ ++ [.list (List.replicate n.toNat xs).flatten]))
  | .mod => onI False x fun a => onI False y fun b => b ≠ 0 ∧ Q (.int (a.fmod b)) σ
  | .fdiv => onI False x fun a => onI False y fun b => b ≠ 0 ∧ Builtin.divisionGoesByPylong a b = false ∧ Q (.int (a.fdiv b)) σ

/-- depth at which equality is asked -/
noncomputable abbrev eqD : Nat := 6
noncomputable def inV (i : Int) (o : Option AO) : Option Bool := onV (onV none (asOT o) (memI i)) (asOL o) (memI i)
noncomputable def cmpV (o : Cop) (x y : AV) (σ : Sto) : Option Bool := match o with
  | .eq => on3 none x (fun a => onI none y fun b => some (a == b)) (fun a => onSt none y fun b => some (a == b)) (fun a => onLo none y fun b => eqO (eqV eqD σ) σ[a]? σ[b]?)
  | .ne => onI none x fun a => onI none y fun b => some (a != b)
  | .lt => onI none x fun a => onI none y fun b => some (decide (a < b))
  | .le => onI none x fun a => onI none y fun b => some (decide (a ≤ b))
  | .gt => onI none x fun a => onI none y fun b => some (decide (b < a))
  | .ge => onI none x fun a => onI none y fun b => some (decide (b ≤ a))
  | .is => onBo none x fun a => onBo none y fun b => some (a == b)
  | .isnot => onBo none x fun a => onBo none y fun b => some (a != b)
  | .isin => onI none x fun i => onLo none y fun b => inV i σ[b]?
  | .notin => onI none x fun i => onLo none y fun b => (onLst none σ[b]? (memI i)).map not
noncomputable def truthV (x : AV) : Option Bool := onBo none x some
/-- then with the bool that is told, if one is -/
noncomputable def onB (r : Option Bool) (Q : Bool → Prop) : Prop := match r with
  | some b => Q b
  | none => False

/-- what an iterable gives; a list is asked anew at each turn -/
inductive Src where
  | imm | lst (l : Nat) | tup (l : Nat)
noncomputable def itL (l : Nat) (σ : Sto) : Option (Src × List AV) := onV (onV none (asOT σ[l]?) fun xs => some (.tup l, xs)) (asOL σ[l]?) fun xs => some (.lst l, xs)
noncomputable def itV (x : AV) (σ : Sto) : Option (Src × List AV) :=
  onV (onV none (asAS x) fun s => if s.cps.all (· < 128) = true then some (.imm, s.cps.toList.map fun c => .str ⟨#[c]⟩) else none) (asAL x) fun l => itL l σ
noncomputable def srcOk (src : Src) (its : List AV) (σ : Sto) : Prop := match src with
  | .imm => True
  | .lst l => σ[l]? = some (.list its)
  | .tup l => σ[l]? = some (.tup its)
noncomputable def rangeV (a : Int) (n : Nat) : List AV := (List.range n).map fun k : Nat => .int (a + (k : Int))

/-- the codes of the built-in methods' names -/
noncomputable def kAppend : Nat := 0
noncomputable def kExtend : Nat := 1
noncomputable def kJoin : Nat := 2
noncomputable def kCount : Nat := 3

/-- a def -/
structure FnD where
  np : Nat
  nl : Nat
  /-- where each parameter lies: a slot or a cell -/
  pl : List (Nat ⊕ Nat)
  own : Nat
  body : CSs
  /-- the defaults: all are used or none -/
  dfl : List AV := []
  /-- a dict is made for what is named besides -/
  kw : Bool := false
  /-- behind the body: super()'s built-in method of that number; whether its answer is given back -/
  tail : Option (Nat × Bool) := none
structure LamD where
  /-- how many cells it brings -/
  nf : Nat
  np : Nat
  nl : Nat
  pl : List (Nat ⊕ Nat)
  body : CE

structure Tb where
  /-- the attributes' names -/
  nms : List Str
  /-- the attributes that objects bear (class, name), and those that functions bear -/
  iattr : List (Addr × Nat)
  fattr : List Nat
  /-- the attributes that are stored in a pile -/
  aattr : List (Addr × Nat) := []
  accs : List Addr
  fns : List (Addr × FnD)
  /-- a class: its __init__, and whether it is made from list -/
  clss : List (Addr × Addr × Bool)
  cattr : List ((Addr × Nat) × AV)
  cmeth : List ((Addr × Nat) × AV)
  lams : List LamD
  /-- the global names that are read, and what they mean -/
  globs : List (Str × AV)
  /-- the script -/
  scr : List Int
  /-- an empty dict that stands outside: a default -/
  dd : Addr
  /-- what a lambda of that number may be -/
  lamB : Nat → LamI → Bool := fun _ _ => false

noncomputable def atNs (σ : Sto) (d : Option Nat) (k : Nat) : Option AV := onV none (asS d) fun d => onV none (asON σ[d]?) (getK k)
noncomputable def putNs (σ : Sto) (d k : Nat) (v : AV) : Option Sto := onV none (asON σ[d]?) fun kvs => if kvs.length < 900 then some (σ.set d (.ns (putK k v kvs))) else none
noncomputable def attrL (T : Tb) (l k : Nat) (σ : Sto) : Option AV :=
    onV (onV none (asOF σ[l]?) fun t => if k ∈ T.fattr then atNs σ t.2.2 k else none) (asOb σ[l]?) fun t => if (t.1, k) ∈ T.iattr then atNs σ (some t.2) k else none
noncomputable def attrV (T : Tb) (x : AV) (k : Nat) (σ : Sto) : Option AV := onV (onV none (asAE x) fun C => T.cattr.lookup (C, k)) (asAL x) fun l => attrL T l k σ
noncomputable def setL (T : Tb) (l k : Nat) (v : AV) (σ : Sto) : Option Sto :=
    onV (onV (onV none (asOF σ[l]?) fun t => if k ∈ T.fattr then onV (some (((σ ++ [AO.ns []]).set l (.lam t.1 t.2.1 (some σ.length))).set σ.length (.ns [(k, v)]))) (asS t.2.2) fun d => putNs σ d k v else none)
      (asOA σ[l]?) fun t => if (t.1, k) ∈ T.aattr then putNs σ t.2.1 k v else none)
      (asOb σ[l]?) fun t => if (t.1, k) ∈ T.iattr then putNs σ t.2 k v else none
noncomputable def setV (T : Tb) (x : AV) (k : Nat) (v : AV) (σ : Sto) : Option Sto := onV none (asAL x) fun l => setL T l k v σ
noncomputable def methK (T : Tb) (σ : Sto) (l : Nat) (C : Addr) (d k : Nat) : Option (AV × List AV) := onV none (asON σ[d]?) fun kvs => if (getK k kvs).isSome = true then none else (T.cmeth.lookup (C, k)).map fun f => (f, [.loc l])
noncomputable def methL (T : Tb) (l k : Nat) (σ : Sto) : Option (AV × List AV) :=
    onV (onV (onV (onV none (asOF σ[l]?) fun t => if k ∈ T.fattr then (atNs σ t.2.2 k).map fun f => (f, []) else none)
      (asOA σ[l]?) fun t => methK T σ l t.1 t.2.1 k)
      (asOb σ[l]?) fun t => methK T σ l t.1 t.2 k)
      (asOL σ[l]?) fun _ => if k = kAppend then some (.blt "list.append", [.loc l]) else if k = kExtend then some (.blt "list.extend", [.loc l]) else none
/-- the method of that name: what is called, and what goes ahead of the arguments -/
noncomputable def methV (T : Tb) (x : AV) (k : Nat) (σ : Sto) : Option (AV × List AV) :=
  onV (onV none (asAS x) fun s => if k = kJoin then some (.blt "str.join", [.str s]) else if k = kCount then some (.blt "str.count", [.str s]) else none) (asAL x) fun l => methL T l k σ
noncomputable def itemL (l k : Nat) (σ : Sto) : Option AV := onV (onV none (asOT σ[l]?) (·[k]?)) (asOL σ[l]?) (·[k]?)
noncomputable def itemK (T : Tb) (x : AV) (k : Nat) (σ : Sto) : Option AV :=
  onV (onV (onV none (asAS x) fun s => (s.cps[k]?).map fun c => .str ⟨#[c]⟩) (asAL x) fun l => itemL l k σ) (asAX x) fun _ => (T.scr[k]?).map .int
noncomputable def itemV (T : Tb) (x y : AV) (σ : Sto) : Option AV := onV none (asAI y) fun k => if 0 ≤ k ∧ k.toNat < 1000000 then itemK T x k.toNat σ else none
noncomputable def setIL (l : Nat) (k : Int) (v : AV) (σ : Sto) : Option Sto := onV none (asOL σ[l]?) fun xs => if 0 ≤ k ∧ k.toNat < 1000000 ∧ k.toNat < xs.length then some (σ.set l (.list (xs.set k.toNat v))) else none
noncomputable def setItemV (x y v : AV) (σ : Sto) : Option Sto := onV none (asAL x) fun l => onV none (asAI y) fun k => setIL l k v σ
/-- e[k:] = [] of a pile -/
noncomputable def cutL (T : Tb) (l : Nat) (k : Int) (r : Nat) (σ : Sto) : Option Sto := onV none (asOA σ[l]?) fun t => onV none (asOL σ[r]?) fun ys => onV none (asNil ys) fun _ =>
    if t.1 ∈ T.accs ∧ 0 ≤ k ∧ t.2.2.length ≤ 4096 ∧ k.toNat < 1000000 then some (σ.set l (.acc t.1 t.2.1 (t.2.2.take k.toNat))) else none
noncomputable def cutV (T : Tb) (x y z : AV) (σ : Sto) : Option Sto := onV none (asAL x) fun l => onV none (asAI y) fun k => onV none (asAL z) fun r => cutL T l k r σ
noncomputable def sfromL (T : Tb) (l : Nat) (k : Int) (σ : Sto) : Option (List AV) := if 0 ≤ k ∧ k.toNat < 1000000 then
    onV (onV none (asOA σ[l]?) fun t => if t.1 ∈ T.accs ∧ t.2.2.length ≤ 4096 then some (t.2.2.drop k.toNat) else none) (asOL σ[l]?) fun xs => if xs.length ≤ 4096 then some (xs.drop k.toNat) else none
    else none
noncomputable def sfromV (T : Tb) (x y : AV) (σ : Sto) : Option (List AV) := onV none (asAL x) fun l => onV none (asAI y) fun k => sfromL T l k σ
noncomputable def suptoL (l : Nat) (k : Int) (σ : Sto) : Option (List AV) := if 0 ≤ k ∧ k.toNat < 1000000 then onV none (asOL σ[l]?) fun xs => if xs.length ≤ 4096 then some (xs.take k.toNat) else none else none
noncomputable def suptoV (x y : AV) (σ : Sto) : Option (List AV) := onV none (asAL x) fun l => onV none (asAI y) fun k => suptoL l k σ
noncomputable def pushV (D : Nat) (v : AV) (σ : Sto) : Option Sto := onV none (asOL σ[D]?) fun xs => if xs.length ≤ 4096 then some (σ.set D (.list (xs ++ [v]))) else none
noncomputable def nb : AV → Bool
  | .blt _ => false
  | _ => true
noncomputable def onO {α : Type} (r : Option α) (Q : α → Prop) : Prop := match r with
  | some b => Q b
  | none => False

/-- a loop over what an iterable gave -/
noncomputable def turns (src : Src) (its : List AV) (body : AV → St → (St → Prop) → Prop) : List AV → St → (St → Prop) → Prop
  | [], st, Q => srcOk src its st.σ ∧ Q st
  | x :: r, st, Q => srcOk src its st.σ ∧ body x st fun st' => turns src its body r st' Q

section
variable (T : Tb) (call : CallT)
mutual
noncomputable def ev (cl : List Nat) : CE → St → (AV → St → Prop) → Prop
  | .lit v, st, Q => Q v st
  | .loc i, st, Q => onVar st.vars[i]? fun v => Q v st
  | .cel j, st, Q => onAt cl[j]? fun l => onCell st.σ[l]? fun v => Q v st
  | .bin o a b, st, Q => ev cl a st fun x s₁ => ev cl b s₁ fun y s₂ => binV o x y s₂.σ fun v σ => Q v ⟨s₂.vars, σ⟩
  | .cmp o a b, st, Q => ev cl a st fun x s₁ => ev cl b s₁ fun y s₂ => onB (cmpV o x y s₂.σ) fun r => Q (.bool r) s₂
  | .cmp2 o p a b c, st, Q => ev cl a st fun x s₁ => ev cl b s₁ fun y s₂ => onB (cmpV o x y s₂.σ) fun r =>
      if r then ev cl c s₂ fun z s₃ => onB (cmpV p y z s₃.σ) fun r => Q (.bool r) s₃ else Q (.bool false) s₂
  | .and a b, st, Q => ev cl a st fun x s₁ => onB (truthV x) fun t => if t then ev cl b s₁ Q else Q x s₁
  | .or a b, st, Q => ev cl a st fun x s₁ => onB (truthV x) fun t => if t then Q x s₁ else ev cl b s₁ Q
  | .not a, st, Q => evB cl a st fun b s₁ => Q (.bool !b) s₁
  | .ite c a b, st, Q => evB cl c st fun t s₁ => if t then ev cl a s₁ Q else ev cl b s₁ Q
  | .lst es, st, Q => evs cl es st fun vs s₁ => vs.length ≤ 4096 ∧ Q (.loc s₁.σ.length) ⟨s₁.vars, s₁.σ ++ [.list vs]⟩
  | .tup es, st, Q => evs cl es st fun vs s₁ => vs.length ≤ 4096 ∧ Q (.loc s₁.σ.length) ⟨s₁.vars, s₁.σ ++ [.tup vs]⟩
  | .dict0, st, Q => Q (.loc st.σ.length) ⟨st.vars, st.σ ++ [.dict []]⟩
  | .merge i j, st, Q => onVar st.vars[i]? fun x => onVar st.vars[j]? fun y => onExt x fun a => onLo False y fun b => a = T.dd ∧ st.σ[b]? = some (.dict []) ∧ Q (.loc st.σ.length) ⟨st.vars, st.σ ++ [.dict []]⟩
  | .attr e k, st, Q => ev cl e st fun x s₁ => onO (attrV T x k s₁.σ) fun v => nb v = true ∧ Q v s₁
  | .item e i, st, Q => ev cl e st fun x s₁ => ev cl i s₁ fun y s₂ => onO (itemV T x y s₂.σ) fun v => Q v s₂
  | .sfrom e a, st, Q => ev cl e st fun x s₁ => ev cl a s₁ fun y s₂ => onO (sfromV T x y s₂.σ) fun vs => Q (.loc s₂.σ.length) ⟨s₂.vars, s₂.σ ++ [.list vs]⟩
  | .supto e a, st, Q => ev cl e st fun x s₁ => ev cl a s₁ fun y s₂ => onO (suptoV x y s₂.σ) fun vs => Q (.loc s₂.σ.length) ⟨s₂.vars, s₂.σ ++ [.list vs]⟩
  | .call f as, st, Q => ev cl f st fun g s₁ => evs cl as s₁ fun vs s₂ => call g vs s₂.σ fun v σ => Q v ⟨s₂.vars, σ⟩
  | .meth e k as, st, Q => ev cl e st fun x s₁ => onO (methV T x k s₁.σ) fun m => (nb m.1 || !m.2.isEmpty) = true ∧ evs cl as s₁ fun vs s₂ => call m.1 (m.2 ++ vs) s₂.σ fun v σ => Q v ⟨s₂.vars, σ⟩
  | .comp up own nl t it ifs r, st, Q => evI cl it st fun src its s₁ =>
      turns src its (fun x s₂ k => evT ((List.range own).reverse.map (s₁.σ.length + 1 + ·) ++ up.map (cl.getD · 0)) t x s₂ fun s₃ =>
          evIfs ((List.range own).reverse.map (s₁.σ.length + 1 + ·) ++ up.map (cl.getD · 0)) ifs s₃ fun b s₄ => if b then evC ((List.range own).reverse.map (s₁.σ.length + 1 + ·) ++ up.map (cl.getD · 0)) s₁.σ.length r s₄ k else k s₄)
        its ⟨List.replicate nl none, s₁.σ ++ .list [] :: List.replicate own (.cell none)⟩ fun s₅ => Q (.loc s₁.σ.length) ⟨s₁.vars, s₅.σ⟩
  | .lam i cs, st, Q => Q (.loc st.σ.length) ⟨st.vars, st.σ ++ [.lam i (cs.map (cl.getD · 0)) none]⟩
noncomputable def evB (cl : List Nat) : CE → St → (Bool → St → Prop) → Prop
  | .not a, st, Q => evB cl a st fun b => Q !b
  | .and a b, st, Q => evB cl a st fun t s₁ => if t then evB cl b s₁ Q else Q false s₁
  | .or a b, st, Q => evB cl a st fun t s₁ => if t then Q true s₁ else evB cl b s₁ Q
  | .cmp o a b, st, Q => ev cl a st fun x s₁ => ev cl b s₁ fun y s₂ => onB (cmpV o x y s₂.σ) fun r => Q r s₂
  | .cmp2 o p a b c, st, Q => ev cl a st fun x s₁ => ev cl b s₁ fun y s₂ => onB (cmpV o x y s₂.σ) fun r =>
      if r then ev cl c s₂ fun z s₃ => onB (cmpV p y z s₃.σ) fun r => Q r s₃ else Q false s₂
  | .call f as, st, Q => ev cl f st fun g s₁ => evs cl as s₁ fun vs s₂ => call g vs s₂.σ fun v σ => onB (truthV v) fun b => Q b ⟨s₂.vars, σ⟩
  | .meth e k as, st, Q => ev cl e st fun x s₁ => onO (methV T x k s₁.σ) fun m => (nb m.1 || !m.2.isEmpty) = true ∧ evs cl as s₁ fun vs s₂ => call m.1 (m.2 ++ vs) s₂.σ fun v σ => onB (truthV v) fun b => Q b ⟨s₂.vars, σ⟩
  | _, _, _ => False
noncomputable def evs (cl : List Nat) : CEs → St → (List AV → St → Prop) → Prop
  | .nil, st, Q => Q [] st
  | .cons e r, st, Q => ev cl e st fun v s₁ => evs cl r s₁ fun vs => Q (v :: vs)
noncomputable def evI (cl : List Nat) : CI → St → (Src → List AV → St → Prop) → Prop
  | .rng1 a, st, Q => ev cl a st fun x s₁ => onI False x fun n => (0 ≤ n ∧ n ≤ 4096) ∧ Q .imm (rangeV 0 n.toNat) s₁
  | .rng2 a b, st, Q => ev cl a st fun x s₁ => ev cl b s₁ fun y s₂ => onI False x fun m => onI False y fun n => (0 ≤ m ∧ m ≤ 4096 ∧ 0 ≤ n ∧ n ≤ 4096) ∧ Q .imm (rangeV m (n - m).toNat) s₂
  | .of e, st, Q => ev cl e st fun x s₁ => onO (itV x s₁.σ) fun p => Q p.1 p.2 s₁
noncomputable def evT (cl : List Nat) : CT → AV → St → (St → Prop) → Prop
  | .loc i, v, st, Q => i < st.vars.length ∧ Q ⟨st.vars.set i (some v), st.σ⟩
  | .cel j, v, st, Q => onAt cl[j]? fun l => onSlot st.σ[l]? (Q ⟨st.vars, st.σ.set l (.cell (some v))⟩)
  | .attr e k, v, st, Q => ev cl e st fun x s₁ => onO (setV T x k v s₁.σ) fun σ => Q ⟨s₁.vars, σ⟩
  | .item e i, v, st, Q => ev cl e st fun x s₁ => ev cl i s₁ fun y s₂ => onO (setItemV x y v s₂.σ) fun σ => Q ⟨s₂.vars, σ⟩
  | .sfrom e a, v, st, Q => ev cl e st fun x s₁ => ev cl a s₁ fun y s₂ => onO (cutV T x y v s₂.σ) fun σ => Q ⟨s₂.vars, σ⟩
  | .tup ts, v, st, Q => onLo False v fun l => onTup st.σ[l]? fun xs => xs.length = ts.len ∧ evTs cl ts xs st Q
noncomputable def evTs (cl : List Nat) : CTs → List AV → St → (St → Prop) → Prop
  | .nil, vs, st, Q => onV False (asNil vs) fun _ => Q st
  | .cons t r, vs, st, Q => onV False (asC vs) fun p => evT cl t p.1 st fun s₁ => evTs cl r p.2 s₁ Q
noncomputable def evIfs (cl : List Nat) : CEs → St → (Bool → St → Prop) → Prop
  | .nil, st, Q => Q true st
  | .cons e .nil, st, Q => evB cl e st Q
  | _, _, _ => False
noncomputable def evC (cl : List Nat) (D : Nat) : CLs → St → (St → Prop) → Prop
  | .elt e, st, Q => ev cl e st fun v s₁ => onO (pushV D v s₁.σ) fun σ => Q ⟨s₁.vars, σ⟩
  | .cons t it ifs r, st, Q => evI cl it st fun src its s₁ =>
      turns src its (fun x s₂ k => evT cl t x s₂ fun s₃ => evIfs cl ifs s₃ fun b s₄ => if b then evC cl D r s₄ k else k s₄) its s₁ Q
end
end
end Mine

set_option Elab.async false
set_option genSizeOf false
set_option genInjectivity false
set_option backward.match.sparseCases false
set_option bootstrap.genMatcherCode false
set_option tactic.hygienic false
set_option linter.unusedVariables false
namespace Mine
open PySem PySem.Calls PyProof.Rows PySem.W PySem.SeqAt

inductive Fl where
  | next | brk | ret (v : AV)

noncomputable def whileT (test : St → (Bool → St → Prop) → Prop) (body : St → (Fl → St → Prop) → Prop) : Nat → St → (Fl → St → Prop) → Prop
  | 0, _, _ => False
  | n + 1, st, Q => test st fun b s₁ => if b then body s₁ fun f s₂ => match f with
      | .next => whileT test body n s₂ Q
      | .brk => Q .next s₂
      | .ret v => Q (.ret v) s₂
    else Q .next s₁
noncomputable def forT (src : Src) (its : List AV) (body : AV → St → (Fl → St → Prop) → Prop) : List AV → St → (Fl → St → Prop) → Prop
  | [], st, Q => srcOk src its st.σ ∧ Q .next st
  | x :: r, st, Q => srcOk src its st.σ ∧ body x st fun f s₁ => match f with
      | .next => forT src its body r s₁ Q
      | .brk => Q .next s₁
      | .ret v => Q (.ret v) s₁
/-- an int changed in place -/
noncomputable def augV (o : Bop) (x y : AV) (Q : AV → Prop) : Prop := match o with
  | .add => onI False x fun a => onI False y fun b => Q (.int (a + b))
  | .mul => onI False x fun a => onI False y fun b => (Builtin.Int.intBits a ≤ 64 ∨ Builtin.Int.intBits b ≤ 64) ∧ Q (.int (a * b))
  | _ => False

section
variable (T : Tb) (call : CallT)
noncomputable def evAll (cl : List Nat) : CTs → AV → St → (St → Prop) → Prop
  | .nil, _, st, Q => Q st
  | .cons t r, v, st, Q => evT T call cl t v st fun s₁ => evAll cl r v s₁ Q
mutual
noncomputable def ex (cl : List Nat) : CS → St → (Fl → St → Prop) → Prop
  | .expr e, st, Q => ev T call cl e st fun _ s₁ => Q .next s₁
  | .ret e, st, Q => ev T call cl e st fun v s₁ => Q (.ret v) s₁
  | .asg t e, st, Q => ev T call cl e st fun v s₁ => evT T call cl t v s₁ fun s₂ => Q .next s₂
  | .asgs ts e, st, Q => ev T call cl e st fun v s₁ => evAll T call cl ts v s₁ fun s₂ => Q .next s₂
  | .swap i j a b, st, Q => ev T call cl a st fun x s₁ => ev T call cl b s₁ fun y s₂ => (i < s₂.vars.length ∧ j < s₂.vars.length) ∧ Q .next ⟨(s₂.vars.set j (some y)).set i (some x), s₂.σ ++ [.tup [x, y]]⟩
  | .use i e, st, Q => ev T call cl e st fun v s₁ => i < s₁.vars.length ∧ Q .next ⟨s₁.vars.set i (some v), s₁.σ⟩
  | .augl i o e, st, Q => onVar st.vars[i]? fun x => ev T call cl e st fun y s₁ => augV o x y fun v => i < s₁.vars.length ∧ Q .next ⟨s₁.vars.set i (some v), s₁.σ⟩
  | .augi o i p e, st, Q => ev T call cl o st fun x s₁ => ev T call cl i s₁ fun k s₂ => onO (itemV T x k s₂.σ) fun old => ev T call cl e s₂ fun y s₃ => augV p old y fun v => onO (setItemV x k v s₃.σ) fun σ => Q .next ⟨s₃.vars, σ⟩
  | .ife c a b, st, Q => evB T call cl c st fun t s₁ => if t then exs cl a s₁ Q else exs cl b s₁ Q
  | .whl c b, st, Q => ∃ n, whileT (evB T call cl c) (fun s => exs cl b s) n st Q
  | .for t it b, st, Q => evI T call cl it st fun src its s₁ => forT src its (fun x s₂ k => evT T call cl t x s₂ fun s₃ => exs cl b s₃ k) its s₁ Q
  | .brk, st, Q => Q .brk st
noncomputable def exs (cl : List Nat) : CSs → St → (Fl → St → Prop) → Prop
  | .nil, st, Q => Q .next st
  | .cons s r, st, Q => ex cl s st fun f s₁ => match f with
    | .next => exs cl r s₁ Q
    | .brk => Q .brk s₁
    | .ret v => Q (.ret v) s₁
end
end

noncomputable def on1 (as : List AV) (k : AV → Prop) : Prop := onV False (asC as) fun t => onV False (asNil t.2) fun _ => k t.1
noncomputable def on2 (as : List AV) (k : AV → AV → Prop) : Prop := onV False (asC as) fun t => on1 t.2 (k t.1)
theorem on1_p {as : List AV} {k : AV → Prop} (h : on1 as k) : ∃ x, as = [x] ∧ k x := (onV_p h).elim fun t h => (onV_p h.2).elim fun _ g => ⟨t.1, h.1.trans (congrArg _ g.1), g.2⟩
theorem on2_p {as : List AV} {k : AV → AV → Prop} (h : on2 as k) : ∃ x y, as = [x, y] ∧ k x y := (onV_p h).elim fun t h => (on1_p h.2).elim fun y g => ⟨t.1, y, h.1.trans (congrArg _ g.1), g.2⟩
noncomputable abbrev BF := Tb → List AV → Sto → (AV → Sto → Prop) → Prop
noncomputable def appL (T : Tb) (l : Nat) (v : AV) (σ : Sto) (Q : AV → Sto → Prop) : Prop := onV (onLst False σ[l]? fun xs => xs.length ≤ 4096 ∧ Q .none (σ.set l (.list (xs ++ [v])))) (asOA σ[l]?) fun t => (t.1 ∈ T.accs ∧ t.2.2.length ≤ 4096) ∧ Q .none (σ.set l (.acc t.1 t.2.1 (t.2.2 ++ [v])))
noncomputable def bAppend : BF := fun T as σ Q => on2 as fun a v => onLo False a fun l => appL T l v σ Q
noncomputable def bExtend : BF := fun T as σ Q => on2 as fun a b => onLo False a fun l => onLo False b fun m => onLst False σ[l]? fun xs => onLst False σ[m]? fun ys => xs.length + ys.length ≤ 4096 ∧ Q .none (σ.set l (.list (xs ++ ys)))
noncomputable def bJoin : BF := fun T as σ Q => on2 as fun a b => onSt False a fun x => onLo False b fun l => onLst False σ[l]? fun xs => onO (strsOf xs) fun ys => (ys.map (·.length)).sum + ys.length * x.length ≤ 16777216 ∧ Q (.str (Txt.join x ys)) σ
noncomputable def bCount : BF := fun T as σ Q => on2 as fun a b => onSt False a fun x => onSt False b fun y => Q (.int (Txt.count x y)) σ
noncomputable def bSum : BF := fun T as σ Q => on1 as fun a => onLo False a fun l => onLst False σ[l]? fun xs => onO (intsOf xs) fun is => Q (.int is.sum) σ
noncomputable def bAll : BF := fun T as σ Q => on1 as fun a => onLo False a fun l => onLst False σ[l]? fun xs => onO (boolsOf xs) fun is => Q (.bool (is.all id)) σ
noncomputable def bMin : BF := fun T as σ Q => on2 as fun a b => onI False a fun a => onI False b fun b => Q (.int (if b < a then b else a)) σ
noncomputable def bMax : BF := fun T as σ Q => on2 as fun a b => onI False a fun a => onI False b fun b => Q (.int (if b > a then b else a)) σ
noncomputable def lenL (l : Nat) (σ : Sto) (Q : AV → Sto → Prop) : Prop := onV (onV False (asOT σ[l]?) fun xs => xs.length < 1000000 ∧ Q (.int xs.length) σ) (asOL σ[l]?) fun xs => xs.length < 1000000 ∧ Q (.int xs.length) σ
noncomputable def bLen : BF := fun T as σ Q => on1 as fun a => onV (onV (onLo False a fun l => lenL l σ Q) (asAS a) fun x => x.length < 1000000 ∧ Q (.int x.length) σ) (asAX a) fun _ => Q (.int T.scr.length) σ
noncomputable def bTuple : BF := fun T as σ Q => on1 as fun a => onLo False a fun l => onLst False σ[l]? fun xs => xs.length ≤ 4096 ∧ Q (.loc σ.length) (σ ++ [.tup xs])
noncomputable def bltL : List (String × BF) := [("list.append", bAppend), ("list.extend", bExtend), ("str.join", bJoin), ("str.count", bCount), ("sum", bSum), ("all", bAll), ("min", bMin), ("max", bMax), ("len", bLen)]
noncomputable def bltV (T : Tb) (nm : String) (as : List AV) (σ : Sto) (Q : AV → Sto → Prop) : Prop := onV False (asS (bltL.lookup nm)) fun f => f T as σ Q
noncomputable def typV (T : Tb) (nm : String) (as : List AV) (σ : Sto) (Q : AV → Sto → Prop) : Prop := nm = "tuple" ∧ bTuple T as σ Q

/-- the arguments are laid into slots and cells -/
noncomputable def place1 (cl : List Nat) (p : Nat ⊕ Nat) (v : AV) (st : St) : St := match p with
  | .inl i => ⟨st.vars.set i (some v), st.σ⟩
  | .inr j => ⟨st.vars, st.σ.set (cl.getD j 0) (.cell (some v))⟩
noncomputable def place (cl : List Nat) : List (Nat ⊕ Nat) → List AV → St → St
  | [], _, st => st
  | p :: ps, vs, st => match vs with
    | [] => st
    | v :: vs => place cl ps vs (place1 cl p v st)
/-- super()'s built-in methods of a pile: __len__, pop, __init__ -/
noncomputable def supL (T : Tb) (k l : Nat) (σ : Sto) (Q : AV → Sto → Prop) : Prop := onV False (asOA σ[l]?) fun t => t.1 ∈ T.accs ∧
      if k = 0 then t.2.2.length < 1000000 ∧ Q (.int t.2.2.length) σ
      else if k = 1 then onO t.2.2.getLast? fun x => t.2.2.length ≤ 4096 ∧ Q x (σ.set l (.acc t.1 t.2.1 t.2.2.dropLast))
      else t.2.2 = [] ∧ Q .none σ
noncomputable def supV (T : Tb) (k : Nat) (self : AV) (σ : Sto) (Q : AV → Sto → Prop) : Prop := onLo False self fun l => supL T k l σ Q
noncomputable def fullA (fd : FnD) (as : List AV) : Option (List AV) :=
  if as.length = fd.np then some as else if as.length + fd.dfl.length = fd.np then some (as ++ fd.dfl) else none
noncomputable def runTail (T : Tb) (tail : Option (Nat × Bool)) (Q : AV → Sto → Prop) : Fl → St → Prop
  | .ret v, s => Q v s.σ
  | .brk, _ => False
  | .next, s => onV (Q .none s.σ) (asS tail) fun t => onVar s.vars[0]? fun v => supV T t.1 v s.σ fun x σ => Q (if t.2 then x else .none) σ
noncomputable def runFn (T : Tb) (call : CallT) (fd : FnD) (as : List AV) (σ : Sto) (Q : AV → Sto → Prop) : Prop :=
  onO (fullA fd as) fun full => match fd.kw with
    | false => exs T call ((List.range fd.own).reverse.map (σ.length + ·)) fd.body (place ((List.range fd.own).reverse.map (σ.length + ·)) fd.pl full ⟨List.replicate fd.nl none, σ ++ List.replicate fd.own (.cell none)⟩) (runTail T fd.tail Q)
    | true => exs T call ((List.range fd.own).reverse.map ((σ.length + 1) + ·)) fd.body (place ((List.range fd.own).reverse.map ((σ.length + 1) + ·)) fd.pl (full ++ [.loc σ.length]) ⟨List.replicate fd.nl none, (σ ++ [.dict []]) ++ List.replicate fd.own (.cell none)⟩) (runTail T fd.tail Q)

noncomputable def callS (T : Tb) (call : CallT) : CallT := fun f as σ Q => match f with
  | .blt nm => bltV T nm as σ Q
  | .typ nm => typV T nm as σ Q
  | .ext a => onV (onV False (asS (T.clss.lookup a)) fun c => (c.2 = true → as = []) ∧ call (.ext c.1) (.loc (σ.length + 1) :: as) (σ ++ [.ns [], if c.2 then .acc a σ.length [] else .obj a σ.length]) fun r σ' => r = .none ∧ Q (.loc (σ.length + 1)) σ')
      (asS (T.fns.lookup a)) fun fd => runFn T call fd as σ Q
  | .loc l => onV False (asOF σ[l]?) fun t => onV False (asS T.lams[t.1]?) fun ld => t.2.1.length = ld.nf ∧ as.length = ld.np ∧ ev T call t.2.1 ld.body (place t.2.1 ld.pl as ⟨List.replicate ld.nl none, σ⟩) fun v s => Q v s.σ
  | _ => False
noncomputable def callN (T : Tb) : Nat → CallT
  | 0 => fun _ _ _ _ => False
  | n + 1 => callS T (callN T n)
theorem call_fn {T : Tb} {m : Nat} {a : Addr} {fd : FnD} {as : List AV} {σ : Sto} {Q : AV → Sto → Prop} (e : T.fns.lookup a = some fd) (h : callN T (m + 1) (.ext a) as σ Q) : runFn T (callN T m) fd as σ Q := by
  have h : onV _ (asS (T.fns.lookup a)) (fun fd => runFn T (callN T m) fd as σ Q) := h
  rw [e] at h; exact h
theorem call_ext {T : Tb} {m : Nat} {a : Addr} {as : List AV} {σ : Sto} {Q : AV → Sto → Prop} (h : callN T (m + 1) (.ext a) as σ Q) : (∃ fd, T.fns.lookup a = some fd ∧ runFn T (callN T m) fd as σ Q) ∨
    ∃ c, T.clss.lookup a = some c ∧ (c.2 = true → as = []) ∧ callN T m (.ext c.1) (.loc (σ.length + 1) :: as) (σ ++ [.ns [], if c.2 then .acc a σ.length [] else .obj a σ.length]) fun r σ' => r = .none ∧ Q (.loc (σ.length + 1)) σ' :=
  (onV_or (show onV (onV False (asS (T.clss.lookup a)) fun c => (c.2 = true → as = []) ∧ callN T m (.ext c.1) (.loc (σ.length + 1) :: as) (σ ++ [.ns [], if c.2 then .acc a σ.length [] else .obj a σ.length]) fun r σ' => r = .none ∧ Q (.loc (σ.length + 1)) σ')
      (asS (T.fns.lookup a)) fun fd => runFn T (callN T m) fd as σ Q from h)).imp id onV_p
theorem call_loc {T : Tb} {m l : Nat} {as : List AV} {σ : Sto} {Q : AV → Sto → Prop} (h : callN T (m + 1) (.loc l) as σ Q) : ∃ t : Nat × List Nat × Option Nat, σ[l]? = some (.lam t.1 t.2.1 t.2.2) ∧
    ∃ ld, T.lams[t.1]? = some ld ∧ t.2.1.length = ld.nf ∧ as.length = ld.np ∧ ev T (callN T m) t.2.1 ld.body (place t.2.1 ld.pl as ⟨List.replicate ld.nl none, σ⟩) fun v s => Q v s.σ :=
  (onV_p (show onV False (asOF σ[l]?) fun t => onV False (asS T.lams[t.1]?) fun ld => t.2.1.length = ld.nf ∧ as.length = ld.np ∧ ev T (callN T m) t.2.1 ld.body (place t.2.1 ld.pl as ⟨List.replicate ld.nl none, σ⟩) fun v s => Q v s.σ from h)).imp fun t h => ⟨h.1, onV_p h.2⟩
theorem of_fn {T : Tb} {m : Nat} {a : Addr} {fd : FnD} {as : List AV} {σ : Sto} {Q : AV → Sto → Prop} (e : T.fns.lookup a = some fd) (h : runFn T (callN T m) fd as σ Q) : callN T (m + 1) (.ext a) as σ Q := by
  have g : callN T (m + 1) (.ext a) as σ Q = onV _ (asS (T.fns.lookup a)) (fun fd => runFn T (callN T m) fd as σ Q) := rfl
  rw [g, e]; exact h
noncomputable def callL (T : Tb) (call : CallT) (t : Nat × List Nat × Option Nat) (as : List AV) (σ : Sto) (Q : AV → Sto → Prop) : Prop := onV False (asS T.lams[t.1]?) fun ld => t.2.1.length = ld.nf ∧ as.length = ld.np ∧ ev T call t.2.1 ld.body (place t.2.1 ld.pl as ⟨List.replicate ld.nl none, σ⟩) fun v s => Q v s.σ
theorem of_lam {T : Tb} {m l i : Nat} {cs : List Nat} {d : Option Nat} {ld : LamD} {as : List AV} {σ : Sto} {Q : AV → Sto → Prop} (h : σ[l]? = some (.lam i cs d)) (e : T.lams[i]? = some ld) (h1 : cs.length = ld.nf) (h2 : as.length = ld.np)
    (q : ev T (callN T m) cs ld.body (place cs ld.pl as ⟨List.replicate ld.nl none, σ⟩) fun v s => Q v s.σ) : callN T (m + 1) (.loc l) as σ Q := by
  have g : callN T (m + 1) (.loc l) as σ Q = onV False (asOF σ[l]?) (fun t => callL T (callN T m) t as σ Q) := rfl
  rw [g, h]
  show callL T (callN T m) (i, cs, d) as σ Q
  unfold callL
  rw [show (i, cs, d).1 = i from rfl, e]
  exact ⟨h1, h2, q⟩
end Mine

set_option Elab.async false
set_option genSizeOf false
set_option genInjectivity false
set_option backward.match.sparseCases false
set_option bootstrap.genMatcherCode false
set_option tactic.hygienic false
set_option linter.unusedVariables false
namespace Mine
open PySem PySem.Calls PyProof.Rows PySem.W PySem.SeqAt
variable {G : Gl} {ρ ρ' : List Addr} {A : Around} {L L' : Addr} {ln ln' : List Str} {st st' : St} {s s' s₁ : Shared} {Q : AV → St → Prop} {E : Value → Shared → Prop}

theorem Rep.core (R : Rep G ρ L ln st s) : RepC G ρ st.σ s :=
  ⟨R.len, R.nod, R.obj, fun a ha => let ⟨h1, _, h3, h4⟩ := R.own a ha; ⟨h1, h3, h4⟩, R.base, let ⟨_, h, _⟩ := R.frame; Nat.le_trans R.low (Nat.le_of_lt h.lt), R.tab, R.tabL.2, R.gens⟩
/-- a new frame is entered; cells may be made for it -/
theorem RepC.enter {σ : List AO} (R : RepC G ρ σ s) {h' : Heap} {t : Nat} {m : Str → Option Value} {vars : List (Option AV)} (hk : ∀ b o, s.heap.get? b = some o → h'.get? b = some o)
    (hL : s.heap.get? L' = none) (hlow : G.h₀.objs.size ≤ L') (hn : h'.Ns L' m) (hm : Rep.Loc G ρ ln' ⟨vars, σ⟩ m) :
    Rep G ρ L' ln' ⟨vars, σ⟩ { s with heap := h', toks := t } := by
  have hcode : ∀ c q, s.heap.CodeRec c q → h'.CodeRec c q := fun c q x => x.keeps hk
  have hne : ∀ b o, s.heap.get? b = some o → b ≠ L' := fun b o e q => by rw [q, hL] at e; cases e
  refine ⟨R.len, R.nod, ?_, ?_, fun b o e => hk b o (R.base b o e), hlow, ?_, ⟨?_, R.tab0⟩, ⟨m, hn, hm⟩, R.gens⟩
  · intro l ao b e1 e2
    refine (R.obj l ao b e1 e2).at ?_ hcode
    obtain ⟨_, _, o, e⟩ := R.own b (Rep.mem e2)
    rw [e, hk b o e]
  · intro b hb
    obtain ⟨h1, h3, o', e⟩ := R.own b hb; exact ⟨h1, hne b o' e, h3, o', hk b o' e⟩
  · obtain ⟨ps, h1, h2, h3⟩ := R.tab
    exact ⟨ps, hk _ _ h1, h2, fun pos v e => let ⟨c', e1, e2⟩ := h3 pos v e; ⟨c', e1, hcode _ _ e2⟩⟩
  · obtain ⟨ps, h1, h2, h3⟩ := R.tab
    exact hne _ _ h1

/-- a frame is left: back to the one around it -/
theorem Rep.leave (R : Rep G ρ L ln st s) (R' : Rep G ρ' L' ln' st' s') (hk : ∀ b o, s.heap.get? b = some o → s₁.heap.get? b = some o) (hos : s₁.os = s.os) (hL : s.heap.get? L' = none)
    (S : Step G L' ρ s₁ ρ' s') : Rep G ρ' L ln ⟨st.vars, st'.σ⟩ s' ∧ Step G L ρ s ρ' s' := by
  have hne : ∀ b o, s.heap.get? b = some o → b ≠ L' := fun b o e q => by rw [q, hL] at e; cases e
  have hLL : ∃ o, s.heap.get? L = some o := by obtain ⟨m, ⟨oL, _, _, h1, _⟩, _⟩ := R.frame; exact ⟨oL, h1⟩
  obtain ⟨oL, hoL⟩ := hLL
  have hLρ : L ∉ ρ := fun q => (R.own L q).2.1 rfl
  have hLρ' : L ∉ ρ' := fun q => (S.new L q).elim hLρ fun z => by rw [hk L oL hoL] at z; cases z
  have hLk : s'.heap.get? L = some oL := S.keep L oL (hk L oL hoL) hLρ (hne L oL hoL) R.tabL.1.symm
  refine ⟨⟨R'.len, R'.nod, R'.obj, ?_, R'.base, R.low, R'.tab, R.tabL, ?_, R'.gens⟩, ⟨S.pre, fun b o e h1 h2 h3 => S.keep b o (hk b o e) h1 (hne b o e) h3, fun b o e => S.live b o (hk b o e), fun a ha => ?_, S.os.trans hos⟩⟩
  · intro a ha
    obtain ⟨h1, h2, h3, h4⟩ := R'.own a ha
    exact ⟨h1, fun q => hLρ' (q ▸ ha), h3, h4⟩
  · obtain ⟨m, ⟨o', es, ep, h1, h2⟩, h3⟩ := R.frame
    rw [hoL] at h1; cases h1
    exact ⟨m, ⟨oL, es, ep, hLk, h2⟩, fun i x av e1 e2 => let ⟨v, h4, h5⟩ := h3 i x av e1 e2; ⟨v, h4, h5.mono S.pre⟩⟩
  · rcases S.new a ha with h | h
    · exact .inl h
    · right
      cases q : s.heap.get? a with
      | none => rfl
      | some o => rw [hk a o q] at h; cases h

/-- an object that the store does not hold is changed -/
theorem Rep.foreign (R : Rep G ρ L ln st s) {h' : Heap} {I : Addr} {t : Nat} (hI : I ∉ ρ) (hIL : I ≠ L) (hIP : I ≠ G.P) (hI0 : G.h₀.get? I = none) (hk : ∀ b o, b ≠ I → s.heap.get? b = some o → h'.get? b = some o)
    (hc : ∀ o vs q u, s.heap.get? I = some o → o.data = .fields vs → vs[1]? ≠ some (.str q u)) :
    Rep G ρ L ln st { s with heap := h', toks := t } := by
  have hcode : ∀ c q, s.heap.CodeRec c q → h'.CodeRec c q := fun c q ⟨a, o, vs, u, e1, e2, e3, e4⟩ => by
    by_cases z : a = I
    · subst z; exact absurd e4 (hc o vs q u e2 e3)
    · exact ⟨a, o, vs, u, e1, hk a o z e2, e3, e4⟩
  refine ⟨R.len, R.nod, ?_, ?_, fun b o e => hk b o (fun q => by rw [q, hI0] at e; cases e) (R.base b o e), R.low, ?_, R.tabL, ?_, R.gens⟩
  · intro l ao b e1 e2
    refine (R.obj l ao b e1 e2).at ?_ hcode
    obtain ⟨_, _, _, o, e⟩ := R.own b (Rep.mem e2)
    rw [e, hk b o (fun q => hI (q ▸ Rep.mem e2)) e]
  · intro b hb
    obtain ⟨h1, h2, h3, o', e⟩ := R.own b hb; exact ⟨h1, h2, h3, o', hk b o' (fun q => hI (q ▸ hb)) e⟩
  · obtain ⟨ps, h1, h2, h3⟩ := R.tab
    exact ⟨ps, hk _ _ (Ne.symm hIP) h1, h2, fun pos v e => let ⟨c', e1, e2⟩ := h3 pos v e; ⟨c', e1, hcode _ _ e2⟩⟩
  · obtain ⟨m, ⟨oL, es, ep, h1, h2⟩, h3⟩ := R.frame
    exact ⟨m, ⟨oL, es, ep, hk _ _ (Ne.symm hIL) h1, h2⟩, h3⟩
end Mine

set_option Elab.async false
set_option genSizeOf false
set_option genInjectivity false
set_option backward.match.sparseCases false
set_option bootstrap.genMatcherCode false
set_option tactic.hygienic false
set_option linter.unusedVariables false
set_option maxRecDepth 100000
namespace Mine
open PySem PySem.Calls PyProof.Rows PySem.W PySem.SeqAt Builtin Builtin.ObjectAttr
theorem fa_slotset : Slot "function" "__setattr__" "object.__setattr__" := .of (owner := "object") (n := "__setattr__") (by rw [typeLookup_type, builtinLookup_eq_fast]; kernel_rfl) (by decide +kernel) (by decide +kernel) (by decide +kernel) (by first | exact .inl (by decide +kernel) | exact .inr (by decide +kernel)) (by rw [isSubtype_type]; kernel_rfl)
theorem fa_mro : mroOf (.type "function") = pure [.type "function", .type "object"] := by rw [mroOf_type]; kernel_rfl
theorem fa_passes (self : Value) : refuseLoop self "__setattr__" [.type "function", .type "object"] = pure () := by kernel_rfl
theorem fa_slotget : Slot "function" "__getattribute__" "object.__getattribute__" := .of (owner := "object") (n := "__getattribute__") (by rw [typeLookup_type, builtinLookup_eq_fast]; kernel_rfl) (by decide +kernel) (by decide +kernel) (by decide +kernel) (by first | exact .inl (by decide +kernel) | exact .inr (by decide +kernel)) (by rw [isSubtype_type]; kernel_rfl)
theorem fa_hook : typeLookup (.type "function") "__getattr__" = pure none := by rw [typeLookup_type, builtinLookup_eq_fast]; kernel_rfl
theorem fa_hasDict : typeHasDict (.type "function") = true := by kernel_rfl

section
variable {prog : Program} {w : World} {A : Around} {E : Value → Shared → Prop} {s : Shared} {x : Addr} {ox : Obj} {v : Value} {name : Str}
theorem fa_type {M : Model} {h : Heap} (hx : h.get? x = some ox) (hc : ox.cls = .type "function") : Looks M h (typeOf (.ref x)) (.type "function") := by
  unfold typeOf
  exact (Looks.ld (part := some headPart) hx).andThen (hc ▸ Looks.now)
theorem fset_core {Q : Unit → Shared → Prop} (hx : s.heap.get? x = some ox) (hc : ox.cls = .type "function") (hn : typeLookup (.type "function") name = pure none)
    (h : ∀ (A : Around) (E : Value → Shared → Prop), wpAny (model prog w) A (storeInOwnDict (.ref x) (.type "function") (.str name s.toks) name v false) (fun fin s' => fin = .done (.ret .none) ∧ Q () s') E { s with toks := s.toks + 1 }) :
    wpAny (model prog w) A (setAttr (.ref x) name v) Q E s := by
  have SF := PySem.F.store_object
  refine wpAny_bind (wpAny_mkText (wpAny_bind (wpAny_bind (wpAny_bind ((fa_type hx hc).here (s := { s with toks := s.toks + 1 }) ((Looks.of_pure fa_slotset.lookup).here (s := { s with toks := s.toks + 1 }) (wpAny_holding ?_)))))))
  rw [fa_slotset.bind]
  refine wpAny_bind (wpAny_pure (wpAny_bind (wpAny_call ?_)))
  have sub : Looks (model prog w) s.heap (isInstance (.ref x) (.type "object")) true := (fa_type hx hc).andThen (Looks.of_pure (by rw [isSubtype_type]; kernel_rfl))
  refine codeAny_call_builtin SF.slot.plain SF.entry (@check_slot (model prog w) _ _ { s with toks := s.toks + 1 } "object.__setattr__" "object" "__setattr__" (.ref x) [.str name s.toks, v] [] _ SF.kind SF.split sub (SF.args (.ref x) (.str name s.toks) v) ?_)
  rw [show ([Value.ref x] ++ [Value.str name s.toks, v] : List Value) = [.ref x, .str name s.toks, v] from rfl, osa_eq, refuse_eq]
  refine wpAny_bind (wpAny_bind ((fa_type hx hc).here (s := { s with toks := s.toks + 1 }) (wpAny_bind ((Looks.of_pure fa_mro).here (s := { s with toks := s.toks + 1 }) ?_))))
  rw [fa_passes]
  refine wpAny_pure (wpAny_bind ((fa_type hx hc).here (s := { s with toks := s.toks + 1 }) (wpAny_bind ((Looks.of_pure hn).here (s := { s with toks := s.toks + 1 }) (wpAny_bind ((Looks.of_pure rfl : Looks (model prog w) s.heap (storeTaker? none) none).here (s := { s with toks := s.toks + 1 }) ?_))))))
  refine wpAny_mono (h _ _) (fun fin s' hq => ?_) fun _ _ z => z
  obtain ⟨rfl, hq⟩ := hq
  exact wpAny_pure (wpAny_pure hq)
theorem putName_nil (name : Str) (h : Int) (k v : Value) : Obj.putName name h k v { cls := .type "dict", data := .dict #[] } = dictOf [⟨h, k, v⟩] 1 := by
  exact (putName_dict name h k v [] 0).trans rfl
set_option tactic.hygienic true in
/-- the store, the object's dict being dx -/
theorem fstore {Q : Unit → Shared → Prop} {dx : Addr} {es : List DictEntry} {n : Nat} (hd : s.heap.get? dx = some (dictOf es n)) (hl : (getL name es).isSome = true) (hz : (putL name (PyData.keyHash w.params name) (.str name s.toks) v es).length ≤ 1000)
    (h : Q () { s with heap := s.heap.update dx (Obj.putName name (PyData.keyHash w.params name) (.str name s.toks) v), toks := s.toks + 1 }) {tk : Tok} :
    wpAny (model prog w) A (storeInDict dx (.str name tk) name v) (fun fin s' => fin = .done (.ret .none) ∧ Q () s') E s := by
  unfold storeInDict nsSet
  refine wpAny_bind (wpAny_pure (wpAny_bind ?_))
  refine wpAny_bind (wpAny_bind (wpAny_askSetting (wpAny_pure (wpAny_bind (wpAny_mkText (wpAny_bind (wpAny_loadPart hd ?_)))))))
  dsimp only
  have c : (!es.toArray.any (·.key.isStr name) && es.toArray.any (·.refKey)) = false := by
    rw [← Array.any_toList, ← Array.any_toList]
    simp only
    unfold getL at hl
    split at hl
    · rename_i en he
      rw [List.any_eq_true.mpr ⟨en, List.mem_of_find?_eq_some he, List.find?_some he⟩]; rfl
    · split at hl
      · cases hl
      · rename_i z; rw [Bool.not_eq_true] at z; rw [z, Bool.and_false]
  rw [aRefKeyMayBeTheName_at, c]
  have e := putName_dict name (PyData.keyHash w.params name) (.str name s.toks) v es n
  have hself : (s.heap.update dx (Obj.putName name (PyData.keyHash w.params name) (.str name s.toks) v)).get? dx = some (dictOf (putL name (PyData.keyHash w.params name) (.str name s.toks) v es) (putN name es n)) := by
    rw [Heap.get?_update_self _ hd (by rw [e]; rfl), e]
  refine wpAny_updatePart hd ?_
  refine wpAny_bind (wpAny_lookBehind (o := dictOf (putL name (PyData.keyHash w.params name) (.str name s.toks) v es) (putN name es n)) hself (pastItsLine_dict (by rw [List.size_toArray, sizeLine_eq]; omega)) ?_)
  exact wpAny_pure ⟨rfl, h⟩
theorem looks_nsGet {M : Model} {h : Heap} {dx : Addr} {es : List DictEntry} {n : Nat} {r : Option Value} (hd : h.get? dx = some (dictOf es n)) (hl : getL name es = some r) : Looks M h (nsGet dx name) r := by
  intro A Q E s k q
  refine wpAny_bind (wpAny_loadPart (k _ _ hd) ?_)
  rw [nsLook_of ((lookIn_dict name es n).trans hl)]
  exact wpAny_pure q
theorem fa_find {M : Model} {h : Heap} {dx : Addr} {es : List DictEntry} {n : Nat} {fd : FuncData} (hx : h.get? x = some ox) (hc : ox.cls = .type "function") (hd : ox.dict = some dx) (hf : ox.data = .func fd) (hn : typeLookup (.type "function") name = pure none)
    (hdx : h.get? dx = some (dictOf es n)) (hl : getL name es = some (some v)) : Looks M h (find (.ref x) (.type "function") name) (.value v) := by
  have L1 : Looks M h (ObjectAttr.ownDict x) (some dx) := by
    unfold ObjectAttr.ownDict
    refine (Looks.ld (part := some headPart) hx).andThen ?_
    rw [hf]
    unfold instanceDict
    refine (Looks.ld (part := some headPart) hx).andThen ?_
    rw [hc, hd]
    exact .now
  unfold find
  rw [hn]
  refine Looks.now.andThen (Looks.now.andThen (Looks.now.andThen ?_))
  show Looks M h (ownThenClass (.ref x) name none none) _
  unfold ownThenClass
  have L2 : Looks M h (inOwnDict name (.ref x)) (some v) := L1.andThen (looks_nsGet hdx hl)
  exact L2.andThen (Looks.tag .now)
theorem fget_core {Q : Value → Shared → Prop} {dx : Addr} {es : List DictEntry} {n : Nat} {fd : FuncData} {expr : Bool} (hx : s.heap.get? x = some ox) (hc : ox.cls = .type "function") (hd : ox.dict = some dx) (hf : ox.data = .func fd) (hn : typeLookup (.type "function") name = pure none)
    (hdx : s.heap.get? dx = some (dictOf es n)) (hl : getL name es = some (some v)) (hv : handedIn v = true) (h : Q v { s with toks := s.toks + 1 }) : wpAny (model prog w) A (getAttr (.ref x) name expr) Q E s := by
  have T := fa_type (M := model prog w) hx hc
  unfold getAttr getAttrBy
  refine wpAny_bind (wpAny_mkText (wpAny_holding (wpAny_bind (T.here (s := { s with toks := s.toks + 1 }) (wpAny_bind ((Looks.of_pure fa_slotget.lookup).here (s := { s with toks := s.toks + 1 }) ?_))))))
  show wpAny _ _ (getAttrByItsOwn _ _ _ _ _ _) _ _ _
  unfold getAttrByItsOwn
  refine wpAny_bind (wpAny_pure (wpAny_bind (wpAny_attempt ?_)))
  have hca : callGetattribute (.ref x) (.str name s.toks) (.builtin "object.__getattribute__") expr = boundAndCalled (.builtin "object.__getattribute__") (.ref x) (.str name s.toks) := by cases expr <;> rfl
  rw [hca]
  refine wpAny_holding ?_
  unfold boundAndCalled
  rw [fa_slotget.bind]
  refine wpAny_bind (wpAny_pure (wpAny_call ?_))
  refine codeAny_call_builtin fa_slotget.plain F.entry_object_getattribute (fa_slotget.check _ _ _ _ _ _ _ _ (show (Shared.TypeIs { s with toks := s.toks + 1 } (.ref x) "function") from ⟨ox, hx, hc⟩) (F.args_object_getattribute_2 _ _) ?_)
  show wpAny _ _ (Builtin.«object.__getattribute__» ⟨[.ref x, .str name s.toks], []⟩) _ _ _
  unfold Builtin.«object.__getattribute__»
  refine wpAny_bind (wpAny_pure (wpAny_bind (wpAny_pure (wpAny_bind (T.here (s := { s with toks := s.toks + 1 }) (wpAny_bind ((fa_find hx hc hd hf hn hdx hl).here (s := { s with toks := s.toks + 1 }) ?_)))))))
  refine wpAny_pure ?_
  show wpAny _ _ (handedOut v) _ _ _
  rw [handedOut_of hv]; exact wpAny_pure h
theorem fmeth_core {Q : Value × List Value → Shared → Prop} {dx : Addr} {es : List DictEntry} {n : Nat} {fd : FuncData} {pl : Sem Bool} (hx : s.heap.get? x = some ox) (hc : ox.cls = .type "function") (hd : ox.dict = some dx) (hf : ox.data = .func fd) (hn : typeLookup (.type "function") name = pure none)
    (hdx : s.heap.get? dx = some (dictOf es n)) (hl : getL name es = some (some v)) (hv : handedIn v = true) (h : Q (v, []) { s with toks := s.toks + 1 }) : wpAny (model prog w) A (getMethod (.ref x) name pl) Q E s := by
  have T := fa_type (M := model prog w) hx hc
  have hcan := PySem.F.canon_object_ga
  unfold getMethod specialOf
  refine wpAny_bind (wpAny_bind (T.here ((Looks.of_pure fa_slotget.lookup).here ?_)))
  dsimp only
  rw [hcan, if_neg (by decide)]
  refine wpAny_bind (wpAny_bind (T.here ((Looks.of_pure fa_hook).here ?_)))
  refine wpAny_bind (wpAny_bind (T.here ((Looks.of_pure hn).here ?_)))
  exact wpAny_bind (fget_core hx hc hd hf hn hdx hl hv (wpAny_pure h))
theorem fdict_has {M : Model} {dx : Addr} {Q : Option Addr → Shared → Prop} (hx : s.heap.get? x = some ox) (hc : ox.cls = .type "function") (hd : ox.dict = some dx) (h : Q (some dx) s) : wpAny M A (ownDictForStores (.ref x)) Q E s := by
  unfold ownDictForStores instanceDict
  refine wpAny_bind (wpAny_loadPart hx ?_)
  rw [hc, hd]
  exact wpAny_pure h
theorem fdict_new {M : Model} {Q : Option Addr → Shared → Prop} {fd : FuncData} (hx : s.heap.get? x = some ox) (hc : ox.cls = .type "function") (hd : ox.dict = none) (hf : ox.data = .func fd)
    (h : Q (some s.heap.objs.size) { s with heap := (s.heap.push { cls := .type "dict", data := .dict #[] }).update x fun o => { o with dict := some s.heap.objs.size } }) : wpAny M A (ownDictForStores (.ref x)) Q E s := by
  unfold ownDictForStores instanceDict
  refine wpAny_bind (wpAny_loadPart hx ?_)
  rw [hc, hd, hf]
  simp only [fa_hasDict]
  refine wpAny_bind (wpAny_alloc ?_)
  refine wpAny_bind (wpAny_update (Heap.get?_push_of_some _ hx) ?_)
  exact wpAny_pure h
theorem fown (b : Bool) : ownStreamTells (.ref x) (.type "function") = pure () := by kernel_rfl
end

section
variable {G : Gl} {ρ : List Addr} {A : Around} {L : Addr} {ln : List Str} {st : St} {s : Shared} {Q : AV → St → Prop} {E : Value → Shared → Prop}
theorem Rep.lam (R : Rep G ρ L ln st s) {l i : Nat} {cl : List Nat} {d : Option Nat} {v : Value} (h : st.σ[l]? = some (.lam i cl d)) (hv : VR G ρ (.loc l) v) :
    ∃ a lm pm c' ctv cs od, v = .ref a ∧ ρ[l]? = some a ∧ G.lamOk i lm ∧ cl.map (ρ[·]?) = cs.map some ∧ s.heap.get? a = some (lamObj G.lq lm cs pm c' ctv od) ∧ s.heap.CodeRec (.ref c') G.lq ∧ d.map (ρ[·]?) = od.map some :=
  hv.loc_.imp fun a e => (R.obj _ _ _ h e.2).lam_.imp fun lm => Exists.imp fun pm => Exists.imp fun c' => Exists.imp fun ctv => Exists.imp fun cs => Exists.imp fun od g => ⟨e.1, e.2, g.2.1, g.2.2.1, g.1, g.2.2.2⟩
theorem Rep.ns (R : Rep G ρ L ln st s) {d : Nat} {dx : Addr} {kvs : List (Nat × AV)} (h : st.σ[d]? = some (.ns kvs)) (e : ρ[d]? = some dx) :
    ∃ es n, s.heap.get? dx = some (dictOf es n) ∧ KVs G ρ (named G kvs) es ∧ (∀ p ∈ kvs, p.1 < G.nms.length) ∧ kvs.length ≤ 900 := (R.obj _ _ _ h e).ns_
theorem of_getO {ρ : List Addr} {d : Nat} {od : Option Addr} (h : (some d).map (ρ[·]?) = od.map some) : ∃ dx, od = some dx ∧ ρ[d]? = some dx := by
  cases od with
  | none => exact noS h.symm
  | some dx => exact ⟨dx, rfl, Option.some.inj h⟩
theorem of_getN {ρ : List Addr} {od : Option Addr} (h : (none : Option Nat).map (ρ[·]?) = od.map some) : od = none := by
  cases od with
  | none => rfl
  | some dx => exact noS h
/-- what stands in a namespace: the library's table has it or has room -/
theorem KVs.has {kvs : List (Str × AV)} {x : Str} {es : List DictEntry} (h : KVs G ρ kvs es) : (PySem.W.getL x es).isSome = true := by
  have g := KVs.getL (x := x) h
  cases q : kvs.lookup x with
  | none => rw [q] at g; exact g ▸ rfl
  | some av => rw [q] at g; exact g.elim fun v g => g.1 ▸ rfl
/-- an attribute of a function is set, that has a dict -/
theorem p_fset (Wk : GlOk G) (R : Rep G ρ L ln st s) {Q : St → Prop} {l i d : Nat} {cl : List Nat} {kvs : List (Nat × AV)} {v w : Value} {k : Nat} {av : AV} (hn : typeLookup (.type "function") (G.nm k) = pure none)
    (h : st.σ[l]? = some (.lam i cl (some d))) (hd : st.σ[d]? = some (.ns kvs)) (hv : VR G ρ (.loc l) v) (hw : VR G ρ av w) (hk : k < G.nms.length) (hz : kvs.length < 900)
    (hq : Q { st with σ := st.σ.set d (.ns (putK k av kvs)) }) : wpAny (MM G) A (setAttr v (G.nm k) w) (fun _ => RetU G ρ L ln s Q) E s := by
  obtain ⟨a, lm, pm, c', ctv, cs, od, rfl, e, g1, g2, g3, g4, g5⟩ := R.lam h hv
  obtain ⟨dx, rfl, g6⟩ := of_getO g5
  obtain ⟨es, n, k1, k2, k3, k4⟩ := R.ns hd g6
  refine fset_core g3 rfl hn fun A E => ?_
  unfold storeInOwnDict
  rw [fown true]
  refine wpAny_bind (wpAny_pure (wpAny_bind (fdict_has (s := { s with toks := s.toks + 1 }) g3 rfl rfl ?_)))
  show wpAny (model G.prog G.w) A (storeInDict dx (.str (G.nm k) s.toks) (G.nm k) w) _ _ _
  refine fstore (Q := fun _ => RetU G ρ L ln s Q) (s := { s with toks := s.toks + 1 }) k1 k2.has (Nat.le_trans (putK_le k2 (by omega)) (by omega)) ?_
  have hput := KVs.putL (x := G.nm k) (t := s.toks + 1) hw k2
  rw [named_put Wk.nms hk k3] at hput
  have e2 := putName_dict (G.nm k) (PyData.keyHash G.w.params (G.nm k)) (.str (G.nm k) (s.toks + 1)) w es n
  obtain ⟨ρ', av', st', hv', R', S', rfl, rfl⟩ := ret_set (t := s.toks + 2) (av := .none) (v := .none) (ao := .ns (putK k av kvs)) (Q := fun x st' => x = .none ∧ st' = { st with σ := st.σ.set d (.ns (putK k av kvs)) }) (f := Obj.putName (G.nm k) (PyData.keyHash G.w.params (G.nm k)) (.str (G.nm k) (s.toks + 1)) w) R hd g6 k1 (by simp) (by rw [e2]; rfl) (fun he => by
      rw [e2] at he
      exact .ns he hput (putK_mem hk k3) (by have := putK_length (k := k) (av := av) kvs; omega)) .none ⟨rfl, rfl⟩
  exact ⟨_, _, R', S', hq⟩
theorem p_fsetNew (Wk : GlOk G) (R : Rep G ρ L ln st s) {Q : St → Prop} {l i : Nat} {cl : List Nat} {v w : Value} {k : Nat} {av : AV} (hn : typeLookup (.type "function") (G.nm k) = pure none)
    (h : st.σ[l]? = some (.lam i cl none)) (hv : VR G ρ (.loc l) v) (hw : VR G ρ av w) (hk : k < G.nms.length)
    (hq : Q { st with σ := ((st.σ ++ [AO.ns []]).set l (.lam i cl (some st.σ.length))).set st.σ.length (.ns [(k, av)]) }) : wpAny (MM G) A (setAttr v (G.nm k) w) (fun _ => RetU G ρ L ln s Q) E s := by
  obtain ⟨a, lm, pm, c', ctv, cs, od, rfl, e, g1, g2, g3, g4, g5⟩ := R.lam h hv
  have hod := of_getN g5
  subst hod
  obtain ⟨R1, S1, e1⟩ := R.push (t := s.toks + 1) (ob := { cls := .type "dict", data := .dict #[] }) (ao := .ns []) rfl (.ns (n := 0) (es := []) (kvs := []) (Heap.get?_push_size _ rfl) .nil (by simp) (by simp))
  have h1 : (st.σ ++ [AO.ns []])[l]? = some (.lam i cl none) := by rw [List.getElem?_append_left (List.getElem?_eq_some_iff.mp h).1]; exact h
  have e1' := S1.pre.get e
  have g3' := Heap.get?_push_of_some { cls := .type "dict", data := .dict #[] } g3
  have hupd : ((s.heap.push { cls := .type "dict", data := .dict #[] }).update a fun o => { o with dict := some s.heap.objs.size }).get? a = some (lamObj G.lq lm cs pm c' ctv (some s.heap.objs.size)) := by
    rw [Heap.get?_update_self _ g3' rfl]
  have h2 : ((s.heap.push { cls := .type "dict", data := .dict #[] }).update a fun o => { o with dict := some s.heap.objs.size }).get? s.heap.objs.size = some (dictOf [] 0) := by
    rw [Heap.get?_update_other _ _ (Nat.ne_of_lt (Heap.lt_size g3))]; exact Heap.get?_push_size _ rfl
  have hcr : ((s.heap.push { cls := .type "dict", data := .dict #[] }).update a fun o => { o with dict := some s.heap.objs.size }).CodeRec (.ref c') G.lq :=
    (g4.push _).keepsBut (fun b o hb eb => (Heap.get?_update_other _ _ (Ne.symm hb)).trans eb) g3' (fun vs hdd => by cases hdd)
  obtain ⟨R2, S2⟩ := R1.set (l := l) (a := a) (t := s.toks + 1) (h' := (s.heap.push { cls := .type "dict", data := .dict #[] }).update a fun o => { o with dict := some s.heap.objs.size }) (ao := .lam i cl (some st.σ.length)) h1 e1' (fun b o hb eb => (Heap.get?_update_other _ _ (Ne.symm hb)).trans eb)
    (fun o eo vs hdd => by rw [g3'] at eo; cases eo; cases hdd) ⟨_, hupd⟩ (.lamD (l := lm) (dx := s.heap.objs.size) g1 (S1.pre.gets g2) hupd hcr e1)
  have hd : ((st.σ ++ [AO.ns []]).set l (AO.lam i cl (some st.σ.length)))[st.σ.length]? = some (.ns []) := by
    rw [List.getElem?_set_ne (Nat.ne_of_lt (List.getElem?_eq_some_iff.mp h).1)]; simp
  refine fset_core g3 rfl hn fun A E => ?_
  unfold storeInOwnDict
  rw [fown true]
  refine wpAny_bind (wpAny_pure (wpAny_bind (fdict_new (s := { s with toks := s.toks + 1 }) (fd := kla_fn "<lambda>" G.lq lm.params lm.body lm.scope (lm.free.zip cs) pm (.ref c') ctv) g3 rfl rfl rfl ?_)))
  show wpAny (model G.prog G.w) A (storeInDict s.heap.objs.size (.str (G.nm k) s.toks) (G.nm k) w) _ _ _
  have e2 := putName_dict (G.nm k) (PyData.keyHash G.w.params (G.nm k)) (.str (G.nm k) (s.toks + 1)) w [] 0
  refine fstore (Q := fun _ => RetU G ρ L ln s Q) (n := 0) (es := []) h2 rfl (by simp [putL]) ?_
  have hw2 : VR G (ρ ++ [s.heap.objs.size]) av w := hw.mono S1.pre
  obtain ⟨ρ', av', st', hv', R', S', rfl, rfl⟩ := ret_set (t := s.toks + 2) (av := .none) (v := .none) (ao := .ns [(k, av)]) (Q := fun av' st' => av' = .none ∧ st' = { st with σ := ((st.σ ++ [AO.ns []]).set l (.lam i cl (some st.σ.length))).set st.σ.length (.ns [(k, av)]) }) (f := Obj.putName (G.nm k) (PyData.keyHash G.w.params (G.nm k)) (.str (G.nm k) (s.toks + 1)) w) R2 hd e1 h2 (by simp) (by rw [e2]; rfl) (fun he => by
      rw [e2] at he
      exact .ns he (.cons hw2 .nil) (by simpa using hk) (by simp)) .none ⟨rfl, rfl⟩
  exact ⟨_, _, R', (S1.trans S2).trans S', hq⟩

theorem handedR' {ρ : List Addr} {av : AV} {v : Value} (h : VR G ρ av v) (hb : ∀ n, av ≠ .blt n) : handedIn v = true := handedR h hb
theorem p_fget (Wk : GlOk G) (R : Rep G ρ L ln st s) {l i d : Nat} {cl : List Nat} {kvs : List (Nat × AV)} {v : Value} {k : Nat} {av : AV} {expr : Bool} (hn : typeLookup (.type "function") (G.nm k) = pure none)
    (h : st.σ[l]? = some (.lam i cl (some d))) (hd : st.σ[d]? = some (.ns kvs)) (hv : VR G ρ (.loc l) v) (hk : k < G.nms.length) (hg : getK k kvs = some av) (hb : ∀ n, av ≠ .blt n)
    (hq : Q av st) : wpAny (MM G) A (getAttr v (G.nm k) expr) (Ret G ρ L ln s Q) E s := by
  obtain ⟨a, lm, pm, c', ctv, cs, od, rfl, e, g1, g2, g3, g4, g5⟩ := R.lam h hv
  obtain ⟨dx, rfl, g6⟩ := of_getO g5
  obtain ⟨es, n, k1, k2, k3, k4⟩ := R.ns hd g6
  have g := KVs.getL (x := G.nm k) k2
  rw [named_get Wk.nms hk k3, hg] at g
  obtain ⟨w, q1, q2⟩ := g
  exact fget_core g3 rfl rfl rfl hn k1 q1 (handedR q2 hb) (ret0 R q2 hq)
theorem p_fmeth (Wk : GlOk G) (R : Rep G ρ L ln st s) {P : Value × List Value → Shared → Prop} {l i d : Nat} {cl : List Nat} {kvs : List (Nat × AV)} {v : Value} {k : Nat} {av : AV} {pl : Sem Bool} (hn : typeLookup (.type "function") (G.nm k) = pure none)
    (h : st.σ[l]? = some (.lam i cl (some d))) (hd : st.σ[d]? = some (.ns kvs)) (hv : VR G ρ (.loc l) v) (hk : k < G.nms.length) (hg : getK k kvs = some av) (hb : ∀ n, av ≠ .blt n)
    (hq : ∀ w, VR G ρ av w → P (w, []) { s with toks := s.toks + 1 }) : wpAny (MM G) A (getMethod v (G.nm k) pl) P E s := by
  obtain ⟨a, lm, pm, c', ctv, cs, od, rfl, e, g1, g2, g3, g4, g5⟩ := R.lam h hv
  obtain ⟨dx, rfl, g6⟩ := of_getO g5
  obtain ⟨es, n, k1, k2, k3, k4⟩ := R.ns hd g6
  have g := KVs.getL (x := G.nm k) k2
  rw [named_get Wk.nms hk k3, hg] at g
  obtain ⟨w, q1, q2⟩ := g
  exact fmeth_core g3 rfl rfl rfl hn k1 q1 (handedR q2 hb) (hq w q2)
end
end Mine

set_option Elab.async false
set_option genSizeOf false
set_option genInjectivity false
set_option backward.match.sparseCases false
set_option bootstrap.genMatcherCode false
set_option tactic.hygienic false
set_option linter.unusedVariables false
set_option maxRecDepth 100000
namespace Mine
open PySem PySem.Calls PyProof.Rows PySem.W PySem.SeqAt Builtin Builtin.ObjectAttr Builtin.Getset_descriptor
/-- a class of a pile: it, list, object -/
noncomputable def pileOver (K : Frag) (C : Addr) : Bool := (clsIn K C).any fun cd => cd.mro == [.ref C, .type "list", .type "object"]
theorem refuse_pile (self : Value) (C : Addr) : refuseLoop self "__setattr__" [.ref C, .type "list", .type "object"] = pure () := by rw [refuseLoop_ref]; kernel_rfl
section
variable {prog : Program} {w : World} {A : Around} {K : Frag} {C x : Addr} {s : Shared} {h₀ : Heap} {L : Addr} {m : Str → Option Value} {R : Result → Shared → Prop}
theorem osa_openP {ox : Obj} {od : Option Obj} {name : Str} {tk : Tok} {v : Value} (X : K.In s.heap) (I : PySem.W.InstAt s.heap x ox C od) (hp : pileOver K C = true) (ht : takerIn K C name = some none)
    (h : ∀ b, wpAny (model prog w) A.in1 (storeInOwnDict (.ref x) (.ref C) (.str name tk) name v b)
      (fun fin s' => match fin with | .done f => R (.ok f) s' | .again c' => c'.quiet = true ∧ codeAny (model prog w) A c' R s') (fun e s' => R (.error e) s') s) :
    codeAny (model prog w) A (.call (.builtin "object.__setattr__") ⟨[.ref x, .str name tk, v], []⟩) R s := by
  have SF := PySem.F.store_object
  obtain ⟨cd, hc, ho⟩ := any_some hp
  have ho := beq_iff_eq.mp ho
  have sub : Looks (model prog w) s.heap (isInstance (.ref x) (.type "object")) true := I.type.andThen (looks_mroIn X (by unfold mroIn; rw [hc, Option.bind_some, ho]; rfl))
  refine codeAny_call_builtin SF.slot.plain SF.entry (@check_slot (model prog w) _ _ s "object.__setattr__" "object" "__setattr__" (.ref x) [.str name tk, v] [] _ SF.kind SF.split sub (SF.args (.ref x) (.str name tk) v) ?_)
  obtain ⟨attr, ha, hr⟩ := Option.bind_eq_some_iff.mp ht
  have hm : Looks (model prog w) s.heap (mroOf (.ref C)) cd.mro := (looks_clsIn X hc).andThen .now
  have L3 : Looks (model prog w) s.heap (storeTaker? attr) none := by
    cases attr with
    | none => exact .now
    | some a =>
      obtain ⟨b, hb, e⟩ := Option.map_eq_some_iff.mp hr
      refine (looks_takesIn X hb).andThen ?_
      cases b <;> first | exact .now | cases e
  rw [osa_eq, refuse_eq]
  refine wpAny_bind (wpAny_bind (I.type.here (wpAny_bind (hm.here ?_))))
  rw [ho, refuse_pile]
  refine wpAny_pure (wpAny_bind (I.type.here (wpAny_bind ((looks_findIn X ha).here (wpAny_bind (L3.here ?_))))))
  exact h _
set_option tactic.hygienic true in
theorem osa_dictP {ox od od' : Obj} {dx : Addr} {name : Str} {tk : Tok} {v : Value} {post : List (Addr × Obj)} {es : List DictEntry} {n : Nat} (F : Fr h₀ L s.heap m) (N : News h₀ L s.heap ((dx, od) :: post)) (X : K.In s.heap)
    (I : PySem.W.InstAt s.heap x ox C (some od)) (hd : ox.dict = some dx) (hp : pileOver K C = true) (ht : takerIn K C name = some none) (hh : (clsIn K C).any (·.hasDict) = true)
    (hl : (lookIn name od).isSome = true) (h2 : ∀ p ∈ post, p.1 ≠ dx)
    (e : Obj.putName name (PyData.keyHash w.params name) (.str name s.toks) v od = od') (e' : od'.data = .dict es.toArray n) (hz : es.length ≤ 1000)
    (h : ∀ h', Fr h₀ L h' m → News h₀ L h' ((dx, od') :: post) → R (.ok (.ret .none)) { s with heap := h', toks := s.toks + 1 }) :
    codeAny (model prog w) A (.call (.builtin "object.__setattr__") ⟨[.ref x, .str name tk, v], []⟩) R s := by
  refine osa_openP X I hp ht fun b => ?_
  obtain ⟨cd, hc, hd'⟩ := any_some hh
  obtain ⟨U1, U2⟩ := news_upd (pre := []) (f := Obj.putName name (PyData.keyHash w.params name) (.str name s.toks) v) F N (fun _ q => by cases q) h2 e (by obtain ⟨_, _, dd, _⟩ := od'; cases e'; rfl)
  have D := (N (dx, od) (by simp)).1
  have D' := (U2 (dx, od') (by simp)).1
  obtain ⟨hx, hcl, hn, -⟩ := I
  obtain ⟨oc, odi, oda, osl⟩ := ox
  dsimp only at hcl hd
  subst hcl hd
  refine wpAny_bind (wpAny_pure (wpAny_bind (wpAny_bind (wpAny_loadPart hx (wpAny_bind ((looks_clsIn X hc).here ?_))))))
  rw [hd']
  refine wpAny_pure (a := some dx) (wpAny_bind (wpAny_pure (wpAny_bind ?_)))
  unfold nsSet
  refine wpAny_bind (wpAny_bind (wpAny_askSetting (wpAny_pure (wpAny_bind (wpAny_mkText (wpAny_bind (wpAny_loadPart D ?_)))))))
  unfold lookIn at hl
  split at hl
  · rename_i es₀ n₀ q
    rw [q]
    dsimp only
    have c : (!es₀.any (·.key.isStr name) && es₀.any (·.refKey)) = false := by
      rw [← Array.any_toList, ← Array.any_toList]
      split at hl
      · rename_i en he
        rw [List.any_eq_true.mpr ⟨en, List.mem_of_find?_eq_some he, List.find?_some he⟩]; rfl
      · split at hl
        · cases hl
        · rename_i z; rw [Bool.not_eq_true] at z; rw [z, Bool.and_false]
    rw [aRefKeyMayBeTheName_at, c]
    refine wpAny_updatePart D ?_
    refine wpAny_bind (wpAny_lookBehind D' (by rw [e']; exact pastItsLine_dict (by rw [List.size_toArray, sizeLine_eq]; omega)) ?_)
    exact wpAny_pure (h _ U1 U2)
  · cases hl
end
variable {G : Gl} {ρ : List Addr} {A : Around} {L : Addr} {ln : List Str} {st : St} {s : Shared} {E : Value → Shared → Prop}
set_option tactic.hygienic true in
theorem p_setattrP (Wk : GlOk G) (R : Rep G ρ L ln st s) {Q : St → Prop} {l d : Nat} {C : Addr} {kvs : List (Nat × AV)} {v w : Value} {k : Nat} {av : AV} {xs : List AV} (hs : findIn G.K (.ref C) "__setattr__" = some (some (.builtin "object.__setattr__"))) (hdc : hasDictIn G.K C = true) (hpl : pileOver G.K C = true) (ht : takerIn G.K C (G.nm k) = some none)
    (h : st.σ[l]? = some (.acc C d xs)) (hd : st.σ[d]? = some (.ns kvs)) (hv : VR G ρ (.loc l) v) (hw : VR G ρ av w) (hk : k < G.nms.length) (hz : kvs.length < 900)
    (hq : Q { st with σ := st.σ.set d (.ns (putK k av kvs)) }) : wpAny (MM G) A (setAttr v (G.nm k) w) (fun _ => RetU G ρ L ln s Q) E s := by
  obtain ⟨x, rfl, e1⟩ := hv.loc_
  obtain ⟨dx, _, _, e2, g2, g3⟩ := (R.obj _ _ _ h e1).acc_
  obtain ⟨es, n, k1, k2, k3, k4⟩ := (R.obj _ _ _ hd e2).ns_
  have I : PySem.W.InstAt s.heap x _ C (some (dictOf es n)) := ⟨g2, rfl, rfl, k1⟩
  obtain ⟨m, hns, hm⟩ := R.frame
  have F : Fr G.h₀ L s.heap m := ⟨hns, R.base, R.low⟩
  have hdx := R.own dx (Rep.mem e2)
  have N : News G.h₀ L s.heap ((dx, dictOf es n) :: Rep.restL G.h₀ s.heap L [dx]) := fun p hp => by
    rcases List.mem_cons.mp hp with rfl | hp
    · exact ⟨k1, hdx.2.1, hdx.1⟩
    · exact Rep.rest_news p hp
  have X := Wk.X.keeps F.keep
  refine set_plain X I hs (osa_dictP (s := { s with toks := s.toks + 1 }) F N X I rfl hpl ht hdc k2.has (fun p hp q => (Rep.rest_of hp).2.2.1 (by rw [q]; exact List.mem_singleton.mpr rfl)) (by rw [putName_dict]) rfl (Nat.le_trans (putK_le k2 (by omega)) (by omega)) fun h' F' N' => ?_)
  have hk' := Rep.rest_keep F F' N' fun p hp => .tail _ hp
  have hat := (N' _ (.head _)).1
  have hput := KVs.putL (x := G.nm k) (t := s.toks + 1) hw k2
  rw [named_put Wk.nms hk k3] at hput
  obtain ⟨R', S'⟩ := R.setL (t := s.toks + 2) hm F'.ns hd e2 (fun b o n1 n2 e => hk' b o n1 (by simpa using n2) e)
    (fun o e vs hdd => by rw [k1] at e; cases e; cases hdd) ⟨_, hat⟩ (.ns (kvs := putK k av kvs) hat hput (putK_mem hk k3) (by have := putK_length (k := k) (av := av) kvs; omega))
  exact ⟨_, _, R', S', hq⟩
end Mine

set_option Elab.async false
set_option genSizeOf false
set_option genInjectivity false
set_option backward.match.sparseCases false
set_option bootstrap.genMatcherCode false
set_option tactic.hygienic false
set_option linter.unusedVariables false
set_option maxRecDepth 100000
namespace Mine
open PySem PySem.Calls PyProof.Rows PySem.W PySem.SeqAt
variable {G : Gl} {T : Tb} {ρ : List Addr} {A : Around} {L : Addr} {ln : List Str} {st : St} {s : Shared} {Q : AV → St → Prop} {E : Value → Shared → Prop}

/-- room for n more calls -/
structure AOk (A : Around) (n : Nat) : Prop where
  hh : A.handled = none
  depth : A.depth + n < 900
  units : A.units + 60 * n < 9000

/-- a class made from list -/
structure AccOk (G : Gl) (C : Addr) : Prop where
  getitem : findIn G.K (.ref C) "__getitem__" = some (some (.builtin "list.__getitem__"))
  setitem : findIn G.K (.ref C) "__setitem__" = some (some (.builtin "list.__setitem__"))
  sub : mroIn G.K C (.type "list") = some true
  deq : mroIn G.K C (.type "collections.deque") = some false
  mod : mroIn G.K C (.type "module") = some false
  self : mroIn G.K C (.ref C) = some true
  cls : ∃ cd, clsIn G.K C = some cd ∧ (cd.qualname.toString ++ "." ++ "pop" != "*") = true
  opq : nsIn G.K cStatics "thirdparty.any" = some none
  mta : typeIn G.K (.ref C) = some (.type "type")
  sup0 : ks_superIn G.K C C "__len__" = some (some (.builtin "list.__len__"))
  sup1 : ks_superIn G.K C C "pop" = some (some (.builtin "list.pop"))
  sup2 : ks_superIn G.K C C "__init__" = some (some (.builtin "list.__init__"))
/-- methods are looked up as usual -/
structure GetOk (G : Gl) (C : Addr) : Prop where
  get : ∃ g, findIn G.K (.ref C) "__getattribute__" = some (some (.builtin g)) ∧ (Manifest.canonical g != "object.__getattribute__") = false
  hook : findIn G.K (.ref C) "__getattr__" = some none
structure TbOk (G : Gl) (T : Tb) : Prop where
  gl : GlOk G
  iat : ∀ C k, (C, k) ∈ T.iattr → ClsOk G C ∧ findIn G.K (.ref C) (G.nm k) = some none ∧ k < G.nms.length ∧ plainOver G.K C = true ∧ takerIn G.K C (G.nm k) = some none
  aat : ∀ C k, (C, k) ∈ T.aattr → findIn G.K (.ref C) "__setattr__" = some (some (.builtin "object.__setattr__")) ∧ hasDictIn G.K C = true ∧ k < G.nms.length ∧ pileOver G.K C = true ∧ takerIn G.K C (G.nm k) = some none
  fat : ∀ k, k ∈ T.fattr → typeLookup (.type "function") (G.nm k) = pure none ∧ k < G.nms.length
  cat : ∀ C k av, T.cattr.lookup (C, k) = some av → ∃ mc v, readsIn G.K C mc = true ∧ findCls G.K (.ref C) mc (G.nm k) = some (.val v) ∧ (∀ ρ, VR G ρ av v) ∧ handedIn v = true ∧ ∀ n, av ≠ .blt n
  acc : ∀ C ∈ T.accs, AccOk G C
  dd : T.dd ≠ sysModules ∧ ∃ n, G.h₀.get? T.dd = some (dictOf [] n)
  sm : ∃ o, G.h₀.get? sysModules = some o
  nm : T.nms = G.nms
  lam : ∀ i l, T.lamB i l = true → G.lamOk i l
  nm0 : G.nm kAppend = "append" ∧ G.nm kExtend = "extend" ∧ G.nm kJoin = "join" ∧ G.nm kCount = "count"
  cme : ∀ C k av, T.cmeth.lookup (C, k) = some av → GetOk G C ∧ k < G.nms.length ∧ ((∃ f, av = .ext f ∧ findIn G.K (.ref C) (G.nm k) = some (some (.ref f)) ∧ typeIn G.K (.ref f) = some (.type "function")) ∨
    (∃ id, av = .blt id ∧ findIn G.K (.ref C) (G.nm k) = some (some (.builtin id)) ∧ typeOf (.builtin id) = pure (.type "method_descriptor")))
  glo : ∀ x av, T.globs.lookup x = some av → ∃ v, (∀ ρ, VR G ρ av v) ∧ (nsIn G.K mainGlobals x = some (some v) ∨ (nsIn G.K mainGlobals x = some none ∧ bootBuiltins x = some v ∧ x ≠ "__name__"))
  scr : ∃ its, G.h₀.IsList G.scr its ∧ its.size = T.scr.length ∧ its.size ≤ sizeLine ∧ ∀ (k : Nat) (i : Int), T.scr[k]? = some i → ∃ t, its[k]? = some (.int i t)

noncomputable def opOf : Bop → Operator
  | .add => .Add | .sub => .Sub | .mul => .Mult | .mod => .Mod | .fdiv => .FloorDiv
noncomputable def copOf : Cop → CmpOp
  | .eq => .Eq | .ne => .NotEq | .lt => .Lt | .le => .LtE | .gt => .Gt | .ge => .GtE | .is => .Is | .isnot => .IsNot | .isin => .In | .notin => .NotIn

theorem binV_ok {o : Bop} {x y : AV} {v w : Value} (R : Rep G ρ L ln st s) (hx : VR G ρ x v) (hy : VR G ρ y w) (h : binV o x y st.σ fun v σ => Q v ⟨st.vars, σ⟩) : wpAny (MM G) A (binaryOp (opOf o) v w) (Ret G ρ L ln s Q) E s := by
  cases o
  · rcases on3_p h with ⟨a, rfl, k⟩ | ⟨a, rfl, k⟩ | ⟨a, rfl, k⟩
    · obtain ⟨b, rfl, k2⟩ := onI_p k; obtain ⟨t, rfl⟩ := hx.int_; obtain ⟨u, rfl⟩ := hy.int_; exact p_add_int R k2
    · obtain ⟨b, rfl, k2⟩ := onSt_p k; obtain ⟨t, rfl⟩ := hx.str_; obtain ⟨u, rfl⟩ := hy.str_; exact p_add_str R (Nat.le_trans k2.1 (by rw [sizeLine_eq]; decide)) k2.2
    · obtain ⟨b, rfl, k2⟩ := onLo_p k; obtain ⟨xs, h1, k3⟩ := onLst_p k2; obtain ⟨ys, h2, k4⟩ := onLst_p k3; exact p_add_list R h1 h2 hx hy (Nat.le_trans k4.1 (by rw [sizeLine_eq]; decide)) k4.2
  · obtain ⟨a, rfl, k⟩ := onI_p h; obtain ⟨b, rfl, k2⟩ := onI_p k; obtain ⟨t, rfl⟩ := hx.int_; obtain ⟨u, rfl⟩ := hy.int_; exact p_sub_int R k2
  · obtain ⟨b, rfl, k⟩ := onI_p h; obtain ⟨u, rfl⟩ := hy.int_
    rcases on3_p k with ⟨a, rfl, k2⟩ | ⟨a, rfl, k2⟩ | ⟨a, rfl, k2⟩
    · obtain ⟨t, rfl⟩ := hx.int_; exact p_mul_int R k2.1 k2.2
    · obtain ⟨t, rfl⟩ := hx.str_; exact p_mul_str R k2.1 k2.2
    · obtain ⟨xs, h1, k3⟩ := onLst_p k2; exact p_mul_list R h1 hx k3.1 k3.2
  · obtain ⟨a, rfl, k⟩ := onI_p h; obtain ⟨b, rfl, k2⟩ := onI_p k; obtain ⟨t, rfl⟩ := hx.int_; obtain ⟨u, rfl⟩ := hy.int_; exact p_mod_int R k2.1 k2.2
  · obtain ⟨a, rfl, k⟩ := onI_p h; obtain ⟨b, rfl, k2⟩ := onI_p k; obtain ⟨t, rfl⟩ := hx.int_; obtain ⟨u, rfl⟩ := hy.int_; exact p_div_int R k2.1 k2.2.1 k2.2.2

theorem int2 {x y : AV} {v w : Value} {r : Bool} {f : Int → Int → Bool} (hx : VR G ρ x v) (hy : VR G ρ y w) (h : (onI none x fun a => onI none y fun b => some (f a b)) = some r) : ∃ a b t u, v = .int a t ∧ w = .int b u ∧ r = f a b := by
  obtain ⟨a, rfl, k⟩ := onI_s h; obtain ⟨b, rfl, k2⟩ := onI_s k; obtain ⟨t, rfl⟩ := hx.int_; obtain ⟨u, rfl⟩ := hy.int_; exact ⟨a, b, t, u, rfl, rfl, (Option.some.inj k2).symm⟩
theorem bool2 {x y : AV} {v w : Value} {r : Bool} {f : Bool → Bool → Bool} (hx : VR G ρ x v) (hy : VR G ρ y w) (h : (onBo none x fun a => onBo none y fun b => some (f a b)) = some r) : ∃ a b, v = .bool a ∧ w = .bool b ∧ r = f a b := by
  obtain ⟨a, rfl, k⟩ := onBo_s h; obtain ⟨b, rfl, k2⟩ := onBo_s k; exact ⟨a, b, hx.bool_, hy.bool_, (Option.some.inj k2).symm⟩
set_option tactic.hygienic true in
theorem cmpV_ok {o : Cop} {x y : AV} {v w : Value} {r : Bool} (R : Rep G ρ L ln st s) (hu : A.units < 9000) (hx : VR G ρ x v) (hy : VR G ρ y w) (h : cmpV o x y st.σ = some r) (hq : Q (.bool r) st) : wpAny (MM G) A (compareOp (copOf o) v w) (Ret G ρ L ln s Q) E s := by
  cases o
  · rcases on3_s h with ⟨a, rfl, k⟩ | ⟨a, rfl, k⟩ | ⟨a, rfl, k⟩
    · obtain ⟨b, rfl, k2⟩ := onI_s k; obtain ⟨t, rfl⟩ := hx.int_; obtain ⟨u, rfl⟩ := hy.int_; cases Option.some.inj k2; exact p_eq_int R hq
    · obtain ⟨b, rfl, k2⟩ := onSt_s k; obtain ⟨t, rfl⟩ := hx.str_; obtain ⟨u, rfl⟩ := hy.str_; cases Option.some.inj k2; exact p_eq_str R hq
    · obtain ⟨b, rfl, k2⟩ := onLo_s k; exact p_eq R eqD k2 hx hy (by show A.units + 6 + 1 < 9900; lia) hq
  · obtain ⟨a, b, t, u, rfl, rfl, rfl⟩ := int2 hx hy h; exact p_ne_int R hq
  · obtain ⟨a, b, t, u, rfl, rfl, rfl⟩ := int2 (f := fun a b => decide (a < b)) hx hy h; exact p_lt_int R hq
  · obtain ⟨a, b, t, u, rfl, rfl, rfl⟩ := int2 (f := fun a b => decide (a ≤ b)) hx hy h; exact p_le_int R hq
  · obtain ⟨a, b, t, u, rfl, rfl, rfl⟩ := int2 (f := fun a b => decide (b < a)) hx hy h; exact p_gt_int R hq
  · obtain ⟨a, b, t, u, rfl, rfl, rfl⟩ := int2 (f := fun a b => decide (b ≤ a)) hx hy h; exact p_ge_int R hq
  · obtain ⟨a, b, rfl, rfl, rfl⟩ := bool2 hx hy h; exact p_is R hq
  · obtain ⟨a, b, rfl, rfl, rfl⟩ := bool2 hx hy h; exact p_isnot R hq
  · obtain ⟨i, rfl, k⟩ := onI_s h; obtain ⟨b, rfl, k2⟩ := onLo_s k; obtain ⟨t, rfl⟩ := hx.int_
    rcases onV_b k2 with ⟨xs, h1, k3⟩ | k2
    · exact p_in R h1 hy k3 hq
    · obtain ⟨xs, h1, k3⟩ := onV_s k2; exact p_inT R h1 hy k3 hq
  · obtain ⟨i, rfl, k⟩ := onI_s h; obtain ⟨b, rfl, k2⟩ := onLo_s k; obtain ⟨t, rfl⟩ := hx.int_
    obtain ⟨c, hb, rfl⟩ := Option.map_eq_some_iff.mp k2
    obtain ⟨xs, h1, h2⟩ := onLst_s hb
    exact p_notin R h1 hy h2 hq

theorem truthV_ok {x : AV} {v : Value} {b : Bool} {Q : Bool → Shared → Prop} (hx : VR G ρ x v) (h : truthV x = some b) (hq : Q b s) : wpAny (MM G) A (truthy v) Q E s := by
  obtain ⟨a, rfl, h⟩ := onBo_s h
  cases hx.bool_; cases Option.some.inj h; exact wpAny_truthy_bool hq

theorem atNs_s {σ : Sto} {d : Option Nat} {k : Nat} {av : AV} (h : atNs σ d k = some av) : ∃ e kvs, d = some e ∧ σ[e]? = some (.ns kvs) ∧ getK k kvs = some av := (onV_s h).imp fun e h => (onV_s h.2).imp fun kvs g => ⟨h.1, g⟩
theorem putNs_s {σ σ' : Sto} {d k : Nat} {v : AV} (h : putNs σ d k v = some σ') : ∃ kvs, σ[d]? = some (.ns kvs) ∧ kvs.length < 900 ∧ σ' = σ.set d (.ns (putK k v kvs)) := (onV_s h).imp fun kvs h => ⟨h.1, (ite_s h.2).1, (Option.some.inj (ite_s h.2).2).symm⟩
theorem attrV_ok {x av : AV} {v : Value} {k : Nat} {expr : Bool} (W : TbOk G T) (R : Rep G ρ L ln st s) (hx : VR G ρ x v) (h : attrV T x k st.σ = some av) (hb : ∀ n, av ≠ .blt n) (hq : Q av st) : wpAny (MM G) A (getAttr v (G.nm k) expr) (Ret G ρ L ln s Q) E s := by
  rcases onV_b h with ⟨l, e, h⟩ | h
  · rw [e] at hx
    rcases onV_b h with ⟨t, h1, h⟩ | h
    · have c := W.iat _ _ (ite_s h).1
      obtain ⟨d, kvs, e, h2, h3⟩ := atNs_s (ite_s h).2
      exact p_getattr W.gl R c.1 h1 (Option.some.inj e ▸ h2) hx c.2.2.1 h3 c.2.1 hb hq
    · obtain ⟨t, h1, h⟩ := onV_s h
      have c := W.fat _ (ite_s h).1
      obtain ⟨d, kvs, e, h2, h3⟩ := atNs_s (ite_s h).2
      rw [e] at h1
      exact p_fget W.gl R c.1 h1 h2 hx c.2 h3 hb hq
  · obtain ⟨C, e, h⟩ := onV_s h
    obtain ⟨mc, w, c1, c2, c3, c4, _⟩ := W.cat _ _ _ h
    rw [e] at hx
    rw [hx.ext_]
    exact cls_value (R.K W.gl) c1 c2 c4 (ret0 R (c3 ρ) hq)
theorem setV_ok {x av : AV} {v w : Value} {k : Nat} {σ' : Sto} {Q : St → Prop} (W : TbOk G T) (R : Rep G ρ L ln st s) (hx : VR G ρ x v) (hw : VR G ρ av w) (h : setV T x k av st.σ = some σ') (hq : Q ⟨st.vars, σ'⟩) : wpAny (MM G) A (setAttr v (G.nm k) w) (fun _ => RetU G ρ L ln s Q) E s := by
  obtain ⟨l, e, h⟩ := onV_s h
  rw [e] at hx
  rcases onV_b h with ⟨t, h1, h⟩ | h
  · have c := W.iat _ _ (ite_s h).1
    obtain ⟨kvs, h2, hz, e⟩ := putNs_s (ite_s h).2
    exact p_setattr W.gl R c.1 c.2.2.2.1 c.2.2.2.2 h1 h2 hx hw c.2.2.1 hz (e ▸ hq)
  rcases onV_b h with ⟨t, h1, h⟩ | h
  · have c := W.aat _ _ (ite_s h).1
    obtain ⟨kvs, h2, hz, e⟩ := putNs_s (ite_s h).2
    exact p_setattrP W.gl R c.1 c.2.1 c.2.2.2.1 c.2.2.2.2 h1 h2 hx hw c.2.2.1 hz (e ▸ hq)
  · obtain ⟨t, h1, h⟩ := onV_s h
    have c := W.fat _ (ite_s h).1
    have h := (ite_s h).2
    cases q : t.2.2 with
    | none => rw [q] at h h1; exact p_fsetNew W.gl R c.1 h1 hx hw c.2 (Option.some.inj h ▸ hq)
    | some d =>
      rw [q] at h h1
      obtain ⟨kvs, h2, hz, e⟩ := putNs_s h
      exact p_fset W.gl R c.1 h1 h2 hx hw c.2 hz (e ▸ hq)
theorem setItemV_ok {x y av : AV} {v k w : Value} {σ' : Sto} {Q : St → Prop} (R : Rep G ρ L ln st s) (hx : VR G ρ x v) (hy : VR G ρ y k) (hw : VR G ρ av w) (h : setItemV x y av st.σ = some σ') (hq : Q ⟨st.vars, σ'⟩) : wpAny (MM G) A (setItem v k w) (fun _ => RetU G ρ L ln s Q) E s := by
  obtain ⟨l, e, h⟩ := onV_s h
  obtain ⟨i, e', h⟩ := onV_s h
  obtain ⟨xs, h1, h⟩ := onV_s h
  have c := (ite_s h).1
  rw [e] at hx; rw [e'] at hy
  obtain ⟨t, q⟩ := hy.int_
  rw [q]
  exact p_setItem R h1 hx c.1 (by lia) c.2.2 hw (Option.some.inj (ite_s h).2 ▸ hq)
end Mine

set_option Elab.async false
set_option genSizeOf false
set_option genInjectivity false
set_option backward.match.sparseCases false
set_option bootstrap.genMatcherCode false
set_option tactic.hygienic false
set_option linter.unusedVariables false
set_option maxRecDepth 100000
namespace Mine
open PySem PySem.Calls PyProof.Rows PySem.W PySem.SeqAt
variable {G : Gl} {T : Tb} {ρ : List Addr} {A : Around} {L : Addr} {ln : List Str} {st : St} {s : Shared} {Q : AV → St → Prop} {E : Value → Shared → Prop}

structure Fx where
  names : List (Str × NameKind)
  ln : List Str
  cn : List Str
  /-- lambdas are made here -/
  lam : Bool := false

structure EnvOk (G : Gl) (ρ : List Addr) (L : Addr) (fx : Fx) (cl : List Nat) (env : Env) : Prop where
  kind : env.scope.kind = .function
  names : env.scope.names = fx.names
  loc : env.locals = L
  glob : env.globals = mainGlobals
  blt : env.builtins = builtinsNs
  cells : ∃ cs ex, env.cells = fx.cn.zip cs ++ ex ∧ cl.map (ρ[·]?) = cs.map some ∧ cl.length = fx.cn.length
  lam : fx.lam = true → (∃ c, env.code = .ref c ∧ CodeHd G.h₀ c G.P) ∧ env.qual ++ "<lambda>" = G.lq
structure FxOk (fx : Fx) : Prop where
  ln : fx.ln.Nodup
  cn : fx.cn.Nodup

variable {fx : Fx} {cl : List Nat} {env : Env}
theorem EnvOk.mono {ρ' : List Addr} (x : Pre ρ ρ') (h : EnvOk G ρ L fx cl env) : EnvOk G ρ' L fx cl env :=
  ⟨h.kind, h.names, h.loc, h.glob, h.blt, let ⟨cs, ex, h1, h2, h3⟩ := h.cells; ⟨cs, ex, h1, x.gets h2, h3⟩, h.lam⟩

theorem lookup_zip {x : Str} {c : Addr} : ∀ {cn : List Str} {cs : List Addr} {j : Nat}, cn.Nodup → cn[j]? = some x → cs[j]? = some c → (cn.zip cs).lookup x = some c
  | y :: cn, d :: cs, 0, _, h1, h2 => by
    simp at h1 h2
    subst h1; subst h2
    simp [List.zip_cons_cons]
  | y :: cn, d :: cs, j + 1, hn, h1, h2 => by
    simp at h1 h2
    obtain ⟨n1, n2⟩ := List.nodup_cons.mp hn
    have hxy : (x == y) = false := by
      simp only [beq_eq_false_iff_ne, ne_eq]
      intro e; subst e; exact n1 (List.mem_of_getElem? h1)
    rw [List.zip_cons_cons, List.lookup_cons, hxy]
    exact lookup_zip n2 h1 h2
  | [], _, _, _, h1, _ => by simp at h1
  | _ :: _, [], _, _, _, h2 => by simp at h2
theorem lookup_app {x : Str} {c : Addr} {l r : List (Str × Addr)} (h : l.lookup x = some c) : (l ++ r).lookup x = some c := by
  rw [List.lookup_append, h]; rfl
theorem EnvOk.cell (h : EnvOk G ρ L fx cl env) (hf : FxOk fx) {x : Str} {j l : Nat} (hj : fx.cn[j]? = some x) (hl : cl[j]? = some l) : ∃ c, env.cells.lookup x = some c ∧ ρ[l]? = some c := by
  obtain ⟨cs, ex, h1, h2, h3⟩ := h.cells
  have e : (cl.map (ρ[·]?))[j]? = some ρ[l]? := by rw [List.getElem?_map, hl]; rfl
  rw [h2, List.getElem?_map] at e
  obtain ⟨c, e1, e2⟩ := Option.map_eq_some_iff.mp e
  exact ⟨c, by rw [h1]; exact lookup_app (lookup_zip hf.cn hj e1), e2.symm⟩
theorem EnvOk.kindOf (h : EnvOk G ρ L fx cl env) (x : Str) : env.kindOf x = fx.names.lookup x := by unfold Env.kindOf; rw [h.names]

theorem l_loc (R : Rep G ρ L fx.ln st s) (EO : EnvOk G ρ L fx cl env) {x : Str} {i : Nat} {av : AV} (hk : fx.names.lookup x = some .local) (hi : fx.ln[i]? = some x) (hv : st.vars[i]? = some (some av)) (hq : Q av st) :
    wpAny (MM G) A (loadName env x) (Ret G ρ L fx.ln s Q) E s := by
  obtain ⟨m, hn, hm⟩ := R.frame
  obtain ⟨v, h1, h2⟩ := hm i x av hi hv
  exact wpAny_loadName_local EO.kind ((EO.kindOf x).trans hk) (EO.loc ▸ hn) h1 (retS R h2 hq)
theorem n_loc (R : Rep G ρ L fx.ln st s) (EO : EnvOk G ρ L fx cl env) {x : Str} {i : Nat} {av : AV} {pos : Pos} (hd : (x == ("__debug__" : Str)) = false) (hk : fx.names.lookup x = some .local) (hi : fx.ln[i]? = some x) (hv : st.vars[i]? = some (some av)) (hq : Q av st) :
    wpAny (MM G) A (eval (.Name x pos) env) (Ret G ρ L fx.ln s Q) E s := by
  obtain ⟨m, hn, hm⟩ := R.frame
  obtain ⟨v, h1, h2⟩ := hm i x av hi hv
  exact wpAny_Name (wpAny_loadName_local EO.kind ((EO.kindOf x).trans hk) (EO.loc ▸ hn) h1 (retS R h2 hq)) hd
theorem Rep.cellAt (R : Rep G ρ L ln st s) {l : Nat} {c : Addr} {av : Option AV} (h : st.σ[l]? = some (.cell av)) (e : ρ[l]? = some c) : ∃ v, s.heap.IsCell c v ∧ VRo G ρ av v :=
  (R.obj _ _ _ h e).cell_.elim fun o => Exists.imp fun w h => ⟨⟨o, h.1, h.2.1⟩, h.2.2⟩
theorem n_cel (R : Rep G ρ L fx.ln st s) (EO : EnvOk G ρ L fx cl env) (hf : FxOk fx) {x : Str} {j l : Nat} {av : AV} {pos : Pos} (hd : (x == ("__debug__" : Str)) = false) (hn : (x == ("__classdict__" : Str)) = false) (hk : fx.names.lookup x = some .cell ∨ fx.names.lookup x = some .free)
    (hj : fx.cn[j]? = some x) (hl : cl[j]? = some l) (hv : st.σ[l]? = some (.cell (some av))) (hq : Q av st) : wpAny (MM G) A (eval (.Name x pos) env) (Ret G ρ L fx.ln s Q) E s := by
  obtain ⟨c, e1, e2⟩ := EO.cell hf hj hl
  obtain ⟨_, g1, w, rfl, g2⟩ := R.cellAt hv e2
  rcases hk with hk | hk
  · exact wpAny_Name (wpAny_loadName_cell EO.kind ((EO.kindOf x).trans hk) e1 g1 (retS R g2 hq)) hd
  · exact wpAny_Name (wpAny_loadName_free EO.kind ((EO.kindOf x).trans hk) e1 g1 (retS R g2 hq) hn) hd
theorem n_glob (W : TbOk G T) (R : Rep G ρ L fx.ln st s) (EO : EnvOk G ρ L fx cl env) {x : Str} {av : AV} {pos : Pos} (hd : (x == ("__debug__" : Str)) = false) (hk : fx.names.lookup x = some .globalImplicit) (hg : T.globs.lookup x = some av) (hq : Q av st) :
    wpAny (MM G) A (eval (.Name x pos) env) (Ret G ρ L fx.ln s Q) E s := by
  obtain ⟨v, h1, h2⟩ := W.glo x av hg
  obtain ⟨p, loose, mean, mg, mb, Tp⟩ := W.gl.low
  have TR := topRead_of Tp
  have hgl : s.heap.Ns env.globals mg := EO.glob ▸ TR.g.keeps R.base
  refine Name_function_global EO.kind ((EO.kindOf x).trans hk) ?_ hd
  rcases h2 with h2 | ⟨h2, h3, h4⟩
  · exact loadGlobal_global hgl (mg_of W.gl.X TR.g h2) (retS R (h1 ρ) hq)
  · exact loadGlobal_builtin hgl (mg_none_of W.gl.X TR.g h2) (EO.blt ▸ TR.b.keeps R.base) ((TR.builtins x h4).trans h3) (retS R (h1 ρ) hq)

/-! stores -/
theorem s_loc (R : Rep G ρ L fx.ln st s) (EO : EnvOk G ρ L fx cl env) (hf : FxOk fx) {x : Str} {i : Nat} {av : AV} {v : Value} {Q : St → Prop} (hk : fx.names.lookup x = some .local) (hi : fx.ln[i]? = some x) (hv : VR G ρ av v) (hlt : i < st.vars.length) (hq : Q ⟨st.vars.set i (some av), st.σ⟩) :
    wpAny (MM G) A (storeName env x v) (fun _ => RetU G ρ L fx.ln s Q) E s := by
  obtain ⟨m, hn, hm⟩ := R.frame
  refine wpAny_storeName_local ((EO.kindOf x).trans hk) (EO.loc ▸ hn) (fun h' hn' hs => ?_) (by rw [EO.kind]; rfl)
  have := R.store (t := s.toks + 1) hi hf.ln hlt hm (EO.loc ▸ hn') (EO.loc ▸ hs) hv
  exact ⟨ρ, _, this.1, this.2, hq⟩
theorem s_cel (R : Rep G ρ L fx.ln st s) (EO : EnvOk G ρ L fx cl env) (hf : FxOk fx) {x : Str} {j l : Nat} {av : AV} {o : Option AV} {v : Value} {Q : St → Prop} (hk : fx.names.lookup x = some .cell) (hj : fx.cn[j]? = some x) (hl : cl[j]? = some l) (hc : st.σ[l]? = some (.cell o)) (hv : VR G ρ av v)
    (hq : Q ⟨st.vars, st.σ.set l (.cell (some av))⟩) : wpAny (MM G) A (storeName env x v) (fun _ => RetU G ρ L fx.ln s Q) E s := by
  obtain ⟨c, e1, e2⟩ := EO.cell hf hj hl
  obtain ⟨_, ⟨ob, g1, g1'⟩, g2⟩ := R.cellAt hc e2
  refine wpAny_storeName_cell EO.kind ((EO.kindOf x).trans hk) e1 ⟨ob, g1, g1'⟩ fun h' ⟨o', ho', hd'⟩ hs => ?_
  have := R.set (t := s.toks) (ao := .cell (some av)) hc e2 (fun b o n e => (hs.2 b n).trans e) (fun o e vs hdd => by rw [g1] at e; cases e; rw [g1'] at hdd; cases hdd) ⟨o', ho'⟩ (.cell ho' hd' hv)
  exact ⟨ρ, _, this.1, this.2, hq⟩

/-! items -/
noncomputable def NotSl : PySem.Expr → Prop
  | .Slice .. => False
  | _ => True
theorem sub_plain {slice : PySem.Expr} (h : NotSl slice) (o i : Value) : subscripted slice false o i = operate [o, i] (getItem o i) := by
  cases slice <;> first | rfl | exact h.elim
theorem itemB_ok {x y av : AV} {v w : Value} (W : TbOk G T) (R : Rep G ρ L ln st s) (hx : VR G ρ x v) (hy : VR G ρ y w) (h : itemV T x y st.σ = some av) (hq : Q av st) :
    ∃ Tn id, s.TypeIs v Tn ∧ typeLookup (.type Tn) "__getitem__" = pure (some (.builtin id)) ∧ ∀ A : Around, wpAny (MM G) A (getItem v w) (Ret G ρ L ln s Q) E s := by
  obtain ⟨i, e', h⟩ := onV_s h
  rw [e'] at hy
  obtain ⟨u, q'⟩ := hy.int_
  have c := (ite_s h).1
  have cz : i < 2 ^ 63 := by lia
  rw [q']
  rcases onV_b (ite_s h).2 with ⟨_, e, h⟩ | h
  · obtain ⟨j, h1, h2⟩ := Option.map_eq_some_iff.mp h
    obtain ⟨its, g1, _, _, g2⟩ := W.scr
    obtain ⟨t, g3⟩ := g2 _ _ h1
    obtain ⟨o, go, gc, n, gd⟩ := g1
    have hl : s.heap.IsList G.scr its := ⟨o, R.base _ _ go, gc, n, gd⟩
    rw [e] at hx
    rw [hx.scr_]
    exact ⟨_, _, hl.typeIs, F.slot_list_getitem.lookup, fun A => wpAny_getItem_list hl c.1 cz g3 (retS R (.int _ _) (h2 ▸ hq))⟩
  rcases onV_b h with ⟨l, e, h⟩ | h
  · rw [e] at hx
    rcases onV_b h with ⟨xs, h1, h⟩ | h
    · obtain ⟨a, vs, n, e, _, g1, g2⟩ := R.list h1 hx
      rw [e] at hx ⊢
      exact ⟨_, _, (isl g1).typeIs, F.slot_list_getitem.lookup, fun A => p_getItem R h1 hx c.1 cz h hq⟩
    · obtain ⟨xs, h1, h⟩ := onV_s h
      obtain ⟨a, vs, n, e, _, g1, g2⟩ := R.tup h1 hx
      rw [e] at hx ⊢
      exact ⟨"tuple", _, ⟨_, g1, rfl⟩, F.slot_tuple_getitem.lookup, fun A => p_getItemT R h1 hx c.1 cz h hq⟩
  · obtain ⟨x, e, h⟩ := onV_s h
    obtain ⟨d, h1, h2⟩ := Option.map_eq_some_iff.mp h
    rw [e] at hx
    obtain ⟨t, q⟩ := hx.str_
    rw [q]
    exact ⟨"str", _, rfl, F.slot_str_getitem.lookup, fun A => p_item_str R c.1 cz h1 (h2 ▸ hq)⟩
theorem itemV_ok {x y av : AV} {v w : Value} {value slice : Expr} (W : TbOk G T) (R : Rep G ρ L ln st s) (hs : NotSl slice) (hx : VR G ρ x v) (hy : VR G ρ y w) (h : itemV T x y st.σ = some av) (hq : Q av st) :
    wpAny (MM G) A (subscriptTail value slice v w) (Ret G ρ L ln s Q) E s :=
  (itemB_ok W R hx hy h hq).elim fun Tn => Exists.elim (h₂ := fun id g => tail_any g.1 g.2.1 (g.2.2 _) (sub_plain hs _ _))
theorem itemG_ok {x y av : AV} {v w : Value} (W : TbOk G T) (R : Rep G ρ L ln st s) (hx : VR G ρ x v) (hy : VR G ρ y w) (h : itemV T x y st.σ = some av) (hq : Q av st) :
    wpAny (MM G) A (getItem v w) (Ret G ρ L ln s Q) E s :=
  (itemB_ok W R hx hy h hq).elim fun Tn => Exists.elim (h₂ := fun id g => g.2.2 _)
theorem augV_ok {o : Bop} {x y : AV} {v w : Value} (R : Rep G ρ L ln st s) (hx : VR G ρ x v) (hy : VR G ρ y w) (h : augV o x y fun v => Q v st) : wpAny (MM G) A (inplaceOp (opOf o) v w) (Ret G ρ L ln s Q) E s := by
  cases o with
  | add => obtain ⟨a, rfl, k⟩ := onI_p h; obtain ⟨b, rfl, k2⟩ := onI_p k; obtain ⟨t, rfl⟩ := hx.int_; obtain ⟨u, rfl⟩ := hy.int_; exact PyProof.Rows.iadd_int (ret0 R (.int _ _) k2)
  | mul => obtain ⟨a, rfl, k⟩ := onI_p h; obtain ⟨b, rfl, k2⟩ := onI_p k; obtain ⟨t, rfl⟩ := hx.int_; obtain ⟨u, rfl⟩ := hy.int_; exact PyProof.Rows.imul_int (ret0 R (.int _ _) k2.2) (k2.1.elim .of_left .of_right)
  | _ => exact h.elim
end Mine

set_option Elab.async false
set_option genSizeOf false
set_option genInjectivity false
set_option backward.match.sparseCases false
set_option bootstrap.genMatcherCode false
set_option tactic.hygienic false
set_option linter.unusedVariables false
set_option maxRecDepth 100000
namespace Mine
open PySem PySem.Calls PyProof.Rows PySem.W PySem.SeqAt
variable {G : Gl} {T : Tb} {ρ : List Addr} {A : Around} {L : Addr} {ln : List Str} {st : St} {s : Shared} {Q : AV → St → Prop} {E : Value → Shared → Prop}

theorem method_any {prog : Program} {w : World} {K : Frag} {x C : Addr} {ox : Obj} {od : Option Obj} {name : Str} {pl : Sem Bool} {g : String} {f t : Value} {Q : Value × List Value → Shared → Prop} (X : K.In s.heap) (I : PySem.W.InstAt s.heap x ox C od) (hga : findIn K (.ref C) "__getattribute__" = some (some (.builtin g)))
    (hcan : (Manifest.canonical g != "object.__getattribute__") = false) (hk : findIn K (.ref C) "__getattr__" = some none)
    (hf : findIn K (.ref C) name = some (some f)) (ht : Looks (model prog w) s.heap (typeOf f) t) (htt : t = .type "function" ∨ t = .type "method_descriptor") (hs : shadowIn od name = some false) (h : Q (f, [.ref x]) s) :
    wpAny (model prog w) A (getMethod (.ref x) name pl) Q E s := by
  unfold getMethod specialOf
  refine wpAny_bind (wpAny_bind (I.type.here ((looks_findIn X hga).here ?_)))
  dsimp only
  rw [hcan, if_neg (by decide)]
  refine wpAny_bind (wpAny_bind (I.type.here ((looks_findIn X hk).here ?_)))
  refine wpAny_bind (wpAny_bind (I.type.here ((looks_findIn X hf).here (wpAny_bind (ht.here ?_)))))
  rw [if_neg (by rcases htt with rfl | rfl <;> decide +kernel)]
  refine wpAny_bind (wpAny_loadPart I.at_ ?_)
  have hd := I.dict
  cases e : ox.dict with
  | none => exact wpAny_bind (wpAny_rule (wpAny_pure h))
  | some dx =>
    cases od with
    | none => rw [e] at hd; exact hd.elim
    | some o =>
      rw [e] at hd
      obtain ⟨r, a, b⟩ := Option.map_eq_some_iff.mp hs
      refine wpAny_bind (wpAny_bind (wpAny_loadPart hd ?_))
      rw [nsLook_of a]
      refine wpAny_pure ?_
      rw [b]
      exact wpAny_bind (wpAny_rule (wpAny_pure h))

/-- what getMethod gives -/
noncomputable def RetM (G : Gl) (ρ : List Addr) (L : Addr) (ln : List Str) (st : St) (s : Shared) (m : AV × List AV) (p : Value × List Value) (s' : Shared) : Prop :=
  VR G ρ m.1 p.1 ∧ VRs G ρ m.2 p.2 ∧ Rep G ρ L ln st s' ∧ Step G L ρ s ρ s'
theorem retM {m : AV × List AV} {p : Value × List Value} {t : Nat} (R : Rep G ρ L ln st s) (h1 : VR G ρ m.1 p.1) (h2 : VRs G ρ m.2 p.2) : RetM G ρ L ln st s m p { s with toks := t } :=
  ⟨h1, h2, (R.toks t).1, (R.toks t).2⟩

/-- the class of an object that has a dict, and the dict's place -/
noncomputable def obD : AO → Option (Addr × Nat)
  | .obj C d => some (C, d)
  | .acc C d _ => some (C, d)
  | _ => none
theorem obD_ {o : AO} {C : Addr} {d : Nat} (h : obD o = some (C, d)) : o = .obj C d ∨ ∃ xs, o = .acc C d xs := by
  cases o with
  | obj => exact .inl (by cases h; rfl)
  | acc D e xs => exact .inr ⟨xs, by cases h; rfl⟩
  | _ => exact noS h
theorem Rep.instObjAt (R : Rep G ρ L ln st s) {l d : Nat} {C : Addr} {kvs : List (Nat × AV)} {v : Value} {o : AO} (h : st.σ[l]? = some o) (ho : obD o = some (C, d)) (hd : st.σ[d]? = some (.ns kvs)) (hv : VR G ρ (.loc l) v) :
    ∃ x ox es n, v = .ref x ∧ PySem.W.InstAt s.heap x ox C (some (dictOf es n)) ∧ KVs G ρ (named G kvs) es ∧ (∀ p ∈ kvs, p.1 < G.nms.length) := by
  obtain ⟨a, e, h1⟩ := hv.loc_
  have r := R.obj _ _ _ h h1
  have k : ∃ ox dx, ρ[d]? = some dx ∧ s.heap.get? a = some ox ∧ ox.cls = .ref C ∧ ox.dict = some dx ∧ notCls ox = true := by
    rcases obD_ ho with q | ⟨xs, q⟩
    · rw [q] at r; obtain ⟨dx, g1, g2⟩ := r.obj_; exact ⟨_, dx, g1, g2, rfl, rfl, rfl⟩
    · rw [q] at r; obtain ⟨dx, vs, n, g1, g2, _⟩ := r.acc_; exact ⟨_, dx, g1, g2, rfl, rfl, rfl⟩
  obtain ⟨ox, dx, g1, g2, g3, g4, g5⟩ := k
  obtain ⟨es, n, k1, k2, k3, k4⟩ := (R.obj _ _ _ hd g1).ns_
  exact ⟨a, ox, es, n, e, ⟨g2, g3, g5, by rw [g4]; exact k1⟩, k2, k3⟩
theorem methK_ok (W : TbOk G T) (R : Rep G ρ L ln st s) {l d : Nat} {C : Addr} {v : Value} {k : Nat} {m : AV × List AV} {pl : Sem Bool} {o : AO} (h : st.σ[l]? = some o) (ho : obD o = some (C, d)) (hv : VR G ρ (.loc l) v)
    (hm : methK T st.σ l C d k = some m) : wpAny (MM G) A (getMethod v (G.nm k) pl) (RetM G ρ L ln st s m) E s := by
  obtain ⟨kvs, hd, hm⟩ := onV_s hm
  obtain ⟨hn, hm⟩ : ¬ (getK k kvs).isSome = true ∧ _ := (ite_b hm).elim (fun h => noS h.2) id
  obtain ⟨f, hf, rfl⟩ := Option.map_eq_some_iff.mp hm
  obtain ⟨c1, c2, c3⟩ := W.cme _ _ _ hf
  obtain ⟨_, g1, g2⟩ := c1.get
  obtain ⟨x, ox, es, n, rfl, I, k2, k3⟩ := R.instObjAt h ho hd hv
  have g := KVs.getL (x := G.nm k) k2
  rw [named_get W.gl.nms c2 k3, Option.not_isSome_iff_eq_none.mp hn] at g
  have hs : shadowIn (some (dictOf es n)) (G.nm k) = some false := by show (lookIn _ (dictOf es n)).map _ = _; rw [lookIn_dict, g]; rfl
  have hr : ∀ w, VR G ρ f w → RetM G ρ L ln st s (f, [.loc l]) (w, [.ref x]) s := fun w hw => retM (t := s.toks) R hw (.cons hv .nil)
  rcases c3 with ⟨a, rfl, q1, q2⟩ | ⟨id, rfl, q1, q2⟩
  · exact method_any (R.K W.gl) I g1 g2 c1.hook q1 (looks_typeIn (R.K W.gl) q2) (.inl rfl) hs (hr _ (.ext a))
  · exact method_any (R.K W.gl) I g1 g2 c1.hook q1 (.of_pure q2) (.inr rfl) hs (hr _ (.blt id))

theorem methV_ok (W : TbOk G T) (R : Rep G ρ L ln st s) {x : AV} {v : Value} {k : Nat} {m : AV × List AV} {pl : Sem Bool} (hx : VR G ρ x v) (h : methV T x k st.σ = some m) (hb : ∀ n, m.1 ≠ .blt n ∨ m.2 ≠ []) :
    wpAny (MM G) A (getMethod v (G.nm k) pl) (RetM G ρ L ln st s m) E s := by
  have F2 : ∀ {a b : Nat} {x y : AV × List AV}, (if k = a then some x else if k = b then some y else none) = some m → (k = a ∧ x = m) ∨ (k = b ∧ y = m) := fun h =>
    (ite_b h).imp (.imp_right Option.some.inj) fun h => (ite_s h.2).imp_right Option.some.inj
  rcases onV_b h with ⟨l, e, h⟩ | h
  · rw [e] at hx
    rcases onV_b h with ⟨xs, h1, h⟩ | h
    · obtain ⟨a, vs, n, e, _, g1, g2⟩ := R.list h1 hx
      rw [e] at hx ⊢
      rcases F2 h with ⟨q, q'⟩ | ⟨q, q'⟩
      · rw [q, ← q', W.nm0.1]
        exact getMethod_builtin (T := "list") ⟨_, g1, rfl⟩ F.plainAttrs_list F.slot_list_append F.type_list_append (fun b e => Value.ref.inj e ▸ ⟨_, g1, rfl⟩) (retM (t := s.toks) R (.blt _) (.one hx))
      · rw [q, ← q', W.nm0.2.1]
        exact getMethod_builtin (T := "list") ⟨_, g1, rfl⟩ F.plainAttrs_list F.slot_list_extend F.type_list_extend (fun b e => Value.ref.inj e ▸ ⟨_, g1, rfl⟩) (retM (t := s.toks) R (.blt _) (.one hx))
    rcases onV_b h with ⟨t, h1, h⟩ | h
    · exact methK_ok W R h1 rfl hx h
    rcases onV_b h with ⟨t, h1, h⟩ | h
    · exact methK_ok W R h1 rfl hx h
    · obtain ⟨t, h1, h⟩ := onV_s h
      have c := W.fat _ (ite_s h).1
      obtain ⟨f, h4, rfl⟩ := Option.map_eq_some_iff.mp (ite_s h).2
      obtain ⟨d, kvs, e, h2, h3⟩ := atNs_s h4
      rw [e] at h1
      exact p_fmeth W.gl R c.1 h1 h2 hx c.2 h3 (fun n e => (hb n).elim (fun q => q e) fun q => q rfl) fun w hw => retM (t := s.toks + 1) R hw .nil
  · obtain ⟨x, e, h⟩ := onV_s h
    rw [e] at hx
    obtain ⟨t, e⟩ := hx.str_
    rw [e]
    rcases F2 h with ⟨q, q'⟩ | ⟨q, q'⟩
    · rw [q, ← q', W.nm0.2.2.1]
      exact getMethod_builtin (T := "str") rfl F.plainAttrs_str F.slot_str_join F.type_str_join (fun a e => nomatch e) (retM (t := s.toks) R (.blt _) (.one (.str _ _)))
    · rw [q, ← q', W.nm0.2.2.2]
      exact getMethod_builtin (T := "str") rfl F.plainAttrs_str F.slot_str_count F.type_str_count (fun a e => nomatch e) (retM (t := s.toks) R (.blt _) (.one (.str _ _)))
end Mine

set_option Elab.async false
set_option genSizeOf false
set_option genInjectivity false
set_option backward.match.sparseCases false
set_option bootstrap.genMatcherCode false
set_option tactic.hygienic false
set_option linter.unusedVariables false
set_option maxRecDepth 100000
namespace Mine
open PySem PySem.Calls PyProof.Rows PySem.W PySem.SeqAt
variable {G : Gl} {T : Tb} {ρ : List Addr} {A : Around} {L : Addr} {ln : List Str} {st : St} {s : Shared} {Q : AV → St → Prop} {E : Value → Shared → Prop}

theorem nb_of {av : AV} (h : nb av = true) : ∀ n, av ≠ .blt n := fun n e => by subst e; cases h

noncomputable def plainIter (n : String) : Bool := n == "list_iterator" || n == "tuple_iterator" || n == "range_iterator" || n == "str_ascii_iterator"
/-- an iterator over what is known -/
structure WalkR (G : Gl) (ρ₀ : List Addr) (src : Src) (its : List AV) (I : Addr) (It : Nat → Heap → Prop) : Prop where
  frame : ∀ i h h', It i h → (∀ o, h.get? I = some o → h'.get? I = some o) → It i h'
  item : ∀ {A : Around} {ρ : List Addr} {L : Addr} {ln : List Str} {st : St} {s : Shared} {Q : Option Value → Shared → Prop} {E : Value → Shared → Prop} (i : Nat) (x : AV), A.handled = none → Pre ρ₀ ρ → its[i]? = some x → Rep G ρ L ln st s → srcOk src its st.σ → I ∉ ρ → It i s.heap →
    (∀ v h' tk, VR G ρ x v → It (i + 1) h' → (∀ b o, b ≠ I → s.heap.get? b = some o → h'.get? b = some o) → Q (some v) { s with heap := h', toks := tk }) → wpAny (MM G) A (pyNext (.ref I)) Q E s
  done : ∀ {A : Around} {ρ : List Addr} {L : Addr} {ln : List Str} {st : St} {s : Shared} {Q : Option Value → Shared → Prop} {E : Value → Shared → Prop}, A.handled = none → Pre ρ₀ ρ → Rep G ρ L ln st s → srcOk src its st.σ → I ∉ ρ → It its.length s.heap →
    (∀ h' tk, (∀ b o, b ≠ I → s.heap.get? b = some o → h'.get? b = some o) → Q none { s with heap := h', toks := tk }) → wpAny (MM G) A (pyNext (.ref I)) Q E s
  self : ∀ {A : Around} {s : Shared} {Q : Value → Shared → Prop} {E : Value → Shared → Prop} (i : Nat), It i s.heap → Q (.ref I) s → wpAny (MM G) A (pyIter (.ref I)) Q E s
  obj : ∀ i h, It i h → ∃ o T vs, h.get? I = some o ∧ o.cls = .type T ∧ plainIter T = true ∧ o.data = .fields vs ∧ ∀ q u, vs[1]? ≠ some (.str q u)

theorem WalkR.lst {ρ₀ : List Addr} {l : Nat} {its : List AV} {I ax : Addr} (e : ρ₀[l]? = some ax) : WalkR G ρ₀ (.lst l) its I (fun i h => h.IsListIter I ax i) where
  frame := fun i h h' st k => let ⟨o, ho, r⟩ := st; ⟨o, k o ho, r⟩
  item := fun {A ρ L ln st s Q E} i x hh hp hx R hs hI hit hQ => by
    obtain ⟨_, _, g1, g2⟩ := (R.obj _ _ _ hs (hp.get e)).list_
    obtain ⟨w, e1, hw⟩ := g2.get hx
    exact wpAny_pyNext_list_item hit (isl g1) (by simpa using e1) fun h' hit' hs' => hQ w h' s.toks hw hit' fun b o hb eb => hs'.extBut b o hb eb
  done := fun {A ρ L ln st s Q E} hh hp R hs hI hit hQ => by
    obtain ⟨_, _, g1, g2⟩ := (R.obj _ _ _ hs (hp.get e)).list_
    exact wpAny_pyNext_list_end hh hit (isl g1) (by simp [g2.length]) fun h' he' => hQ h' s.toks fun b o hb eb => he' b o hb eb
  self := fun i hit hQ => wpAny_pyIter_listiter hit hQ
  obj := fun i h ⟨o, ho, hc, hd⟩ => ⟨o, _, _, ho, hc, by decide, hd, fun q u e => by simp at e⟩
theorem WalkR.tup {ρ₀ : List Addr} {l : Nat} {its : List AV} {I ax : Addr} (e : ρ₀[l]? = some ax) : WalkR G ρ₀ (.tup l) its I (fun i h => h.IsTupleIter I ax i) where
  frame := fun i h h' st k => let ⟨o, ho, r⟩ := st; ⟨o, k o ho, r⟩
  item := fun {A ρ L ln st s Q E} i x hh hp hx R hs hI hit hQ => by
    obtain ⟨_, _, g1, g2⟩ := (R.obj _ _ _ hs (hp.get e)).tup_
    obtain ⟨w, e1, hw⟩ := g2.get hx
    exact wpAny_pyNext_tuple_item hit ⟨_, g1, rfl, _, rfl⟩ (by simpa using e1) fun h' hit' hs' => hQ w h' s.toks hw hit' fun b o hb eb => hs'.extBut b o hb eb
  done := fun {A ρ L ln st s Q E} hh hp R hs hI hit hQ => by
    obtain ⟨_, _, g1, g2⟩ := (R.obj _ _ _ hs (hp.get e)).tup_
    exact wpAny_pyNext_tuple_end hh hit ⟨_, g1, rfl, _, rfl⟩ (by simp [g2.length]) fun h' he' => hQ h' s.toks fun b o hb eb => he' b o hb eb
  self := fun i hit hQ => wpAny_pyIter_tupleiter hit hQ
  obj := fun i h ⟨o, ho, hc, hd⟩ => ⟨o, _, _, ho, hc, by decide, hd, fun q u e => by simp at e⟩
theorem WalkR.str {ρ₀ : List Addr} {x : Str} {t : Tok} {I : Addr} : WalkR G ρ₀ .imm (x.cps.toList.map fun c => .str ⟨#[c]⟩) I (fun i h => h.IsStrIter I "str_ascii_iterator" x t i) where
  frame := fun i h h' st k => let ⟨o, ho, r⟩ := st; ⟨o, k o ho, r⟩
  item := fun {A ρ L ln st s Q E} i av hh hp hx R hs hI hit hQ => by
    rw [List.getElem?_map] at hx
    obtain ⟨c, hc, rfl⟩ := Option.map_eq_some_iff.mp hx
    exact wpAny_pyNext_ascii_item hit (c := c) (by simpa using hc) fun h' hit' hs' => hQ _ h' _ (.str _ _) hit' fun b o hb eb => hs'.extBut b o hb eb
  done := fun {A ρ L ln st s Q E} hh hp R hs hI hit hQ => by
    exact wpAny_pyNext_ascii_end hh hit (by simp) fun h' he' => hQ h' s.toks fun b o hb eb => he' b o hb eb
  self := fun i hit hQ => wpAny_pyIter_striter_ascii hit hQ
  obj := fun i h ⟨o, ho, hc, hd⟩ => ⟨o, _, _, ho, hc, by decide, hd, fun q u e => by simp at e⟩
theorem rangeV_get {a : Int} {n i : Nat} {x : AV} (h : (rangeV a n)[i]? = some x) : i < n ∧ x = .int (a + (i : Int)) := by
  unfold rangeV at h
  rw [List.getElem?_map] at h
  obtain ⟨c, hc, rfl⟩ := Option.map_eq_some_iff.mp h
  obtain ⟨h1, h2⟩ := List.getElem?_eq_some_iff.mp hc
  simp at h1 h2
  exact ⟨h1, by rw [← h2]⟩
theorem WalkR.rng {ρ₀ : List Addr} {a : Int} {n : Nat} {I : Addr} : WalkR G ρ₀ .imm (rangeV a n) I (fun i h => IsRangeIter h I (a + (i : Int)) ((n : Int) - (i : Int)) 1) where
  frame := fun i h h' st k => k _ st
  item := fun {A ρ L ln st s Q E} i av hh hp hx R hs hI hit hQ => by
    obtain ⟨h1, rfl⟩ := rangeV_get hx
    refine wpAny_pyNext_range_item hit (by lia) fun h' hit' hs' => hQ _ h' _ (.int _ _) ?_ fun b o hb eb => hs'.extBut b o hb eb
    have e1 : a + ((i + 1 : Nat) : Int) = a + (i : Int) + 1 := by push_cast; lia
    have e2 : (n : Int) - ((i + 1 : Nat) : Int) = (n : Int) - (i : Int) - 1 := by push_cast; lia
    rw [e1, e2]; exact hit'
  done := fun {A ρ L ln st s Q E} hh hp R hs hI hit hQ => by
    refine wpAny_pyNext_range_end hh hit (by simp [rangeV]) ?_
    first | exact hQ s.heap s.toks fun b o hb eb => eb | exact fun h' he' => hQ h' s.toks fun b o hb eb => he' b o hb eb | skip
  self := fun i hit hQ => wpAny_pyIter_rangeiter hit hQ
  obj := fun i h hit => ⟨_, "range_iterator", _, hit, rfl, by decide, rfl, fun q u e => by simp [rawInt] at e⟩

/-- an iterator at hand -/
noncomputable def RetI (G : Gl) (ρ : List Addr) (L : Addr) (ln : List Str) (s : Shared) (Q : Src → List AV → St → Prop) (it : Value) (s' : Shared) : Prop :=
  ∃ ρ' st' src its I It, it = .ref I ∧ Rep G ρ' L ln st' s' ∧ Step G L ρ s ρ' s' ∧ WalkR G ρ' src its I It ∧ It 0 s'.heap ∧ s.heap.get? I = none ∧ I ∉ ρ' ∧ Q src its st'
theorem RetI.after {ρ₁ : List Addr} {s₁ : Shared} {Q : Src → List AV → St → Prop} {it : Value} {s' : Shared} (x : Step G L ρ s ρ₁ s₁) (h : RetI G ρ₁ L ln s₁ Q it s') : RetI G ρ L ln s Q it s' := by
  obtain ⟨ρ', st', src, its, I, It, h1, h2, h3, h4, h5, h6, h7, h8⟩ := h
  refine ⟨ρ', st', src, its, I, It, h1, h2, x.trans h3, h4, h5, ?_, h7, h8⟩
  cases q : s.heap.get? I with
  | none => rfl
  | some o => obtain ⟨o', e⟩ := x.live _ _ q; rw [h6] at e; cases e
theorem retI (R : Rep G ρ L ln st s) {Q : Src → List AV → St → Prop} {ob : Obj} {src : Src} {its : List AV} {It : Nat → Heap → Prop} {t : Nat} (hw : WalkR G ρ src its s.heap.objs.size It) (h0 : It 0 (s.heap.push ob)) (hq : Q src its st) :
    RetI G ρ L ln s Q (.ref s.heap.objs.size) { s with heap := s.heap.push ob, toks := t } := by
  obtain ⟨R1, S1⟩ := R.grow (t := t) (h' := s.heap.push ob) fun b o e => Heap.get?_push_of_some _ e
  exact ⟨ρ, st, src, its, _, It, rfl, R1, S1, hw, h0, none_size _, (fun q => by obtain ⟨_, _, _, o, e⟩ := R.own _ q; rw [none_size] at e; cases e), hq⟩

theorem itV_ok {x : AV} {v : Value} {src : Src} {its : List AV} {Q : Src → List AV → St → Prop} (R : Rep G ρ L ln st s) (hx : VR G ρ x v) (h : itV x st.σ = some (src, its)) (hq : Q src its st) : wpAny (MM G) A (pyIter v) (RetI G ρ L ln s Q) E s := by
  rcases onV_b h with ⟨l, e, h⟩ | h
  · rw [e] at hx
    rcases onV_b h with ⟨xs, h1, h⟩ | h
    · obtain ⟨a, vs, n, e, e1, g1, g2⟩ := R.list h1 hx
      rw [e]; cases h
      exact wpAny_pyIter_list (isl g1) (retI (t := s.toks) R (.lst e1) ⟨_, Heap.get?_push_size _ rfl, rfl, rfl⟩ hq)
    · obtain ⟨xs, h1, h⟩ := onV_s h
      obtain ⟨a, vs, n, e, e1, g1, g2⟩ := R.tup h1 hx
      rw [e]; cases h
      exact wpAny_pyIter_tuple ⟨_, g1, rfl, _, rfl⟩ (retI (t := s.toks) R (.tup e1) ⟨_, Heap.get?_push_size _ rfl, rfl, rfl⟩ hq)
  · obtain ⟨x, e, h⟩ := onV_s h
    rw [e] at hx
    obtain ⟨t, e⟩ := hx.str_
    have c := ite_s h
    rw [e]; cases c.2
    exact wpAny_pyIter_ascii c.1 (retI (t := s.toks) R .str ⟨_, Heap.get?_push_size _ rfl, rfl, rfl⟩ hq)
end Mine

set_option Elab.async false
set_option genSizeOf false
set_option genInjectivity false
set_option backward.match.sparseCases false
set_option bootstrap.genMatcherCode false
set_option tactic.hygienic false
set_option linter.unusedVariables false
set_option maxRecDepth 100000
namespace Mine
open PySem PySem.Calls PyProof.Rows PySem.W PySem.SeqAt
variable {G : Gl} {T : Tb} {ρ : List Addr} {A : Around} {L : Addr} {ln : List Str} {st : St} {s : Shared} {Q : AV → St → Prop} {E : Value → Shared → Prop}

noncomputable def ownNames (names : List (Str × NameKind)) : List Str := (names.filter (·.2 == .cell)).map (·.1)
theorem Rep.pushCells : ∀ (names : List (Str × NameKind)) {ρ : List Addr} {st : St} {s : Shared} (acc : List (Str × Addr)), Rep G ρ L ln st s →
    Rep G (ρ ++ (List.range (ownNames names).length).map (s.heap.objs.size + ·)) L ln ⟨st.vars, st.σ ++ List.replicate (ownNames names).length (.cell none)⟩ { s with heap := PySem.pushCells s.heap names } ∧
      Step G L ρ s (ρ ++ (List.range (ownNames names).length).map (s.heap.objs.size + ·)) { s with heap := PySem.pushCells s.heap names } ∧
      cellsFrom s.heap.objs.size names acc = (ownNames names).reverse.zip ((List.range (ownNames names).length).map (s.heap.objs.size + ·)).reverse ++ acc
  | [], ρ, st, s, acc, R => by
    refine ⟨?_, ?_, ?_⟩
    · show Rep G (ρ ++ []) L ln ⟨st.vars, st.σ ++ []⟩ s
      rw [List.append_nil, List.append_nil]; exact R
    · show Step G L ρ s (ρ ++ []) s
      rw [List.append_nil]; exact .rfl
    · simp [ownNames, cellsFrom]
  | (n, k) :: r, ρ, st, s, acc, R => by
    by_cases hk : (k == NameKind.cell) = true
    · obtain ⟨R1, S1, e1⟩ := R.push (t := s.toks) (ob := { cls := .type "cell", data := .cell none }) (ao := .cell none) rfl (.cell0 (Heap.get?_push_size _ rfl) rfl)
      obtain ⟨R2, S2, e2⟩ := Rep.pushCells r ((n, s.heap.objs.size) :: acc) R1
      have hon : ownNames ((n, k) :: r) = n :: ownNames r := by unfold ownNames; rw [List.filter_cons_of_pos (by simpa using hk)]; rfl
      have hsz : (s.heap.push { cls := .type "cell", data := .cell none }).objs.size = s.heap.objs.size + 1 := Heap.size_push ..
      have hrange : (List.range (ownNames ((n, k) :: r)).length).map (s.heap.objs.size + ·) = s.heap.objs.size :: (List.range (ownNames r).length).map ((s.heap.objs.size + 1) + ·) := by
        rw [hon, List.length_cons, List.range_succ_eq_map, List.map_cons, List.map_map]
        congr 1
        exact List.map_congr_left fun j _ => by simp; lia
      have hpc : PySem.pushCells s.heap ((n, k) :: r) = PySem.pushCells (s.heap.push { cls := .type "cell", data := .cell none }) r := by
        rw [PySem.pushCells, if_pos hk]
      have hcf : cellsFrom s.heap.objs.size ((n, k) :: r) acc = cellsFrom (s.heap.objs.size + 1) r ((n, s.heap.objs.size) :: acc) := by
        rw [cellsFrom, if_pos hk]
      dsimp only at R2 S2 e2
      rw [hsz] at R2 S2 e2
      rw [hrange, hpc, hcf, e2, hon]
      refine ⟨?_, ?_, ?_⟩
      · have h1 : ρ ++ s.heap.objs.size :: (List.range (ownNames r).length).map ((s.heap.objs.size + 1) + ·) = (ρ ++ [s.heap.objs.size]) ++ (List.range (ownNames r).length).map ((s.heap.objs.size + 1) + ·) := by simp
        have h2 : st.σ ++ List.replicate (n :: ownNames r).length (AO.cell none) = (st.σ ++ [AO.cell none]) ++ List.replicate (ownNames r).length (AO.cell none) := by simp [List.replicate_succ]
        rw [h1, h2]; exact R2
      · have h1 : ρ ++ s.heap.objs.size :: (List.range (ownNames r).length).map ((s.heap.objs.size + 1) + ·) = (ρ ++ [s.heap.objs.size]) ++ (List.range (ownNames r).length).map ((s.heap.objs.size + 1) + ·) := by simp
        rw [h1]; exact S1.trans S2
      · rw [List.reverse_cons, List.reverse_cons, List.zip_append (by simp)]
        simp
    · have hon : ownNames ((n, k) :: r) = ownNames r := by unfold ownNames; rw [List.filter_cons_of_neg (by simpa using hk)]
      have hpc : PySem.pushCells s.heap ((n, k) :: r) = PySem.pushCells s.heap r := by rw [PySem.pushCells, if_neg hk]
      have hcf : cellsFrom s.heap.objs.size ((n, k) :: r) acc = cellsFrom s.heap.objs.size r acc := by rw [cellsFrom, if_neg hk]
      rw [hon, hpc, hcf]
      exact Rep.pushCells r acc R

theorem getElem?_map_add {n i : Nat} {a : Addr} : ((List.range n).map (a + ·))[i]? = if i < n then some (a + i) else none := by
  rw [List.getElem?_map]
  by_cases h : i < n
  · rw [if_pos h, List.getElem?_range h]; rfl
  · rw [if_neg h, List.getElem?_eq_none (by simpa using h)]; rfl
/-- the cells of a new frame, in the store -/
theorem own_cells {ρ : List Addr} {σ : Sto} {n : Nat} {a : Addr} (h : ρ.length = σ.length) :
    ((List.range n).reverse.map (σ.length + ·)).map ((ρ ++ (List.range n).map (a + ·))[·]?) = (((List.range n).map (a + ·)).reverse).map some := by
  rw [← List.map_reverse, List.map_map, List.map_map]
  refine List.map_congr_left fun i hi => ?_
  have hi' : i < n := by simpa using hi
  show (ρ ++ (List.range n).map (a + ·))[σ.length + i]? = some (a + i)
  rw [List.getElem?_append_right (by lia), h, Nat.add_sub_cancel_left, getElem?_map_add, if_pos hi']

/-- values laid into places -/
noncomputable def plAt (fx : Fx) (p : Nat ⊕ Nat) (x : Str) : Bool := match p with
  | .inl i => fx.names.lookup x == some .local && fx.ln[i]? == some x
  | .inr j => fx.names.lookup x == some .cell && fx.cn[j]? == some x
noncomputable def Binds (G : Gl) (ρ : List Addr) (fx : Fx) : List (Nat ⊕ Nat) → List AV → List (Str × Value) → Prop
  | [], as, bs => as = [] ∧ bs = []
  | p :: ps, as, bs => ∃ a as' x v bs', as = a :: as' ∧ bs = (x, v) :: bs' ∧ plAt fx p x = true ∧ VR G ρ a v ∧ Binds G ρ fx ps as' bs'
theorem Binds.nil {ρ : List Addr} {fx : Fx} : Binds G ρ fx [] [] [] := ⟨rfl, rfl⟩
theorem place_vars (cl : List Nat) (ps : List (Nat ⊕ Nat)) : ∀ (as : List AV) (st : St), (place cl ps as st).vars.length = st.vars.length := by
  induction ps with
  | nil => exact fun _ _ => rfl
  | cons p ps ih =>
    intro as st
    cases as with
    | nil => rfl
    | cons v vs =>
      refine (ih vs _).trans ?_
      cases p with
      | inl i => exact List.length_set
      | inr j => rfl
theorem plAt_l {fx : Fx} {i : Nat} {x : Str} (h : plAt fx (.inl i) x = true) : fx.names.lookup x = some .local ∧ fx.ln[i]? = some x := (Bool.and_eq_true_iff.mp h).imp eq_of_beq eq_of_beq
theorem plAt_r {fx : Fx} {i : Nat} {x : Str} (h : plAt fx (.inr i) x = true) : fx.names.lookup x = some .cell ∧ fx.cn[i]? = some x := (Bool.and_eq_true_iff.mp h).imp eq_of_beq eq_of_beq
theorem Binds.mono {ρ ρ' : List Addr} (p : Pre ρ ρ') {fx : Fx} {ps : List (Nat ⊕ Nat)} : ∀ {as bs}, Binds G ρ fx ps as bs → Binds G ρ' fx ps as bs := by
  induction ps with
  | nil => exact id
  | cons q ps ih => exact fun h => h.imp fun a => Exists.imp fun as' => Exists.imp fun x => Exists.imp fun v => Exists.imp fun bs' h => ⟨h.1, h.2.1, h.2.2.1, h.2.2.2.1.mono p, ih h.2.2.2.2⟩
theorem binds_ok {fx : Fx} {cl : List Nat} {env : Env} (hf : FxOk fx) (f : Str × Value → PUnit → Sem (ForInStep PUnit)) (hfe : ∀ n v u, f (n, v) u = (do storeName env n v; pure (.yield ⟨⟩))) {ps : List (Nat ⊕ Nat)} :
    ∀ {as bs} {ρ : List Addr} {st : St} {s : Shared} {Q : St → Prop}, Binds G ρ fx ps as bs → Rep G ρ L fx.ln st s → EnvOk G ρ L fx cl env → (∀ (i : Nat) (x : Str), fx.ln[i]? = some x → i < st.vars.length) →
      (∀ (j : Nat) (x : Str), fx.cn[j]? = some x → fx.names.lookup x = some .cell → ∃ (l : Nat) (o : Option AV), cl[j]? = some l ∧ st.σ[l]? = some (AO.cell o)) → Q (place cl ps as st) → wpAny (MM G) A (forIn bs ⟨⟩ f) (fun _ => RetU G ρ L fx.ln s Q) E s := by
  induction ps with
  | nil =>
    intro as bs ρ st s Q hb R EO hv hc hq
    rw [hb.2, List.forIn_nil]; exact wpAny_pure ⟨ρ, st, R, .rfl, hq⟩
  | cons p ps ih =>
    intro as bs ρ st s Q hb R EO hv hc hq
    obtain ⟨a, as', x, v, bs', ea, eb, hp, h3, h4⟩ := hb
    rw [ea] at hq
    rw [eb, List.forIn_cons, hfe]
    cases p with
    | inl i =>
      obtain ⟨h1, h2⟩ := plAt_l hp
      refine wpAny_bind (wpAny_bind (wpAny_mono (s_loc (Q := fun st' => st' = ⟨st.vars.set i (some a), st.σ⟩) R EO hf h1 h2 h3 (hv i _ h2) rfl) (fun _ s₁ hh' => RetU.el hh' fun ρ₁ st₁ R₁ S₁ e₁ => ?_) fun _ _ z => z))
      rw [e₁] at R₁
      exact wpAny_pure (wpAny_mono (ih (h4.mono S₁.pre) R₁ (EO.mono S₁.pre) (fun j y e => List.length_set (as := st.vars) ▸ hv j y e) hc hq) (fun _ _ z => z.after S₁) fun _ _ z => z)
    | inr j =>
      obtain ⟨h1, h2⟩ := plAt_r hp
      obtain ⟨l, o, q1, q2⟩ := hc j _ h2 h1
      have el : cl.getD j 0 = l := by rw [List.getD_eq_getElem?_getD, q1]; rfl
      have hq : Q (place cl ps as' ⟨st.vars, st.σ.set (cl.getD j 0) (.cell (some a))⟩) := hq
      rw [el] at hq
      refine wpAny_bind (wpAny_bind (wpAny_mono (s_cel (Q := fun st' => st' = ⟨st.vars, st.σ.set l (.cell (some a))⟩) R EO hf h1 h2 q1 q2 h3 rfl) (fun _ s₁ hh' => RetU.el hh' fun ρ₁ st₁ R₁ S₁ e₁ => ?_) fun _ _ z => z))
      rw [e₁] at R₁
      refine wpAny_pure (wpAny_mono (ih (h4.mono S₁.pre) R₁ (EO.mono S₁.pre) hv (fun j' y e1 e2 => (hc j' y e1 e2).imp fun l' h => ?_) hq) (fun _ _ z => z.after S₁) fun _ _ z => z)
      obtain ⟨o', p1, p2⟩ := h
      by_cases e : l = l'
      · rw [e] at q2 ⊢; exact ⟨some a, p1, List.getElem?_set_self (List.getElem?_eq_some_iff.mp p2).1⟩
      · exact ⟨o', p1, (List.getElem?_set_ne e).trans p2⟩

/-- a new frame -/
structure NewEnv (G : Gl) (ρ : List Addr) (fx : Fx) (cl : List Nat) (st' : St) (s : Shared) (env : Env) (s' : Shared) : Prop where
  out : ∃ C ρ' s₁, EnvOk G ρ' C fx cl env ∧ Rep G ρ' C fx.ln st' s' ∧ s.heap.get? C = none ∧ (∀ b o, s.heap.get? b = some o → s₁.heap.get? b = some o) ∧ s₁.os = s.os ∧ Step G C ρ s₁ ρ' s'
theorem newEnv_ok {fx : Fx} {cl0 : List Nat} {fcn : List Str} {cs0 : List Addr} {scope : Scope} {ps : List (Nat ⊕ Nat)} {as : List AV} {binds : List (Str × Value)} {qual : Str} {func : Option Addr} {code : Value} {around : Option Env} {Q : Env → Shared → Prop} {nl : Nat}
    {σ : List AO} {ex : List (Str × Addr)} (R : RepC G ρ σ s) (hf : FxOk fx) (hk : scope.kind = .function) (hn : fx.names = scope.names) (hcn : fx.cn = (ownNames scope.names).reverse ++ fcn) (hl0 : cl0.length = fcn.length) (hcs : cl0.map (ρ[·]?) = cs0.map some)
    (har : ∀ e, around = some e → e.builtins = builtinsNs) (hnl : fx.ln.length = nl) (hcel : ∀ x ∈ fcn, fx.names.lookup x ≠ some .cell) (hlam : fx.lam = true → around = none ∧ (∃ c, code = .ref c ∧ CodeHd G.h₀ c G.P) ∧ qual ++ "<lambda>" = G.lq)
    (hb : ∀ ρ', Pre ρ ρ' → Binds G ρ' fx ps as binds)
    (hq : ∀ env s', (around.isSome = true → ∀ e, around = some e → env.frame = e.frame ∧ env.code = e.code ∧ env.func = func ∧ env.qual = qual) → (around = none → env.func = func ∧ env.code = code ∧ env.qual = qual ∧ env.frame = some env.locals ∧ ∃ cs, env.cells = fx.cn.zip cs ++ ex) → env.scope = scope →
      NewEnv G ρ fx ((List.range (ownNames scope.names).length).reverse.map (σ.length + ·) ++ cl0) (place ((List.range (ownNames scope.names).length).reverse.map (σ.length + ·) ++ cl0) ps as ⟨List.replicate nl none, σ ++ List.replicate (ownNames scope.names).length (.cell none)⟩) s env s' → Q env s') :
    wpAny (MM G) A (newFunctionEnv scope mainGlobals (fcn.zip cs0 ++ ex) binds qual func code around builtinsNs) Q E s := by
  have hC := none_size s.heap
  have hlow := R.size
  unfold newFunctionEnv
  refine wpAny_bind (wpAny_alloc ?_)
  have R1 : Rep G ρ s.heap.objs.size fx.ln ⟨List.replicate nl none, σ⟩ { s with heap := s.heap.push { cls := .type (if around.isSome then "dict" else "frame"), data := .dict #[] } } :=
    R.enter (t := s.toks) (fun b o e => Heap.get?_push_of_some _ e) hC hlow (Heap.Ns.new s.heap _) (fun i x av e1 e2 => by
      simp only [List.getElem?_replicate] at e2
      split at e2 <;> cases e2)
  obtain ⟨R2, S2, e2⟩ := Rep.pushCells scope.names (fcn.zip cs0 ++ ex) R1
  have hown := own_cells (n := (ownNames scope.names).length) (a := (s.heap.push { cls := .type (if around.isSome then "dict" else "frame"), data := .dict #[] }).objs.size) R.len
  refine wpAny_bind (wpAny_layCells _ (fun name kind cells => by cases hkc : kind == NameKind.cell <;> simp [hkc]) _ _ _ _ ?_)
  dsimp only at R2 S2 e2 hown ⊢
  rw [e2]
  generalize hcc : ((List.range (ownNames scope.names).length).map ((s.heap.push { cls := .type (if around.isSome then "dict" else "frame"), data := .dict #[] }).objs.size + ·)) = newc at *
  have hnl2 : newc.length = (ownNames scope.names).length := by rw [← hcc]; simp
  have hcells : (ownNames scope.names).reverse.zip newc.reverse ++ (fcn.zip cs0 ++ ex) = fx.cn.zip (newc.reverse ++ cs0) ++ ex := by
    rw [hcn, List.zip_append (by simp [hnl2]), List.append_assoc]
  have hmap : ((List.range (ownNames scope.names).length).reverse.map (σ.length + ·) ++ cl0).map ((ρ ++ newc)[·]?) = (newc.reverse ++ cs0).map some := by
    rw [List.map_append, List.map_append, hown]
    congr 1
    exact Pre.gets ⟨newc, rfl⟩ hcs
  have hlen : ((List.range (ownNames scope.names).length).reverse.map (σ.length + ·) ++ cl0).length = fx.cn.length := by
    rw [hcn]; simp [hl0]
  have fin : ∀ (env : Env), env.scope = scope → env.locals = s.heap.objs.size → env.globals = mainGlobals → env.builtins = builtinsNs → env.cells = (ownNames scope.names).reverse.zip newc.reverse ++ (fcn.zip cs0 ++ ex) → (fx.lam = true → (∃ c, env.code = .ref c ∧ CodeHd G.h₀ c G.P) ∧ env.qual ++ "<lambda>" = G.lq) →
      (∀ s', NewEnv G ρ fx ((List.range (ownNames scope.names).length).reverse.map (σ.length + ·) ++ cl0) (place ((List.range (ownNames scope.names).length).reverse.map (σ.length + ·) ++ cl0) ps as ⟨List.replicate nl none, σ ++ List.replicate (ownNames scope.names).length (.cell none)⟩) s env s' → Q env s') →
      wpAny (MM G) A (do
        forIn binds PUnit.unit fun x r => do
          storeName env x.1 x.2
          pure (ForInStep.yield PUnit.unit)
        pure env) Q E { s with heap := PySem.pushCells (s.heap.push { cls := .type (if around.isSome then "dict" else "frame"), data := .dict #[] }) scope.names } := by
    intro env h1 h2 h3 h4 h5 hlm h6
    have EO : EnvOk G (ρ ++ newc) s.heap.objs.size fx ((List.range (ownNames scope.names).length).reverse.map (σ.length + ·) ++ cl0) env :=
      ⟨by rw [h1, hk], by rw [h1, hn], h2, h3, h4, ⟨_, _, h5.trans hcells, hmap, hlen⟩, hlm⟩
    refine wpAny_bind (wpAny_mono (binds_ok (Q := fun st' => st' = place ((List.range (ownNames scope.names).length).reverse.map (σ.length + ·) ++ cl0) ps as ⟨List.replicate nl none, σ ++ List.replicate (ownNames scope.names).length (.cell none)⟩) hf _ (fun _ _ _ => rfl) (hb _ ⟨newc, rfl⟩) R2 EO (fun i x e => ?_) (fun j x e1 e2 => ?_) rfl) (fun _ s' hh' => RetU.el hh' fun ρ' st' R' S' e' => ?_) fun _ _ z => z)
    · have := (List.getElem?_eq_some_iff.mp e).1
      simp only [List.length_replicate]; lia
    · rw [hcn] at e1
      by_cases hj : j < (ownNames scope.names).reverse.length
      · have hj' : j < (ownNames scope.names).length := by simpa using hj
        refine ⟨σ.length + ((ownNames scope.names).length - 1 - j), none, ?_, ?_⟩
        · rw [List.getElem?_append_left (by simpa using hj'), List.getElem?_map, List.getElem?_reverse (by simpa using hj')]
          simp only [List.length_range]
          rw [List.getElem?_range (by lia)]; rfl
        · rw [List.getElem?_append_right (by lia), List.getElem?_replicate, if_pos (by lia)]
      · rw [List.getElem?_append_right (by lia)] at e1
        exact absurd e2 (hcel x (List.mem_of_getElem? e1))
    · subst e'
      exact wpAny_pure (h6 _ ⟨s.heap.objs.size, ρ', { s with heap := s.heap.push { cls := .type (if around.isSome then "dict" else "frame"), data := .dict #[] } }, EO.mono S'.pre, R', hC, fun b o e => Heap.get?_push_of_some _ e, rfl, S2.trans S'⟩)
  cases around with
  | none => exact fin _ rfl rfl rfl rfl rfl (fun h => (hlam h).2) fun s' h => hq _ s' (fun h => by cases h) (fun _ => ⟨rfl, rfl, rfl, rfl, _, hcells⟩) rfl h
  | some e => exact fin _ rfl rfl rfl (har e rfl) rfl (fun h => by cases (hlam h).1) fun s' h => hq _ s' (fun _ e' he => by cases he; exact ⟨rfl, rfl, rfl, rfl⟩) (fun h => by cases h) rfl h
end Mine

set_option Elab.async false
set_option genSizeOf false
set_option genInjectivity false
set_option backward.match.sparseCases false
set_option bootstrap.genMatcherCode false
set_option tactic.hygienic false
set_option linter.unusedVariables false
set_option maxRecDepth 100000
namespace Mine
open PySem PySem.Calls PyProof.Rows PySem.W PySem.SeqAt

section
variable {prog : Program} {w : World} {A : Around} {R : Result → Shared → Prop} {s : Shared} {elt : PySem.Expr} {gens : List Comprehension} {scope : Scope} {pos : Pos} {d : Nat} {it acc : Value} {env : Env} {t i : PySem.Expr} {ifs : List PySem.Expr}
theorem comp_start (hg : gens[d]? = some ⟨t, i, ifs, 0⟩) (h0 : codeAny (model prog w) A (.compLoop (.ListComp elt gens scope pos) d it acc env) R s)
    (h : wpAny (model prog w) A (pyIter it) (fun it' s' => codeAny (model prog w) A (.compLoop (.ListComp elt gens scope pos) d it' acc env) R s') (notedBy (model prog w) A env fun x s' => R (.error x) s') s) :
    codeAny (model prog w) A (.compStart (.ListComp elt gens scope pos) d it acc env) R s := by
  refine codeAny_of_tree ?_
  show wpAny _ A ((compStart (.ListComp elt gens scope pos) d it acc env).onRaise (fun x => do noteFrame x env; standAt theWindowsPlace)) _ _ s
  refine wpAny_notedAt ?_
  unfold compStart
  have hc : (clausesOf (.ListComp elt gens scope pos))[d]? = some ⟨t, i, ifs, 0⟩ := hg
  rw [hc]
  show wpAny _ _ (ask >>= _) _ _ s
  refine wpAny_bind (wpAny_askSetting (wpAny_ite ?_))
  split
  · first
      | exact wpAny_bind (wpAny_pure (wpAny_pure (And.intro rfl h0)))
      | exact wpAny_pure (And.intro rfl h0)
  · first
      | exact wpAny_bind (wpAny_rule (wpAny_bind (wpAny_standAt (wpAny_bind (wpAny_mono h (fun it' s' h' => wpAny_pure (And.intro rfl h')) fun _ _ x => x)))))
      | (refine wpAny_bind (wpAny_rule ?_); show wpAny _ _ (standAt i.pos >>= _) _ _ s; exact wpAny_bind (wpAny_standAt (wpAny_bind (wpAny_mono h (fun it' s' h' => wpAny_pure (And.intro rfl h')) fun _ _ x => x))))

noncomputable def tests (ifs : List PySem.Expr) (env : Env) : Sem Bool := forIn ifs true fun c r => if r = true then do let ok ← isTrue c env (eval c env); pure (ForInStep.yield ok) else pure (ForInStep.yield r)
/-- what a turn does when its tests hold -/
noncomputable def CompAct (prog : Program) (w : World) (A : Around) (elt : PySem.Expr) (gens : List Comprehension) (scope : Scope) (pos : Pos) (d : Nat) (acc : Value) (env : Env) (Q : Shared → Prop) (E : Value → Shared → Prop) (s : Shared) : Prop :=
  match gens[d + 1]? with
  | some g' => g'.is_async = 0 ∧ (∀ x, foldedSetIterable g'.iter env x = pure x) ∧ wpAny (model prog w) A (eval g'.iter env) (fun x s₁ => wpAny (model prog w) A (pyIter x) (fun it s₂ =>
      codeAny (model prog w) A (.compStart (.ListComp elt gens scope pos) (d + 1) it acc env) (fun r s₃ => match r with | .ok _ => Q s₃ | .error e => cameBackBy (model prog w) A env E e s₃) s₂) E s₁) E s
  | none => wpAny (model prog w) A (eval elt env) (fun x s₁ => wpAny (model prog w) A (call (.builtin "list.append") [acc, x]) (fun _ s₂ => Q s₂) E s₁) E s
theorem comp_turn (hg : gens[d]? = some ⟨t, i, ifs, 0⟩)
    (h : wpAny (model prog w) A (pyNext it) (fun r s₁ => match r with
      | none => R (.ok .next) s₁
      | some v => wpAny (model prog w) A (letOwnedTupleGo t it v) (fun _ s₂ => wpAny (model prog w) A (assign t env v) (fun _ s₃ => wpAny (model prog w) A (tests ifs env) (fun ok s₄ =>
          if ok = true then CompAct prog w A elt gens scope pos d acc env (codeAny (model prog w) A (.compLoop (.ListComp elt gens scope pos) d it acc env) R) (notedBy (model prog w) A env fun e s' => R (.error e) s') s₄
          else codeAny (model prog w) A (.compLoop (.ListComp elt gens scope pos) d it acc env) R s₄)
          (notedBy (model prog w) A env fun e s' => R (.error e) s') s₃) (notedBy (model prog w) A env fun e s' => R (.error e) s') s₂) (notedBy (model prog w) A env fun e s' => R (.error e) s') s₁)
      (notedBy (model prog w) A env fun e s' => R (.error e) s') s) :
    codeAny (model prog w) A (.compLoop (.ListComp elt gens scope pos) d it acc env) R s := by
  refine codeAny_of_tree ?_
  show wpAny _ A ((compTurn (.ListComp elt gens scope pos) d it acc env).onRaise (fun x => do noteFrame x env; theTreesLotGoes x)) _ _ s
  refine wpAny_noted ?_
  unfold compTurn
  simp only [hg]
  refine wpAny_bind (wpAny_standAt (wpAny_bind ?_))
  show wpAny _ A (pyNext it) _ _ s
  refine wpAny_mono h (fun r s₁ h₁ => ?_) fun _ _ z => z
  cases r with
  | none => exact wpAny_pure h₁
  | some v =>
    refine wpAny_bind (wpAny_mono h₁ (fun _ s₂ h₂ => wpAny_bind (wpAny_mono h₂ (fun _ s₃ h₃ => wpAny_bind ?_) fun _ _ z => z)) fun _ _ z => z)
    refine wpAny_mono h₃ (fun ok s₄ h₄ => ?_) fun _ _ z => z
    cases ok with
    | false => exact wpAny_pure ⟨rfl, h₄⟩
    | true =>
      simp only [if_true] at h₄ ⊢
      unfold CompAct at h₄
      cases hg' : gens[d + 1]? with
      | none =>
        rw [hg'] at h₄
        exact wpAny_bind (wpAny_bind (wpAny_mono h₄ (fun x s₅ h₅ => wpAny_bind (wpAny_mono h₅ (fun _ s₆ h₆ => wpAny_pure (wpAny_pure ⟨rfl, h₆⟩)) fun _ _ z => z)) fun _ _ z => z))
      | some g' =>
        rw [hg'] at h₄
        obtain ⟨ha, hfs, h₄⟩ := h₄
        simp only [ha, bne_self_eq_false, Bool.false_eq_true, if_false]
        refine wpAny_bind (wpAny_mono h₄ (fun x s₅ h₅ => wpAny_bind (wpAny_standAt (wpAny_bind (wpAny_of_eq (hfs x) (wpAny_bind (wpAny_holding (wpAny_mono h₅ (fun it' s₆ h₆ => wpAny_bind ?_) fun _ _ z => z))))))) fun _ _ z => z)
        refine wpAny_runOwn ?_
        rw [Around.mark_none]
        refine codeAny_mono h₆ fun r s₇ h₇ => ?_
        cases r with
        | ok f => exact wpAny_pure ⟨rfl, h₇⟩
        | error e => exact h₇
end
end Mine

set_option Elab.async false
set_option genSizeOf false
set_option genInjectivity false
set_option backward.match.sparseCases false
set_option bootstrap.genMatcherCode false
set_option tactic.hygienic false
set_option linter.unusedVariables false
set_option maxRecDepth 100000
namespace Mine
open PySem PySem.Calls PyProof.Rows PySem.W PySem.SeqAt
variable {G : Gl} {T : Tb} {ρ ρ₁ ρ₂ ρ' : List Addr} {A : Around} {L L' : Addr} {ln ln' : List Str} {st st' : St} {s s₁ s₂ s' : Shared} {Q : AV → St → Prop} {E : Value → Shared → Prop} {X : Addr → Prop}

/-- what a run keeps, but for some -/
structure StepX (G : Gl) (L : Addr) (X : Addr → Prop) (ρ : List Addr) (s : Shared) (ρ' : List Addr) (s' : Shared) : Prop where
  pre : Pre ρ ρ'
  keep : ∀ b o, s.heap.get? b = some o → b ∉ ρ → b ≠ L → b ≠ G.P → ¬ X b → s'.heap.get? b = some o
  live : ∀ b o, s.heap.get? b = some o → ¬ X b → ∃ o', s'.heap.get? b = some o'
  new : ∀ a ∈ ρ', a ∈ ρ ∨ s.heap.get? a = none
  os : s'.os = s.os
theorem StepX.of (x : Step G L ρ s ρ' s') : StepX G L X ρ s ρ' s' := ⟨x.pre, fun b o e h1 h2 h3 _ => x.keep b o e h1 h2 h3, fun b o e _ => x.live b o e, x.new, x.os⟩
theorem StepX.trans (x : StepX G L X ρ s ρ₁ s₁) (y : StepX G L X ρ₁ s₁ ρ₂ s₂) (hX : ∀ b, X b → b ∉ ρ₂) : StepX G L X ρ s ρ₂ s₂ := by
  have k : ∀ b o, s.heap.get? b = some o → b ∉ ρ → b ∉ ρ₁ := fun b o e h q => (x.new b q).elim h fun z => by rw [z] at e; cases e
  refine ⟨x.pre.trans y.pre, fun b o e h hL hP hx => y.keep b o (x.keep b o e h hL hP hx) (k b o e h) hL hP hx, fun b o e hx => ?_, fun a h => ?_, y.os.trans x.os⟩
  · obtain ⟨o', e'⟩ := x.live b o e hx
    exact y.live b o' e' hx
  · have h0 := h
    rcases y.new a h with h | h
    · exact x.new a h
    · right
      cases z : s.heap.get? a with
      | none => rfl
      | some o => obtain ⟨o', e'⟩ := x.live a o z (fun q => hX a q h0); rw [h] at e'; cases e'
theorem StepX.close (x : Step G L ρ s ρ₁ s₁) (y : StepX G L X ρ₁ s₁ ρ₂ s₂) (hX : ∀ b, X b → s.heap.get? b = none) : Step G L ρ s ρ₂ s₂ := by
  have hx : ∀ b o, s.heap.get? b = some o → ¬ X b := fun b o e q => by rw [hX b q] at e; cases e
  have k : ∀ b o, s.heap.get? b = some o → b ∉ ρ → b ∉ ρ₁ := fun b o e h q => (x.new b q).elim h fun z => by rw [z] at e; cases e
  refine ⟨x.pre.trans y.pre, fun b o e h hL hP => y.keep b o (x.keep b o e h hL hP) (k b o e h) hL hP (hx b o e), fun b o e => ?_, fun a h => ?_, y.os.trans x.os⟩
  · obtain ⟨o', e'⟩ := x.live b o e
    exact y.live b o' e' (hx b o e)
  · rcases y.new a h with h | h
    · exact x.new a h
    · right
      cases z : s.heap.get? a with
      | none => rfl
      | some o => obtain ⟨o', e'⟩ := x.live a o z; rw [h] at e'; cases e'
theorem StepX.foreign {I : Addr} {h' : Heap} {t : Nat} (x : StepX G L X ρ s ρ₁ s₁) (hX : X I) (hk : ∀ b o, b ≠ I → s₁.heap.get? b = some o → h'.get? b = some o) : StepX G L X ρ s ρ₁ { s₁ with heap := h', toks := t } := by
  have hne : ∀ b, ¬ X b → b ≠ I := fun b hb q => hb (q ▸ hX)
  exact ⟨x.pre, fun b o e h1 h2 h3 h4 => hk b o (hne b h4) (x.keep b o e h1 h2 h3 h4), fun b o e h4 => let ⟨o', e'⟩ := x.live b o e h4; ⟨o', hk b o' (hne b h4) e'⟩, x.new, x.os⟩
theorem Rep.leaveX (R : Rep G ρ L ln st s) (R' : Rep G ρ' L' ln' st' s') (hk : ∀ b o, s.heap.get? b = some o → s₁.heap.get? b = some o) (hos : s₁.os = s.os) (hL : s.heap.get? L' = none) (hX : ¬ X L)
    (hXρ : ∀ b, X b → b ∉ ρ') (S : StepX G L' X ρ s₁ ρ' s') : Rep G ρ' L ln ⟨st.vars, st'.σ⟩ s' ∧ StepX G L X ρ s ρ' s' := by
  have hne : ∀ b o, s.heap.get? b = some o → b ≠ L' := fun b o e q => by rw [q, hL] at e; cases e
  obtain ⟨oL, hoL⟩ : ∃ o, s.heap.get? L = some o := by obtain ⟨m, ⟨oL, _, _, h1, _⟩, _⟩ := R.frame; exact ⟨oL, h1⟩
  have hLρ : L ∉ ρ := fun q => (R.own L q).2.1 rfl
  have hLρ' : L ∉ ρ' := fun q => (S.new L q).elim hLρ fun z => by rw [hk L oL hoL] at z; cases z
  have hLk : s'.heap.get? L = some oL := S.keep L oL (hk L oL hoL) hLρ (hne L oL hoL) R.tabL.1.symm hX
  refine ⟨⟨R'.len, R'.nod, R'.obj, ?_, R'.base, R.low, R'.tab, R.tabL, ?_, R'.gens⟩, ⟨S.pre, fun b o e h1 h2 h3 h4 => S.keep b o (hk b o e) h1 (hne b o e) h3 h4, fun b o e h4 => S.live b o (hk b o e) h4, fun a ha => ?_, S.os.trans hos⟩⟩
  · intro a ha
    obtain ⟨h1, h2, h3, h4⟩ := R'.own a ha
    exact ⟨h1, fun q => hLρ' (q ▸ ha), h3, h4⟩
  · obtain ⟨m, ⟨o', es, ep, h1, h2⟩, h3⟩ := R.frame
    rw [hoL] at h1; cases h1
    exact ⟨m, ⟨oL, es, ep, hLk, h2⟩, fun i x av e1 e2 => let ⟨v, h4, h5⟩ := h3 i x av e1 e2; ⟨v, h4, h5.mono S.pre⟩⟩
  · rcases S.new a ha with h | h
    · exact .inl h
    · right
      cases q : s.heap.get? a with
      | none => rfl
      | some o => rw [hk a o q] at h; cases h

/-! what it is to be sound -/
noncomputable def RetB (G : Gl) (ρ : List Addr) (L : Addr) (ln : List Str) (s : Shared) (Q : Bool → St → Prop) (b : Bool) (s' : Shared) : Prop :=
  ∃ ρ' st', Rep G ρ' L ln st' s' ∧ Step G L ρ s ρ' s' ∧ Q b st'
theorem RetB.after {Q : Bool → St → Prop} {b : Bool} (x : Step G L ρ s ρ₁ s₁) (h : RetB G ρ₁ L ln s₁ Q b s') : RetB G ρ L ln s Q b s' :=
  let ⟨ρ', st', h2, h3, h4⟩ := h; ⟨ρ', st', h2, x.trans h3, h4⟩
noncomputable def RetVs (G : Gl) (ρ : List Addr) (L : Addr) (ln : List Str) (s : Shared) (Q : List AV → St → Prop) (vs : List Value) (s' : Shared) : Prop :=
  ∃ ρ' as st', VRs G ρ' as vs ∧ Rep G ρ' L ln st' s' ∧ Step G L ρ s ρ' s' ∧ Q as st'
theorem RetVs.after {Q : List AV → St → Prop} {vs : List Value} (x : Step G L ρ s ρ₁ s₁) (h : RetVs G ρ₁ L ln s₁ Q vs s') : RetVs G ρ L ln s Q vs s' :=
  let ⟨ρ', as, st', h1, h2, h3, h4⟩ := h; ⟨ρ', as, st', h1, h2, x.trans h3, h4⟩

section
variable (G) (T) (call : CallT) (n : Nat) (fx : Fx)
noncomputable def SE (c : CE) (e : PySem.Expr) : Prop := ∀ {ρ : List Addr} {A : Around} {L : Addr} {st : St} {s : Shared} {cl : List Nat} {env : Env} {Q : AV → St → Prop} {E : Value → Shared → Prop}, AOk A n → Rep G ρ L fx.ln st s → EnvOk G ρ L fx cl env →
  ev T call cl c st Q → wpAny (MM G) A (eval e env) (Ret G ρ L fx.ln s Q) E s
noncomputable def SB (c : CE) (e : PySem.Expr) : Prop := ∀ {ρ : List Addr} {A : Around} {L : Addr} {st : St} {s : Shared} {cl : List Nat} {env : Env} {Q : Bool → St → Prop} {E : Value → Shared → Prop}, AOk A n → Rep G ρ L fx.ln st s → EnvOk G ρ L fx cl env →
  evB T call cl c st Q → wpAny (MM G) A (isTrue e env (eval e env)) (RetB G ρ L fx.ln s Q) E s
noncomputable def SVs (c : CEs) (es : List PySem.Expr) : Prop := ∀ {ρ : List Addr} {A : Around} {L : Addr} {st : St} {s : Shared} {cl : List Nat} {env : Env} {Q : List AV → St → Prop} {E : Value → Shared → Prop}, AOk A n → Rep G ρ L fx.ln st s → EnvOk G ρ L fx cl env →
  evs T call cl c st Q → wpAny (MM G) A (spliced (es.map fun e => (false, eval e env))) (RetVs G ρ L fx.ln s Q) E s
noncomputable def SI (c : CI) (e : PySem.Expr) : Prop := ∀ {ρ : List Addr} {A : Around} {L : Addr} {st : St} {s : Shared} {cl : List Nat} {env : Env} {Q : Src → List AV → St → Prop} {E : Value → Shared → Prop}, AOk A n → Rep G ρ L fx.ln st s → EnvOk G ρ L fx cl env →
  evI T call cl c st Q → wpAny (MM G) A (eval e env) (fun v s₁ => wpAny (MM G) A (pyIter v) (RetI G ρ L fx.ln s Q) E s₁) E s
noncomputable def ST (t : CT) (e : PySem.Expr) : Prop := ∀ {ρ : List Addr} {A : Around} {L : Addr} {st : St} {s : Shared} {cl : List Nat} {env : Env} {x : AV} {v : Value} {Q : St → Prop} {E : Value → Shared → Prop}, AOk A n → Rep G ρ L fx.ln st s → EnvOk G ρ L fx cl env → VR G ρ x v →
  evT T call cl t x st Q → wpAny (MM G) A (assign e env v) (fun _ => RetU G ρ L fx.ln s Q) E s
noncomputable def STs (t : CTs) (es : List PySem.Expr) : Prop := ∀ {ρ : List Addr} {A : Around} {L : Addr} {st : St} {s : Shared} {cl : List Nat} {env : Env} {xs : List AV} {vs : List Value} {Q : St → Prop} {E : Value → Shared → Prop}, AOk A n → Rep G ρ L fx.ln st s → EnvOk G ρ L fx cl env → VRs G ρ xs vs →
  evTs T call cl t xs st Q → wpAny (MM G) A (assignInOrder (es.map fun e => assign e env) vs) (fun _ => RetU G ρ L fx.ln s Q) E s
noncomputable def SIfs (c : CEs) (es : List PySem.Expr) : Prop := ∀ {ρ : List Addr} {A : Around} {L : Addr} {st : St} {s : Shared} {cl : List Nat} {env : Env} {Q : Bool → St → Prop} {E : Value → Shared → Prop}, AOk A n → Rep G ρ L fx.ln st s → EnvOk G ρ L fx cl env →
  evIfs T call cl c st Q → wpAny (MM G) A (tests es env) (RetB G ρ L fx.ln s Q) E s
noncomputable def SC (r : CLs) (elt : PySem.Expr) (gens : List Comprehension) (scope : Scope) (pos : Pos) (d : Nat) : Prop := ∀ {ρ : List Addr} {A : Around} {L : Addr} {st : St} {s : Shared} {cl : List Nat} {env : Env} {D : Nat} {a : Addr} {Q : St → Prop} {E : Value → Shared → Prop}, AOk A n → Rep G ρ L fx.ln st s → EnvOk G ρ L fx cl env → ρ[D]? = some a →
  evC T call cl D r st Q → CompAct G.prog G.w A elt gens scope pos d (.ref a) env (RetU G ρ L fx.ln s Q) E s
end

theorem CompAct.mono {prog : Program} {w : World} {elt : PySem.Expr} {gens : List Comprehension} {scope : Scope} {pos : Pos} {d : Nat} {acc : Value} {env : Env} {Q Q' : Shared → Prop} (h : CompAct prog w A elt gens scope pos d acc env Q E s) (hq : ∀ s', Q s' → Q' s') : CompAct prog w A elt gens scope pos d acc env Q' E s := by
  unfold CompAct at h ⊢
  split at h
  · obtain ⟨h1, h2, h3⟩ := h
    refine ⟨h1, h2, wpAny_mono h3 (fun x s₁ h₁ => wpAny_mono h₁ (fun it s₂ h₂ => codeAny_mono h₂ fun r s₃ h₃ => ?_) fun _ _ z => z) fun _ _ z => z⟩
    cases r with
    | ok _ => exact hq _ h₃
    | error e => exact h₃
  · exact wpAny_mono h (fun x s₁ h₁ => wpAny_mono h₁ (fun _ s₂ h₂ => hq _ h₂) fun _ _ z => z) fun _ _ z => z

set_option backward.match.sparseCases true in
theorem letOwned {t : PySem.Expr} {I : Addr} {v : Value} {o : Obj} {Tn : String} {vs : Array Value} {M : Model} {Q : Unit → Shared → Prop} (ho : s.heap.get? I = some o) (hc : o.cls = .type Tn) (hp : plainIter Tn = true) (hd : o.data = .fields vs) (h : Q () s) : wpAny M A (letOwnedTupleGo t (.ref I) v) Q E s := by
  have hno : ["enumerate", "zip", "dict_itemiterator", "dict_reverseitemiterator", "odict_iterator", "itertools.zip_longest", "itertools.pairwise"].contains Tn = false := by
    unfold plainIter at hp
    simp only [Bool.or_eq_true, beq_iff_eq] at hp
    rcases hp with ((rfl | rfl) | rfl) | rfl <;> decide
  have body : wpAny M A (match (Value.ref I, v) with
      | (.ref r, .ref a) => do
        let o ← load r
        match o.cls, o.data with
        | .type n, .fields vs =>
          if ["enumerate", "zip", "dict_itemiterator", "dict_reverseitemiterator", "odict_iterator", "itertools.zip_longest", "itertools.pairwise"].contains n && vs[0]? == some (rawInt a) then do
            rule "for.unpacks-the-owned-tuple"
            updateField r 0 .none
          else pure ()
        | _, _ => pure ()
      | _ => pure () : Sem Unit) Q E s := by
    cases v <;> first | exact wpAny_pure h | skip
    refine wpAny_bind (wpAny_load ho ?_)
    rw [hc, hd]
    simp only [hno, Bool.false_and, Bool.false_eq_true, if_false]
    exact wpAny_pure h
  unfold letOwnedTupleGo
  split <;> first | exact body | exact wpAny_pure h
end Mine

set_option Elab.async false
set_option genSizeOf false
set_option genInjectivity false
set_option backward.match.sparseCases false
set_option bootstrap.genMatcherCode false
set_option tactic.hygienic false
set_option linter.unusedVariables false
set_option maxRecDepth 100000
namespace Mine
open PySem PySem.Calls PyProof.Rows PySem.W PySem.SeqAt
variable {G : Gl} {T : Tb} {call : CallT} {n : Nat} {fx : Fx} {ρ ρ₀ ρ₁ : List Addr} {A : Around} {L : Addr} {st : St} {s s₀ s₁ : Shared} {cl : List Nat} {env : Env} {E : Value → Shared → Prop}

theorem onO_some {α : Type} {r : Option α} {Q : α → Prop} (h : onO r Q) : ∃ a, r = some a ∧ Q a := by
  cases r with
  | none => exact h.elim
  | some a => exact ⟨a, rfl, h⟩
theorem onB_some {r : Option Bool} {Q : Bool → Prop} (h : onB r Q) : ∃ a, r = some a ∧ Q a := by
  cases r with
  | none => exact h.elim
  | some a => exact ⟨a, rfl, h⟩
theorem WalkR.keepI {ρ₀ : List Addr} {src : Src} {its : List AV} {I : Addr} {It : Nat → Heap → Prop} (W : WalkR G ρ₀ src its I It) (S : Step G L ρ s ρ₁ s₁) {i : Nat} (h : It i s.heap) (h1 : I ∉ ρ) (h2 : I ≠ L) (h3 : I ≠ G.P) : It i s₁.heap ∧ I ∉ ρ₁ := by
  obtain ⟨o, _, _, ho, _⟩ := W.obj _ _ h
  refine ⟨W.frame _ _ _ h fun o e => S.keep I o e h1 h2 h3, fun q => ?_⟩
  rcases S.new I q with q | q
  · exact h1 q
  · rw [ho] at q; cases q

theorem turns_ok {t : CT} {tx ix elt : PySem.Expr} {ifs : CEs} {ifx : List PySem.Expr} {r : CLs} {gens : List Comprehension} {scope : Scope} {pos : Pos} {d : Nat} {src : Src} {its : List AV} {I : Addr} {It : Nat → Heap → Prop} {D : Nat} {a : Addr} {R : Result → Shared → Prop} {Q : St → Prop}
    (hg : gens[d]? = some ⟨tx, ix, ifx, 0⟩) (hT : ST G T call n fx t tx) (hI : SIfs G T call n fx ifs ifx) (hC : SC G T call n fx r elt gens scope pos d) (W : WalkR G ρ₀ src its I It) (hA : AOk A n) (hIL : I ≠ L) (hIP : I ≠ G.P) (hI0 : G.h₀.get? I = none) :
    ∀ (rest : List AV) (i : Nat) {ρ : List Addr} {st : St} {s : Shared}, its.drop i = rest → i ≤ its.length → StepX G L (· = I) ρ₀ s₀ ρ s → Rep G ρ L fx.ln st s → EnvOk G ρ L fx cl env → I ∉ ρ → It i s.heap → ρ[D]? = some a →
      turns src its (fun x s₂ k => evT T call cl t x s₂ fun s₃ => evIfs T call cl ifs s₃ fun b s₄ => if b then evC T call cl D r s₄ k else k s₄) rest st Q →
      (∀ ρ' st' s', StepX G L (· = I) ρ₀ s₀ ρ' s' → Rep G ρ' L fx.ln st' s' → I ∉ ρ' → Q st' → R (.ok .next) s') →
      codeAny (MM G) A (.compLoop (.ListComp elt gens scope pos) d (.ref I) (.ref a) env) R s
  | [], i, ρ, st, s, hd, hle, S, Rr, EO, hIρ, hit, hD, ⟨h1, h2⟩, hR => by
    have hi : i = its.length := by
      have := List.length_drop (l := its) (i := i)
      rw [hd] at this; simp at this; lia
    subst hi
    refine comp_turn hg (W.done hA.hh S.pre Rr h1 hIρ hit fun h' tk hk => ?_)
    obtain ⟨o, _, vs, ho, _, _, hdd, hv⟩ := W.obj _ _ hit
    exact hR ρ st _ (S.foreign rfl hk) (Rr.foreign hIρ hIL hIP hI0 hk (fun o' vs' q u e1 e2 e3 => by rw [ho] at e1; cases e1; rw [hdd] at e2; cases e2; exact hv q u e3)) hIρ h2
  | x :: r', i, ρ, st, s, hd, hle, S, Rr, EO, hIρ, hit, hD, ⟨h1, h2⟩, hR => by
    have hx : its[i]? = some x := by
      have := List.getElem?_drop (xs := its) (i := i) (j := 0)
      rw [hd] at this; simpa using this.symm
    have hd' : its.drop (i + 1) = r' := by
      have := List.drop_drop (l := its) (i := 1) (j := i)
      rw [hd] at this; simpa [Nat.add_comm] using this.symm
    refine comp_turn hg (W.item i x hA.hh S.pre hx Rr h1 hIρ hit fun v h' tk hv hit' hk => ?_)
    obtain ⟨o, _, vs, ho, _, _, hdd, hvv⟩ := W.obj _ _ hit
    obtain ⟨o', Tn, vs', ho', hc', hp', hd2, _⟩ := W.obj _ _ hit'
    have R1 := Rr.foreign (t := tk) hIρ hIL hIP hI0 hk (fun o' vs' q u e1 e2 e3 => by rw [ho] at e1; cases e1; rw [hdd] at e2; cases e2; exact hvv q u e3)
    have S1 := S.foreign (I := I) (h' := h') (t := tk) rfl hk
    refine letOwned (s := { s with heap := h', toks := tk }) ho' hc' hp' hd2 ?_
    refine wpAny_mono (hT hA R1 EO hv h2) (fun _ s₂ hh' => RetU.el hh' fun ρ₂ st₂ R2 S2 h3 => ?_) fun _ _ z => z
    obtain ⟨hit2, hI2⟩ := W.keepI S2 hit' hIρ hIL hIP
    refine wpAny_mono (hI hA R2 (EO.mono S2.pre) h3) (fun ok s₃ hh' => RetU.el hh' fun ρ₃ st₃ R3 S3 h4 => ?_) fun _ _ z => z
    obtain ⟨hit3, hI3⟩ := W.keepI S3 hit2 hI2 hIL hIP
    have S13 : StepX G L (· = I) ρ₀ s₀ ρ₃ s₃ := (S1.trans (.of S2) (fun b e => by subst e; exact hI2)).trans (.of S3) (fun b e => by subst e; exact hI3)
    have hlt : i + 1 ≤ its.length := (List.getElem?_eq_some_iff.mp hx).1
    cases ok with
    | false =>
      simp only [Bool.false_eq_true, if_false] at h4 ⊢
      exact turns_ok hg hT hI hC W hA hIL hIP hI0 r' (i + 1) hd' hlt S13 R3 (EO.mono (S2.pre.trans S3.pre)) hI3 hit3 ((S2.pre.trans S3.pre).get hD) h4 hR
    | true =>
      simp only [if_true] at h4 ⊢
      refine (hC hA R3 (EO.mono (S2.pre.trans S3.pre)) ((S2.pre.trans S3.pre).get hD) h4).mono fun s₄ ⟨ρ₄, st₄, R4, S4, h5⟩ => ?_
      obtain ⟨hit4, hI4⟩ := W.keepI S4 hit3 hI3 hIL hIP
      exact turns_ok hg hT hI hC W hA hIL hIP hI0 r' (i + 1) hd' hlt (S13.trans (.of S4) (fun b e => by subst e; exact hI4)) R4 (EO.mono ((S2.pre.trans S3.pre).trans S4.pre)) hI4 hit4 (((S2.pre.trans S3.pre).trans S4.pre).get hD) h5 hR

set_option tactic.hygienic true in
/-- the last clause: a value is appended -/
theorem sc_elt {elt : PySem.Expr} {c : CE} {gens : List Comprehension} {scope : Scope} {pos : Pos} {d : Nat} (hg : gens[d + 1]? = none) (h : SE G T call n fx c elt) : SC G T call n fx (.elt c) elt gens scope pos d := by
  intro ρ A L st s cl env D a Q E hA R EO hD hv
  unfold CompAct
  rw [hg]
  refine wpAny_mono (h hA R EO hv) (fun v s₁ hh' => Ret.el hh' fun ρ₁ x st₁ hx R1 S1 h1 => ?_) fun _ _ z => z
  obtain ⟨σ', e1, h1⟩ := onO_some h1
  obtain ⟨xs, hxs, e1⟩ := onV_s e1
  have c := ite_s e1
  refine wpAny_mono (p_append (Q := fun _ st' => Q st') R1 hxs (.loc (S1.pre.get hD)) hx (by rw [sizeLine_eq]; lia) (Option.some.inj c.2 ▸ h1)) (fun _ s₂ hh' => Ret.el hh' fun ρ₂ _ st₂ _ R2 S2 h2 => ?_) fun _ _ z => z
  exact ⟨ρ₂, st₂, R2, S1.trans S2, h2⟩
/-- one more clause -/
theorem sc_cons {t : CT} {it : CI} {ifs : CEs} {r : CLs} {tx ix elt : PySem.Expr} {ifx : List PySem.Expr} {gens : List Comprehension} {scope : Scope} {pos : Pos} {d : Nat} (hg : gens[d + 1]? = some ⟨tx, ix, ifx, 0⟩) (hs : ∀ (env : Env) x, foldedSetIterable ix env x = pure x)
    (hI : SI G T call n fx it ix) (hT : ST G T call n fx t tx) (hIf : SIfs G T call n fx ifs ifx) (hC : SC G T call n fx r elt gens scope pos (d + 1)) : SC G T call n fx (.cons t it ifs r) elt gens scope pos d := by
  intro ρ A L st s cl env D a Q E hA R EO hD hv
  unfold CompAct
  rw [hg]
  refine ⟨rfl, hs env, ?_⟩
  refine wpAny_mono (hI hA R EO hv) (fun v s₁ h₁ => wpAny_mono h₁ (fun itv s₂ h₂ => ?_) fun _ _ z => z) fun _ _ z => z
  obtain ⟨ρ₂, st₂, src, its, I, It, rfl, R2, S2, W, hit, hIs, hI2, h3⟩ := h₂
  have hIL : I ≠ L := fun q => by obtain ⟨m, ⟨o, _, _, e, _⟩, _⟩ := R.frame; rw [← q, hIs] at e; cases e
  have hIP : I ≠ G.P := fun q => by obtain ⟨ps, e, _⟩ := R.tab; rw [← q, hIs] at e; cases e
  have hI0 : G.h₀.get? I = none := by
    cases q : G.h₀.get? I with
    | none => rfl
    | some o => have := R.base I o q; rw [hIs] at this; cases this
  have loop : codeAny (MM G) A (.compLoop (.ListComp elt gens scope pos) (d + 1) (.ref I) (.ref a) env) (fun r s₃ => match r with | .ok _ => RetU G ρ L fx.ln s Q s₃ | .error e => cameBackBy (MM G) A env E e s₃) s₂ :=
    turns_ok (s₀ := s₂) (ρ₀ := ρ₂) hg hT hIf hC W hA hIL hIP hI0 its 0 rfl (Nat.zero_le _) (.of .rfl) R2 (EO.mono S2.pre) hI2 hit (S2.pre.get hD) h3 fun ρ' st' s' SX R' _ hq =>
      ⟨ρ', st', R', StepX.close S2 SX (fun b e => by subst e; exact hIs), hq⟩
  exact comp_start hg loop (W.self 0 hit loop)
end Mine

set_option Elab.async false
set_option genSizeOf false
set_option genInjectivity false
set_option backward.match.sparseCases false
set_option bootstrap.genMatcherCode false
set_option tactic.hygienic false
set_option linter.unusedVariables false
set_option maxRecDepth 100000
namespace Mine
open PySem PySem.Calls PyProof.Rows PySem.W PySem.SeqAt
variable {G : Gl} {T : Tb} {call : CallT} {n : Nat} {fx : Fx} {ρ ρ₀ ρ₁ : List Addr} {A : Around} {L : Addr} {st : St} {s s₀ s₁ : Shared} {cl : List Nat} {env : Env} {E : Value → Shared → Prop}

noncomputable def freeNames (names : List (Str × NameKind)) : List Str := (names.filter (·.2 == .free)).map (·.1)
theorem closure_go : ∀ (names : List (Str × NameKind)) (acc : List (Str × Addr)), (∀ n ∈ freeNames names, ∃ c, env.cells.lookup n = some c) →
    (forIn names acc fun (x : Str × NameKind) (cs : List (Str × Addr)) => if (x.2 == NameKind.free) = true then do let a ← cellOf env x.1; pure (ForInStep.yield ((x.1, a) :: cs)) else pure (ForInStep.yield cs) : Sem (List (Str × Addr))) =
      pure (((freeNames names).reverse.map fun n => (n, (env.cells.lookup n).getD 0)) ++ acc)
  | [], acc, _ => by simp [freeNames]
  | (x, k) :: r, acc, h => by
    rw [List.forIn_cons]
    by_cases hk : (k == NameKind.free) = true
    · have hf : freeNames ((x, k) :: r) = x :: freeNames r := by unfold freeNames; rw [List.filter_cons_of_pos (by simpa using hk)]; rfl
      obtain ⟨c, hc⟩ := h x (by rw [hf]; exact .head _)
      have ih := closure_go r ((x, c) :: acc) fun n hn => h n (by rw [hf]; exact .tail _ hn)
      simp only [hk, if_true]
      have : cellOf env x = pure c := by unfold cellOf; rw [hc]
      rw [this, pure_bind, pure_bind]
      simp only
      rw [ih, hf]
      simp [hc]
    · have hf : freeNames ((x, k) :: r) = freeNames r := by unfold freeNames; rw [List.filter_cons_of_neg (by simpa using hk)]
      simp only [hk, Bool.false_eq_true, if_false]
      rw [pure_bind]
      simp only
      rw [closure_go r acc (by rwa [hf] at h), hf]
theorem closureFor_ok {scope : Scope} (h : ∀ n ∈ freeNames scope.names, ∃ c, env.cells.lookup n = some c) :
    closureFor scope env = pure ((freeNames scope.names).reverse.zip ((freeNames scope.names).reverse.map fun n => (env.cells.lookup n).getD 0)) := by
  have := closure_go scope.names [] h
  rw [List.append_nil] at this
  have e : ((freeNames scope.names).reverse.map fun n => (n, (env.cells.lookup n).getD 0)) = (freeNames scope.names).reverse.zip ((freeNames scope.names).reverse.map fun n => (env.cells.lookup n).getD 0) := by
    generalize (freeNames scope.names).reverse = l
    induction l with
    | nil => rfl
    | cons a l ih => simp [ih]
  rw [e] at this
  have e0 : closureFor scope env = ((forIn scope.names [] fun (x : Str × NameKind) (cs : List (Str × Addr)) => if (x.2 == NameKind.free) = true then do let a ← cellOf env x.1; pure (ForInStep.yield ((x.1, a) :: cs)) else pure (ForInStep.yield cs) : Sem (List (Str × Addr))) >>= pure) := rfl
  rw [e0, this, pure_bind]
/-- the cells that a nested scope takes over -/
theorem up_ok (EO : EnvOk G ρ L fx cl env) (hf : FxOk fx) {up : List Nat} {names : List Str} (h : up.map (fx.cn[·]?) = names.map some) :
    (∀ x ∈ names, ∃ c, env.cells.lookup x = some c) ∧ (up.map (cl.getD · 0)).map (ρ[·]?) = (names.map fun x => (env.cells.lookup x).getD 0).map some := by
  have hl : cl.length = fx.cn.length := let ⟨_, _, _, _, h⟩ := EO.cells; h
  induction up generalizing names with
  | nil =>
    cases names with
    | nil => exact ⟨fun _ h => (by cases h), rfl⟩
    | cons _ _ => simp at h
  | cons u up ih =>
    cases names with
    | nil => simp at h
    | cons x names =>
      simp only [List.map_cons, List.cons.injEq] at h
      obtain ⟨h1, h2⟩ := h
      obtain ⟨i1, i2⟩ := ih h2
      have hu : u < cl.length := by rw [hl]; exact (List.getElem?_eq_some_iff.mp h1).1
      have hu' : cl[u]? = some cl[u] := List.getElem?_eq_getElem hu
      obtain ⟨c, c1, c2⟩ := EO.cell hf h1 hu'
      refine ⟨fun y hy => ?_, ?_⟩
      · rcases List.mem_cons.mp hy with rfl | hy
        · exact ⟨c, c1⟩
        · exact i1 y hy
      · simp only [List.map_cons, List.cons.injEq]
        refine ⟨?_, i2⟩
        rw [List.getD_eq_getElem?_getD, hu', c1]; simp [c2]

noncomputable def relabelN (outer inner : List (Str × NameKind)) : List (Str × NameKind) := inner.map fun (n, k) => if (k == .free && outer.lookup n == some .cell) = true then (n, .cell) else (n, k)
/-- the frame of a comprehension -/
noncomputable def compFx (fx : Fx) (scope : Scope) : Fx := ⟨relabelN fx.names scope.names, (scope.names.filter (·.2 == .local)).map (·.1), (ownNames scope.names).reverse ++ (freeNames scope.names).reverse, false⟩
theorem relabel_names (EO : EnvOk G ρ L fx cl env) (scope : Scope) : (relabel scope env).names = relabelN fx.names scope.names := by
  unfold relabel relabelN
  simp only
  refine List.map_congr_left fun x _ => ?_
  obtain ⟨n, k⟩ := x
  simp only [EO.kind, EO.kindOf, beq_self_eq_true, Bool.and_true]

theorem comp_core {up : List Nat} {own nl : Nat} {t : CT} {it : CI} {ifs : CEs} {r : CLs} {tx ix elt : PySem.Expr} {ifx : List PySem.Expr} {gens : List Comprehension} {scope : Scope} {pos pos' : Pos} {use : Option (Value → Sem Unit)} {Q : AV → St → Prop} {Qf : Value → Shared → Prop}
    (hf : FxOk fx) (hf' : FxOk (compFx fx scope)) (hk : scope.kind = .function) (hnames : ∀ x ∈ scope.names, x.2 = .local → scope.names.lookup x.1 = some .local)
    (hup : up.map (fx.cn[·]?) = (freeNames scope.names).reverse.map some) (hown : (ownNames scope.names).length = own) (hnl : (compFx fx scope).ln.length = nl) (hfc : ∀ x ∈ (freeNames scope.names).reverse, scope.names.lookup x ≠ some .cell)
    (hs : ∀ (env : Env) x, foldedSetIterable ix env x = pure x) (hI : SI G T call n fx it ix) (hT : ST G T call n (compFx fx scope) t tx) (hIf : SIfs G T call n (compFx fx scope) ifs ifx) (hC : SC G T call n (compFx fx scope) r elt (⟨tx, ix, ifx, 0⟩ :: gens) scope pos 0)
    (hA : AOk A n) (R : Rep G ρ L fx.ln st s) (EO : EnvOk G ρ L fx cl env) (hv : ev T call cl (.comp up own nl t it ifs r) st Q)
    (hend : ∀ ρ' st' s' C D a, Rep G ρ' L fx.ln st' s' → Step G L ρ s ρ' s' → ρ'[D]? = some a → C ∉ ρ' → C ≠ L → C ≠ G.P → G.h₀.get? C = none → s.heap.get? C = none → (∃ m, s'.heap.Ns C m) → Q (.loc D) st' → compPost (MM G) A E use Qf (.ref a) C (.ok .next) s') :
    wpAny (MM G) A (comprehension (.ListComp elt (⟨tx, ix, ifx, 0⟩ :: gens) scope pos) scope env pos' (newList []) false (eval ix env) use) Qf E s := by
  obtain ⟨hcl1, hcl2⟩ := up_ok EO hf hup
  have hclos := closureFor_ok (env := env) (scope := scope) fun x hx => hcl1 x (List.mem_reverse.mpr hx)
  refine wpAny_comprehension_free (e := .ListComp elt (⟨tx, ix, ifx, 0⟩ :: gens) scope pos) rfl (hs env) hclos hk hnames (wpAny_mono (hI hA R EO hv) (fun xv s₁ h₁ => wpAny_mono h₁ (fun itv s₂ h₂ => ?_) fun _ _ z => z) fun _ _ z => z)
  obtain ⟨ρ₂, st₂, src, its, I, It, rfl, R2, S2, W, hit, hIs, hI2, h3⟩ := h₂
  have hIL : I ≠ L := fun q => by obtain ⟨m, ⟨o, _, _, e, _⟩, _⟩ := R.frame; rw [← q, hIs] at e; cases e
  have hIP : I ≠ G.P := fun q => by obtain ⟨ps, e, _⟩ := R.tab; rw [← q, hIs] at e; cases e
  have hI0 : G.h₀.get? I = none := by
    cases q : G.h₀.get? I with
    | none => rfl
    | some o => have := R.base I o q; rw [hIs] at this; cases this
  refine wpAny_mono (p_newList (Q := fun x st' => x = .loc st₂.σ.length ∧ st' = ⟨st₂.vars, st₂.σ ++ [.list []]⟩) R2 .nil (by simp) ⟨rfl, rfl⟩) (fun acc s₃ ⟨ρ₃, _, _, hacc, R3, S3, e1, e2⟩ => ?_) fun _ _ z => z
  subst e1; subst e2
  obtain ⟨a, rfl, haD⟩ : ∃ a, acc = .ref a ∧ ρ₃[st₂.σ.length]? = some a := hacc.loc_
  obtain ⟨hit3, hI3⟩ := W.keepI S3 hit hI2 hIL hIP
  have S13 := S2.trans S3
  have EO3 := EO.mono S13.pre
  rw [EO.glob]
  rw [← List.append_nil ((freeNames scope.names).reverse.zip _)]
  refine newEnv_ok (fx := ⟨scope.names, (compFx fx scope).ln, (compFx fx scope).cn, false⟩) (ex := []) (ps := []) (as := []) (binds := []) (nl := nl) R3.core ⟨hf'.ln, hf'.cn⟩ hk rfl rfl (by simpa using congrArg List.length hup) (S13.pre.gets hcl2) (fun e he => by cases he; exact EO.blt) hnl hfc (fun h => by cases h) (fun _ _ => .nil) fun cenv s₄ _ _ hsc hne => ?_
  obtain ⟨C, ρ₄, s₃', EO4, R4, hCn, hk3, hos, S4⟩ := hne.out
  have hloc := EO4.loc
  subst hloc
  simp only [place] at R4
  rw [hown] at EO4 R4
  have EO5 : EnvOk G ρ₄ cenv.locals (compFx fx scope) ((List.range own).reverse.map ((st₂.σ ++ [AO.list []]).length + ·) ++ up.map (cl.getD · 0)) { cenv with scope := relabel scope env } :=
    ⟨hk, relabel_names EO scope, rfl, EO4.glob, EO4.blt, EO4.cells, fun h => by cases h⟩
  have hIs3 : ∃ o, s₃.heap.get? I = some o := let ⟨o, _, _, e, _⟩ := W.obj _ _ hit3; ⟨o, e⟩
  obtain ⟨oI, hoI⟩ := hIs3
  have hIC : I ≠ cenv.locals := fun q => by rw [q, hCn] at hoI; cases hoI
  have hit3' : It 0 s₃'.heap := W.frame _ _ _ hit3 fun o e => hk3 _ _ e
  have hI4 : I ∉ ρ₄ ∧ It 0 s₄.heap := by
    have := W.keepI S4 hit3' hI3 hIC hIP
    exact ⟨this.2, this.1⟩
  have hσ : st₂.σ ++ [AO.list []] ++ List.replicate own (AO.cell none) = st₂.σ ++ AO.list [] :: List.replicate own (.cell none) := by simp
  have hlen : (st₂.σ ++ [AO.list []]).length = st₂.σ.length + 1 := by simp
  rw [hlen] at EO5
  rw [hσ] at R4
  have W4 : WalkR G ρ₄ src its I It := ⟨W.frame, fun i x hh hp => W.item i x hh ((S3.pre.trans S4.pre).trans hp), fun hh hp => W.done hh ((S3.pre.trans S4.pre).trans hp), W.self, W.obj⟩
  have haD4 : ρ₄[st₂.σ.length]? = some a := S4.pre.get haD
  have hX0 : ∀ b, b = I → s.heap.get? b = none := fun b e => by subst e; exact hIs
  have hCs : s.heap.get? cenv.locals = none := by
    cases q : s.heap.get? cenv.locals with
    | none => rfl
    | some o => obtain ⟨o', e⟩ := S13.live _ _ q; rw [hCn] at e; cases e
  have hCL : cenv.locals ≠ L := fun q => by obtain ⟨m, ⟨o, _, _, e, _⟩, _⟩ := R3.frame; rw [← q, hCn] at e; cases e
  have hCP : cenv.locals ≠ G.P := fun q => by obtain ⟨ps, e, _⟩ := R3.tab; rw [← q, hCn] at e; cases e
  have hC0 : G.h₀.get? cenv.locals = none := by
    cases q : G.h₀.get? cenv.locals with
    | none => rfl
    | some o => have := R3.base cenv.locals o q; rw [hCn] at this; cases this
  have loop : codeAny (MM G) A (.compLoop (.ListComp elt (⟨tx, ix, ifx, 0⟩ :: gens) scope pos) 0 (.ref I) (.ref a) { cenv with scope := relabel scope env }) (compPost (MM G) A E use Qf (.ref a) cenv.locals) s₄ := by
    refine turns_ok (s₀ := s₃') (ρ₀ := ρ₃) (R := compPost (MM G) A E use Qf (.ref a) cenv.locals) rfl hT hIf hC ⟨W4.frame, fun i x hh hp => W.item i x hh (S3.pre.trans hp), fun hh hp => W.done hh (S3.pre.trans hp), W.self, W.obj⟩ hA hIC hIP hI0 its 0 rfl (Nat.zero_le _) (.of S4) R4 EO5 hI4.1 hI4.2 haD4 h3 fun ρ' st' s' SX R' hI' hq => ?_
    obtain ⟨R'', SX'⟩ := R3.leaveX R' hk3 hos hCn (fun q => hIL q.symm) (fun b e => by subst e; exact hI') SX
    have S' := StepX.close S13 SX' hX0
    obtain ⟨m, hm, _⟩ := R'.frame
    have hC' : cenv.locals ∉ ρ' := fun q => (R'.own cenv.locals q).2.1 rfl
    exact hend ρ' _ s' cenv.locals _ a R'' S' (SX.pre.get haD) hC' hCL hCP hC0 hCs ⟨m, hm⟩ hq
  exact comp_start rfl loop (W.self 0 hI4.2 loop)
end Mine

set_option Elab.async false
set_option genSizeOf false
set_option genInjectivity false
set_option backward.match.sparseCases false
set_option bootstrap.genMatcherCode false
set_option tactic.hygienic false
set_option linter.unusedVariables false
set_option maxRecDepth 100000
namespace Mine
open PySem PySem.Calls PyProof.Rows PySem.W PySem.SeqAt

noncomputable def notSuper : PySem.Expr → Bool
  | .Call (.Name ..) [] [] _ => false
  | _ => true
noncomputable def isAttr : PySem.Expr → Bool
  | .Attribute .. => true
  | _ => false
noncomputable def notSlice : PySem.Expr → Bool
  | .Slice .. => false
  | _ => true
noncomputable def isStar : PySem.Expr → Bool
  | .Starred .. => true
  | _ => false
noncomputable def dbg : Str := "__debug__"
noncomputable def cdict : Str := "__classdict__"

noncomputable abbrev EP := PySem.Expr × PySem.Expr
noncomputable def asCon : (e : PySem.Expr) → As e fun t : Const × Nat × Pos => .Constant t.1 t.2.1 t.2.2
  | .Constant c k p => some ⟨(c, k, p), rfl⟩
  | _ => none
noncomputable def asName : (e : PySem.Expr) → As e fun t : Str × Pos => .Name t.1 t.2
  | .Name x p => some ⟨(x, p), rfl⟩
  | _ => none
noncomputable def asBin : (e : PySem.Expr) → As e fun t : PySem.Operator × EP × Pos => .BinOp t.2.1.1 t.1 t.2.1.2 t.2.2
  | .BinOp l o r p => some ⟨(o, (l, r), p), rfl⟩
  | _ => none
noncomputable def asCmp : (e : PySem.Expr) → As e fun t : CmpOp × EP × Pos => .Compare t.2.1.1 [t.1] [t.2.1.2] t.2.2
  | .Compare l [o] [r] p => some ⟨(o, (l, r), p), rfl⟩
  | _ => none
noncomputable def asCmp2 : (e : PySem.Expr) → As e fun t : (CmpOp × CmpOp) × (PySem.Expr × EP) × Pos => .Compare t.2.1.1 [t.1.1, t.1.2] [t.2.1.2.1, t.2.1.2.2] t.2.2
  | .Compare l [o, o'] [r, r'] p => some ⟨((o, o'), (l, (r, r')), p), rfl⟩
  | _ => none
noncomputable def asBop : (e : PySem.Expr) → As e fun t : BoolOp × EP × Pos => .BoolOp t.1 [t.2.1.1, t.2.1.2] t.2.2
  | .BoolOp o [x, y] p => some ⟨(o, (x, y), p), rfl⟩
  | _ => none
noncomputable def asNot : (e : PySem.Expr) → As e fun t : PySem.Expr × Pos => .UnaryOp .Not t.1 t.2
  | .UnaryOp .Not x p => some ⟨(x, p), rfl⟩
  | _ => none
noncomputable def asIte : (e : PySem.Expr) → As e fun t : (PySem.Expr × EP) × Pos => .IfExp t.1.1 t.1.2.1 t.1.2.2 t.2
  | .IfExp c x y p => some ⟨((c, (x, y)), p), rfl⟩
  | _ => none
noncomputable def asLst : (e : PySem.Expr) → As e fun t : List PySem.Expr × Pos => .List t.1 t.2
  | .List xs p => some ⟨(xs, p), rfl⟩
  | _ => none
noncomputable def asTup : (e : PySem.Expr) → As e fun t : List PySem.Expr × Nat × Pos => .Tuple t.1 t.2.1 t.2.2
  | .Tuple xs k p => some ⟨(xs, k, p), rfl⟩
  | _ => none
noncomputable def asDict0 : (e : PySem.Expr) → As e fun p : Pos => .Dict [] [] p
  | .Dict [] [] p => some ⟨p, rfl⟩
  | _ => none
noncomputable def asMerge : (e : PySem.Expr) → As e fun t : EP × Pos => .Dict [none, none] [t.1.1, t.1.2] t.2
  | .Dict [none, none] [x, y] p => some ⟨((x, y), p), rfl⟩
  | _ => none
noncomputable def asAttr : (e : PySem.Expr) → As e fun t : PySem.Expr × Str × Pos => .Attribute t.1 t.2.1 t.2.2
  | .Attribute v a p => some ⟨(v, a, p), rfl⟩
  | _ => none
noncomputable def asSub : (e : PySem.Expr) → As e fun t : EP × Pos => .Subscript t.1.1 t.1.2 t.2
  | .Subscript v i p => some ⟨((v, i), p), rfl⟩
  | _ => none
noncomputable def asSfrom : (e : PySem.Expr) → As e fun t : EP × Pos × Pos => .Subscript t.1.1 (.Slice (some t.1.2) none none t.2.1) t.2.2
  | .Subscript v (.Slice (some y) none none q) p => some ⟨((v, y), q, p), rfl⟩
  | _ => none
noncomputable def asSupto : (e : PySem.Expr) → As e fun t : EP × Pos × Pos => .Subscript t.1.1 (.Slice none (some t.1.2) none t.2.1) t.2.2
  | .Subscript v (.Slice none (some y) none q) p => some ⟨((v, y), q, p), rfl⟩
  | _ => none
noncomputable def asCall : (e : PySem.Expr) → As e fun t : PySem.Expr × List PySem.Expr × Pos => .Call t.1 t.2.1 [] t.2.2
  | .Call f xs [] p => some ⟨(f, xs, p), rfl⟩
  | _ => none
noncomputable def asLam : (e : PySem.Expr) → As e fun t : (Arguments × PySem.Expr) × Scope × Pos => .Lambda t.1.1 t.1.2 t.2.1 t.2.2
  | .Lambda a b c p => some ⟨((a, b), c, p), rfl⟩
  | _ => none
structure CompT where
  elt : PySem.Expr
  t : PySem.Expr
  i : PySem.Expr
  ifs : List PySem.Expr
  gens : List Comprehension
  scope : Scope
  p : Pos
noncomputable def asComp : (e : PySem.Expr) → As e fun t : CompT => .ListComp t.elt (⟨t.t, t.i, t.ifs, 0⟩ :: t.gens) t.scope t.p
  | .ListComp elt (⟨t, i, ifs, 0⟩ :: gens) scope p => some ⟨⟨elt, t, i, ifs, gens, scope, p⟩, rfl⟩
  | _ => none

noncomputable def okLit (v : AV) (c : Const) : Bool := match c with
  | .none => decide (v = .none)
  | .bool b => decide (v = .bool b)
  | .int i => decide (v = .int i)
  | .str s => decide (v = .str s)
  | _ => false
noncomputable def okFx (fx : Fx) : Bool := decide fx.ln.Nodup && decide fx.cn.Nodup
noncomputable def okComp (fx : Fx) (scope : Scope) (up : List Nat) (own nl : Nat) : Bool :=
  scope.kind == .function && scope.names.all (fun x => x.2 != .local || scope.names.lookup x.1 == some .local) && (up.map (fx.cn[·]?) == (freeNames scope.names).reverse.map some) && (ownNames scope.names).length == own &&
    (compFx fx scope).ln.length == nl && (freeNames scope.names).reverse.all (fun x => scope.names.lookup x != some .cell) && okFx (compFx fx scope)
noncomputable def isGlob (T : Tb) (fx : Fx) (x : Str) (v : AV) : Bool := !(x == dbg) && fx.names.lookup x == some .globalImplicit && T.globs.lookup x == some v
noncomputable def isLoc (fx : Fx) (x : Str) (i : Nat) : Bool := fx.names.lookup x == some .local && fx.ln[i]? == some x

section
variable (T : Tb) (fx : Fx) (f g h : PySem.Expr → Bool) (fs : List PySem.Expr → Bool)
noncomputable def cLit (v : AV) (e : PySem.Expr) : Bool := seen (asCon e) (fun t => okLit v t.1) || seen (asName e) fun t => isGlob T fx t.1 v
noncomputable def cLoc (i : Nat) (e : PySem.Expr) : Bool := seen (asName e) fun t => !(t.1 == dbg) && isLoc fx t.1 i
noncomputable def cCel (j : Nat) (e : PySem.Expr) : Bool := seen (asName e) fun t => !(t.1 == dbg) && !(t.1 == cdict) && (fx.names.lookup t.1 == some .cell || fx.names.lookup t.1 == some .free) && fx.cn[j]? == some t.1
noncomputable def cBin (o : Bop) (e : PySem.Expr) : Bool := seen (asBin e) fun t => t.1 == opOf o && f t.2.1.1 && g t.2.1.2
noncomputable def cCmp (o : Cop) (e : PySem.Expr) : Bool := seen (asCmp e) fun t => t.1 == copOf o && !behindInMarks t.1 t.2.1.2 && f t.2.1.1 && g t.2.1.2
noncomputable def cCmp2 (o o' : Cop) (e : PySem.Expr) : Bool := seen (asCmp2 e) fun t => t.1.1 == copOf o && t.1.2 == copOf o' && !lastMarks [t.1.1, t.1.2] [t.2.1.2.1, t.2.1.2.2] && (f t.2.1.1 && g t.2.1.2.1 && h t.2.1.2.2)
noncomputable def cBop (o : BoolOp) (e : PySem.Expr) : Bool := seen (asBop e) fun t => t.1 == o && f t.2.1.1 && g t.2.1.2
noncomputable def cNot (e : PySem.Expr) : Bool := seen (asNot e) fun t => f t.1
noncomputable def cIte (e : PySem.Expr) : Bool := seen (asIte e) fun t => f t.1.1 && g t.1.2.1 && h t.1.2.2
noncomputable def cLst (e : PySem.Expr) : Bool := seen (asLst e) fun t => fs t.1
noncomputable def cTup (e : PySem.Expr) : Bool := seen (asTup e) fun t => fs t.1
noncomputable def cDict0 (e : PySem.Expr) : Bool := seen (asDict0 e) fun _ => true
noncomputable def cMerge (e : PySem.Expr) : Bool := seen (asMerge e) fun t => f t.1.1 && g t.1.2
noncomputable def cAttr (a : Nat) (e : PySem.Expr) : Bool := seen (asAttr e) fun t => notSuper t.1 && T.nms[a]? == some t.2.1 && f t.1
noncomputable def cItem (e : PySem.Expr) : Bool := seen (asSub e) fun t => notSlice t.1.2 && f t.1.1 && g t.1.2
noncomputable def cSfrom (e : PySem.Expr) : Bool := seen (asSfrom e) fun t => f t.1.1 && g t.1.2
noncomputable def cSupto (e : PySem.Expr) : Bool := seen (asSupto e) fun t => f t.1.1 && g t.1.2
noncomputable def cCall (e : PySem.Expr) : Bool := seen (asCall e) fun t => !isAttr t.1 && f t.1 && fs t.2.1
noncomputable def cMeth (a : Nat) (e : PySem.Expr) : Bool := seen (asCall e) fun t => seen (asAttr t.1) fun u => notSuper u.1 && u.2.2.endLine == t.2.2.line && decide (t.2.1.length < 29) && (T.nms[a]? == some u.2.1 && f u.1 && fs t.2.1)
noncomputable def cComp (up : List Nat) (own nl : Nat) (fi : PySem.Expr → Bool) (ft : Fx → PySem.Expr → Bool) (ff : Fx → List PySem.Expr → Bool) (fc : Fx → PySem.Expr → List Comprehension → Bool) (e : PySem.Expr) : Bool :=
  seen (asComp e) fun t => okComp fx t.scope up own nl && fi t.i && ft (compFx fx t.scope) t.t && (ff (compFx fx t.scope) t.ifs && fc (compFx fx t.scope) t.elt t.gens)
noncomputable def noDef (a : Arguments) : Bool := a.defaults.isEmpty && a.kw_defaults.isEmpty
noncomputable def cLam (i : Nat) (cs : List Nat) (e : PySem.Expr) : Bool := seen (asLam e) fun t => fx.lam && noDef t.1.1 && (cs.map (fx.cn[·]?) == (freeNames t.2.1.names).reverse.map some) && T.lamB i ⟨t.1.1, t.1.2, t.2.1, (freeNames t.2.1.names).reverse⟩
noncomputable def two1 : List PySem.Expr → Bool
  | [x] => f x
  | _ => false
noncomputable def two2 : List PySem.Expr → Bool
  | [x, y] => f x && g y
  | _ => false
noncomputable def cRng1 (e : PySem.Expr) : Bool := seen (asCall e) fun t => seen (asName t.1) fun u => isGlob T fx u.1 (.typ "range") && two1 f t.2.1
noncomputable def cRng2 (e : PySem.Expr) : Bool := seen (asCall e) fun t => seen (asName t.1) fun u => isGlob T fx u.1 (.typ "range") && two2 f g t.2.1
noncomputable def tLoc (i : Nat) (e : PySem.Expr) : Bool := seen (asName e) fun t => isLoc fx t.1 i
noncomputable def tCel (j : Nat) (e : PySem.Expr) : Bool := seen (asName e) fun t => fx.names.lookup t.1 == some .cell && fx.cn[j]? == some t.1
noncomputable def tAttr (a : Nat) (e : PySem.Expr) : Bool := seen (asAttr e) fun t => T.nms[a]? == some t.2.1 && f t.1
noncomputable def notSet : PySem.Expr → Bool
  | .Set .. => false
  | _ => true
noncomputable def hClause (ft : PySem.Expr → Bool) (fi : PySem.Expr → Bool) (ff : List PySem.Expr → Bool) (fc : List Comprehension → Bool) : List Comprehension → Bool
  | ⟨t, i, ifs, a⟩ :: gens => decide (a = 0) && notSet i && fi i && (ft t && ff ifs && fc gens)
  | [] => false
noncomputable def two (ff : List PySem.Expr → Bool) : List PySem.Expr → Bool
  | x :: xs => f x && ff xs
  | [] => false
end

section
variable (T : Tb)
mutual
noncomputable def chkE (fx : Fx) : CE → PySem.Expr → Bool
  | .lit v, e => cLit T fx v e
  | .loc i, e => cLoc fx i e
  | .cel j, e => cCel fx j e
  | .bin o a b, e => cBin (chkE fx a) (chkE fx b) o e
  | .cmp o a b, e => cCmp (chkE fx a) (chkE fx b) o e
  | .cmp2 o o' a b c, e => cCmp2 (chkE fx a) (chkE fx b) (chkE fx c) o o' e
  | .and a b, e => cBop (chkE fx a) (chkE fx b) .And e
  | .or a b, e => cBop (chkE fx a) (chkE fx b) .Or e
  | .not _, _ => false
  | .ite c a b, e => cIte (chkB fx c) (chkE fx a) (chkE fx b) e
  | .lst es, e => cLst (chkEs fx es) e
  | .tup es, e => cTup (chkEs fx es) e
  | .dict0, e => cDict0 e
  | .merge a b, e => cMerge (cLoc fx a) (cLoc fx b) e
  | .attr c a, e => cAttr T (chkE fx c) a e
  | .item c i, e => cItem (chkE fx c) (chkE fx i) e
  | .sfrom c i, e => cSfrom (chkE fx c) (chkE fx i) e
  | .supto c i, e => cSupto (chkE fx c) (chkE fx i) e
  | .call f as, e => cCall (chkE fx f) (chkEs fx as) e
  | .meth c a as, e => cMeth T (chkE fx c) (chkEs fx as) a e
  | .comp up own nl t it ifs r, e => cComp fx up own nl (fun e => notSet e && chkI fx it e) (fun fx => chkT fx t) (fun fx => chkIfs fx ifs) (fun fx => chkC fx r) e
  | .lam i cs, e => cLam T fx i cs e
noncomputable def chkB (fx : Fx) : CE → PySem.Expr → Bool
  | .not a, e => cNot (chkB fx a) e
  | .and a b, e => cBop (chkB fx a) (chkB fx b) .And e
  | .or a b, e => cBop (chkB fx a) (chkB fx b) .Or e
  | .cmp o a b, e => cCmp (chkE fx a) (chkE fx b) o e
  | .cmp2 o o' a b c, e => cCmp2 (chkE fx a) (chkE fx b) (chkE fx c) o o' e
  | .call f as, e => cCall (chkE fx f) (chkEs fx as) e
  | .meth c a as, e => cMeth T (chkE fx c) (chkEs fx as) a e
  | _, _ => false
noncomputable def chkEs (fx : Fx) : CEs → List PySem.Expr → Bool
  | .nil, xs => xs.isEmpty
  | .cons c r, xs => two (fun e => !isStar e && chkE fx c e) (chkEs fx r) xs
noncomputable def chkI (fx : Fx) : CI → PySem.Expr → Bool
  | .rng1 a, e => cRng1 T fx (fun e => !isStar e && chkE fx a e) e
  | .rng2 a b, e => cRng2 T fx (fun e => !isStar e && chkE fx a e) (fun e => !isStar e && chkE fx b e) e
  | .of c, e => chkE fx c e
noncomputable def chkT (fx : Fx) : CT → PySem.Expr → Bool
  | .loc i, e => tLoc fx i e
  | .cel j, e => tCel fx j e
  | .attr c a, e => tAttr T (chkE fx c) a e
  | .item c i, e => cItem (chkE fx c) (chkE fx i) e
  | .sfrom c i, e => cSfrom (chkE fx c) (chkE fx i) e
  | .tup ts, e => cTup (chkTs fx ts) e
noncomputable def chkTs (fx : Fx) : CTs → List PySem.Expr → Bool
  | .nil, xs => xs.isEmpty
  | .cons t r, xs => two (fun e => !isStar e && chkT fx t e) (chkTs fx r) xs
noncomputable def chkIfs (fx : Fx) : CEs → List PySem.Expr → Bool
  | .nil, xs => xs.isEmpty
  | .cons c .nil, xs => two (chkB fx c) List.isEmpty xs
  | .cons _ _, _ => false
noncomputable def chkC (fx : Fx) : CLs → PySem.Expr → List Comprehension → Bool
  | .elt c, e, gens => gens.isEmpty && chkE fx c e
  | .cons t it ifs r, e, gens => hClause (chkT fx t) (chkI fx it) (chkIfs fx ifs) (chkC fx r e) gens
end
end
end Mine

set_option Elab.async false
set_option genSizeOf false
set_option genInjectivity false
set_option backward.match.sparseCases false
set_option bootstrap.genMatcherCode false
set_option tactic.hygienic false
set_option linter.unusedVariables false
set_option maxRecDepth 100000
namespace Mine
open PySem PySem.Calls PyProof.Rows PySem.W PySem.SeqAt

structure CallOk (G : Gl) (n : Nat) (call : CallT) : Prop where
  wp : ∀ {ρ : List Addr} {A : Around} {L : Addr} {ln : List Str} {st : St} {s : Shared} {g : AV} {as : List AV} {v : Value} {vs : List Value} {Q : AV → St → Prop} {E : Value → Shared → Prop}, AOk A n → Rep G ρ L ln st s → VR G ρ g v → VRs G ρ as vs →
    (call g as st.σ fun x σ => Q x ⟨st.vars, σ⟩) → wpAny (MM G) A (PySem.call v vs) (Ret G ρ L ln s Q) E s
  keep : ∀ {ρ : List Addr} {L : Addr} {ln : List Str} {st : St} {s : Shared} {g : AV} {as : List AV} {v : Value} {Q : AV → Sto → Prop}, Rep G ρ L ln st s → VR G ρ g v → call g as st.σ Q → ∃ k, (k = Keeper.frame ∨ k = Keeper.machine ∨ k = Keeper.boundFrame) ∧ Looks (MM G) s.heap (keeperOf v) k

variable {G : Gl} {T : Tb} {call : CallT} {n : Nat} {fx : Fx} {ρ ρ₁ : List Addr} {A : Around} {L : Addr} {ln : List Str} {st : St} {s s₁ : Shared} {cl : List Nat} {env : Env} {Q : AV → St → Prop} {E : Value → Shared → Prop}

theorem Ret.mono {Q Q' : AV → St → Prop} {v : Value} {s' : Shared} (h : Ret G ρ L ln s Q v s') (hq : ∀ x st, Q x st → Q' x st) : Ret G ρ L ln s Q' v s' := let ⟨ρ', x, st', h1, h2, h3, h4⟩ := h; ⟨ρ', x, st', h1, h2, h3, hq _ _ h4⟩
theorem wret {m : Sem Value} (S : Step G L ρ s ρ₁ s₁) (h : wpAny (MM G) A m (Ret G ρ₁ L ln s₁ Q) E s₁) : wpAny (MM G) A m (Ret G ρ L ln s Q) E s₁ := wpAny_mono h (fun _ _ z => z.after S) fun _ _ z => z
theorem wretU {α : Type} {m : Sem α} {Q : St → Prop} (S : Step G L ρ s ρ₁ s₁) (h : wpAny (MM G) A m (fun _ => RetU G ρ₁ L ln s₁ Q) E s₁) : wpAny (MM G) A m (fun _ => RetU G ρ L ln s Q) E s₁ := wpAny_mono h (fun _ _ z => z.after S) fun _ _ z => z
theorem wretB {m : Sem Bool} {Q : Bool → St → Prop} (S : Step G L ρ s ρ₁ s₁) (h : wpAny (MM G) A m (RetB G ρ₁ L ln s₁ Q) E s₁) : wpAny (MM G) A m (RetB G ρ L ln s Q) E s₁ := wpAny_mono h (fun _ _ z => z.after S) fun _ _ z => z

theorem w_neg {α : Type} {M : Model} {c : Prop} [Decidable c] {t e : Sem α} {Q : α → Shared → Prop} (hc : ¬ c) (h : wpAny M A e Q E s) : wpAny M A (ite c t e) Q E s := by rw [if_neg hc]; exact h
theorem w_pos {α : Type} {M : Model} {c : Prop} [Decidable c] {t e : Sem α} {Q : α → Shared → Prop} (hc : c) (h : wpAny M A t Q E s) : wpAny M A (ite c t e) Q E s := by rw [if_pos hc]; exact h
theorem evalArgs_all {M : Model} {f : Value} {args : List (Bool × Sem Value)} {Q : Args → Shared → Prop} (hno : ∀ a ∈ args, a.1 = false) (h : wpAny M A (spliced args) (fun vs s' => Q ⟨vs, []⟩ s') E s) : wpAny M A (evalArgs f true args []) Q E s := by
  cases args with
  | nil =>
    unfold evalArgs
    show wpAny M A (spliced [] >>= _) Q E s
    refine wpAny_bind (wpAny_mono h (fun vs s₁ h₁ => wpAny_bind (wpAny_pure ?_)) fun _ _ z => z)
    refine wpAny_holding ?_
    exact wpAny_bind (wpAny_pure (wpAny_bind (wpAny_pure (wpAny_pure h₁))))
  | cons a r =>
    obtain ⟨b, x⟩ := a
    have : b = false := hno _ (.head _)
    subst this
    exact evalArgs_plain h
/-- the arguments, and the call -/
theorem callArgs (H : CallOk G n call) {pos : Pos} {g : AV} {fs : List AV} {v : Value} {first : List Value} {c : CEs} {es : List PySem.Expr} (hE : SVs G T call n fx c es) (hA : AOk A n) (R : Rep G ρ L fx.ln st s) (EO : EnvOk G ρ L fx cl env) (hg : VR G ρ g v) (hf : VRs G ρ fs first)
    (h : evs T call cl c st fun vs s₂ => call g (fs ++ vs) s₂.σ fun v σ => Q v ⟨s₂.vars, σ⟩) : wpAny (MM G) A (callWith pos v first (es.map fun e => (false, eval e env)) []) (Ret G ρ L fx.ln s Q) E s := by
  refine callWith_of (P := fun h => ∃ k, (k = Keeper.frame ∨ k = Keeper.machine ∨ k = Keeper.boundFrame) ∧ Looks (MM G) h (keeperOf v) k) (by simp) (fun h hp => hp) ?_
  have body : wpAny (MM G) A (spliced (es.map fun e => (false, eval e env))) (fun vs s₁ => (∃ k, (k = Keeper.frame ∨ k = Keeper.machine ∨ k = Keeper.boundFrame) ∧ Looks (MM G) s₁.heap (keeperOf v) k) ∧ wpAny (MM G) A (PySem.call v (first ++ vs)) (Ret G ρ L fx.ln s Q) E s₁) E s := by
    refine wpAny_mono (hE hA R EO h) (fun vs s₁ ⟨ρ₁, as, st₁, hvs, R1, S1, h1⟩ => ?_) fun _ _ z => z
    exact ⟨H.keep R1 (hg.mono S1.pre) h1, wret S1 (H.wp hA R1 (hg.mono S1.pre) ((hf.mono S1.pre).append hvs) h1)⟩
  exact evalArgs_all (by simp) body
end Mine

set_option Elab.async false
set_option genSizeOf false
set_option genInjectivity false
set_option backward.match.sparseCases false
set_option bootstrap.genMatcherCode false
set_option tactic.hygienic false
set_option linter.unusedVariables false
set_option maxRecDepth 100000
namespace Mine
open PySem PySem.Calls PyProof.Rows PySem.W PySem.SeqAt

/-! a pile's built-in methods -/
section
variable {prog : Program} {w : World} {A : Around} {E : Value → Shared → Prop} {s : Shared}
theorem check_list {M : Model} {i n : String} {self : Value} {rest : List Value} {Q : Unit → Shared → Prop} (hk : builtinKind i = some .slot ∨ builtinKind i = some .method) (hs : splitId i = some ("list", n)) (hi : Looks M s.heap (isInstance self (.type "list")) true)
    (ha : argsOk i ⟨self :: rest, []⟩) (q : Q () s) : wpAny M A (checkBuiltinCall i ⟨self :: rest, []⟩) Q E s := by
  rcases hk with hk | hk
  · exact check_slot hk hs hi ha q
  · simp only [checkBuiltinCall, hk, hs]
    refine wpAny_bind (hi.here ?_)
    simp only [Bool.not_true, Bool.false_eq_true, if_false]
    cases hsig : Manifest.signature? i with
    | none => exact wpAny_pure q
    | some sig =>
      simp only [argsOk, hsig] at ha
      have h2 : Bind.checkArgs i sig ⟨self :: rest, []⟩ = pure () := ha
      show wpAny M A (Bind.checkArgs i sig ⟨self :: rest, []⟩) Q E s
      rw [h2]; exact wpAny_pure q
theorem call_pile {id n : String} {B : Builtin} {self : Value} {rest : List Value} {Q : Value → Shared → Prop} (hk : builtinKind id = some .slot ∨ builtinKind id = some .method) (hs : splitId id = some ("list", n)) (hp : plainId id = true) (he : entryFor table id = some B)
    (ha : argsOk id ⟨self :: rest, []⟩) (hi : Looks (model prog w) s.heap (isInstance self (.type "list")) true)
    (h : wpAny (model prog w) A.in1 (B ⟨self :: rest, []⟩) (fun fin s' => ∃ v, fin = .done (.ret v) ∧ Q v s') (fun _ _ => False) s) : wpAny (model prog w) A (call (.builtin id) (self :: rest)) Q E s := by
  refine wpAny_call (codeAny_call_builtin hp he (check_list hk hs hi ha (wpAny_mono h (fun fin s' h => ?_) fun _ _ z => z.elim)))
  obtain ⟨v, rfl, hq⟩ := h
  exact hq
theorem slice_parts {M : Model} {sl : Addr} {vl vu : Value} {lo hi : Option Int} {Q : Value × Value × Value → Shared → Prop} (hs : s.heap.IsSliceOf sl vl vu .none) (pl : IsPart vl lo) (pu : IsPart vu hi) (h : Q (rawPart lo, rawPart hi, rawPart none) s) :
    wpAny M A (Builtin.List.listSliceParts (.ref sl)) Q E s := by
  obtain ⟨os, hos, hcs, hds⟩ := hs
  rw [listSliceParts_eq]
  refine wpAny_bind (wpAny_field hos hds (x := .none) rfl (wpAny_bind (wpAny_listPart .none (w_neg (by decide) ?_))))
  exact wpAny_bind (wpAny_field hos hds (x := vl) rfl (wpAny_bind (wpAny_listPart pl (wpAny_bind (wpAny_field hos hds (x := vu) rfl (wpAny_bind (wpAny_listPart pu (wpAny_pure h))))))))
theorem subscript_slice {M : Model} {sl : Addr} {vl vu vs : Value} {Q : Option Int → Shared → Prop} (hs : s.heap.IsSliceOf sl vl vu vs) (h : Q none s) : wpAny M A (Builtin.List.listSubscript? (.ref sl)) Q E s := by
  obtain ⟨os, hos, hcs, hds⟩ := hs
  unfold Builtin.List.listSubscript?
  refine wpAny_bind (wpAny_specialOf (T := "slice") ⟨os, hos, hcs⟩ slice_no_index ?_)
  exact wpAny_pure h
theorem get_slice {a sl : Addr} {o : Obj} {items : Array Value} {n : Nat} {vl vu : Value} {lo hi : Option Int} {Q : Fin → Shared → Prop} (ho : s.heap.get? a = some o) (hd : o.data = .seq items n) (hs : s.heap.IsSliceOf sl vl vu .none) (pl : IsPart vl lo) (pu : IsPart vu hi) (hz : items.size ≤ sizeLine)
    (h : Q (.done (.ret (.ref s.heap.objs.size))) { s with heap := s.heap.push { cls := .type "list", data := .seq (slicePick items lo hi none) } }) : wpAny (model prog w) A (Builtin.«list.__getitem__» ⟨[.ref a, .ref sl], []⟩) Q E s := by
  have hT : s.TypeIs (.ref sl) "slice" := let ⟨os, hos, hcs, _⟩ := hs; ⟨os, hos, hcs⟩
  show wpAny _ _ (Builtin.List.listSubscript? (.ref sl) >>= _) _ _ s
  refine wpAny_bind (subscript_slice hs (wpAny_bind (wpAny_typeOf hT (w_neg (by decide) (wpAny_bind (slice_parts hs pl pu (wpAny_bind (m := Builtin.List.listItems (.ref a)) ?_)))))))
  unfold Builtin.List.listItems
  refine wpAny_bind (wpAny_seqItems ho hd (wpAny_pure ?_))
  refine wpAny_bind (wpAny_of_eq (sliceIndices_raw lo hi none items.size (by simp)) ?_)
  exact wpAny_bind (wpAny_newObj_type (wpAny_pure h) (Nat.le_trans (slicePick_size_le items lo hi none) hz))
end
end Mine

set_option Elab.async false
set_option genSizeOf false
set_option genInjectivity false
set_option backward.match.sparseCases false
set_option bootstrap.genMatcherCode false
set_option tactic.hygienic false
set_option linter.unusedVariables false
set_option maxRecDepth 100000
namespace Mine
open PySem PySem.Calls PyProof.Rows PySem.W PySem.SeqAt
variable {G : Gl} {T : Tb} {call : CallT} {n : Nat} {fx : Fx} {ρ ρ₁ : List Addr} {A : Around} {L : Addr} {ln : List Str} {st : St} {s s₁ : Shared} {cl : List Nat} {env : Env} {Q : AV → St → Prop} {E : Value → Shared → Prop}

variable {xs : List AV} {vs : List Value}
theorem Rep.pile (R : Rep G ρ L ln st s) {l d : Nat} {C : Addr} {xs : List AV} {v : Value} (h : st.σ[l]? = some (.acc C d xs)) (hv : VR G ρ (.loc l) v) :
    ∃ a dx vs n, v = .ref a ∧ ρ[l]? = some a ∧ ρ[d]? = some dx ∧ s.heap.get? a = some (accObj C dx vs.toArray n) ∧ VRs G ρ xs vs := by
  obtain ⟨_, rfl, e⟩ := hv.loc_
  obtain ⟨_, _, _, g1, g2, g3⟩ := (R.obj _ _ _ h e).acc_; exact ⟨_, _, _, _, rfl, e, g1, g2, g3⟩
theorem pile_type {M : Model} {h : Heap} {a : Addr} {C : Addr} {o : Obj} (e : h.get? a = some o) (hc : o.cls = .ref C) : Looks M h (typeOf (.ref a)) (.ref C) := by
  rw [← hc]; exact (Looks.ld e).andThen .now
theorem pile_isList {M : Model} {h : Heap} {a : Addr} {C : Addr} {o : Obj} (X : G.K.In h) (K : AccOk G C) (e : h.get? a = some o) (hc : o.cls = .ref C) : Looks M h (isInstance (.ref a) (.type "list")) true :=
  (pile_type e hc).andThen (looks_mroIn X K.sub)
theorem pile_key {M : Model} {a C : Addr} {o : Obj} {k : Value} {nm : Str} {Q : Value → Shared → Prop} (X : G.K.In s.heap) (K : AccOk G C) (e : s.heap.get? a = some o) (hc : o.cls = .ref C) (h : Q k s) : wpAny M A (sequenceKey (.ref a) k nm) Q E s := by
  unfold sequenceKey
  refine wpAny_bind ((pile_type e hc).here ?_)
  show wpAny _ _ (List.anyM (fun n => isSubtype (.ref C) (.type n)) ["collections.deque"] >>= _) _ _ _
  refine wpAny_bind (wpAny_bind ((looks_mroIn X K.deq).here (wpAny_pure ?_)))
  exact w_pos rfl (wpAny_pure h)
theorem pile_special {M : Model} {a C : Addr} {o : Obj} {nm : Str} {id : String} {args : List Value} {Q : Option Value → Shared → Prop} (X : G.K.In s.heap) (e : s.heap.get? a = some o) (hc : o.cls = .ref C) (hf : findIn G.K (.ref C) nm = some (some (.builtin id)))
    (hb : ∀ self, bindSpecial (.builtin id) self = pure (.builtin id, [self])) (h : wpAny M A (PySem.call (.builtin id) (.ref a :: args)) (fun v => Q (some v)) E s) : wpAny M A (callSpecial? (.ref a) nm args) Q E s := by
  unfold callSpecial? specialOf
  refine wpAny_bind (wpAny_bind ((pile_type e hc).here ((looks_findIn X hf).here ?_)))
  dsimp only
  rw [hb]
  exact wpAny_holding (wpAny_bind (wpAny_pure (wpAny_bind (wpAny_mono h (fun v s' h' => wpAny_pure h') fun _ _ h' => h'))))
theorem pile_inPython {M : Model} {a C : Addr} {o : Obj} {Q : Bool → Shared → Prop} (X : G.K.In s.heap) (K : AccOk G C) (e : s.heap.get? a = some o) (hc : o.cls = .ref C) (h : Q false s) : wpAny M A (getitemInPython (.ref a)) Q E s := by
  unfold getitemInPython specialOf
  exact wpAny_bind (wpAny_bind ((pile_type e hc).here ((looks_findIn X K.getitem).here (wpAny_pure h))))
theorem kind_gi : builtinKind "list.__getitem__" = some .slot ∨ builtinKind "list.__getitem__" = some .method := by decide +kernel
theorem kind_si : builtinKind "list.__setitem__" = some .slot ∨ builtinKind "list.__setitem__" = some .method := by decide +kernel
theorem split_gi : splitId "list.__getitem__" = some ("list", "__getitem__") := by decide +kernel
theorem split_si : splitId "list.__setitem__" = some ("list", "__setitem__") := by decide +kernel
theorem args_si (a b c : Value) : argsOk "list.__setitem__" ⟨[a, b, c], []⟩ := F.args_list_setitem_3 a b c
theorem args_gi (a b : Value) : argsOk "list.__getitem__" ⟨[a, b], []⟩ := by unfold argsOk; kernel_rfl

theorem sl_size (g : VRs G ρ xs vs) (hz : xs.length ≤ 4096) : vs.toArray.size ≤ sizeLine := by rw [List.size_toArray, g.length, sizeLine_eq]; exact Nat.le_trans hz (by decide)
theorem slc_from (R : Rep G ρ L ln st s) {value y : PySem.Expr} {p : Pos} {l k : Nat} {u : Tok} {v : Value} (h1 : st.σ[l]? = some (.list xs)) (ha : VR G ρ (.loc l) v) (hz : xs.length ≤ 4096) (hq : Q (.loc st.σ.length) ⟨st.vars, st.σ ++ [.list (xs.drop k)]⟩) :
    wpAny (MM G) A (newFields "slice" [.int k u, .none, .none]) (fun sl s₁ => wpAny (MM G) A (subscriptTail value (.Slice (some y) none none p) v sl) (Ret G ρ L ln s Q) E s₁) E s := by
  refine wpAny_newObj_type ?_ (by size_fits)
  obtain ⟨R1, S1⟩ := R.grow (t := s.toks) (h' := s.heap.push { cls := .type "slice", data := .fields #[.int k u, .none, .none] }) fun b o e => Heap.get?_push_of_some _ e
  obtain ⟨a, ws, m, e, _, g1, g2⟩ := R1.list h1 ha
  rw [e]
  refine tail_any (isl g1).typeIs F.slot_list_getitem.lookup (wpAny_getItem_list_slice (lo := some k) (hi := none) (st := none) (isl g1) (Heap.IsSliceOf.new ..) (.int _ _) .none .none (fun h => noS h) ?_ (sl_size g2 hz)) rfl
  rw [slicePick_from']
  exact .after S1 (ret_push (ao := .list (xs.drop k)) R1 rfl (.list (Heap.get?_push_size _ rfl) ((g2.drop k).mono (.snoc _ _))) hq)
theorem slc_upto (R : Rep G ρ L ln st s) {value y : PySem.Expr} {p : Pos} {l k : Nat} {u : Tok} {v : Value} (h1 : st.σ[l]? = some (.list xs)) (ha : VR G ρ (.loc l) v) (hz : xs.length ≤ 4096) (hq : Q (.loc st.σ.length) ⟨st.vars, st.σ ++ [.list (xs.take k)]⟩) :
    wpAny (MM G) A (newFields "slice" [.none, .int k u, .none]) (fun sl s₁ => wpAny (MM G) A (subscriptTail value (.Slice none (some y) none p) v sl) (Ret G ρ L ln s Q) E s₁) E s := by
  refine wpAny_newObj_type ?_ (by size_fits)
  obtain ⟨R1, S1⟩ := R.grow (t := s.toks) (h' := s.heap.push { cls := .type "slice", data := .fields #[.none, .int k u, .none] }) fun b o e => Heap.get?_push_of_some _ e
  obtain ⟨a, ws, m, e, _, g1, g2⟩ := R1.list h1 ha
  rw [e]
  refine tail_any (isl g1).typeIs F.slot_list_getitem.lookup (wpAny_getItem_list_slice (lo := none) (hi := some k) (st := none) (isl g1) (Heap.IsSliceOf.new ..) .none (.int _ _) .none (fun h => noS h) ?_ (sl_size g2 hz)) rfl
  rw [slicePick_upto']
  exact .after S1 (ret_push (ao := .list (xs.take k)) R1 rfl (.list (Heap.get?_push_size _ rfl) ((g2.take k).mono (.snoc _ _))) hq)
theorem slc_pile (W : TbOk G T) (R : Rep G ρ L ln st s) {value y : PySem.Expr} {p : Pos} {l k d : Nat} {C : Addr} {u : Tok} {v : Value} (h1 : st.σ[l]? = some (.acc C d xs)) (hC : C ∈ T.accs) (ha : VR G ρ (.loc l) v) (hz : xs.length ≤ 4096) (hq : Q (.loc st.σ.length) ⟨st.vars, st.σ ++ [.list (xs.drop k)]⟩) :
    wpAny (MM G) A (newFields "slice" [.int k u, .none, .none]) (fun sl s₁ => wpAny (MM G) A (subscriptTail value (.Slice (some y) none none p) v sl) (Ret G ρ L ln s Q) E s₁) E s := by
  refine wpAny_newObj_type ?_ (by size_fits)
  obtain ⟨R1, S1⟩ := R.grow (t := s.toks) (h' := s.heap.push { cls := .type "slice", data := .fields #[.int k u, .none, .none] }) fun b o e => Heap.get?_push_of_some _ e
  have K := W.acc C hC
  have X := R1.K W.gl
  obtain ⟨a, dx, ws, m, e, _, _, g1, g2⟩ := R1.pile h1 ha
  rw [e]
  unfold subscriptTail
  refine wpAny_bind (pile_inPython X K g1 rfl ?_)
  show wpAny _ _ (operate _ (getItem _ _) >>= _) _ _ _
  refine wpAny_bind (wpAny_operateT ?_)
  unfold getItem
  refine wpAny_holding (wpAny_bind (pile_key X K g1 rfl (wpAny_bind (pile_special X g1 rfl K.getitem F.slot_list_getitem.bind ?_))))
  refine call_pile kind_gi split_gi F.slot_list_getitem.plain F.entry_list_getitem (args_gi _ _) (pile_isList X K g1 rfl) (get_slice (lo := some k) (hi := none) g1 rfl (Heap.IsSliceOf.new ..) (.int _ _) .none (sl_size g2 hz) ⟨_, rfl, wpAny_pure (wpAny_bind ?_)⟩)
  rw [slicePick_from']
  refine wpAny_letTemporaryGo (wpAny_pure ?_)
  exact .after S1 (ret_push (ao := .list (xs.drop k)) R1 rfl (.list (Heap.get?_push_size _ rfl) ((g2.drop k).mono (.snoc _ _))) hq)
theorem sfrom_ok (W : TbOk G T) (R : Rep G ρ L ln st s) {value y : PySem.Expr} {p : Pos} {a b : AV} {v w : Value} {vs : List AV} (ha : VR G ρ a v) (hb : VR G ρ b w) (h : sfromV T a b st.σ = some vs) (hq : Q (.loc st.σ.length) ⟨st.vars, st.σ ++ [.list vs]⟩) :
    wpAny (MM G) A (newFields "slice" [w, .none, .none]) (fun sl s₁ => wpAny (MM G) A (subscriptTail value (.Slice (some y) none none p) v sl) (Ret G ρ L ln s Q) E s₁) E s := by
  obtain ⟨l, e, h⟩ := onV_s h
  obtain ⟨k, e', h⟩ := onV_s h
  rw [e] at ha; rw [e'] at hb
  obtain ⟨u, q⟩ := hb.int_
  have c := ite_s h
  rw [q, ← Int.toNat_of_nonneg c.1.1]
  rcases onV_b c.2 with ⟨xs, h1, h⟩ | h
  · have c := ite_s h; exact slc_from R h1 ha c.1 (Option.some.inj c.2 ▸ hq)
  · obtain ⟨t, h1, h⟩ := onV_s h
    have c := ite_s h; exact slc_pile W R h1 c.1.1 ha c.1.2 (Option.some.inj c.2 ▸ hq)
theorem supto_ok (W : TbOk G T) (R : Rep G ρ L ln st s) {value y : PySem.Expr} {p : Pos} {a b : AV} {v w : Value} {vs : List AV} (ha : VR G ρ a v) (hb : VR G ρ b w) (h : suptoV a b st.σ = some vs) (hq : Q (.loc st.σ.length) ⟨st.vars, st.σ ++ [.list vs]⟩) :
    wpAny (MM G) A (newFields "slice" [.none, w, .none]) (fun sl s₁ => wpAny (MM G) A (subscriptTail value (.Slice none (some y) none p) v sl) (Ret G ρ L ln s Q) E s₁) E s := by
  obtain ⟨l, e, h⟩ := onV_s h
  obtain ⟨k, e', h⟩ := onV_s h
  rw [e] at ha; rw [e'] at hb
  obtain ⟨u, q⟩ := hb.int_
  have c := ite_s h
  rw [q, ← Int.toNat_of_nonneg c.1.1]
  obtain ⟨xs, h1, h⟩ := onV_s c.2
  have c := ite_s h; exact slc_upto R h1 ha c.1 (Option.some.inj c.2 ▸ hq)
end Mine

set_option Elab.async false
set_option genSizeOf false
set_option genInjectivity false
set_option backward.match.sparseCases false
set_option bootstrap.genMatcherCode false
set_option tactic.hygienic false
set_option linter.unusedVariables false
set_option maxRecDepth 100000
namespace Mine
open PySem PySem.Calls PyProof.Rows PySem.W PySem.SeqAt
variable {G : Gl} {T : Tb} {ρ ρ₁ : List Addr} {A : Around} {L : Addr} {ln : List Str} {st : St} {s s₁ : Shared} {Q : AV → St → Prop} {E : Value → Shared → Prop}

/-- the pile's items are changed -/
theorem ret_pile (R : Rep G ρ L ln st s) {l d : Nat} {C a dx : Addr} {xs ys : List AV} {vs ws : List Value} {n t : Nat} {f : Array Value → Array Value} {av : AV} {v : Value} (h : st.σ[l]? = some (.acc C d xs)) (e : ρ[l]? = some a) (ed : ρ[d]? = some dx) (g : s.heap.get? a = some (accObj C dx vs.toArray n))
    (hf : f vs.toArray = ws.toArray) (hw : VRs G ρ ys ws) (hv : VR G ρ av v) (hq : Q av { st with σ := st.σ.set l (.acc C d ys) }) : Ret G ρ L ln s Q v { s with heap := s.heap.update a (Obj.mapSeq f), toks := t } := by
  refine ret_set (ao := .acc C d ys) (f := Obj.mapSeq f) R h e g (by simp) rfl (fun he => ?_) hv hq
  refine .acc (n := if ws.toArray.size == vs.toArray.size then n else n + 1) (vs := ws) ed ?_ hw
  rw [he]
  simp only [Obj.mapSeq, hf]
theorem pile_append {a dx C : Addr} {vs : List Value} {n : Nat} {x : Value} {P : Fin → Shared → Prop} (g : s.heap.get? a = some (accObj C dx vs.toArray n)) (hz : vs.length ≤ 4096) (h : P (.done (.ret .none)) { s with heap := s.heap.update a (Obj.mapSeq (·.push x)) }) :
    wpAny (MM G) A (Builtin.«list.append» ⟨[.ref a, x], []⟩) P E s := by
  show wpAny _ _ (updateSeq a (·.push x) >>= fun _ => ret .none) _ _ _
  exact wpAny_bind (wpAny_updateSeq g rfl (wpAny_pure h) (by simp [sizeLine_eq]; lia) (by simp [sizeLine_eq]; lia))
theorem pile_len {a dx C : Addr} {vs : List Value} {n : Nat} {P : Fin → Shared → Prop} (g : s.heap.get? a = some (accObj C dx vs.toArray n)) (h : P (.done (.ret (.int vs.length s.toks))) { s with toks := s.toks + 1 }) :
    wpAny (MM G) A (Builtin.«list.__len__» ⟨[.ref a], []⟩) P E s := by
  show wpAny _ _ (seqSize a >>= fun n => retInt n) _ _ _
  unfold seqSize
  refine wpAny_bind (wpAny_bind (wpAny_load g (wpAny_pure ?_)))
  unfold retInt
  refine wpAny_bind (wpAny_mkInt (wpAny_pure ?_))
  simpa using h
theorem pile_pop {a dx C : Addr} {vs : List Value} {x : Value} {n : Nat} {P : Fin → Shared → Prop} (g : s.heap.get? a = some (accObj C dx (vs ++ [x]).toArray n)) (hz : vs.length ≤ 4096) (h : P (.done (.ret x)) { s with heap := s.heap.update a (Obj.mapSeq (·.eraseIdxIfInBounds vs.length)) }) :
    wpAny (MM G) A (Builtin.«list.pop» ⟨[.ref a], []⟩) P E s := by
  show wpAny _ _ (Builtin.List.listItems (.ref a) >>= _) _ _ _
  unfold Builtin.List.listItems
  refine wpAny_bind (wpAny_bind (wpAny_seqItems g rfl (wpAny_pure (w_neg (by simp) ?_))))
  have hs : (vs ++ [x]).toArray.size = vs.length + 1 := by simp
  have e : ((seqIndex? (-1) (vs ++ [x]).toArray.size).bind fun k => ((vs ++ [x]).toArray[k]?).map (k, ·)) = some (vs.length, x) := by
    rw [hs]
    have : seqIndex? (-1) (vs.length + 1) = some vs.length := by
      unfold seqIndex?
      simp
      lia
    rw [this]
    simp
  rw [e]
  show wpAny _ _ (updateSeq a _ >>= fun _ => ret x) _ _ _
  exact wpAny_bind (wpAny_updateSeq g rfl (wpAny_pure h) (by rw [hs, sizeLine_eq]; lia) (by
    have : ((vs ++ [x]).toArray.eraseIdxIfInBounds vs.length).size ≤ (vs ++ [x]).toArray.size := by
      unfold Array.eraseIdxIfInBounds
      split
      · rw [Array.size_eraseIdx]; lia
      · lia
    rw [sizeLine_eq]; lia))
theorem pile_init {a dx C : Addr} {n : Nat} {P : Fin → Shared → Prop} (g : s.heap.get? a = some (accObj C dx [].toArray n)) (h : P (.done (.ret .none)) { s with heap := s.heap.update a (Obj.mapSeq fun _ => #[]) }) :
    wpAny (MM G) A (Builtin.«list.__init__» ⟨[.ref a], []⟩) P E s := by
  show wpAny _ _ (Builtin.List.listItems (.ref a) >>= fun old => updateSeq a (fun _ => #[]) >>= fun _ => letGo old.toList.reverse >>= fun _ => ret .none) _ _ _
  unfold Builtin.List.listItems
  refine wpAny_bind (wpAny_bind (wpAny_seqItems g rfl (wpAny_pure ?_)))
  exact wpAny_bind (wpAny_updateSeq g rfl (wpAny_bind (wpAny_letGo (wpAny_pure h))) (by simp) (by simp))
theorem set_slice {a dx C v sl : Addr} {vs : List Value} {k n m : Nat} {u : Tok} {P : Fin → Shared → Prop} (g : s.heap.get? a = some (accObj C dx vs.toArray n)) (hz : vs.length ≤ 4096) (hs : s.heap.IsSliceOf sl (.int k u) .none .none) (hv : s.heap.get? v = some (listOf [].toArray m)) (hne : a ≠ v)
    (h : ∀ f : Array Value → Array Value, f vs.toArray = (vs.take k).toArray → P (.done (.ret .none)) { s with heap := s.heap.update a (Obj.mapSeq f) }) : wpAny (MM G) A (Builtin.«list.__setitem__» ⟨[.ref a, .ref sl, .ref v], []⟩) P E s := by
  have hT : s.TypeIs (.ref sl) "slice" := let ⟨os, hos, hcs, _⟩ := hs; ⟨os, hos, hcs⟩
  show wpAny _ _ (Builtin.List.listSubscript? (.ref sl) >>= _) _ _ s
  refine wpAny_bind (subscript_slice hs (wpAny_bind (wpAny_typeOf hT (w_neg (by decide) (wpAny_bind (slice_parts (lo := some (k : Int)) (hi := none) hs (.int _ _) .none ?_))))))
  refine w_neg (show ¬ (Builtin.List.listSameRef (.ref a) (.ref v) = true) from by simpa [Builtin.List.listSameRef] using hne) (wpAny_bind ?_)
  unfold Builtin.List.listAllItems
  refine wpAny_bind (wpAny_typeOf (T := "list") ⟨_, hv, rfl⟩ (w_pos (by decide) ?_))
  unfold Builtin.List.listItems
  refine wpAny_bind (wpAny_seqItems hv rfl (wpAny_pure ?_))
  refine wpAny_bind (wpAny_bind (wpAny_seqItems g rfl (wpAny_pure ?_)))
  have hsz : (vs.toArray).size = vs.length := by simp
  have hb : (sliceBounds (some (k : Int)) none none vs.toArray.size) = (((min k vs.length : Nat) : Int), (vs.length : Int), 1) := by
    unfold sliceBounds
    simp only [Option.getD_none, hsz]
    have : ¬ ((k : Int) < 0) := by lia
    simp [this]
    lia
  refine wpAny_bind (wpAny_of_eq ((sliceIndices_raw (some (k : Int)) none none vs.toArray.size (by simp)).trans (by rw [hb])) ?_)
  refine w_pos (by rfl) (wpAny_bind (wpAny_rule (w_neg ?_ ?_)))
  · show ¬ (Builtin.List.listTooLong _ = true)
    simp only [Builtin.List.listTooLong, List.size_toArray, sizeLine_eq, List.length_nil]
    simp; lia
  have hf : (vs.toArray.extract 0 ((min k vs.length : Nat) : Int).toNat ++ ([] : List Value).toArray ++ vs.toArray.extract (max ((min k vs.length : Nat) : Int) (vs.length : Int)).toNat vs.toArray.size) = (vs.take k).toArray := by
    have e1 : ((min k vs.length : Nat) : Int).toNat = min k vs.length := by simp
    have e2 : (max ((min k vs.length : Nat) : Int) (vs.length : Int)).toNat = vs.length := by lia
    rw [e1, e2, hsz]
    apply Array.ext'
    simp
  show wpAny _ _ (updateSeq a (fun xs => xs.extract 0 ((min k vs.length : Nat) : Int).toNat ++ ([] : List Value).toArray ++ xs.extract (max ((min k vs.length : Nat) : Int) (vs.length : Int)).toNat xs.size) >>= _) _ _ _
  refine wpAny_bind (wpAny_updateSeq g rfl (wpAny_bind (wpAny_letGo (wpAny_bind (wpAny_pure (wpAny_pure (h _ hf)))))) (by simp [sizeLine_eq]; lia) (by rw [hf, sizeLine_eq]; simp; lia))
theorem cut_pile (W : TbOk G T) (R : Rep G ρ L ln st s) {l k r d : Nat} {C : Addr} {xs : List AV} {t : Tok} {v u : Value} {Q : St → Prop} (h1 : st.σ[l]? = some (.acc C d xs)) (h2 : st.σ[r]? = some (.list [])) (ha : VR G ρ (.loc l) v) (hc : VR G ρ (.loc r) u) (hC : C ∈ T.accs) (hz : xs.length ≤ 4096) (hq : Q ⟨st.vars, st.σ.set l (.acc C d (xs.take k))⟩) :
    wpAny (MM G) A (newFields "slice" [.int k t, .none, .none]) (fun sl s₁ => wpAny (MM G) A (setItem v sl u) (fun _ => RetU G ρ L ln s Q) E s₁) E s := by
  refine wpAny_newObj_type ?_ (by size_fits)
  obtain ⟨R1, S1⟩ := R.grow (t := s.toks) (h' := s.heap.push { cls := .type "slice", data := .fields #[.int k t, .none, .none] }) fun b o e => Heap.get?_push_of_some _ e
  have K := W.acc C hC
  have X := R1.K W.gl
  obtain ⟨a, dx, ws, m, qa, e, ed, g1, g2⟩ := R1.pile h1 ha
  obtain ⟨b, bs, mb, qb, eb, g3, g4⟩ := R1.list h2 hc
  rw [g4.nil_] at g3
  rw [qa, qb]
  have hne : a ≠ b := fun q => nomatch congrArg Obj.cls (Option.some.inj (((congrArg _ q).symm.trans g1).symm.trans g3))
  unfold setItem
  refine wpAny_holding (wpAny_bind (pile_key X K g1 rfl (wpAny_bind (pile_special X g1 rfl K.setitem F.slot_list_setitem.bind ?_))))
  refine call_pile kind_si split_si F.slot_list_setitem.plain F.entry_list_setitem (args_si _ _ _) (pile_isList X K g1 rfl) (set_slice g1 (by rw [g2.length]; exact hz) (Heap.IsSliceOf.new ..) g3 hne fun f hf => ⟨_, rfl, wpAny_pure ?_⟩)
  exact (ret_pile (t := s.toks) (av := .none) (v := .none) (ys := xs.take k) (Q := fun _ => Q) R1 h1 e ed g1 hf (g2.take _) .none hq).el fun ρ' _ _ _ R' S' q => ⟨ρ', _, R', S1.trans S', q⟩
theorem cut_ok (W : TbOk G T) (R : Rep G ρ L ln st s) {y : PySem.Expr} {p : Pos} {a b c : AV} {v w u : Value} {σ' : Sto} {Q : St → Prop} (ha : VR G ρ a v) (hb : VR G ρ b w) (hc : VR G ρ c u) (h : cutV T a b c st.σ = some σ') (hq : Q ⟨st.vars, σ'⟩) :
    wpAny (MM G) A (newFields "slice" [w, .none, .none]) (fun sl s₁ => wpAny (MM G) A (setItem v sl u) (fun _ => RetU G ρ L ln s Q) E s₁) E s := by
  obtain ⟨l, ea, h⟩ := onV_s h
  obtain ⟨k, eb, h⟩ := onV_s h
  obtain ⟨r, ec, h⟩ := onV_s h
  obtain ⟨t, h1, h⟩ := onV_s h
  obtain ⟨ys, h2, h⟩ := onV_s h
  obtain ⟨_, ey, h⟩ := onV_s h
  have z := ite_s h
  rw [ea] at ha; rw [eb] at hb; rw [ec] at hc; rw [ey] at h2
  obtain ⟨j, q⟩ := hb.int_
  rw [q, ← Int.toNat_of_nonneg z.1.2.1]
  exact cut_pile W R h1 h2 ha hc z.1.1 z.1.2.2.1 (Option.some.inj z.2 ▸ hq)
end Mine

set_option Elab.async false
set_option genSizeOf false
set_option genInjectivity false
set_option backward.match.sparseCases false
set_option bootstrap.genMatcherCode false
set_option tactic.hygienic false
set_option linter.unusedVariables false
set_option maxRecDepth 100000
namespace Mine
open PySem PySem.Calls PyProof.Rows PySem.W PySem.SeqAt
variable {G : Gl} {T : Tb} {call : CallT} {n : Nat} {fx : Fx} {ρ ρ₁ : List Addr} {A : Around} {L : Addr} {ln : List Str} {st : St} {s s₁ : Shared} {cl : List Nat} {env : Env} {Q : AV → St → Prop} {E : Value → Shared → Prop}

theorem nm_of (W : TbOk G T) {k : Nat} {x : Str} (h : T.nms[k]? = some x) : x = G.nm k := by
  rw [W.nm] at h
  unfold Gl.nm
  rw [List.getD_eq_getElem?_getD, h]; rfl
theorem ab_plain {o : PySem.Expr} {a : Str} {env : Env} {whole : Sem Value} (h : notSuper o = true) : attributeBase o a env whole = whole := by
  cases o with
  | Call f xs ks p => cases f with
    | Name => cases xs with
      | nil => cases ks with
        | nil => exact noB h
        | cons => rfl
      | cons => rfl
    | _ => rfl
  | _ => rfl
theorem fs_plain {e : PySem.Expr} (h : notSet e = true) (env : Env) (x : Value) : foldedSetIterable e env x = pure x := by
  cases e <;> first | rfl | cases h
theorem lit_ok {v : AV} {c : Const} {k : Nat} {pos : Pos} (h : okLit v c = true) (R : Rep G ρ L ln st s) (hq : Q v st) : wpAny (MM G) A (eval (.Constant c k pos) env) (Ret G ρ L ln s Q) E s := by
  cases c with
  | none => cases of_decide_eq_true h; exact Constant_none (retS R .none hq)
  | bool b => cases of_decide_eq_true h; exact Constant_bool (retS R (.bool _) hq)
  | int i => cases of_decide_eq_true h; exact wpAny_Constant_int (ret0 R (.int _ _) hq)
  | str x => cases of_decide_eq_true h; exact Constant_str (ret0 R (.str _ _) hq)
  | _ => cases h
theorem call_eval {f : PySem.Expr} {args : List PySem.Expr} {pos : Pos} {env : Env} (h : isAttr f = false) : eval (.Call f args [] pos) env = (do callWith pos (← eval f env) [] (backTo pos (starEach args env)) []) := by
  cases f <;> first | rfl | cases h

theorem tl_dict_iter : typeLookup (.type "dict") "__iter__" = pure (some (.builtin "dict.__iter__")) := by kernel_rfl
theorem sub_dict : isSubtype (.type "dict") (.type "dict") = pure true := by kernel_rfl
theorem merge0 {M : Model} {d a : Addr} {n k : Nat} {Q : Unit → Shared → Prop} (ha : s.heap.get? a = some (dictOf [] n)) (hd : s.heap.get? d = some (dictOf [] k)) (hs : a ≠ sysModules) (h : Q () s) : wpAny M A (mergeMapping d (.ref a) false) Q E s := by
  unfold mergeMapping
  have hT : s.TypeIs (.ref a) "dict" := ⟨_, ha, rfl⟩
  refine wpAny_bind (wpAny_isInstance hT sub_dict ?_)
  rw [if_pos rfl]
  refine wpAny_bind (wpAny_specialOf hT tl_dict_iter ?_)
  refine wpAny_bind (wpAny_pure ?_)
  rw [show (some (Value.builtin "dict.__iter__") == some (Value.builtin "dict.__iter__")) = true from by decide]
  dsimp only
  rw [if_neg (by simpa using hs)]
  refine wpAny_bind (wpAny_bind (wpAny_loadPart hd (wpAny_pure ?_)))
  rw [if_pos (show (#[] : Array DictEntry).isEmpty = true from rfl)]
  refine wpAny_bind (wpAny_bind (wpAny_loadPart ha (wpAny_pure ?_)))
  refine wpAny_bind (wpAny_pure ?_)
  refine wpAny_bind (wpAny_bind (wpAny_loadPart ha (wpAny_pure ?_)))
  refine wpAny_bind (wpAny_bind (wpAny_loadPart ha (wpAny_pure ?_)))
  exact wpAny_bind (wpAny_pure (wpAny_pure h))
theorem dict2 {M : Model} {env : Env} {x y : PySem.Expr} {pos : Pos} {Q : Value → Shared → Prop}
    (h : wpAny M A (eval x env) (fun m s₁ => wpAny M A (mergeMapping s.heap.objs.size m false) (fun _ s₂ => wpAny M A (eval y env) (fun m' s₃ => wpAny M A (mergeMapping s.heap.objs.size m' false) (fun _ => Q (.ref s.heap.objs.size)) (fun _ _ => False) s₃) E s₂) (fun _ _ => False) s₁) E { s with heap := s.heap.push { cls := .type "dict", data := .dict #[] } }) :
    wpAny M A (eval (.Dict [none, none] [x, y] pos) env) Q E s := by
  rw [arm_eval_Dict]
  refine wpAny_bind (wpAny_standAt ?_)
  show wpAny M A (dictDisplay [(none, do let x ← eval x env; standAt pos; pure x), (none, do let x ← eval y env; standAt pos; pure x)]) Q E s
  unfold dictDisplay
  dsimp only
  refine wpAny_bind ?_
  rw [List.forIn_cons]
  refine wpAny_bind (wpAny_bind (m := pure (none : Option Addr)) (wpAny_pure ?_))
  refine wpAny_bind (wpAny_alloc (wpAny_bind (wpAny_holding (wpAny_bind (wpAny_mono h (fun m s₁ h₁ => wpAny_bind (wpAny_standAt (wpAny_pure (wpAny_bind ?_)))) fun _ _ z => z)))))
  refine wpAny_onRaise (wpAny_tryCatch (wpAny_onRaise (wpAny_holding (wpAny_mono h₁ (fun _ s₂ h₂ => wpAny_pure ?_) fun _ _ z => z.elim))))
  dsimp only
  rw [List.forIn_cons]
  refine wpAny_bind (wpAny_bind (m := pure (some s.heap.objs.size)) (wpAny_pure ?_))
  refine wpAny_bind (m := pure s.heap.objs.size) (wpAny_pure ?_)
  refine wpAny_bind (wpAny_holding (wpAny_bind (wpAny_mono h₂ (fun m' s₃ h₃ => wpAny_bind (wpAny_standAt (wpAny_pure (wpAny_bind ?_)))) fun _ _ z => z)))
  refine wpAny_onRaise (wpAny_tryCatch (wpAny_onRaise (wpAny_holding (wpAny_mono h₃ (fun _ s₄ h₄ => wpAny_pure ?_) fun _ _ z => z.elim))))
  dsimp only
  rw [List.forIn_nil]
  refine wpAny_pure (wpAny_bind (m := pure (some s.heap.objs.size)) (wpAny_pure (wpAny_pure h₄)))
theorem Rep.emp (R : Rep G ρ L ln st s) {l : Nat} {a : Addr} (e : ρ[l]? = some a) (h : st.σ[l]? = some (.dict [])) : ∃ k, s.heap.get? a = some (dictOf [] k) :=
  (R.obj _ _ _ h e).dict_.elim fun es => Exists.imp fun n h => (show es = [] from h.2) ▸ h.1
theorem merge_ok (W : TbOk G T) (hA : AOk A n) (R : Rep G ρ L fx.ln st s) (EO : EnvOk G ρ L fx cl env) {a b : Nat} {x y : PySem.Expr} {pos : Pos} (h1 : SE G T call n fx (.loc a) x) (h2 : SE G T call n fx (.loc b) y) (hv : ev T call cl (.merge a b) st Q) :
    wpAny (MM G) A (eval (.Dict [none, none] [x, y] pos) env) (Ret G ρ L fx.ln s Q) E s := by
  obtain ⟨va, e1, hv⟩ := onVar_p hv
  obtain ⟨vb, e2, hv⟩ := onVar_p hv
  obtain ⟨aa, qa, hv⟩ := onExt_p hv
  obtain ⟨bb, qb, qd, h3, hq⟩ := onLo_p hv
  refine dict2 ?_
  obtain ⟨R1, S1, e3⟩ := R.push (t := s.toks) (ob := { cls := .type "dict", data := .dict #[] }) (ao := .dict []) rfl (.dict (n := 0) (es := []) (Heap.get?_push_size _ rfl) .nil)
  have d1 : (st.σ ++ [AO.dict []])[st.σ.length]? = some (.dict []) := List.getElem?_concat_length
  have d2 : (st.σ ++ [AO.dict []])[bb]? = some (.dict []) := (List.getElem?_append_left (List.getElem?_eq_some_iff.mp h3).1).trans h3
  refine wpAny_mono (h1 (Q := fun v st' => v = va ∧ st' = ⟨st.vars, st.σ ++ [.dict []]⟩) hA R1 (EO.mono S1.pre) (show onVar st.vars[a]? _ from by rw [e1]; exact ⟨rfl, rfl⟩)) (fun m s₁ h => Ret.el h fun ρ₁ _ st1 hm R2 S2 q => ?_) fun _ _ z => z
  rw [q.1, qa] at hm; rw [q.2] at R2
  rw [hm.ext_, qd]
  obtain ⟨hdd, nd, hd⟩ := W.dd
  obtain ⟨k1, hd1⟩ := R2.emp (S2.pre.get e3) d1
  refine merge0 (R2.base _ _ hd) hd1 hdd ?_
  refine wpAny_mono (h2 (Q := fun v st' => v = vb ∧ st' = ⟨st.vars, st.σ ++ [.dict []]⟩) hA R2 (EO.mono (S1.pre.trans S2.pre)) (show onVar st.vars[b]? _ from by rw [e2]; exact ⟨rfl, rfl⟩)) (fun m s₂ h => Ret.el h fun ρ₂ _ st2 hm R3 S3 q => ?_) fun _ _ z => z
  rw [q.1, qb] at hm; rw [q.2] at R3
  obtain ⟨ba, eb, e4⟩ := hm.loc_
  rw [eb]
  obtain ⟨k2, hd2⟩ := R3.emp (S3.pre.get (S2.pre.get e3)) d1
  obtain ⟨k3, hd3⟩ := R3.emp e4 d2
  refine merge0 hd3 hd2 (fun q => W.sm.elim fun o ho => noS ((R3.own _ (Rep.mem e4)).1.symm.trans (q ▸ ho))) ⟨ρ₂, .loc st.σ.length, _, .loc (S3.pre.get (S2.pre.get e3)), R3, (S1.trans S2).trans S3, hq⟩
theorem dict0_ok (R : Rep G ρ L ln st s) {pos : Pos} (hq : Q (.loc st.σ.length) ⟨st.vars, st.σ ++ [.dict []]⟩) : wpAny (MM G) A (eval (.Dict [] [] pos) env) (Ret G ρ L ln s Q) E s :=
  wpAny_Dict_empty (ret_push (t := s.toks) (ao := .dict []) R rfl (.dict (n := 0) (es := []) (Heap.get?_push_size _ rfl) .nil) hq)
end Mine

set_option Elab.async false
set_option genSizeOf false
set_option genInjectivity false
set_option backward.match.sparseCases false
set_option bootstrap.genMatcherCode false
set_option tactic.hygienic false
set_option linter.unusedVariables false
set_option maxRecDepth 100000
namespace Mine
open PySem PySem.Calls PyProof.Rows PySem.W PySem.SeqAt
variable {G : Gl} {T : Tb} {call : CallT} {n : Nat} {fx : Fx} {ρ ρ₁ : List Addr} {A : Around} {L : Addr} {ln : List Str} {st : St} {s s₁ : Shared} {cl : List Nat} {env : Env} {Q : AV → St → Prop} {E : Value → Shared → Prop}

theorem and1 {a b : Bool} (h : (a && b) = true) : a = true ∧ b = true := Bool.and_eq_true_iff.mp h
theorem and2 {a b c : Bool} (h : (a && b && c) = true) : a = true ∧ b = true ∧ c = true := ⟨(and1 (and1 h).1).1, (and1 (and1 h).1).2, (and1 h).2⟩
theorem and3 {a b c d : Bool} (h : (a && b && c && d) = true) : a = true ∧ b = true ∧ c = true ∧ d = true := ⟨(and1 (and1 (and1 h).1).1).1, (and1 (and1 (and1 h).1).1).2, (and1 (and1 h).1).2, (and1 h).2⟩
theorem not1 {b : Bool} (h : (!b) = true) : b = false := by cases b; rfl; cases h

/-! an expression's arms -/
section
variable {a b c : CE} {f g h : PySem.Expr → Bool} {e : PySem.Expr}
noncomputable abbrev Snd (G : Gl) (T : Tb) (call : CallT) (n : Nat) (fx : Fx) (c : CE) (f : PySem.Expr → Bool) : Prop := ∀ e, f e = true → SE G T call n fx c e
noncomputable abbrev SndB (G : Gl) (T : Tb) (call : CallT) (n : Nat) (fx : Fx) (c : CE) (f : PySem.Expr → Bool) : Prop := ∀ e, f e = true → SB G T call n fx c e

theorem glob_ok (W : TbOk G T) {x : Str} {v : AV} {pos : Pos} (hc : isGlob T fx x v = true) (R : Rep G ρ L fx.ln st s) (EO : EnvOk G ρ L fx cl env) (hq : Q v st) : wpAny (MM G) A (eval (.Name x pos) env) (Ret G ρ L fx.ln s Q) E s :=
  let ⟨h1, h2, h3⟩ := and2 hc
  n_glob W R EO (not1 h1) (beq_iff_eq.mp h2) (beq_iff_eq.mp h3) hq
theorem se_lit (W : TbOk G T) {v : AV} (hc : cLit T fx v e = true) : SE G T call n fx (.lit v) e := by
  intro ρ A L st s cl env Q E hA R EO hv
  skip
  rcases Bool.or_eq_true_iff.mp hc with hc | hc
  · obtain ⟨t, rfl, hc⟩ := seen_inv hc; exact lit_ok hc R hv
  · obtain ⟨t, rfl, hc⟩ := seen_inv hc; exact glob_ok W hc R EO hv
theorem se_loc {i : Nat} (hc : cLoc fx i e = true) : SE G T call n fx (.loc i) e := by
  intro ρ A L st s cl env Q E hA R EO hv
  obtain ⟨t, rfl, hc⟩ := seen_inv hc
  obtain ⟨h1, h2⟩ := and1 hc
  obtain ⟨h2, h3⟩ := and1 h2
  obtain ⟨v, hvv, hv⟩ := onVar_p hv
  exact n_loc R EO (not1 h1) (beq_iff_eq.mp h2) (beq_iff_eq.mp h3) hvv hv
theorem se_cel (hf : FxOk fx) {j : Nat} (hc : cCel fx j e = true) : SE G T call n fx (.cel j) e := by
  intro ρ A L st s cl env Q E hA R EO hv
  obtain ⟨t, rfl, hc⟩ := seen_inv hc
  obtain ⟨h1, h2, h3, h4⟩ := and3 hc
  obtain ⟨l, hl, hv⟩ := onAt_p hv
  obtain ⟨v, hσ, hv⟩ := onCell_p hv
  exact n_cel R EO hf (not1 h1) (not1 h2) ((Bool.or_eq_true_iff.mp h3).imp beq_iff_eq.mp beq_iff_eq.mp) (beq_iff_eq.mp h4) hl hσ hv
/-- two, one after the other -/
theorem both (hA : AOk A n) {x y : PySem.Expr} {P : Value → Value → Shared → Prop} (ha : SE G T call n fx a x) (hb : SE G T call n fx b y) (R : Rep G ρ L fx.ln st s) (EO : EnvOk G ρ L fx cl env) {K : AV → AV → St → Prop}
    (hv : ev T call cl a st fun p s₁ => ev T call cl b s₁ fun q s₂ => K p q s₂)
    (k : ∀ {v w : Value} {p q : AV} {ρ₂ : List Addr} {st₂ : St} {s₂ : Shared}, VR G ρ₂ p v → VR G ρ₂ q w → Rep G ρ₂ L fx.ln st₂ s₂ → Step G L ρ s ρ₂ s₂ → K p q st₂ → P v w s₂) :
    wpAny (MM G) A (eval x env) (fun v s₁ => wpAny (MM G) A (eval y env) (fun w s₂ => P v w s₂) E s₁) E s :=
  wpAny_mono (ha hA R EO hv) (fun v s₁ hh' => Ret.el hh' fun ρ₁ p st₁ hx R1 S1 q1 => wpAny_mono (hb hA R1 (EO.mono S1.pre) q1) (fun w s₂ hh' => Ret.el hh' fun ρ₂ q st₂ hy R2 S2 q2 => k (hx.mono S2.pre) hy R2 (S1.trans S2) q2) fun _ _ z => z) fun _ _ z => z
theorem se_bin {o : Bop} (ha : Snd G T call n fx a f) (hb : Snd G T call n fx b g) (hc : cBin f g o e = true) : SE G T call n fx (.bin o a b) e := by
  intro ρ A L st s cl env Q E hA R EO hv
  obtain ⟨⟨o', ⟨l, r⟩, p⟩, rfl, hc⟩ := seen_inv hc
  obtain ⟨h1, h2, h3⟩ := and2 hc
  cases beq_iff_eq.mp h1
  skip
  exact wpAny_BinOp (both hA (ha _ h2) (hb _ h3) R EO hv fun hx hy R2 S2 q2 => wret S2 (binV_ok R2 hx hy q2))
/-- what is told, as a bool -/
theorem told (hA : AOk A n) {o : Cop} {p q : AV} {v w : Value} {K : Bool → Prop} {P : Value → Shared → Prop} (R : Rep G ρ L ln st s) (hx : VR G ρ p v) (hy : VR G ρ q w) (h : onB (cmpV o p q st.σ) K)
    (k : ∀ {r : Bool} {ρ' : List Addr} {s' : Shared}, K r → Rep G ρ' L ln st s' → Step G L ρ s ρ' s' → P (.bool r) s') : wpAny (MM G) A (compareOp (copOf o) v w) P E s := by
  obtain ⟨r, e1, q3⟩ := onB_some h
  refine wpAny_mono (cmpV_ok (Q := fun a st' => a = .bool r ∧ st' = st) R (by have := hA.units; lia) hx hy e1 ⟨rfl, rfl⟩) (fun c s₃ ⟨ρ₃, a, st₃, ha, R3, S3, e2, e3⟩ => ?_) fun _ _ z => z
  subst e2; subst e3; cases ha
  exact k q3 R3 S3
theorem se_cmp {o : Cop} (ha : Snd G T call n fx a f) (hb : Snd G T call n fx b g) (hc : cCmp f g o e = true) : SE G T call n fx (.cmp o a b) e := by
  intro ρ A L st s cl env Q E hA R EO hv
  obtain ⟨⟨o', ⟨l, r⟩, p⟩, rfl, hc⟩ := seen_inv hc
  obtain ⟨h1, h2, h3, h4⟩ := and3 hc
  cases beq_iff_eq.mp h1
  skip
  exact wpAny_Compare1 (both hA (ha _ h3) (hb _ h4) R EO hv fun hx hy R2 S2 q2 => told hA R2 hx hy q2 fun q3 R3 S3 => ⟨_, _, _, .bool _, R3, S2.trans S3, q3⟩) (not1 h2)
theorem sb_cmp {o : Cop} (ha : Snd G T call n fx a f) (hb : Snd G T call n fx b g) (hc : cCmp f g o e = true) : SB G T call n fx (.cmp o a b) e := by
  intro ρ A L st s cl env Q E hA R EO hv
  obtain ⟨⟨o', ⟨l, r⟩, p⟩, rfl, hc⟩ := seen_inv hc
  obtain ⟨h1, h2, h3, h4⟩ := and3 hc
  cases beq_iff_eq.mp h1
  skip
  exact wpAny_isTrue_Compare1 (both hA (ha _ h3) (hb _ h4) R EO hv fun hx hy R2 S2 q2 => told hA R2 hx hy q2 fun q3 R3 S3 => wpAny_truthy_bool ⟨_, _, R3, S2.trans S3, q3⟩) (not1 h2)
theorem se_cmp2 {o o' : Cop} (ha : Snd G T call n fx a f) (hb : Snd G T call n fx b g) (hd : Snd G T call n fx c h) (hc : cCmp2 f g h o o' e = true) : SE G T call n fx (.cmp2 o o' a b c) e := by
  intro ρ A L st s cl env Q E hA R EO hv
  obtain ⟨⟨⟨p, p'⟩, ⟨l, ⟨r, r'⟩⟩, q⟩, rfl, hc⟩ := seen_inv hc
  obtain ⟨h1, h2, h3, h4⟩ := and3 hc
  obtain ⟨h4, h5, h6⟩ := and2 h4
  cases beq_iff_eq.mp h1; cases beq_iff_eq.mp h2
  skip
  refine Compare_chain (wpAny_mono (ha _ h4 hA R EO hv) (fun v s₁ hh' => Ret.el hh' fun ρ₁ x st₁ hx R1 S1 q1 => chain_link (wpAny_mono (hb _ h5 hA R1 (EO.mono S1.pre) q1) (fun w s₂ hh' => Ret.el hh' fun ρ₂ y st₂ hy R2 S2 q2 => ?_) fun _ _ z => z)) fun _ _ z => z) (not1 h3)
  refine told hA R2 (hx.mono S2.pre) hy q2 fun {t ρ₃ s₃} q3 R3 S3 => wpAny_truthy_bool ?_
  have S := (S1.trans S2).trans S3
  cases t with
  | false => exact ⟨ρ₃, _, _, .bool _, R3, S, q3⟩
  | true =>
    simp only [if_true] at q3 ⊢
    exact chain_last (wpAny_mono (hd _ h6 hA R3 (EO.mono S.pre) q3) (fun u s₄ hh' => Ret.el hh' fun ρ₄ z st₄ hz R4 S4 q4 => told hA R4 (hy.mono (S3.pre.trans S4.pre)) hz q4 fun q5 R5 S5 => ⟨_, _, _, .bool _, R5, (S.trans S4).trans S5, q5⟩) fun _ _ z => z)
theorem sb_cmp2 {o o' : Cop} (ha : Snd G T call n fx a f) (hb : Snd G T call n fx b g) (hd : Snd G T call n fx c h) (hc : cCmp2 f g h o o' e = true) : SB G T call n fx (.cmp2 o o' a b c) e := by
  intro ρ A L st s cl env Q E hA R EO hv
  obtain ⟨⟨⟨p, p'⟩, ⟨l, ⟨r, r'⟩⟩, q⟩, rfl, hc⟩ := seen_inv hc
  obtain ⟨h1, h2, h3, h4⟩ := and3 hc
  obtain ⟨h4, h5, h6⟩ := and2 h4
  cases beq_iff_eq.mp h1; cases beq_iff_eq.mp h2
  skip
  refine isTrue_chain (wpAny_mono (ha _ h4 hA R EO hv) (fun v s₁ hh' => Ret.el hh' fun ρ₁ x st₁ hx R1 S1 q1 => test_link (wpAny_mono (hb _ h5 hA R1 (EO.mono S1.pre) q1) (fun w s₂ hh' => Ret.el hh' fun ρ₂ y st₂ hy R2 S2 q2 => ?_) fun _ _ z => z)) fun _ _ z => z) (not1 h3)
  refine told hA R2 (hx.mono S2.pre) hy q2 fun {t ρ₃ s₃} q3 R3 S3 => wpAny_truthy_bool ?_
  have S := (S1.trans S2).trans S3
  cases t with
  | false => exact ⟨ρ₃, _, R3, S, q3⟩
  | true =>
    simp only [if_true] at q3 ⊢
    exact test_last (wpAny_mono (hd _ h6 hA R3 (EO.mono S.pre) q3) (fun u s₄ hh' => Ret.el hh' fun ρ₄ z st₄ hz R4 S4 q4 => told hA R4 (hy.mono (S3.pre.trans S4.pre)) hz q4 fun q5 R5 S5 => wpAny_truthy_bool ⟨_, _, R5, (S.trans S4).trans S5, q5⟩) fun _ _ z => z)
theorem se_and (ha : Snd G T call n fx a f) (hb : Snd G T call n fx b g) (hc : cBop f g .And e = true) : SE G T call n fx (.and a b) e := by
  intro ρ A L st s cl env Q E hA R EO hv
  obtain ⟨⟨o', ⟨l, r⟩, p⟩, rfl, hc⟩ := seen_inv hc
  obtain ⟨h1, h2, h3⟩ := and2 hc
  cases beq_iff_eq.mp h1
  skip
  refine BoolOp_and (wpAny_mono (ha _ h2 hA R EO hv) (fun v s₁ hh' => Ret.el hh' fun ρ₁ x st₁ hx R1 S1 q1 => ?_) fun _ _ z => z)
  obtain ⟨b, e1, q2⟩ := onB_some q1
  refine truthV_ok hx e1 ?_
  cases b with
  | false => exact ⟨ρ₁, _, _, hx, R1, S1, q2⟩
  | true => exact wret S1 (BoolOp_one (hb _ h3 hA R1 (EO.mono S1.pre) q2))
theorem se_or (ha : Snd G T call n fx a f) (hb : Snd G T call n fx b g) (hc : cBop f g .Or e = true) : SE G T call n fx (.or a b) e := by
  intro ρ A L st s cl env Q E hA R EO hv
  obtain ⟨⟨o', ⟨l, r⟩, p⟩, rfl, hc⟩ := seen_inv hc
  obtain ⟨h1, h2, h3⟩ := and2 hc
  cases beq_iff_eq.mp h1
  skip
  refine BoolOp_or (wpAny_mono (ha _ h2 hA R EO hv) (fun v s₁ hh' => Ret.el hh' fun ρ₁ x st₁ hx R1 S1 q1 => ?_) fun _ _ z => z)
  obtain ⟨b, e1, q2⟩ := onB_some q1
  refine truthV_ok hx e1 ?_
  cases b with
  | true => exact ⟨ρ₁, _, _, hx, R1, S1, q2⟩
  | false => exact wret S1 (BoolOp_one (hb _ h3 hA R1 (EO.mono S1.pre) q2))
theorem sb_and (ha : SndB G T call n fx a f) (hb : SndB G T call n fx b g) (hc : cBop f g .And e = true) : SB G T call n fx (.and a b) e := by
  intro ρ A L st s cl env Q E hA R EO hv
  obtain ⟨⟨o', ⟨l, r⟩, p⟩, rfl, hc⟩ := seen_inv hc
  obtain ⟨h1, h2, h3⟩ := and2 hc
  cases beq_iff_eq.mp h1
  skip
  refine wpAny_isTrue_BoolOp (wpAny_allTrue_And_cons (wpAny_mono (ha _ h2 hA R EO hv) (fun b s₁ hh' => RetU.el hh' fun ρ₁ st₁ R1 S1 q1 => ?_) fun _ _ z => z))
  cases b with
  | false => exact ⟨ρ₁, st₁, R1, S1, q1⟩
  | true =>
    refine wpAny_allTrue_And_cons (wpAny_mono (hb _ h3 hA R1 (EO.mono S1.pre) q1) (fun b s₂ hh' => RetU.el hh' fun ρ₂ st₂ R2 S2 q2 => ?_) fun _ _ z => z)
    cases b with
    | false => exact ⟨ρ₂, st₂, R2, S1.trans S2, q2⟩
    | true => exact wpAny_allTrue_And_nil ⟨ρ₂, st₂, R2, S1.trans S2, q2⟩
theorem sb_or (ha : SndB G T call n fx a f) (hb : SndB G T call n fx b g) (hc : cBop f g .Or e = true) : SB G T call n fx (.or a b) e := by
  intro ρ A L st s cl env Q E hA R EO hv
  obtain ⟨⟨o', ⟨l, r⟩, p⟩, rfl, hc⟩ := seen_inv hc
  obtain ⟨h1, h2, h3⟩ := and2 hc
  cases beq_iff_eq.mp h1
  skip
  refine wpAny_isTrue_BoolOp (wpAny_allTrue_Or_cons (wpAny_mono (ha _ h2 hA R EO hv) (fun b s₁ hh' => RetU.el hh' fun ρ₁ st₁ R1 S1 q1 => ?_) fun _ _ z => z))
  cases b with
  | true => exact ⟨ρ₁, st₁, R1, S1, q1⟩
  | false =>
    refine wpAny_allTrue_Or_cons (wpAny_mono (hb _ h3 hA R1 (EO.mono S1.pre) q1) (fun b s₂ hh' => RetU.el hh' fun ρ₂ st₂ R2 S2 q2 => ?_) fun _ _ z => z)
    cases b with
    | true => exact ⟨ρ₂, st₂, R2, S1.trans S2, q2⟩
    | false => exact wpAny_allTrue_Or_nil ⟨ρ₂, st₂, R2, S1.trans S2, q2⟩
theorem sb_not (ha : SndB G T call n fx a f) (hc : cNot f e = true) : SB G T call n fx (.not a) e := by
  intro ρ A L st s cl env Q E hA R EO hv
  obtain ⟨t, rfl, hc⟩ := seen_inv hc
  skip
  exact isTrue_not (wpAny_mono (ha _ hc hA R EO hv) (fun b s₁ hh' => RetU.el hh' fun ρ₁ st₁ R1 S1 q1 => ⟨ρ₁, st₁, R1, S1, q1⟩) fun _ _ z => z)
theorem se_ite (hc : SndB G T call n fx c h) (ha : Snd G T call n fx a f) (hb : Snd G T call n fx b g) (hx : cIte h f g e = true) : SE G T call n fx (.ite c a b) e := by
  intro ρ A L st s cl env Q E hA R EO hv
  obtain ⟨⟨⟨t, ⟨x, y⟩⟩, p⟩, rfl, hx⟩ := seen_inv hx
  obtain ⟨h1, h2, h3⟩ := and2 hx
  skip
  refine IfExp_ (wpAny_mono (hc _ h1 hA R EO hv) (fun b s₁ hh' => RetU.el hh' fun ρ₁ st₁ R1 S1 q1 => ?_) fun _ _ z => z)
  cases b with
  | true => exact wret S1 (ha _ h2 hA R1 (EO.mono S1.pre) q1)
  | false => exact wret S1 (hb _ h3 hA R1 (EO.mono S1.pre) q1)
theorem se_attr (W : TbOk G T) {k : Nat} (ha : Snd G T call n fx a f) (hc : cAttr T f k e = true) : SE G T call n fx (.attr a k) e := by
  intro ρ A L st s cl env Q E hA R EO hv
  obtain ⟨⟨o, x, p⟩, rfl, hc⟩ := seen_inv hc
  obtain ⟨h1, h2, h3⟩ := and2 hc
  cases nm_of W (beq_iff_eq.mp h2)
  skip
  rw [arm_eval_Attribute, ab_plain h1]
  refine wpAny_bind (wpAny_mono (ha _ h3 hA R EO hv) (fun v s₁ hh' => Ret.el hh' fun ρ₁ x st₁ hx R1 S1 q1 => wpAny_bind (wpAny_standAt (wpAny_bind (wpAny_holding ?_)))) fun _ _ z => z)
  obtain ⟨av, e1, q2, q3⟩ := onO_some q1
  refine wpAny_mono (attrV_ok W R1 hx e1 (nb_of q2) q3) (fun r s₂ hr => wpAny_bind (wpAny_letTemporaryGo (wpAny_pure (hr.after S1)))) fun _ _ z => z
theorem notSlice_ok {y : PySem.Expr} (h : notSlice y = true) : NotSl y := by
  cases y <;> first | trivial | cases h
theorem se_item (W : TbOk G T) (ha : Snd G T call n fx a f) (hb : Snd G T call n fx b g) (hc : cItem f g e = true) : SE G T call n fx (.item a b) e := by
  intro ρ A L st s cl env Q E hA R EO hv
  obtain ⟨⟨⟨x, y⟩, p⟩, rfl, hc⟩ := seen_inv hc
  obtain ⟨h1, h2, h3⟩ := and2 hc
  skip
  refine Subscript_ (both hA (ha _ h2) (hb _ h3) R EO hv fun hx hy R2 S2 q2 => ?_)
  obtain ⟨av, e1, q3⟩ := onO_some q2
  exact wret S2 (itemV_ok W R2 (notSlice_ok h1) hx hy e1 q3)
theorem se_sfrom (W : TbOk G T) (ha : Snd G T call n fx a f) (hb : Snd G T call n fx b g) (hc : cSfrom f g e = true) : SE G T call n fx (.sfrom a b) e := by
  intro ρ A L st s cl env Q E hA R EO hv
  obtain ⟨⟨⟨x, y⟩, q, p⟩, rfl, hc⟩ := seen_inv hc
  obtain ⟨h1, h2⟩ := and1 hc
  skip
  refine Subscript_ (wpAny_mono (ha _ h1 hA R EO hv) (fun v s₁ hh' => Ret.el hh' fun ρ₁ x st₁ hx R1 S1 q1 => ?_) fun _ _ z => z)
  refine wpAny_bind (m := eval _ _) (wpAny_mono (hb _ h2 hA R1 (EO.mono S1.pre) q1) (fun w s₂ hh' => Ret.el hh' fun ρ₂ y st₂ hy R2 S2 q2 => ?_) fun _ _ z => z)
  obtain ⟨vs, e1, q3⟩ := onO_some q2
  refine wpAny_bind (wpAny_holding (wpAny_pure (wpAny_bind (wpAny_holding (wpAny_pure ?_)))))
  exact wpAny_mono (sfrom_ok W R2 (hx.mono S2.pre) hy e1 q3) (fun sl s₃ h₃ => wpAny_mono h₃ (fun _ _ z => z.after (S1.trans S2)) fun _ _ z => z) fun _ _ z => z
theorem se_supto (W : TbOk G T) (ha : Snd G T call n fx a f) (hb : Snd G T call n fx b g) (hc : cSupto f g e = true) : SE G T call n fx (.supto a b) e := by
  intro ρ A L st s cl env Q E hA R EO hv
  obtain ⟨⟨⟨x, y⟩, q, p⟩, rfl, hc⟩ := seen_inv hc
  obtain ⟨h1, h2⟩ := and1 hc
  skip
  refine Subscript_ (wpAny_mono (ha _ h1 hA R EO hv) (fun v s₁ hh' => Ret.el hh' fun ρ₁ x st₁ hx R1 S1 q1 => ?_) fun _ _ z => z)
  refine wpAny_bind (m := pure Value.none) (wpAny_pure (wpAny_bind (wpAny_holding (m := eval _ _) (wpAny_mono (hb _ h2 hA R1 (EO.mono S1.pre) q1) (fun w s₂ hh' => Ret.el hh' fun ρ₂ y st₂ hy R2 S2 q2 => ?_) fun _ _ z => z))))
  obtain ⟨vs, e1, q3⟩ := onO_some q2
  refine wpAny_bind (wpAny_holding (wpAny_pure ?_))
  exact wpAny_mono (supto_ok W R2 (hx.mono S2.pre) hy e1 q3) (fun sl s₃ h₃ => wpAny_mono h₃ (fun _ _ z => z.after (S1.trans S2)) fun _ _ z => z) fun _ _ z => z
end
end Mine

set_option Elab.async false
set_option genSizeOf false
set_option genInjectivity false
set_option backward.match.sparseCases false
set_option bootstrap.genMatcherCode false
set_option tactic.hygienic false
set_option linter.unusedVariables false
set_option maxRecDepth 100000
namespace Mine
open PySem PySem.Calls PyProof.Rows PySem.W PySem.SeqAt
variable {G : Gl} {T : Tb} {call : CallT} {n : Nat} {fx : Fx} {ρ ρ₁ : List Addr} {A : Around} {L : Addr} {ln : List Str} {st : St} {s s₁ : Shared} {cl : List Nat} {env : Env} {Q : AV → St → Prop} {E : Value → Shared → Prop}
variable {a b c : CE} {f g h : PySem.Expr → Bool} {fs : List PySem.Expr → Bool} {e : PySem.Expr}

noncomputable def NS : List PySem.Expr → Prop
  | [] => True
  | e :: es => isStar e = false ∧ NS es
theorem RetVs.el {G : Gl} {ρ : List Addr} {L : Addr} {ln : List Str} {s : Shared} {Q : List AV → St → Prop} {v : List Value} {s' : Shared} {P : Prop} (h : RetVs G ρ L ln s Q v s') (k : ∀ ρ' av st', VRs G ρ' av v → Rep G ρ' L ln st' s' → Step G L ρ s ρ' s' → Q av st' → P) : P := let ⟨a, b, c, d, e, f, g⟩ := h; k a b c d e f g
theorem star1 {e : PySem.Expr} (h : isStar e = false) (es : List PySem.Expr) (env : Env) : starEach (e :: es) env = (false, eval e env) :: starEach es env := by
  cases e <;> first | rfl | cases h
theorem astar1 {e : PySem.Expr} (h : isStar e = false) (es : List PySem.Expr) (env : Env) : assignEach (e :: es) env = (false, assign e env) :: assignEach es env := by
  cases e <;> first | rfl | cases h
theorem star_of : ∀ {es : List PySem.Expr}, NS es → ∀ env, starEach es env = es.map fun e => (false, eval e env)
  | [], _, _ => rfl
  | e :: es, h, env => by rw [star1 h.1, star_of h.2]; rfl
theorem astar_of : ∀ {es : List PySem.Expr}, NS es → ∀ env, assignEach es env = es.map fun e => (false, assign e env)
  | [], _, _ => rfl
  | e :: es, h, env => by rw [astar1 h.1, astar_of h.2]; rfl
theorem back_of {pos : Pos} {es : List PySem.Expr} : backTo pos (es.map fun e => (false, eval e env)) = es.map fun e => (false, eval e env) := by
  unfold backTo
  rw [List.map_map]
  exact List.map_congr_left fun e _ => rfl

noncomputable abbrev SndL (G : Gl) (T : Tb) (call : CallT) (n : Nat) (fx : Fx) (c : CEs) (f : List PySem.Expr → Bool) : Prop := ∀ es, f es = true → NS es ∧ SVs G T call n fx c es
theorem two_inv {f : PySem.Expr → Bool} {g : List PySem.Expr → Bool} {es : List PySem.Expr} (h : two f g es = true) : ∃ x xs, es = x :: xs ∧ f x = true ∧ g xs = true := by
  cases es with
  | nil => cases h
  | cons x xs => exact ⟨x, xs, rfl, and1 h⟩
theorem sv_nil : SndL G T call n fx .nil List.isEmpty := by
  intro es he
  cases es with
  | cons _ _ => cases he
  | nil =>
    refine ⟨trivial, ?_⟩
    intro ρ A L st s cl env Q E hA R EO hv
    skip
    exact spliced_nil ⟨ρ, [], st, .nil, R, .rfl, hv⟩
theorem sv_cons {r : CEs} (ha : Snd G T call n fx a f) (hr : SndL G T call n fx r fs) : SndL G T call n fx (.cons a r) (two (fun e => !isStar e && f e) fs) := by
  intro es he
  obtain ⟨x, xs, rfl, h1, h2⟩ := two_inv he
  obtain ⟨h0, h1⟩ := and1 h1
  obtain ⟨h3, h4⟩ := hr _ h2
  refine ⟨⟨not1 h0, h3⟩, ?_⟩
  intro ρ A L st s cl env Q E hA R EO hv
  skip
  refine spliced_cons (wpAny_mono (ha _ h1 hA R EO hv) (fun v s₁ hh' => Ret.el hh' fun ρ₁ x st₁ hx R1 S1 q1 => ?_) fun _ _ z => z)
  exact wpAny_mono (h4 hA R1 (EO.mono S1.pre) q1) (fun vs s₂ hh' => RetVs.el hh' fun ρ₂ as st₂ hvs R2 S2 q2 => ⟨ρ₂, _, st₂, .cons (hx.mono S2.pre) hvs, R2, S1.trans S2, q2⟩) fun _ _ z => z
theorem se_lst {as : CEs} (ha : SndL G T call n fx as fs) (hc : cLst fs e = true) : SE G T call n fx (.lst as) e := by
  intro ρ A L st s cl env Q E hA R EO hv
  obtain ⟨⟨xs, p⟩, rfl, hc⟩ := seen_inv hc
  obtain ⟨h1, h2⟩ := ha _ hc
  skip
  rw [arm_eval_List, star_of h1, back_of]
  refine wpAny_bind (wpAny_standAt (wpAny_bind (wpAny_mono (h2 hA R EO hv) (fun vs s₁ ⟨ρ₁, as, st₁, hvs, R1, S1, q1, q2⟩ => ?_) fun _ _ z => z)))
  exact wret S1 (p_newList R1 hvs (by rw [sizeLine_eq]; lia) q2)
theorem se_tup {as : CEs} (ha : SndL G T call n fx as fs) (hc : cTup fs e = true) : SE G T call n fx (.tup as) e := by
  intro ρ A L st s cl env Q E hA R EO hv
  obtain ⟨⟨xs, k, p⟩, rfl, hc⟩ := seen_inv hc
  obtain ⟨h1, h2⟩ := ha _ hc
  skip
  rw [arm_eval_Tuple, star_of h1, back_of]
  refine wpAny_bind (wpAny_standAt (wpAny_bind (wpAny_mono (h2 hA R EO hv) (fun vs s₁ ⟨ρ₁, as, st₁, hvs, R1, S1, q1, q2⟩ => ?_) fun _ _ z => z)))
  exact wret S1 (p_newTuple R1 hvs (by rw [sizeLine_eq]; lia) q2)
theorem se_dict0 (hc : cDict0 e = true) : SE G T call n fx .dict0 e := by
  intro ρ A L st s cl env Q E hA R EO hv
  obtain ⟨p, rfl, hc⟩ := seen_inv hc
  skip
  exact dict0_ok R hv
theorem se_merge (W : TbOk G T) {i j : Nat} (hc : cMerge (cLoc fx i) (cLoc fx j) e = true) : SE G T call n fx (.merge i j) e := by
  intro ρ A L st s cl env Q E hA R EO hv
  obtain ⟨⟨⟨x, y⟩, p⟩, rfl, hc⟩ := seen_inv hc
  obtain ⟨h1, h2⟩ := and1 hc
  exact merge_ok W hA R EO (se_loc h1) (se_loc h2) hv
theorem se_call (H : CallOk G n call) {as : CEs} (ha : Snd G T call n fx a f) (hs : SndL G T call n fx as fs) (hc : cCall f fs e = true) : SE G T call n fx (.call a as) e := by
  intro ρ A L st s cl env Q E hA R EO hv
  obtain ⟨⟨g, xs, p⟩, rfl, hc⟩ := seen_inv hc
  obtain ⟨h1, h2, h3⟩ := and2 hc
  obtain ⟨h3, h4⟩ := hs _ h3
  skip
  rw [call_eval (not1 h1), star_of h3, back_of]
  refine wpAny_bind (wpAny_mono (ha _ h2 hA R EO hv) (fun v s₁ hh' => Ret.el hh' fun ρ₁ x st₁ hx R1 S1 h1 => ?_) fun _ _ z => z)
  exact wret S1 (callArgs H (fs := []) h4 hA R1 (EO.mono S1.pre) hx .nil h1)
theorem sb_call (H : CallOk G n call) {as : CEs} (ha : Snd G T call n fx a f) (hs : SndL G T call n fx as fs) (hc : cCall f fs e = true) : SB G T call n fx (.call a as) e := by
  intro ρ A L st s cl env Q E hA R EO hv
  have hp : ∃ t : PySem.Expr × List PySem.Expr × Pos, e = .Call t.1 t.2.1 [] t.2.2 := let ⟨t, h, _⟩ := seen_inv hc; ⟨t, h⟩
  obtain ⟨t, rfl⟩ := hp
  skip
  refine isTrue_plain (wpAny_mono (se_call (Q := fun v st' => onB (truthV v) fun b => Q b st') H ha hs hc hA R EO hv) (fun v s₁ hh' => Ret.el hh' fun ρ₁ x st₁ hx R1 S1 q1 => ?_) fun _ _ z => z)
  obtain ⟨b, e1, q2⟩ := onB_some q1
  exact truthV_ok hx e1 ⟨ρ₁, st₁, R1, S1, q2⟩
theorem se_meth (W : TbOk G T) (H : CallOk G n call) {k : Nat} {as : CEs} (ha : Snd G T call n fx a f) (hs : SndL G T call n fx as fs) (hc : cMeth T f fs k e = true) : SE G T call n fx (.meth a k as) e := by
  intro ρ A L st s cl env Q E hA R EO hv
  obtain ⟨⟨g, xs, q⟩, rfl, hc1⟩ := seen_inv hc
  obtain ⟨⟨o, x, p⟩, he, hc2⟩ := seen_inv hc1
  dsimp only at he hc2 ⊢
  subst he
  obtain ⟨h1, h2, h3, h4⟩ := and3 hc2
  obtain ⟨h4, h5, h6⟩ := and2 h4
  obtain ⟨h6, h7⟩ := hs _ h6
  cases nm_of W (beq_iff_eq.mp h4)
  have hz : xs.length < 29 := of_decide_eq_true h3
  have hl : (p.endLine == q.line) = true := h2
  skip
  rw [arm_eval_Call, ab_plain h1, star_of h6, back_of]
  refine wpAny_bind (wpAny_mono (ha _ h5 hA R EO hv) (fun v s₁ hh' => Ret.el hh' fun ρ₁ xv st₁ hx R1 S1 h1 => wpAny_bind (wpAny_standAt ?_)) fun _ _ z => z)
  obtain ⟨m, hm, h2, h3⟩ := onO_some h1
  have hform : methodCallForm (xs.length + ([] : List Keyword).length) (xs.map fun e => ((false, eval e env) : Bool × Sem Value)) (backToKw q (keywordEach [] env)) = true := by
    unfold methodCallForm
    simp only [List.all_map, Bool.and_eq_true]
    refine ⟨⟨by simp, rfl⟩, ?_⟩
    simp only [List.length_nil, Nat.add_zero]
    exact decide_eq_true (by show xs.length + 0 < 30; lia)
  have hpos : methodCallPos true o env p q = pure q := by unfold methodCallPos; simp [hl]
  unfold methodCall
  rw [hform]
  refine wpAny_bind (wpAny_holding (wpAny_mono (methV_ok (k := k) W R1 hx hm (fun nm => ?_)) (fun fp s₂ ⟨q1, q2, R2, S2⟩ => ?_) fun _ _ z => z))
  · rw [Bool.or_eq_true] at h2
    rcases h2 with h2 | h2
    · exact .inl (nb_of h2 nm)
    · refine .inr fun e => ?_
      rw [e] at h2; simp at h2
  · refine wpAny_bind (wpAny_of_eq hpos ?_)
    exact wret (S1.trans S2) (callArgs H h7 hA R2 (EO.mono (S1.pre.trans S2.pre)) q1 q2 h3)
theorem sb_meth (W : TbOk G T) (H : CallOk G n call) {k : Nat} {as : CEs} (ha : Snd G T call n fx a f) (hs : SndL G T call n fx as fs) (hc : cMeth T f fs k e = true) : SB G T call n fx (.meth a k as) e := by
  intro ρ A L st s cl env Q E hA R EO hv
  have hp : ∃ t : PySem.Expr × List PySem.Expr × Pos, e = .Call t.1 t.2.1 [] t.2.2 := let ⟨t, h, _⟩ := seen_inv hc; ⟨t, h⟩
  obtain ⟨t, rfl⟩ := hp
  skip
  refine isTrue_plain (wpAny_mono (se_meth (Q := fun v st' => onB (truthV v) fun b => Q b st') W H ha hs hc hA R EO hv) (fun v s₁ hh' => Ret.el hh' fun ρ₁ x st₁ hx R1 S1 q1 => ?_) fun _ _ z => z)
  obtain ⟨b, e1, q2⟩ := onB_some q1
  exact truthV_ok hx e1 ⟨ρ₁, st₁, R1, S1, q2⟩

/-! iterables -/
theorem range_at {h : Heap} {a c : Int} {n : Nat} (e : c = (n : Int)) : IsRangeIter (h.push { cls := .type "range_iterator", data := .fields #[rawInt a, rawInt c, rawInt 1] }) h.objs.size (a + ((0 : Nat) : Int)) ((n : Int) - ((0 : Nat) : Int)) 1 := by
  have e1 : a + ((0 : Nat) : Int) = a := by simp
  have e2 : (n : Int) - ((0 : Nat) : Int) = c := by rw [e]; simp
  rw [e1, e2]
  exact Heap.get?_push_size _ rfl
noncomputable abbrev SndI (G : Gl) (T : Tb) (call : CallT) (n : Nat) (fx : Fx) (c : CI) (f : PySem.Expr → Bool) : Prop := ∀ e, f e = true → SI G T call n fx c e
theorem one_inv {f : PySem.Expr → Bool} {es : List PySem.Expr} (h : two1 f es = true) : ∃ x, es = [x] ∧ f x = true := by
  match es, h with
  | [x], h => exact ⟨x, rfl, h⟩
theorem two2_inv {f g : PySem.Expr → Bool} {es : List PySem.Expr} (h : two2 f g es = true) : ∃ x y, es = [x, y] ∧ f x = true ∧ g y = true := by
  match es, h with
  | [x, y], h => exact ⟨x, y, rfl, and1 h⟩
theorem si_rng1 (W : TbOk G T) (ha : Snd G T call n fx a f) (hc : cRng1 T fx (fun e => !isStar e && f e) e = true) : SI G T call n fx (.rng1 a) e := by
  intro ρ A L st s cl env Q E hA R EO hv
  obtain ⟨⟨g, xs, q⟩, rfl, hc1⟩ := seen_inv hc
  obtain ⟨⟨x, p⟩, he, hc2⟩ := seen_inv hc1
  dsimp only at he hc2 ⊢
  subst he
  obtain ⟨h1, h2⟩ := and1 hc2
  obtain ⟨y, rfl, h2⟩ := one_inv h2
  obtain ⟨h2, h3⟩ := and1 h2
  skip
  refine wpAny_Call_NameR (wpAny_mono (glob_ok (Q := fun v st' => v = .typ "range" ∧ st' = st) W h1 R EO ⟨rfl, rfl⟩) (fun f s₁ ⟨ρ₁, x, st₁, hx, R1, S1, e1, e2⟩ => ?_) fun _ _ z => z)
  subst e1; subst e2; cases hx
  rw [show backTo q (starEach [y] env) = [(false, eval y env)] from by rw [star1 (not1 h2)]; rfl]
  refine PySem.callWith_type rfl (Calls.evalArgs_plain (Calls.spliced_cons (wpAny_mono (ha _ h3 hA R1 (EO.mono S1.pre) hv) (fun v s₂ hh' => Ret.el hh' fun ρ₂ x st₂ hx R2 S2 q2 => Calls.spliced_nil ?_) fun _ _ z => z)))
  obtain ⟨N, tN, rfl, rfl, hz0, hz, q2⟩ : ∃ N tN, x = .int N ∧ v = .int N tN ∧ 0 ≤ N ∧ N ≤ 4096 ∧ Q .imm (rangeV 0 N.toNat) st₂ := by
    obtain ⟨N, rfl, q2⟩ := onI_p q2
    obtain ⟨t, rfl⟩ := hx.int_
    exact ⟨_, _, rfl, rfl, q2.1.1, q2.1.2, q2.2⟩
  refine call_range_1 ?_
  obtain ⟨R3, S3⟩ := R2.grow (t := s₂.toks + 1 + 1) (h' := s₂.heap.push { cls := .type "range", data := .fields #[.int 0 s₂.toks, .int N tN, .int 1 (s₂.toks + 1)] }) fun b o e => Heap.get?_push_of_some _ e
  refine wpAny_pyIter_range (IsRange.new ..) (small_one (by decide) (by decide) (by lia) (by lia)) ?_
  exact (retI (t := s₂.toks + 1 + 1) R3 (WalkR.rng (a := 0) (n := N.toNat)) (range_at (by rw [rangeSize_one]; split <;> lia)) q2).after ((S1.trans S2).trans S3)
theorem si_rng2 (W : TbOk G T) (ha : Snd G T call n fx a f) (hb : Snd G T call n fx b g) (hc : cRng2 T fx (fun e => !isStar e && f e) (fun e => !isStar e && g e) e = true) : SI G T call n fx (.rng2 a b) e := by
  intro ρ A L st s cl env Q E hA R EO hv
  obtain ⟨⟨g, xs, q⟩, rfl, hc1⟩ := seen_inv hc
  obtain ⟨⟨x, p⟩, he, hc2⟩ := seen_inv hc1
  dsimp only at he hc2 ⊢
  subst he
  obtain ⟨h1, h2⟩ := and1 hc2
  obtain ⟨y, z, rfl, h2, h4⟩ := two2_inv h2
  obtain ⟨h2, h3⟩ := and1 h2
  obtain ⟨h4, h5⟩ := and1 h4
  skip
  refine wpAny_Call_NameR (wpAny_mono (glob_ok (Q := fun v st' => v = .typ "range" ∧ st' = st) W h1 R EO ⟨rfl, rfl⟩) (fun f s₁ ⟨ρ₁, x, st₁, hx, R1, S1, e1, e2⟩ => ?_) fun _ _ z => z)
  subst e1; subst e2; cases hx
  rw [show backTo q (starEach [y, z] env) = [(false, eval y env), (false, eval z env)] from by rw [star1 (not1 h2), star1 (not1 h4)]; rfl]
  refine PySem.callWith_type rfl (Calls.evalArgs_plain (Calls.spliced_cons (wpAny_mono (ha _ h3 hA R1 (EO.mono S1.pre) hv) (fun v s₂ hh' => Ret.el hh' fun ρ₂ x st₂ hx R2 S2 q2 => Calls.spliced_cons (wpAny_mono (hb _ h5 hA R2 (EO.mono (S1.pre.trans S2.pre)) q2) (fun v' s₃ hh' => Ret.el hh' fun ρ₃ y st₃ hy R3 S3 q3 => Calls.spliced_nil ?_) fun _ _ z => z)) fun _ _ z => z)))
  obtain ⟨M, tM, N, tN, rfl, rfl, rfl, rfl, hz0, hz1, hz2, hz, q3⟩ : ∃ M tM N tN, x = .int M ∧ v = .int M tM ∧ y = .int N ∧ v' = .int N tN ∧ 0 ≤ M ∧ M ≤ 4096 ∧ 0 ≤ N ∧ N ≤ 4096 ∧ Q .imm (rangeV M (N - M).toNat) st₃ := by
    obtain ⟨M, rfl, k⟩ := onI_p q3
    obtain ⟨N, rfl, k2⟩ := onI_p k
    obtain ⟨t, rfl⟩ := hx.int_
    obtain ⟨u, rfl⟩ := hy.int_
    exact ⟨_, _, _, _, rfl, rfl, rfl, rfl, k2.1.1, k2.1.2.1, k2.1.2.2.1, k2.1.2.2.2, k2.2⟩
  refine call_range_2 ?_
  obtain ⟨R4, S4⟩ := R3.grow (t := s₃.toks + 1) (h' := s₃.heap.push { cls := .type "range", data := .fields #[.int M tM, .int N tN, .int 1 s₃.toks] }) fun b o e => Heap.get?_push_of_some _ e
  refine wpAny_pyIter_range (IsRange.new ..) (small_one (by lia) (by lia) (by lia) (by lia)) ?_
  exact (retI (t := s₃.toks + 1) R4 (WalkR.rng (a := M) (n := (N - M).toNat)) (range_at (by rw [rangeSize_one]; split <;> lia)) q3).after (((S1.trans S2).trans S3).trans S4)
theorem si_of (ha : Snd G T call n fx a f) (hc : f e = true) : SI G T call n fx (.of a) e := by
  intro ρ A L st s cl env Q E hA R EO hv
  skip
  refine wpAny_mono (ha _ hc hA R EO hv) (fun v s₁ hh' => Ret.el hh' fun ρ₁ x st₁ hx R1 S1 q1 => ?_) fun _ _ z => z
  obtain ⟨p, e1, q2⟩ := onO_some q1
  exact wpAny_mono (itV_ok R1 hx e1 q2) (fun it s₂ h₂ => h₂.after S1) fun _ _ z => z

/-! targets -/
noncomputable abbrev SndT (G : Gl) (T : Tb) (call : CallT) (n : Nat) (fx : Fx) (c : CT) (f : PySem.Expr → Bool) : Prop := ∀ e, f e = true → ST G T call n fx c e
noncomputable abbrev SndTs (G : Gl) (T : Tb) (call : CallT) (n : Nat) (fx : Fx) (c : CTs) (f : List PySem.Expr → Bool) : Prop := ∀ es, f es = true → (NS es ∧ es.length = c.len) ∧ STs G T call n fx c es
theorem assign_Attr {o : PySem.Expr} {x : Str} {p : Pos} {v : Value} {Q : Unit → Shared → Prop} (h : wpAny (MM G) A (eval o env) (fun ov s₁ => wpAny (MM G) A (setAttr ov x v) Q E s₁) E s) : wpAny (MM G) A (assign (.Attribute o x p) env v) Q E s := by
  show wpAny _ _ (do let ov ← holding [v] (eval o env); standAt p.atName; holding [v, ov] (setAttr ov x v); release [v, ov] []) _ _ _
  exact wpAny_bind (wpAny_holding (wpAny_mono h (fun ov s₁ h₁ => wpAny_bind (wpAny_standAt (wpAny_bind (wpAny_holding (wpAny_mono h₁ (fun _ s₂ h₂ => wpAny_release h₂) fun _ _ z => z))))) fun _ _ z => z))
set_option backward.match.sparseCases true in
theorem assign_Sub {o i : PySem.Expr} {p : Pos} {v : Value} {Q : Unit → Shared → Prop} (h : wpAny (MM G) A (eval o env) (fun ov s₁ => wpAny (MM G) A (eval i env) (fun iv s₂ => wpAny (MM G) A (setItem ov iv v) Q E s₂) E s₁) E s) : wpAny (MM G) A (assign (.Subscript o i p) env v) Q E s := by
  show wpAny _ _ (do let ov ← holding [v] (eval o env); let iv ← holding [v, ov] (eval i env); standAt p; holding [v, ov, iv] (setItem ov iv v); release (match (generalizing := false) i with | .Slice _ _ none _ => [iv, v, ov] | _ => [v, ov, iv]) []) _ _ _
  exact wpAny_bind (wpAny_holding (wpAny_mono h (fun ov s₁ h₁ => wpAny_bind (wpAny_holding (wpAny_mono h₁ (fun iv s₂ h₂ => wpAny_bind (wpAny_standAt (wpAny_bind (wpAny_holding (wpAny_mono h₂ (fun _ s₃ h₃ => wpAny_release h₃) fun _ _ z => z))))) fun _ _ z => z))) fun _ _ z => z))
theorem st_loc (hf : FxOk fx) {i : Nat} (hc : tLoc fx i e = true) : ST G T call n fx (.loc i) e := by
  intro ρ A L st s cl env x v Q E hA R EO hx hv
  obtain ⟨t, rfl, hc⟩ := seen_inv hc
  obtain ⟨h1, h2⟩ := and1 hc
  skip
  exact wpAny_assign_Name (s_loc R EO hf (beq_iff_eq.mp h1) (beq_iff_eq.mp h2) hx hv.1 hv.2)
theorem st_cel (hf : FxOk fx) {j : Nat} (hc : tCel fx j e = true) : ST G T call n fx (.cel j) e := by
  intro ρ A L st s cl env x v Q E hA R EO hx hv
  obtain ⟨t, rfl, hc⟩ := seen_inv hc
  obtain ⟨h1, h2⟩ := and1 hc
  obtain ⟨l, hl, hv⟩ := onAt_p hv
  obtain ⟨o, hc, hv⟩ := onSlot_p hv
  exact wpAny_assign_Name (s_cel R EO hf (beq_iff_eq.mp h1) (beq_iff_eq.mp h2) hl hc hx hv)
theorem st_attr (W : TbOk G T) {k : Nat} (ha : Snd G T call n fx a f) (hc : tAttr T f k e = true) : ST G T call n fx (.attr a k) e := by
  intro ρ A L st s cl env x v Q E hA R EO hx hv
  obtain ⟨⟨o, y, p⟩, rfl, hc⟩ := seen_inv hc
  obtain ⟨h1, h2⟩ := and1 hc
  cases nm_of W (beq_iff_eq.mp h1)
  skip
  refine assign_Attr (wpAny_mono (ha _ h2 hA R EO hv) (fun ov s₁ hh' => Ret.el hh' fun ρ₁ o st₁ ho R1 S1 q1 => ?_) fun _ _ z => z)
  obtain ⟨σ', e1, q2⟩ := onO_some q1
  exact wretU S1 (setV_ok W R1 ho (hx.mono S1.pre) e1 q2)
theorem st_item (ha : Snd G T call n fx a f) (hb : Snd G T call n fx b g) (hc : cItem f g e = true) : ST G T call n fx (.item a b) e := by
  intro ρ A L st s cl env x v Q E hA R EO hx hv
  obtain ⟨⟨⟨x, y⟩, p⟩, rfl, hc⟩ := seen_inv hc
  obtain ⟨h1, h2, h3⟩ := and2 hc
  skip
  refine assign_Sub (both hA (ha _ h2) (hb _ h3) R EO hv fun ho hi R2 S2 q2 => ?_)
  obtain ⟨σ', e1, q3⟩ := onO_some q2
  exact wretU S2 (setItemV_ok R2 ho hi (hx.mono S2.pre) e1 q3)
theorem st_sfrom (W : TbOk G T) (ha : Snd G T call n fx a f) (hb : Snd G T call n fx b g) (hc : cSfrom f g e = true) : ST G T call n fx (.sfrom a b) e := by
  intro ρ A L st s cl env x v Q E hA R EO hx hv
  obtain ⟨⟨⟨x, y⟩, q, p⟩, rfl, hc⟩ := seen_inv hc
  obtain ⟨h1, h2⟩ := and1 hc
  skip
  refine assign_Sub (wpAny_mono (ha _ h1 hA R EO hv) (fun ov s₁ hh' => Ret.el hh' fun ρ₁ o st₁ ho R1 S1 q1 => ?_) fun _ _ z => z)
  refine wpAny_bind (m := eval _ _) (wpAny_mono (hb _ h2 hA R1 (EO.mono S1.pre) q1) (fun iv s₂ hh' => Ret.el hh' fun ρ₂ i st₂ hi R2 S2 q2 => ?_) fun _ _ z => z)
  obtain ⟨σ', e1, q3⟩ := onO_some q2
  refine wpAny_bind (wpAny_holding (wpAny_pure (wpAny_bind (wpAny_holding (wpAny_pure ?_)))))
  exact wpAny_mono (cut_ok (y := y) (p := p) W R2 (ho.mono S2.pre) hi (hx.mono (S1.pre.trans S2.pre)) e1 q3) (fun sl s₃ h₃ => wpAny_mono h₃ (fun _ _ z => z.after (S1.trans S2)) fun _ _ z => z) fun _ _ z => z
theorem st_tup {ts : CTs} (ha : SndTs G T call n fx ts fs) (hc : cTup fs e = true) : ST G T call n fx (.tup ts) e := by
  intro ρ A L st s cl env x v Q E hA R EO hx hv
  obtain ⟨⟨xs, k, p⟩, rfl, hc⟩ := seen_inv hc
  obtain ⟨⟨h1, hl2⟩, h2⟩ := ha _ hc
  obtain ⟨l, ql, hv⟩ := onLo_p hv
  obtain ⟨xs', h3, hlen, hv⟩ := onTup_p hv
  rw [ql] at hx
  obtain ⟨a, vs, m, qa, e, g1, g2⟩ := R.tup h3 hx
  rw [qa]
  have hx2 := astar_of h1 env
  refine wpAny_assign_Tuple hA.hh ⟨_, g1, rfl, _, rfl⟩ (by rw [hx2]; simp [g2.length, hl2, hlen]) (by rw [hx2, List.findIdx?_map]; simp) fun h' he => ?_
  obtain ⟨m', hns, hm⟩ := R.frame
  have hk : ∀ b o, s.heap.get? b = some o → h'.get? b = some o := fun b o eb => he b o (Nat.ne_of_lt (Heap.lt_size eb)) eb
  obtain ⟨R1, S1⟩ := R.grow (t := s.toks) hk
  rw [hx2, List.map_map]
  exact wretU S1 (h2 hA R1 (EO.mono S1.pre) (by simpa using g2.mono S1.pre) hv)
theorem sts_nil : SndTs G T call n fx .nil List.isEmpty := by
  intro es he
  cases es with
  | cons _ _ => cases he
  | nil =>
    refine ⟨⟨trivial, rfl⟩, ?_⟩
    intro ρ A L st s cl env xs vs Q E hA R EO hx hv
    obtain ⟨_, q, hv⟩ := onV_p hv
    rw [q] at hx; rw [hx.nil_]
    exact wpAny_pure ⟨ρ, st, R, .rfl, hv⟩
theorem sts_cons {t : CT} {r : CTs} (ha : SndT G T call n fx t f) (hr : SndTs G T call n fx r fs) : SndTs G T call n fx (.cons t r) (two (fun e => !isStar e && f e) fs) := by
  intro es he
  obtain ⟨x, xs, rfl, h1, h2⟩ := two_inv he
  obtain ⟨h0, h1⟩ := and1 h1
  obtain ⟨⟨h3, h5⟩, h4⟩ := hr _ h2
  refine ⟨⟨⟨not1 h0, h3⟩, by simp [CTs.len, h5]⟩, ?_⟩
  intro ρ A L st s cl env xs vs Q E hA R EO hx hv
  obtain ⟨p, q, hv⟩ := onV_p hv
  rw [q] at hx
  obtain ⟨v, ws, q, g1, g2⟩ := hx.cons_
  rw [q]
  · refine wpAny_bind (wpAny_holding (wpAny_mono (ha _ h1 hA R EO g1 hv) (fun _ s₁ hh' => RetU.el hh' fun ρ₁ st₁ R1 S1 q1 => ?_) fun _ _ z => z))
    exact wretU S1 (h4 hA R1 (EO.mono S1.pre) (g2.mono S1.pre) q1)

/-! tests and clauses of a comprehension -/
noncomputable abbrev SndIf (G : Gl) (T : Tb) (call : CallT) (n : Nat) (fx : Fx) (c : CEs) (f : List PySem.Expr → Bool) : Prop := ∀ es, f es = true → SIfs G T call n fx c es
theorem sif_nil : SndIf G T call n fx .nil List.isEmpty := by
  intro es he
  cases es with
  | cons _ _ => cases he
  | nil =>
    intro ρ A L st s cl env Q E hA R EO hv
    skip
    exact wpAny_tests_nil ⟨ρ, st, R, .rfl, hv⟩
theorem sif_one (ha : SndB G T call n fx a f) : SndIf G T call n fx (.cons a .nil) (two f List.isEmpty) := by
  intro es he
  obtain ⟨x, xs, rfl, h1, h2⟩ := two_inv he
  cases xs with
  | cons _ _ => cases h2
  | nil =>
    intro ρ A L st s cl env Q E hA R EO hv
    skip
    exact wpAny_tests_one (ha _ h1 hA R EO hv)
noncomputable abbrev SndC (G : Gl) (T : Tb) (call : CallT) (n : Nat) (fx : Fx) (r : CLs) (f : PySem.Expr → List Comprehension → Bool) : Prop := ∀ e (gens rest : List Comprehension) scope pos d, gens.drop (d + 1) = rest → f e rest = true → SC G T call n fx r e gens scope pos d
theorem sc_e (ha : Snd G T call n fx a f) : SndC G T call n fx (.elt a) (fun e gens => gens.isEmpty && f e) := by
  intro e gens rest scope pos d hd h ρ A L st s cl env D a Q E hA R EO hD hv
  obtain ⟨h1, h2⟩ := and1 h
  cases rest with
  | cons _ _ => cases h1
  | nil =>
    refine sc_elt ?_ (ha _ h2) hA R EO hD hv
    have := List.getElem?_drop (xs := gens) (i := d + 1) (j := 0)
    rw [hd] at this; simpa using this.symm
theorem sc_c {t : CT} {it : CI} {ifs : CEs} {r : CLs} {ft fi : PySem.Expr → Bool} {ff : List PySem.Expr → Bool} {fc : PySem.Expr → List Comprehension → Bool} (ht : SndT G T call n fx t ft) (hi : SndI G T call n fx it fi) (hI : SndIf G T call n fx ifs ff) (hC : SndC G T call n fx r fc) :
    SndC G T call n fx (.cons t it ifs r) (fun e gens => hClause ft fi ff (fc e) gens) := by
  intro e gens rest scope pos d hd h ρ A L st s cl env D a Q E hA R EO hD hv
  cases rest with
  | nil => cases h
  | cons c gens' =>
    obtain ⟨tx, ix, ifx, k⟩ := c
    dsimp only [hClause] at h
    obtain ⟨h1, h2, h3, h4⟩ := and3 h
    obtain ⟨h4, h5, h6⟩ := and2 h4
    cases of_decide_eq_true h1
    have hg : gens[d + 1]? = some ⟨tx, ix, ifx, 0⟩ := by
      have := List.getElem?_drop (xs := gens) (i := d + 1) (j := 0)
      rw [hd] at this; simpa using this.symm
    have hd' : gens.drop (d + 1 + 1) = gens' := by
      have := List.drop_drop (l := gens) (i := 1) (j := d + 1)
      rw [hd] at this; simpa [Nat.add_comm] using this.symm
    exact sc_cons hg (fun env x => fs_plain h2 env x) (hi _ h3) (ht _ h4) (hI _ h5) (hC _ _ _ scope pos _ hd' h6) hA R EO hD hv
theorem se_comp {up : List Nat} {own nl : Nat} {t : CT} {it : CI} {ifs : CEs} {r : CLs} {fi : PySem.Expr → Bool} {ft : Fx → PySem.Expr → Bool} {ff : Fx → List PySem.Expr → Bool} {fc : Fx → PySem.Expr → List Comprehension → Bool} (hf : FxOk fx)
    (hi : SndI G T call n fx it fi) (ht : ∀ fx, FxOk fx → SndT G T call n fx t (ft fx)) (hI : ∀ fx, FxOk fx → SndIf G T call n fx ifs (ff fx)) (hC : ∀ fx, FxOk fx → SndC G T call n fx r (fc fx)) (hc : cComp fx up own nl (fun e => notSet e && fi e) ft ff fc e = true) : SE G T call n fx (.comp up own nl t it ifs r) e := by
  intro ρ A L st s cl env Q E hA R EO hv
  obtain ⟨⟨elt, tx, ix, ifx, gens, scope, pos⟩, rfl, hc⟩ := seen_inv hc
  obtain ⟨h1, h2, h3, h4⟩ := and3 hc
  obtain ⟨h2, h5⟩ := and1 h2
  obtain ⟨h4, h6⟩ := and1 h4
  dsimp only at h1 h2 h3 h4 h5 h6
  unfold okComp at h1
  simp only [Bool.and_eq_true, beq_iff_eq, List.all_eq_true, Bool.or_eq_true, bne_iff_ne, ne_eq, okFx, decide_eq_true_eq] at h1
  obtain ⟨⟨⟨⟨⟨⟨g1, g2⟩, g3⟩, g4⟩, g5⟩, g6⟩, g7⟩ := h1
  have hf' : FxOk (compFx fx scope) := ⟨g7.1, g7.2⟩
  show wpAny _ _ (comprehension (.ListComp _ (⟨tx, ix, ifx, 0⟩ :: gens) scope pos) scope env ix.pos (newList []) false (eval ix env)) _ _ _
  refine comp_core (use := none) (Q := Q) hf hf' g1 (fun x hx hl => (g2 x hx).resolve_left fun q => q hl) g3 g4 g5 (fun x hx => g6 x hx) (fun env x => fs_plain h2 env x) (hi _ h5) (ht _ hf' _ h3) (hI _ hf' _ h4) (hC _ hf' _ _ _ _ _ _ rfl h6) hA R EO hv ?_
  intro ρ' st' s' C D a R' S' hD c1 c2 c3 c4 c5 ⟨m, hm⟩ hq
  refine ⟨m, hm, fun h' hs => ?_⟩
  obtain ⟨oC, es, ep, hoC, hdC, _⟩ := hm
  have hk : ∀ b o, b ≠ C → s'.heap.get? b = some o → h'.get? b = some o := fun b o hb e => (hs.2 b hb).trans e
  have R'' := R'.foreign (t := s'.toks) c1 c2 c3 c4 hk (fun o vs q u e1 e2 => by rw [hoC] at e1; cases e1; rw [hdC] at e2; cases e2)
  refine ⟨ρ', .loc D, st', .loc hD, R'', ?_, hq⟩
  have hne : ∀ b o, s.heap.get? b = some o → b ≠ C := fun b o e q => by rw [q, c5] at e; cases e
  exact ⟨S'.pre, fun b o e x1 x2 x3 => hk b o (hne b o e) (S'.keep b o e x1 x2 x3), fun b o e => let ⟨o', e'⟩ := S'.live b o e; ⟨o', hk b o' (hne b o e) e'⟩, S'.new, S'.os⟩
end Mine

set_option Elab.async false
set_option genSizeOf false
set_option genInjectivity false
set_option backward.match.sparseCases false
set_option bootstrap.genMatcherCode false
set_option tactic.hygienic false
set_option linter.unusedVariables false
set_option maxRecDepth 100000
namespace Mine
open PySem PySem.Calls PyProof.Rows PySem.W PySem.SeqAt
variable {G : Gl} {T : Tb} {call : CallT} {n : Nat} {fx : Fx} {ρ ρ₁ : List Addr} {A : Around} {L : Addr} {ln : List Str} {st : St} {s s₁ : Shared} {cl : List Nat} {env : Env} {Q : AV → St → Prop} {E : Value → Shared → Prop}
/-- the table of code objects has grown -/
theorem Rep.tabs (R : Rep G ρ L ln st s) {h' : Heap} {t : Nat} (hx : Heap.ExtBut G.P s.heap h') (ht : TabR G h') : Rep G ρ L ln st { s with heap := h', toks := t } ∧ Step G L ρ s ρ { s with heap := h', toks := t } := by
  obtain ⟨ps, p1, p2, _⟩ := R.tab
  have hcode : ∀ c q, s.heap.CodeRec c q → h'.CodeRec c q := fun c q ⟨a, o, vs, u, e1, e2, e3, e4⟩ => by
    by_cases z : a = G.P
    · subst z; rw [p1] at e2; cases e2; cases e3
      rw [← Array.getElem?_toList] at e4
      exact absurd e4 (triples_no_str p2 q u)
    · exact ⟨a, o, vs, u, e1, hx a o z e2, e3, e4⟩
  have hP : ∀ a ∈ ρ, a ≠ G.P := fun a ha => (R.own a ha).2.2.1
  refine ⟨⟨R.len, R.nod, fun l ao b e1 e2 => ?_, fun b hb => ?_, fun b o e => hx b o (fun q => by rw [q, R.tabL.2] at e; cases e) (R.base b o e), R.low, ht, R.tabL, ?_, R.gens⟩, ⟨.rfl, fun b o e _ _ hb => hx b o hb e, fun b o e => ?_, fun _ h => .inl h, rfl⟩⟩
  · refine (R.obj l ao b e1 e2).at ?_ hcode
    obtain ⟨_, _, h3, o, e⟩ := R.own b (Rep.mem e2)
    rw [e, hx b o h3 e]
  · obtain ⟨h1, h2, h3, o, e⟩ := R.own b hb; exact ⟨h1, h2, h3, o, hx b o h3 e⟩
  · obtain ⟨m, ⟨oL, es, ep, h1, h2⟩, h3⟩ := R.frame
    exact ⟨m, ⟨oL, es, ep, hx _ _ R.tabL.1.symm h1, h2⟩, h3⟩
  · by_cases z : b = G.P
    · subst z; obtain ⟨ps', q1, _⟩ := ht; exact ⟨_, q1⟩
    · exact ⟨o, hx b o z e⟩
set_option tactic.hygienic true in
theorem among_snoc {pos pos' : Pos} {c : Value} {l : List Value} (h : TriplesOk l) {v : Value} (e : codeAmong pos' (l ++ [rawInt pos.line, rawInt pos.col, c]) = some v) : codeAmong pos' l = some v ∨ v = c := by
  fun_induction TriplesOk l with
  | case1 =>
    simp only [List.nil_append, rawInt, codeAmong] at e
    split at e
    · right; cases e; rfl
    · cases e
  | case2 a t b u x rest ih =>
    simp only [List.cons_append, codeAmong] at e ⊢
    split at e
    · rename_i hh; left; rw [if_pos hh]; exact e
    · rename_i hh; rw [if_neg hh]; exact ih h e
  | case3 l h1 h2 => exact h.elim
theorem lam_ok (W : TbOk G T) (R : Rep G ρ L fx.ln st s) (EO : EnvOk G ρ L fx cl env) (hf : FxOk fx) (hl : fx.lam = true) {i : Nat} {cs : List Nat} {params : Arguments} {body : PySem.Expr} {scope : Scope} {pos : Pos}
    (hcs : cs.map (fx.cn[·]?) = (freeNames scope.names).reverse.map some) (hi : G.lamOk i ⟨params, body, scope, (freeNames scope.names).reverse⟩) (hq : Q (.loc st.σ.length) ⟨st.vars, st.σ ++ [.lam i (cs.map (cl.getD · 0)) none]⟩) :
    wpAny (MM G) A (makeFunction "<lambda>" (env.qual ++ "<lambda>") params (.expr body) scope env [] [] [] pos pos.line) (Ret G ρ L fx.ln s Q) E s := by
  obtain ⟨⟨c, hc, CH⟩, hlq⟩ := EO.lam hl
  obtain ⟨u1, u2⟩ := up_ok EO hf hcs
  have hclo := closureFor_ok (env := env) (scope := scope) fun x hx => u1 x (List.mem_reverse.mpr hx)
  obtain ⟨p, loose, mean, mg, mb, Tp⟩ := W.gl.low
  obtain ⟨ps, p1, p2, p3⟩ := R.tab
  have hgs := Tp.g.keeps R.base
  obtain ⟨bm, ob, b1, b2, b3, b4, b5, b6⟩ := Tp.bmain
  have hne : ∀ b o, G.h₀.get? b = some o → b ≠ G.P := fun b o e q => by rw [q, R.tabL.2] at e; cases e
  have hgP : mainGlobals ≠ G.P := by obtain ⟨o, es, ep, e, hd, _⟩ := Tp.g; exact hne _ _ e
  have hbG : bm ≠ mainGlobals := fun q => by
    obtain ⟨o, es, ep, e, hd, _⟩ := Tp.g
    rw [q, e] at b3; cases b3; rw [hd] at b6; cases b6
  have BA : s.heap.BuiltinsAt mg G.P := ⟨bm, ob, b1, b2, hbG, hne _ _ b3, R.base _ _ b3, b4, b5, b6⟩
  rw [hlq]
  have fin : ∀ (h' : Heap) (tk : Tok) (c' : Addr) (ctv : Value), Rep G ρ L fx.ln st { s with heap := h', toks := tk } → Step G L ρ s ρ { s with heap := h', toks := tk } → h'.CodeRec (.ref c') G.lq →
      Ret G ρ L fx.ln s Q (.ref h'.objs.size) { s with heap := h'.push (kla_obj "<lambda>" G.lq params body scope ((freeNames scope.names).reverse.zip ((freeNames scope.names).reverse.map fun n => (env.cells.lookup n).getD 0)) ((mg "__name__").getD .none) c' ctv), toks := tk } := by
    intro h' tk c' ctv R1 S1 hrec
    refine .after S1 (ret_push (ao := .lam i (cs.map (cl.getD · 0)) none) R1 rfl (.lam hi ((Pre.snoc _ _).gets u2) (Heap.get?_push_size _ rfl) (hrec.push _)) hq)
  cases hf : codeAmong pos ps.toList with
  | none =>
    refine kla_makeFunction hclo EO.glob hgs hc (CH.keeps R.base) p1 p2 hf hgP BA fun c' ctv h' tk hx hge hlt hrec htb => ?_
    have htr : TabR G h' := by
      refine ⟨_, htb, by have := TriplesOk_snoc pos.line pos.col (.ref c') ps.toList p2; simpa using this, fun pos' v e => ?_⟩
      have e' : codeAmong pos' (ps.toList ++ [rawInt pos.line, rawInt pos.col, .ref c']) = some v := by simpa using e
      rcases among_snoc p2 e' with e' | rfl
      · obtain ⟨c₂, rfl, a, o, vs, u, q1, q2, q3, q4⟩ := p3 pos' v e'
        cases q1
        refine ⟨c₂, rfl, c₂, o, vs, u, rfl, hx _ _ (fun z => ?_) q2, q3, q4⟩
        subst z; rw [p1] at q2; cases q2; cases q3
        rw [← Array.getElem?_toList] at q4
        exact triples_no_str p2 _ u q4
      · exact ⟨c', rfl, hrec⟩
    obtain ⟨R1, S1⟩ := R.tabs (t := tk) hx htr
    exact fin h' tk c' ctv R1 S1 hrec
  | some cv =>
    obtain ⟨c', rfl, hrec⟩ := p3 pos cv hf
    refine kla_makeFunctionHit hclo EO.glob hgs hc (CH.keeps R.base) p1 p2 hf BA fun ctv h' tk hk hsz => ?_
    obtain ⟨R1, S1⟩ := R.grow (t := tk) hk
    exact fin h' tk c' ctv R1 S1 (hrec.keeps hk)
theorem se_lam (W : TbOk G T) (hf : FxOk fx) {i : Nat} {cs : List Nat} {e : PySem.Expr} (h : cLam T fx i cs e = true) : SE G T call n fx (.lam i cs) e := by
  intro ρ A L st s cl env Q E hA R EO hv
  obtain ⟨⟨⟨a, b⟩, sc, p⟩, rfl, hh⟩ := seen_inv h
  obtain ⟨h1, h2, h3, h4⟩ := and3 hh
  skip
  dsimp only at h2 h3 h4
  obtain ⟨d1, d2⟩ := and1 h2
  refine kla_eval ?_ (lam_ok W R EO hf h1 (beq_iff_eq.mp h3) (W.lam _ _ h4) hv)
  obtain ⟨a1, a2, a3, a4, a5, a6, a7⟩ := a
  dsimp only at d1 d2
  cases a5 with
  | cons _ _ => cases d2
  | nil =>
    cases a7 with
    | cons _ _ => cases d1
    | nil => rfl
end Mine

set_option Elab.async false
set_option genSizeOf false
set_option genInjectivity false
set_option backward.match.sparseCases false
set_option bootstrap.genMatcherCode false
set_option tactic.hygienic false
set_option linter.unusedVariables false
set_option maxRecDepth 100000
namespace Mine
open PySem PySem.Calls PyProof.Rows PySem.W PySem.SeqAt
variable {G : Gl} {T : Tb} {call : CallT} {n : Nat}

noncomputable abbrev M1 (G : Gl) (T : Tb) (call : CallT) (n : Nat) (c : CE) : Prop := (∀ fx, FxOk fx → Snd G T call n fx c (chkE T fx c)) ∧ ∀ fx, FxOk fx → SndB G T call n fx c (chkB T fx c)
noncomputable abbrev M2 (G : Gl) (T : Tb) (call : CallT) (n : Nat) (c : CEs) : Prop := (∀ fx, FxOk fx → SndL G T call n fx c (chkEs T fx c)) ∧ ∀ fx, FxOk fx → SndIf G T call n fx c (chkIfs T fx c)
noncomputable abbrev M3 (G : Gl) (T : Tb) (call : CallT) (n : Nat) (c : CI) : Prop := ∀ fx, FxOk fx → SndI G T call n fx c (chkI T fx c)
noncomputable abbrev M4 (G : Gl) (T : Tb) (call : CallT) (n : Nat) (c : CT) : Prop := ∀ fx, FxOk fx → SndT G T call n fx c (chkT T fx c)
noncomputable abbrev M5 (G : Gl) (T : Tb) (call : CallT) (n : Nat) (c : CTs) : Prop := ∀ fx, FxOk fx → SndTs G T call n fx c (chkTs T fx c)
noncomputable abbrev M6 (G : Gl) (T : Tb) (call : CallT) (n : Nat) (c : CLs) : Prop := ∀ fx, FxOk fx → SndC G T call n fx c (chkC T fx c)
theorem sif_cons {fx : Fx} {a : CE} {r : CEs} {e : List PySem.Expr} (ha : SndB G T call n fx a (chkB T fx a)) (h : chkIfs T fx (.cons a r) e = true) : SIfs G T call n fx (.cons a r) e := by
  cases r with
  | nil => exact sif_one ha _ h
  | cons => exact noB h
theorem e_all (W : TbOk G T) (H : CallOk G n call) (c : CE) : M1 G T call n c :=
  CE.rec (motive_1 := M1 G T call n) (motive_2 := M2 G T call n) (motive_3 := M3 G T call n) (motive_4 := M4 G T call n) (motive_5 := M5 G T call n) (motive_6 := M6 G T call n)
    (fun v => ⟨fun fx hf e h => se_lit W h, fun fx hf e h => noB h⟩)
    (fun i => ⟨fun fx hf e h => se_loc h, fun fx hf e h => noB h⟩)
    (fun j => ⟨fun fx hf e h => se_cel hf h, fun fx hf e h => noB h⟩)
    (fun o a b A B => ⟨fun fx hf e h => se_bin (A.1 fx hf) (B.1 fx hf) h, fun fx hf e h => noB h⟩)
    (fun o a b A B => ⟨fun fx hf e h => se_cmp (A.1 fx hf) (B.1 fx hf) h, fun fx hf e h => sb_cmp (A.1 fx hf) (B.1 fx hf) h⟩)
    (fun o p a b c A B C => ⟨fun fx hf e h => se_cmp2 (A.1 fx hf) (B.1 fx hf) (C.1 fx hf) h, fun fx hf e h => sb_cmp2 (A.1 fx hf) (B.1 fx hf) (C.1 fx hf) h⟩)
    (fun a b A B => ⟨fun fx hf e h => se_and (A.1 fx hf) (B.1 fx hf) h, fun fx hf e h => sb_and (A.2 fx hf) (B.2 fx hf) h⟩)
    (fun a b A B => ⟨fun fx hf e h => se_or (A.1 fx hf) (B.1 fx hf) h, fun fx hf e h => sb_or (A.2 fx hf) (B.2 fx hf) h⟩)
    (fun a A => ⟨fun fx hf e h => noB h, fun fx hf e h => sb_not (A.2 fx hf) h⟩)
    (fun c a b C A B => ⟨fun fx hf e h => se_ite (C.2 fx hf) (A.1 fx hf) (B.1 fx hf) h, fun fx hf e h => noB h⟩)
    (fun es A => ⟨fun fx hf e h => se_lst (A.1 fx hf) h, fun fx hf e h => noB h⟩)
    (fun es A => ⟨fun fx hf e h => se_tup (A.1 fx hf) h, fun fx hf e h => noB h⟩)
    (⟨fun fx hf e h => se_dict0 h, fun fx hf e h => noB h⟩)
    (fun i j => ⟨fun fx hf e h => se_merge W h, fun fx hf e h => noB h⟩)
    (fun a k A => ⟨fun fx hf e h => se_attr W (A.1 fx hf) h, fun fx hf e h => noB h⟩)
    (fun a i A B => ⟨fun fx hf e h => se_item W (A.1 fx hf) (B.1 fx hf) h, fun fx hf e h => noB h⟩)
    (fun a i A B => ⟨fun fx hf e h => se_sfrom W (A.1 fx hf) (B.1 fx hf) h, fun fx hf e h => noB h⟩)
    (fun a i A B => ⟨fun fx hf e h => se_supto W (A.1 fx hf) (B.1 fx hf) h, fun fx hf e h => noB h⟩)
    (fun f as A B => ⟨fun fx hf e h => se_call H (A.1 fx hf) (B.1 fx hf) h, fun fx hf e h => sb_call H (A.1 fx hf) (B.1 fx hf) h⟩)
    (fun f k as A B => ⟨fun fx hf e h => se_meth W H (A.1 fx hf) (B.1 fx hf) h, fun fx hf e h => sb_meth W H (A.1 fx hf) (B.1 fx hf) h⟩)
    (fun up own nl t it ifs r D I F R => ⟨fun fx hf e h => se_comp hf (I fx hf) (fun fx hf => D fx hf) (fun fx hf => F.2 fx hf) (fun fx hf => R fx hf) h, fun fx hf e h => noB h⟩)
    (fun i cs => ⟨fun fx hf e h => se_lam W hf h, fun fx hf e h => noB h⟩)
    (⟨fun fx hf e h => sv_nil _ h, fun fx hf e h => sif_nil _ h⟩)
    (fun c r A B => ⟨fun fx hf e h => sv_cons (A.1 fx hf) (B.1 fx hf) _ h, fun fx hf e h => sif_cons (A.2 fx hf) h⟩)
    (fun a A fx hf e h => si_rng1 W (A.1 fx hf) h)
    (fun a b A B fx hf e h => si_rng2 W (A.1 fx hf) (B.1 fx hf) h)
    (fun a A fx hf e h => si_of (A.1 fx hf) h)
    (fun i fx hf e h => st_loc hf h)
    (fun i fx hf e h => st_cel hf h)
    (fun c a A fx hf e h => st_attr W (A.1 fx hf) h)
    (fun c a A B fx hf e h => st_item (A.1 fx hf) (B.1 fx hf) h)
    (fun c a A B fx hf e h => st_sfrom W (A.1 fx hf) (B.1 fx hf) h)
    (fun ts A fx hf e h => st_tup (A fx hf) h)
    (fun fx hf e h => sts_nil _ h)
    (fun t r A B fx hf e h => sts_cons (A fx hf) (B fx hf) _ h)
    (fun a A fx hf e gens rest scope pos d hd h => sc_e (A.1 fx hf) e gens rest scope pos d hd h)
    (fun t it ifs r D I F R fx hf e gens rest scope pos d hd h => sc_c (D fx hf) (I fx hf) (F.2 fx hf) (R fx hf) e gens rest scope pos d hd h) c
theorem es_all (W : TbOk G T) (H : CallOk G n call) (c : CEs) : M2 G T call n c :=
  CEs.rec (motive_1 := M1 G T call n) (motive_2 := M2 G T call n) (motive_3 := M3 G T call n) (motive_4 := M4 G T call n) (motive_5 := M5 G T call n) (motive_6 := M6 G T call n)
    (fun v => ⟨fun fx hf e h => se_lit W h, fun fx hf e h => noB h⟩)
    (fun i => ⟨fun fx hf e h => se_loc h, fun fx hf e h => noB h⟩)
    (fun j => ⟨fun fx hf e h => se_cel hf h, fun fx hf e h => noB h⟩)
    (fun o a b A B => ⟨fun fx hf e h => se_bin (A.1 fx hf) (B.1 fx hf) h, fun fx hf e h => noB h⟩)
    (fun o a b A B => ⟨fun fx hf e h => se_cmp (A.1 fx hf) (B.1 fx hf) h, fun fx hf e h => sb_cmp (A.1 fx hf) (B.1 fx hf) h⟩)
    (fun o p a b c A B C => ⟨fun fx hf e h => se_cmp2 (A.1 fx hf) (B.1 fx hf) (C.1 fx hf) h, fun fx hf e h => sb_cmp2 (A.1 fx hf) (B.1 fx hf) (C.1 fx hf) h⟩)
    (fun a b A B => ⟨fun fx hf e h => se_and (A.1 fx hf) (B.1 fx hf) h, fun fx hf e h => sb_and (A.2 fx hf) (B.2 fx hf) h⟩)
    (fun a b A B => ⟨fun fx hf e h => se_or (A.1 fx hf) (B.1 fx hf) h, fun fx hf e h => sb_or (A.2 fx hf) (B.2 fx hf) h⟩)
    (fun a A => ⟨fun fx hf e h => noB h, fun fx hf e h => sb_not (A.2 fx hf) h⟩)
    (fun c a b C A B => ⟨fun fx hf e h => se_ite (C.2 fx hf) (A.1 fx hf) (B.1 fx hf) h, fun fx hf e h => noB h⟩)
    (fun es A => ⟨fun fx hf e h => se_lst (A.1 fx hf) h, fun fx hf e h => noB h⟩)
    (fun es A => ⟨fun fx hf e h => se_tup (A.1 fx hf) h, fun fx hf e h => noB h⟩)
    (⟨fun fx hf e h => se_dict0 h, fun fx hf e h => noB h⟩)
    (fun i j => ⟨fun fx hf e h => se_merge W h, fun fx hf e h => noB h⟩)
    (fun a k A => ⟨fun fx hf e h => se_attr W (A.1 fx hf) h, fun fx hf e h => noB h⟩)
    (fun a i A B => ⟨fun fx hf e h => se_item W (A.1 fx hf) (B.1 fx hf) h, fun fx hf e h => noB h⟩)
    (fun a i A B => ⟨fun fx hf e h => se_sfrom W (A.1 fx hf) (B.1 fx hf) h, fun fx hf e h => noB h⟩)
    (fun a i A B => ⟨fun fx hf e h => se_supto W (A.1 fx hf) (B.1 fx hf) h, fun fx hf e h => noB h⟩)
    (fun f as A B => ⟨fun fx hf e h => se_call H (A.1 fx hf) (B.1 fx hf) h, fun fx hf e h => sb_call H (A.1 fx hf) (B.1 fx hf) h⟩)
    (fun f k as A B => ⟨fun fx hf e h => se_meth W H (A.1 fx hf) (B.1 fx hf) h, fun fx hf e h => sb_meth W H (A.1 fx hf) (B.1 fx hf) h⟩)
    (fun up own nl t it ifs r D I F R => ⟨fun fx hf e h => se_comp hf (I fx hf) (fun fx hf => D fx hf) (fun fx hf => F.2 fx hf) (fun fx hf => R fx hf) h, fun fx hf e h => noB h⟩)
    (fun i cs => ⟨fun fx hf e h => se_lam W hf h, fun fx hf e h => noB h⟩)
    (⟨fun fx hf e h => sv_nil _ h, fun fx hf e h => sif_nil _ h⟩)
    (fun c r A B => ⟨fun fx hf e h => sv_cons (A.1 fx hf) (B.1 fx hf) _ h, fun fx hf e h => sif_cons (A.2 fx hf) h⟩)
    (fun a A fx hf e h => si_rng1 W (A.1 fx hf) h)
    (fun a b A B fx hf e h => si_rng2 W (A.1 fx hf) (B.1 fx hf) h)
    (fun a A fx hf e h => si_of (A.1 fx hf) h)
    (fun i fx hf e h => st_loc hf h)
    (fun i fx hf e h => st_cel hf h)
    (fun c a A fx hf e h => st_attr W (A.1 fx hf) h)
    (fun c a A B fx hf e h => st_item (A.1 fx hf) (B.1 fx hf) h)
    (fun c a A B fx hf e h => st_sfrom W (A.1 fx hf) (B.1 fx hf) h)
    (fun ts A fx hf e h => st_tup (A fx hf) h)
    (fun fx hf e h => sts_nil _ h)
    (fun t r A B fx hf e h => sts_cons (A fx hf) (B fx hf) _ h)
    (fun a A fx hf e gens rest scope pos d hd h => sc_e (A.1 fx hf) e gens rest scope pos d hd h)
    (fun t it ifs r D I F R fx hf e gens rest scope pos d hd h => sc_c (D fx hf) (I fx hf) (F.2 fx hf) (R fx hf) e gens rest scope pos d hd h) c
theorem i_all (W : TbOk G T) (H : CallOk G n call) (c : CI) : M3 G T call n c :=
  CI.rec (motive_1 := M1 G T call n) (motive_2 := M2 G T call n) (motive_3 := M3 G T call n) (motive_4 := M4 G T call n) (motive_5 := M5 G T call n) (motive_6 := M6 G T call n)
    (fun v => ⟨fun fx hf e h => se_lit W h, fun fx hf e h => noB h⟩)
    (fun i => ⟨fun fx hf e h => se_loc h, fun fx hf e h => noB h⟩)
    (fun j => ⟨fun fx hf e h => se_cel hf h, fun fx hf e h => noB h⟩)
    (fun o a b A B => ⟨fun fx hf e h => se_bin (A.1 fx hf) (B.1 fx hf) h, fun fx hf e h => noB h⟩)
    (fun o a b A B => ⟨fun fx hf e h => se_cmp (A.1 fx hf) (B.1 fx hf) h, fun fx hf e h => sb_cmp (A.1 fx hf) (B.1 fx hf) h⟩)
    (fun o p a b c A B C => ⟨fun fx hf e h => se_cmp2 (A.1 fx hf) (B.1 fx hf) (C.1 fx hf) h, fun fx hf e h => sb_cmp2 (A.1 fx hf) (B.1 fx hf) (C.1 fx hf) h⟩)
    (fun a b A B => ⟨fun fx hf e h => se_and (A.1 fx hf) (B.1 fx hf) h, fun fx hf e h => sb_and (A.2 fx hf) (B.2 fx hf) h⟩)
    (fun a b A B => ⟨fun fx hf e h => se_or (A.1 fx hf) (B.1 fx hf) h, fun fx hf e h => sb_or (A.2 fx hf) (B.2 fx hf) h⟩)
    (fun a A => ⟨fun fx hf e h => noB h, fun fx hf e h => sb_not (A.2 fx hf) h⟩)
    (fun c a b C A B => ⟨fun fx hf e h => se_ite (C.2 fx hf) (A.1 fx hf) (B.1 fx hf) h, fun fx hf e h => noB h⟩)
    (fun es A => ⟨fun fx hf e h => se_lst (A.1 fx hf) h, fun fx hf e h => noB h⟩)
    (fun es A => ⟨fun fx hf e h => se_tup (A.1 fx hf) h, fun fx hf e h => noB h⟩)
    (⟨fun fx hf e h => se_dict0 h, fun fx hf e h => noB h⟩)
    (fun i j => ⟨fun fx hf e h => se_merge W h, fun fx hf e h => noB h⟩)
    (fun a k A => ⟨fun fx hf e h => se_attr W (A.1 fx hf) h, fun fx hf e h => noB h⟩)
    (fun a i A B => ⟨fun fx hf e h => se_item W (A.1 fx hf) (B.1 fx hf) h, fun fx hf e h => noB h⟩)
    (fun a i A B => ⟨fun fx hf e h => se_sfrom W (A.1 fx hf) (B.1 fx hf) h, fun fx hf e h => noB h⟩)
    (fun a i A B => ⟨fun fx hf e h => se_supto W (A.1 fx hf) (B.1 fx hf) h, fun fx hf e h => noB h⟩)
    (fun f as A B => ⟨fun fx hf e h => se_call H (A.1 fx hf) (B.1 fx hf) h, fun fx hf e h => sb_call H (A.1 fx hf) (B.1 fx hf) h⟩)
    (fun f k as A B => ⟨fun fx hf e h => se_meth W H (A.1 fx hf) (B.1 fx hf) h, fun fx hf e h => sb_meth W H (A.1 fx hf) (B.1 fx hf) h⟩)
    (fun up own nl t it ifs r D I F R => ⟨fun fx hf e h => se_comp hf (I fx hf) (fun fx hf => D fx hf) (fun fx hf => F.2 fx hf) (fun fx hf => R fx hf) h, fun fx hf e h => noB h⟩)
    (fun i cs => ⟨fun fx hf e h => se_lam W hf h, fun fx hf e h => noB h⟩)
    (⟨fun fx hf e h => sv_nil _ h, fun fx hf e h => sif_nil _ h⟩)
    (fun c r A B => ⟨fun fx hf e h => sv_cons (A.1 fx hf) (B.1 fx hf) _ h, fun fx hf e h => sif_cons (A.2 fx hf) h⟩)
    (fun a A fx hf e h => si_rng1 W (A.1 fx hf) h)
    (fun a b A B fx hf e h => si_rng2 W (A.1 fx hf) (B.1 fx hf) h)
    (fun a A fx hf e h => si_of (A.1 fx hf) h)
    (fun i fx hf e h => st_loc hf h)
    (fun i fx hf e h => st_cel hf h)
    (fun c a A fx hf e h => st_attr W (A.1 fx hf) h)
    (fun c a A B fx hf e h => st_item (A.1 fx hf) (B.1 fx hf) h)
    (fun c a A B fx hf e h => st_sfrom W (A.1 fx hf) (B.1 fx hf) h)
    (fun ts A fx hf e h => st_tup (A fx hf) h)
    (fun fx hf e h => sts_nil _ h)
    (fun t r A B fx hf e h => sts_cons (A fx hf) (B fx hf) _ h)
    (fun a A fx hf e gens rest scope pos d hd h => sc_e (A.1 fx hf) e gens rest scope pos d hd h)
    (fun t it ifs r D I F R fx hf e gens rest scope pos d hd h => sc_c (D fx hf) (I fx hf) (F.2 fx hf) (R fx hf) e gens rest scope pos d hd h) c
theorem t_all (W : TbOk G T) (H : CallOk G n call) (c : CT) : M4 G T call n c :=
  CT.rec (motive_1 := M1 G T call n) (motive_2 := M2 G T call n) (motive_3 := M3 G T call n) (motive_4 := M4 G T call n) (motive_5 := M5 G T call n) (motive_6 := M6 G T call n)
    (fun v => ⟨fun fx hf e h => se_lit W h, fun fx hf e h => noB h⟩)
    (fun i => ⟨fun fx hf e h => se_loc h, fun fx hf e h => noB h⟩)
    (fun j => ⟨fun fx hf e h => se_cel hf h, fun fx hf e h => noB h⟩)
    (fun o a b A B => ⟨fun fx hf e h => se_bin (A.1 fx hf) (B.1 fx hf) h, fun fx hf e h => noB h⟩)
    (fun o a b A B => ⟨fun fx hf e h => se_cmp (A.1 fx hf) (B.1 fx hf) h, fun fx hf e h => sb_cmp (A.1 fx hf) (B.1 fx hf) h⟩)
    (fun o p a b c A B C => ⟨fun fx hf e h => se_cmp2 (A.1 fx hf) (B.1 fx hf) (C.1 fx hf) h, fun fx hf e h => sb_cmp2 (A.1 fx hf) (B.1 fx hf) (C.1 fx hf) h⟩)
    (fun a b A B => ⟨fun fx hf e h => se_and (A.1 fx hf) (B.1 fx hf) h, fun fx hf e h => sb_and (A.2 fx hf) (B.2 fx hf) h⟩)
    (fun a b A B => ⟨fun fx hf e h => se_or (A.1 fx hf) (B.1 fx hf) h, fun fx hf e h => sb_or (A.2 fx hf) (B.2 fx hf) h⟩)
    (fun a A => ⟨fun fx hf e h => noB h, fun fx hf e h => sb_not (A.2 fx hf) h⟩)
    (fun c a b C A B => ⟨fun fx hf e h => se_ite (C.2 fx hf) (A.1 fx hf) (B.1 fx hf) h, fun fx hf e h => noB h⟩)
    (fun es A => ⟨fun fx hf e h => se_lst (A.1 fx hf) h, fun fx hf e h => noB h⟩)
    (fun es A => ⟨fun fx hf e h => se_tup (A.1 fx hf) h, fun fx hf e h => noB h⟩)
    (⟨fun fx hf e h => se_dict0 h, fun fx hf e h => noB h⟩)
    (fun i j => ⟨fun fx hf e h => se_merge W h, fun fx hf e h => noB h⟩)
    (fun a k A => ⟨fun fx hf e h => se_attr W (A.1 fx hf) h, fun fx hf e h => noB h⟩)
    (fun a i A B => ⟨fun fx hf e h => se_item W (A.1 fx hf) (B.1 fx hf) h, fun fx hf e h => noB h⟩)
    (fun a i A B => ⟨fun fx hf e h => se_sfrom W (A.1 fx hf) (B.1 fx hf) h, fun fx hf e h => noB h⟩)
    (fun a i A B => ⟨fun fx hf e h => se_supto W (A.1 fx hf) (B.1 fx hf) h, fun fx hf e h => noB h⟩)
    (fun f as A B => ⟨fun fx hf e h => se_call H (A.1 fx hf) (B.1 fx hf) h, fun fx hf e h => sb_call H (A.1 fx hf) (B.1 fx hf) h⟩)
    (fun f k as A B => ⟨fun fx hf e h => se_meth W H (A.1 fx hf) (B.1 fx hf) h, fun fx hf e h => sb_meth W H (A.1 fx hf) (B.1 fx hf) h⟩)
    (fun up own nl t it ifs r D I F R => ⟨fun fx hf e h => se_comp hf (I fx hf) (fun fx hf => D fx hf) (fun fx hf => F.2 fx hf) (fun fx hf => R fx hf) h, fun fx hf e h => noB h⟩)
    (fun i cs => ⟨fun fx hf e h => se_lam W hf h, fun fx hf e h => noB h⟩)
    (⟨fun fx hf e h => sv_nil _ h, fun fx hf e h => sif_nil _ h⟩)
    (fun c r A B => ⟨fun fx hf e h => sv_cons (A.1 fx hf) (B.1 fx hf) _ h, fun fx hf e h => sif_cons (A.2 fx hf) h⟩)
    (fun a A fx hf e h => si_rng1 W (A.1 fx hf) h)
    (fun a b A B fx hf e h => si_rng2 W (A.1 fx hf) (B.1 fx hf) h)
    (fun a A fx hf e h => si_of (A.1 fx hf) h)
    (fun i fx hf e h => st_loc hf h)
    (fun i fx hf e h => st_cel hf h)
    (fun c a A fx hf e h => st_attr W (A.1 fx hf) h)
    (fun c a A B fx hf e h => st_item (A.1 fx hf) (B.1 fx hf) h)
    (fun c a A B fx hf e h => st_sfrom W (A.1 fx hf) (B.1 fx hf) h)
    (fun ts A fx hf e h => st_tup (A fx hf) h)
    (fun fx hf e h => sts_nil _ h)
    (fun t r A B fx hf e h => sts_cons (A fx hf) (B fx hf) _ h)
    (fun a A fx hf e gens rest scope pos d hd h => sc_e (A.1 fx hf) e gens rest scope pos d hd h)
    (fun t it ifs r D I F R fx hf e gens rest scope pos d hd h => sc_c (D fx hf) (I fx hf) (F.2 fx hf) (R fx hf) e gens rest scope pos d hd h) c
theorem ts_all (W : TbOk G T) (H : CallOk G n call) (c : CTs) : M5 G T call n c :=
  CTs.rec (motive_1 := M1 G T call n) (motive_2 := M2 G T call n) (motive_3 := M3 G T call n) (motive_4 := M4 G T call n) (motive_5 := M5 G T call n) (motive_6 := M6 G T call n)
    (fun v => ⟨fun fx hf e h => se_lit W h, fun fx hf e h => noB h⟩)
    (fun i => ⟨fun fx hf e h => se_loc h, fun fx hf e h => noB h⟩)
    (fun j => ⟨fun fx hf e h => se_cel hf h, fun fx hf e h => noB h⟩)
    (fun o a b A B => ⟨fun fx hf e h => se_bin (A.1 fx hf) (B.1 fx hf) h, fun fx hf e h => noB h⟩)
    (fun o a b A B => ⟨fun fx hf e h => se_cmp (A.1 fx hf) (B.1 fx hf) h, fun fx hf e h => sb_cmp (A.1 fx hf) (B.1 fx hf) h⟩)
    (fun o p a b c A B C => ⟨fun fx hf e h => se_cmp2 (A.1 fx hf) (B.1 fx hf) (C.1 fx hf) h, fun fx hf e h => sb_cmp2 (A.1 fx hf) (B.1 fx hf) (C.1 fx hf) h⟩)
    (fun a b A B => ⟨fun fx hf e h => se_and (A.1 fx hf) (B.1 fx hf) h, fun fx hf e h => sb_and (A.2 fx hf) (B.2 fx hf) h⟩)
    (fun a b A B => ⟨fun fx hf e h => se_or (A.1 fx hf) (B.1 fx hf) h, fun fx hf e h => sb_or (A.2 fx hf) (B.2 fx hf) h⟩)
    (fun a A => ⟨fun fx hf e h => noB h, fun fx hf e h => sb_not (A.2 fx hf) h⟩)
    (fun c a b C A B => ⟨fun fx hf e h => se_ite (C.2 fx hf) (A.1 fx hf) (B.1 fx hf) h, fun fx hf e h => noB h⟩)
    (fun es A => ⟨fun fx hf e h => se_lst (A.1 fx hf) h, fun fx hf e h => noB h⟩)
    (fun es A => ⟨fun fx hf e h => se_tup (A.1 fx hf) h, fun fx hf e h => noB h⟩)
    (⟨fun fx hf e h => se_dict0 h, fun fx hf e h => noB h⟩)
    (fun i j => ⟨fun fx hf e h => se_merge W h, fun fx hf e h => noB h⟩)
    (fun a k A => ⟨fun fx hf e h => se_attr W (A.1 fx hf) h, fun fx hf e h => noB h⟩)
    (fun a i A B => ⟨fun fx hf e h => se_item W (A.1 fx hf) (B.1 fx hf) h, fun fx hf e h => noB h⟩)
    (fun a i A B => ⟨fun fx hf e h => se_sfrom W (A.1 fx hf) (B.1 fx hf) h, fun fx hf e h => noB h⟩)
    (fun a i A B => ⟨fun fx hf e h => se_supto W (A.1 fx hf) (B.1 fx hf) h, fun fx hf e h => noB h⟩)
    (fun f as A B => ⟨fun fx hf e h => se_call H (A.1 fx hf) (B.1 fx hf) h, fun fx hf e h => sb_call H (A.1 fx hf) (B.1 fx hf) h⟩)
    (fun f k as A B => ⟨fun fx hf e h => se_meth W H (A.1 fx hf) (B.1 fx hf) h, fun fx hf e h => sb_meth W H (A.1 fx hf) (B.1 fx hf) h⟩)
    (fun up own nl t it ifs r D I F R => ⟨fun fx hf e h => se_comp hf (I fx hf) (fun fx hf => D fx hf) (fun fx hf => F.2 fx hf) (fun fx hf => R fx hf) h, fun fx hf e h => noB h⟩)
    (fun i cs => ⟨fun fx hf e h => se_lam W hf h, fun fx hf e h => noB h⟩)
    (⟨fun fx hf e h => sv_nil _ h, fun fx hf e h => sif_nil _ h⟩)
    (fun c r A B => ⟨fun fx hf e h => sv_cons (A.1 fx hf) (B.1 fx hf) _ h, fun fx hf e h => sif_cons (A.2 fx hf) h⟩)
    (fun a A fx hf e h => si_rng1 W (A.1 fx hf) h)
    (fun a b A B fx hf e h => si_rng2 W (A.1 fx hf) (B.1 fx hf) h)
    (fun a A fx hf e h => si_of (A.1 fx hf) h)
    (fun i fx hf e h => st_loc hf h)
    (fun i fx hf e h => st_cel hf h)
    (fun c a A fx hf e h => st_attr W (A.1 fx hf) h)
    (fun c a A B fx hf e h => st_item (A.1 fx hf) (B.1 fx hf) h)
    (fun c a A B fx hf e h => st_sfrom W (A.1 fx hf) (B.1 fx hf) h)
    (fun ts A fx hf e h => st_tup (A fx hf) h)
    (fun fx hf e h => sts_nil _ h)
    (fun t r A B fx hf e h => sts_cons (A fx hf) (B fx hf) _ h)
    (fun a A fx hf e gens rest scope pos d hd h => sc_e (A.1 fx hf) e gens rest scope pos d hd h)
    (fun t it ifs r D I F R fx hf e gens rest scope pos d hd h => sc_c (D fx hf) (I fx hf) (F.2 fx hf) (R fx hf) e gens rest scope pos d hd h) c
theorem c_all (W : TbOk G T) (H : CallOk G n call) (c : CLs) : M6 G T call n c :=
  CLs.rec (motive_1 := M1 G T call n) (motive_2 := M2 G T call n) (motive_3 := M3 G T call n) (motive_4 := M4 G T call n) (motive_5 := M5 G T call n) (motive_6 := M6 G T call n)
    (fun v => ⟨fun fx hf e h => se_lit W h, fun fx hf e h => noB h⟩)
    (fun i => ⟨fun fx hf e h => se_loc h, fun fx hf e h => noB h⟩)
    (fun j => ⟨fun fx hf e h => se_cel hf h, fun fx hf e h => noB h⟩)
    (fun o a b A B => ⟨fun fx hf e h => se_bin (A.1 fx hf) (B.1 fx hf) h, fun fx hf e h => noB h⟩)
    (fun o a b A B => ⟨fun fx hf e h => se_cmp (A.1 fx hf) (B.1 fx hf) h, fun fx hf e h => sb_cmp (A.1 fx hf) (B.1 fx hf) h⟩)
    (fun o p a b c A B C => ⟨fun fx hf e h => se_cmp2 (A.1 fx hf) (B.1 fx hf) (C.1 fx hf) h, fun fx hf e h => sb_cmp2 (A.1 fx hf) (B.1 fx hf) (C.1 fx hf) h⟩)
    (fun a b A B => ⟨fun fx hf e h => se_and (A.1 fx hf) (B.1 fx hf) h, fun fx hf e h => sb_and (A.2 fx hf) (B.2 fx hf) h⟩)
    (fun a b A B => ⟨fun fx hf e h => se_or (A.1 fx hf) (B.1 fx hf) h, fun fx hf e h => sb_or (A.2 fx hf) (B.2 fx hf) h⟩)
    (fun a A => ⟨fun fx hf e h => noB h, fun fx hf e h => sb_not (A.2 fx hf) h⟩)
    (fun c a b C A B => ⟨fun fx hf e h => se_ite (C.2 fx hf) (A.1 fx hf) (B.1 fx hf) h, fun fx hf e h => noB h⟩)
    (fun es A => ⟨fun fx hf e h => se_lst (A.1 fx hf) h, fun fx hf e h => noB h⟩)
    (fun es A => ⟨fun fx hf e h => se_tup (A.1 fx hf) h, fun fx hf e h => noB h⟩)
    (⟨fun fx hf e h => se_dict0 h, fun fx hf e h => noB h⟩)
    (fun i j => ⟨fun fx hf e h => se_merge W h, fun fx hf e h => noB h⟩)
    (fun a k A => ⟨fun fx hf e h => se_attr W (A.1 fx hf) h, fun fx hf e h => noB h⟩)
    (fun a i A B => ⟨fun fx hf e h => se_item W (A.1 fx hf) (B.1 fx hf) h, fun fx hf e h => noB h⟩)
    (fun a i A B => ⟨fun fx hf e h => se_sfrom W (A.1 fx hf) (B.1 fx hf) h, fun fx hf e h => noB h⟩)
    (fun a i A B => ⟨fun fx hf e h => se_supto W (A.1 fx hf) (B.1 fx hf) h, fun fx hf e h => noB h⟩)
    (fun f as A B => ⟨fun fx hf e h => se_call H (A.1 fx hf) (B.1 fx hf) h, fun fx hf e h => sb_call H (A.1 fx hf) (B.1 fx hf) h⟩)
    (fun f k as A B => ⟨fun fx hf e h => se_meth W H (A.1 fx hf) (B.1 fx hf) h, fun fx hf e h => sb_meth W H (A.1 fx hf) (B.1 fx hf) h⟩)
    (fun up own nl t it ifs r D I F R => ⟨fun fx hf e h => se_comp hf (I fx hf) (fun fx hf => D fx hf) (fun fx hf => F.2 fx hf) (fun fx hf => R fx hf) h, fun fx hf e h => noB h⟩)
    (fun i cs => ⟨fun fx hf e h => se_lam W hf h, fun fx hf e h => noB h⟩)
    (⟨fun fx hf e h => sv_nil _ h, fun fx hf e h => sif_nil _ h⟩)
    (fun c r A B => ⟨fun fx hf e h => sv_cons (A.1 fx hf) (B.1 fx hf) _ h, fun fx hf e h => sif_cons (A.2 fx hf) h⟩)
    (fun a A fx hf e h => si_rng1 W (A.1 fx hf) h)
    (fun a b A B fx hf e h => si_rng2 W (A.1 fx hf) (B.1 fx hf) h)
    (fun a A fx hf e h => si_of (A.1 fx hf) h)
    (fun i fx hf e h => st_loc hf h)
    (fun i fx hf e h => st_cel hf h)
    (fun c a A fx hf e h => st_attr W (A.1 fx hf) h)
    (fun c a A B fx hf e h => st_item (A.1 fx hf) (B.1 fx hf) h)
    (fun c a A B fx hf e h => st_sfrom W (A.1 fx hf) (B.1 fx hf) h)
    (fun ts A fx hf e h => st_tup (A fx hf) h)
    (fun fx hf e h => sts_nil _ h)
    (fun t r A B fx hf e h => sts_cons (A fx hf) (B fx hf) _ h)
    (fun a A fx hf e gens rest scope pos d hd h => sc_e (A.1 fx hf) e gens rest scope pos d hd h)
    (fun t it ifs r D I F R fx hf e gens rest scope pos d hd h => sc_c (D fx hf) (I fx hf) (F.2 fx hf) (R fx hf) e gens rest scope pos d hd h) c
theorem e_ok (W : TbOk G T) (H : CallOk G n call) (c : CE) (fx : Fx) (hf : FxOk fx) : Snd G T call n fx c (chkE T fx c) := (e_all W H c).1 fx hf
theorem b_ok (W : TbOk G T) (H : CallOk G n call) (c : CE) (fx : Fx) (hf : FxOk fx) : SndB G T call n fx c (chkB T fx c) := (e_all W H c).2 fx hf
theorem es_ok (W : TbOk G T) (H : CallOk G n call) (c : CEs) (fx : Fx) (hf : FxOk fx) : SndL G T call n fx c (chkEs T fx c) := (es_all W H c).1 fx hf
theorem i_ok (W : TbOk G T) (H : CallOk G n call) (c : CI) (fx : Fx) (hf : FxOk fx) : SndI G T call n fx c (chkI T fx c) := i_all W H c fx hf
theorem t_ok (W : TbOk G T) (H : CallOk G n call) (c : CT) (fx : Fx) (hf : FxOk fx) : SndT G T call n fx c (chkT T fx c) := t_all W H c fx hf
theorem if_ok (W : TbOk G T) (H : CallOk G n call) (c : CEs) (fx : Fx) (hf : FxOk fx) : SndIf G T call n fx c (chkIfs T fx c) := (es_all W H c).2 fx hf
theorem c_ok (W : TbOk G T) (H : CallOk G n call) (c : CLs) (fx : Fx) (hf : FxOk fx) : SndC G T call n fx c (chkC T fx c) := c_all W H c fx hf
theorem ts_ok (W : TbOk G T) (H : CallOk G n call) (c : CTs) (fx : Fx) (hf : FxOk fx) : SndTs G T call n fx c (chkTs T fx c) := ts_all W H c fx hf
end Mine

set_option Elab.async false
set_option genSizeOf false
set_option genInjectivity false
set_option backward.match.sparseCases false
set_option bootstrap.genMatcherCode false
set_option tactic.hygienic false
set_option linter.unusedVariables false
set_option maxRecDepth 100000
namespace Mine
open PySem PySem.Calls PyProof.Rows PySem.W PySem.SeqAt

noncomputable def notComp : PySem.Expr → Bool
  | .ListComp .. | .SetComp .. | .DictComp .. => false
  | _ => true
noncomputable def notTuple : PySem.Expr → Bool
  | .Tuple .. => false
  | _ => true
noncomputable def notName : PySem.Expr → Bool
  | .Name .. => false
  | _ => true
inductive FR (G : Gl) (ρ : List Addr) : Fl → Flow → Prop
  | next : FR G ρ .next .next
  | brk : FR G ρ .brk .brk
  | ret {x : AV} {v : Value} : VR G ρ x v → FR G ρ (.ret x) (.ret v)
variable {G : Gl} {T : Tb} {call : CallT} {n : Nat} {fx : Fx} {ρ ρ₁ : List Addr} {A : Around} {L : Addr} {ln : List Str} {st : St} {s s₁ : Shared} {cl : List Nat} {env : Env} {E : Value → Shared → Prop}
noncomputable def RetF (G : Gl) (ρ : List Addr) (L : Addr) (ln : List Str) (s : Shared) (Q : Fl → St → Prop) (f : Flow) (s' : Shared) : Prop :=
  ∃ ρ' fl st', FR G ρ' fl f ∧ Rep G ρ' L ln st' s' ∧ Step G L ρ s ρ' s' ∧ Q fl st'
theorem RetF.el {Q : Fl → St → Prop} {f : Flow} {s' : Shared} {P : Prop} (h : RetF G ρ L ln s Q f s') (k : ∀ ρ' fl st', FR G ρ' fl f → Rep G ρ' L ln st' s' → Step G L ρ s ρ' s' → Q fl st' → P) : P := let ⟨a, b, c, d, e, f, g⟩ := h; k a b c d e f g
theorem RetF.after {Q : Fl → St → Prop} {f : Flow} {s' : Shared} (x : Step G L ρ s ρ₁ s₁) (h : RetF G ρ₁ L ln s₁ Q f s') : RetF G ρ L ln s Q f s' :=
  let ⟨ρ', fl, st', h1, h2, h3, h4⟩ := h; ⟨ρ', fl, st', h1, h2, x.trans h3, h4⟩
theorem wretF {m : Sem Flow} {Q : Fl → St → Prop} (S : Step G L ρ s ρ₁ s₁) (h : wpAny (MM G) A m (RetF G ρ₁ L ln s₁ Q) E s₁) : wpAny (MM G) A m (RetF G ρ L ln s Q) E s₁ := wpAny_mono h (fun _ _ z => z.after S) fun _ _ z => z
section
variable (G) (T) (call) (n) (fx)
noncomputable def SS (c : CS) (x : Stmt) : Prop := ∀ {ρ : List Addr} {A : Around} {L : Addr} {st : St} {s : Shared} {cl : List Nat} {env : Env} {Q : Fl → St → Prop} {E : Value → Shared → Prop}, AOk A n → Rep G ρ L fx.ln st s → EnvOk G ρ L fx cl env →
  ex T call cl c st Q → wpAny (MM G) A (exec x env) (RetF G ρ L fx.ln s Q) E s
noncomputable def SSs (c : CSs) (x : List Stmt) : Prop := ∀ {ρ : List Addr} {A : Around} {L : Addr} {st : St} {s : Shared} {cl : List Nat} {env : Env} {Q : Fl → St → Prop} {E : Value → Shared → Prop}, AOk A n → Rep G ρ L fx.ln st s → EnvOk G ρ L fx cl env →
  exs T call cl c st Q → wpAny (MM G) A (execs x env) (RetF G ρ L fx.ln s Q) E s
end
theorem ss_nil : SSs G T call n fx .nil [] := by
  intro ρ A L st s cl env Q E hA R EO hv
  skip
  exact wpAny_execs_nil ⟨ρ, .next, st, .next, R, .rfl, hv⟩
theorem ss_cons {c : CS} {r : CSs} {x : Stmt} {xs : List Stmt} (h1 : SS G T call n fx c x) (h2 : SSs G T call n fx r xs) : SSs G T call n fx (.cons c r) (x :: xs) := by
  intro ρ A L st s cl env Q E hA R EO hv
  skip
  refine wpAny_execs_cons (wpAny_mono (h1 hA R EO hv) (fun f s₁ hh' => RetF.el hh' fun ρ₁ fl st₁ hfl R1 S1 q1 => ?_) fun _ _ z => z)
  cases hfl with
  | next => exact wretF S1 (h2 hA R1 (EO.mono S1.pre) q1)
  | brk => exact ⟨ρ₁, .brk, st₁, .brk, R1, S1, q1⟩
  | ret hv => exact ⟨ρ₁, _, st₁, .ret hv, R1, S1, q1⟩

section
variable {prog : Program} {w : World} {R : Result → Shared → Prop} {test target : PySem.Expr} {body orelse : List Stmt} {it : Value}
theorem while_turn (h : wpAny (model prog w) A (isTrue test env (eval test env)) (fun b s₁ => if b then wpAny (model prog w) A (execs body env) (fun f s₂ => match f with
      | .next | .cont => codeAny (model prog w) A (.whileLoop test body orelse env) R s₂
      | .brk => R (.ok .next) s₂
      | .ret v => R (.ok (.ret v)) s₂) (notedBy (model prog w) A env fun e s' => R (.error e) s') s₁
    else wpAny (model prog w) A (execs orelse env) (fun f s₂ => R (.ok f) s₂) (notedBy (model prog w) A env fun e s' => R (.error e) s') s₁)
    (notedBy (model prog w) A env fun e s' => R (.error e) s') s) : codeAny (model prog w) A (.whileLoop test body orelse env) R s := by
  refine codeAny_of_tree ?_
  show wpAny _ A ((whileTurn test body orelse env).onRaise (fun x => do noteFrame x env; theTreesLotGoes x)) _ _ s
  refine wpAny_noted ?_
  simp only [whileTurn]
  refine wpAny_bind (wpAny_mono h (fun b s₂ h₂ => ?_) fun _ _ h' => h')
  cases b with
  | false =>
    simp only [Bool.false_eq_true, if_false] at h₂ ⊢
    exact wpAny_bind (wpAny_mono h₂ (fun f s₃ h₃ => wpAny_pure h₃) fun _ _ h' => h')
  | true =>
    simp only [if_true] at h₂ ⊢
    refine wpAny_bind (wpAny_mono h₂ (fun f s₃ h₃ => ?_) fun _ _ h' => h')
    cases f with
    | next => exact wpAny_pure ⟨rfl, h₃⟩
    | cont => exact wpAny_pure ⟨rfl, h₃⟩
    | brk => exact wpAny_pure h₃
    | ret v => exact wpAny_pure h₃
theorem for_turn (h : wpAny (model prog w) A (pyNext it) (fun r s₁ => match r with
      | none => wpAny (model prog w) A (execs orelse env) (fun f s₃ => R (.ok f) s₃) (notedBy (model prog w) A env fun e s' => R (.error e) s') s₁
      | some v => wpAny (model prog w) A (letOwnedTupleGo target it v) (fun _ s₂ => wpAny (model prog w) A (assign target env v) (fun _ s₃ => wpAny (model prog w) A (execs body env) (fun f s₄ => match f with
          | .next | .cont => codeAny (model prog w) A (.forLoop target it body orelse env) R s₄
          | .brk => R (.ok .next) s₄
          | .ret v => R (.ok (.ret v)) s₄) (notedBy (model prog w) A env fun e s' => R (.error e) s') s₃) (notedBy (model prog w) A env fun e s' => R (.error e) s') s₂) (notedBy (model prog w) A env fun e s' => R (.error e) s') s₁)
      (notedBy (model prog w) A env fun e s' => R (.error e) s') s) : codeAny (model prog w) A (.forLoop target it body orelse env) R s := by
  refine codeAny_of_tree ?_
  show wpAny _ A ((forTurn target it body orelse env).onRaise (fun x => do noteFrame x env; theTreesLotGoes x)) _ _ s
  refine wpAny_noted ?_
  simp only [forTurn]
  refine wpAny_bind (wpAny_standAt (wpAny_bind (wpAny_onRaise (wpAny_mono h (fun r s₁ h₁ => ?_) fun _ _ h' => wpAny_standAt h'))))
  cases r with
  | none => exact wpAny_pure ⟨rfl, codeAny_block h₁⟩
  | some v =>
    refine wpAny_bind (wpAny_mono h₁ (fun _ s₁' h₁' => ?_) fun _ _ h' => h')
    refine wpAny_bind (wpAny_mono h₁' (fun _ s₂ h₂ => wpAny_bind (wpAny_mono h₂ (fun f s₃ h₃ => ?_) fun _ _ h' => h')) fun _ _ h' => h')
    cases f with
    | next => exact wpAny_pure ⟨rfl, h₃⟩
    | cont => exact wpAny_pure ⟨rfl, h₃⟩
    | brk => exact wpAny_pure h₃
    | ret v => exact wpAny_pure h₃
end

theorem while_ok {c : CE} {b : CSs} {t : PySem.Expr} {x : List Stmt} {R : Result → Shared → Prop} {Q : Fl → St → Prop} (hB : SB G T call n fx c t) (hS : SSs G T call n fx b x) (hA : AOk A n) :
    ∀ (m : Nat) {ρ : List Addr} {st : St} {s : Shared}, Rep G ρ L fx.ln st s → EnvOk G ρ L fx cl env → whileT (evB T call cl c) (fun s => exs T call cl b s) m st Q →
      (∀ f s', RetF G ρ L fx.ln s Q f s' → R (.ok f) s') → codeAny (MM G) A (.whileLoop t x [] env) R s
  | 0, _, _, _, _, _, h, _ => h.elim
  | m + 1, ρ, st, s, Rr, EO, h, hR => by
    skip
    refine while_turn (wpAny_mono (hB hA Rr EO h) (fun t s₁ hh' => RetU.el hh' fun ρ₁ st₁ R1 S1 q1 => ?_) fun _ _ z => z)
    cases t with
    | false =>
      simp only [Bool.false_eq_true, if_false] at q1 ⊢
      exact wpAny_execs_nil (hR _ _ ⟨ρ₁, .next, st₁, .next, R1, S1, q1⟩)
    | true =>
      simp only [if_true] at q1 ⊢
      refine wpAny_mono (hS hA R1 (EO.mono S1.pre) q1) (fun f s₂ hh' => RetF.el hh' fun ρ₂ fl st₂ hfl R2 S2 q2 => ?_) fun _ _ z => z
      cases hfl with
      | next => exact while_ok hB hS hA m R2 (EO.mono (S1.pre.trans S2.pre)) q2 fun f s' h' => hR f s' (h'.after (S1.trans S2))
      | brk => exact hR _ _ ⟨ρ₂, .next, st₂, .next, R2, S1.trans S2, q2⟩
      | ret hv => exact hR _ _ ⟨ρ₂, _, st₂, .ret hv, R2, S1.trans S2, q2⟩
theorem for_ok {t : CT} {b : CSs} {tx : PySem.Expr} {x : List Stmt} {src : Src} {its : List AV} {I : Addr} {It : Nat → Heap → Prop} {R : Result → Shared → Prop} {Q : Fl → St → Prop} {ρ₀ : List Addr} {s₀ : Shared} (hT : ST G T call n fx t tx) (hS : SSs G T call n fx b x) (hA : AOk A n)
    (W : WalkR G ρ₀ src its I It) (hIL : I ≠ L) (hIP : I ≠ G.P) (hI0 : G.h₀.get? I = none) :
    ∀ (rest : List AV) (i : Nat) {ρ : List Addr} {st : St} {s : Shared}, its.drop i = rest → i ≤ its.length → StepX G L (· = I) ρ₀ s₀ ρ s → Rep G ρ L fx.ln st s → EnvOk G ρ L fx cl env → I ∉ ρ → It i s.heap →
      forT src its (fun x s₂ k => evT T call cl t x s₂ fun s₃ => exs T call cl b s₃ k) rest st Q →
      (∀ f fl ρ' st' s', StepX G L (· = I) ρ₀ s₀ ρ' s' → Rep G ρ' L fx.ln st' s' → FR G ρ' fl f → Q fl st' → R (.ok f) s') → codeAny (MM G) A (.forLoop tx (.ref I) x [] env) R s
  | [], i, ρ, st, s, hd, hle, S, Rr, EO, hIρ, hit, h, hR => by
    have hi : i = its.length := by
      have := List.length_drop (l := its) (i := i)
      rw [hd] at this; simp at this; lia
    subst hi
    skip
    refine for_turn (W.done hA.hh S.pre Rr h.1 hIρ hit fun h' tk hk => wpAny_execs_nil ?_)
    obtain ⟨o, _, vs, ho, _, _, hdd, hv⟩ := W.obj _ _ hit
    exact hR _ .next ρ st _ (S.foreign rfl hk) (Rr.foreign hIρ hIL hIP hI0 hk (fun o' vs' q u e1 e2 e3 => by rw [ho] at e1; cases e1; rw [hdd] at e2; cases e2; exact hv q u e3)) .next h.2
  | x :: r', i, ρ, st, s, hd, hle, S, Rr, EO, hIρ, hit, h, hR => by
    skip
    obtain ⟨h1, h2⟩ := h
    have hx : its[i]? = some x := by
      have := List.getElem?_drop (xs := its) (i := i) (j := 0)
      rw [hd] at this; simpa using this.symm
    have hd' : its.drop (i + 1) = r' := by
      have := List.drop_drop (l := its) (i := 1) (j := i)
      rw [hd] at this; simpa [Nat.add_comm] using this.symm
    refine for_turn (W.item i x hA.hh S.pre hx Rr h1 hIρ hit fun v h' tk hv hit' hk => ?_)
    obtain ⟨o, _, vs, ho, _, _, hdd, hvv⟩ := W.obj _ _ hit
    obtain ⟨o', Tn, vs', ho', hc', hp', hd2, _⟩ := W.obj _ _ hit'
    have R1 := Rr.foreign (t := tk) hIρ hIL hIP hI0 hk (fun o' vs' q u e1 e2 e3 => by rw [ho] at e1; cases e1; rw [hdd] at e2; cases e2; exact hvv q u e3)
    have S1 := S.foreign (I := I) (h' := h') (t := tk) rfl hk
    refine letOwned (s := { s with heap := h', toks := tk }) ho' hc' hp' hd2 ?_
    refine wpAny_mono (hT hA R1 EO hv h2) (fun _ s₂ hh' => RetU.el hh' fun ρ₂ st₂ R2 S2 h3 => ?_) fun _ _ z => z
    obtain ⟨hit2, hI2⟩ := W.keepI S2 hit' hIρ hIL hIP
    refine wpAny_mono (hS hA R2 (EO.mono S2.pre) h3) (fun f s₃ hh' => RetF.el hh' fun ρ₃ fl st₃ hfl R3 S3 h4 => ?_) fun _ _ z => z
    obtain ⟨hit3, hI3⟩ := W.keepI S3 hit2 hI2 hIL hIP
    have S13 : StepX G L (· = I) ρ₀ s₀ ρ₃ s₃ := (S1.trans (.of S2) (fun b e => by subst e; exact hI2)).trans (.of S3) (fun b e => by subst e; exact hI3)
    have hlt : i + 1 ≤ its.length := (List.getElem?_eq_some_iff.mp hx).1
    cases hfl with
    | next => exact for_ok hT hS hA W hIL hIP hI0 r' (i + 1) hd' hlt S13 R3 (EO.mono (S2.pre.trans S3.pre)) hI3 hit3 h4 hR
    | brk => exact hR _ .next _ _ _ S13 R3 .next h4
    | ret hv => exact hR _ _ _ _ _ S13 R3 (.ret hv) h4
end Mine

set_option Elab.async false
set_option genSizeOf false
set_option genInjectivity false
set_option backward.match.sparseCases false
set_option bootstrap.genMatcherCode false
set_option tactic.hygienic false
set_option linter.unusedVariables false
set_option maxRecDepth 100000
namespace Mine
open PySem PySem.Calls PyProof.Rows PySem.W PySem.SeqAt

noncomputable def asExpr : (x : Stmt) → As x fun t : PySem.Expr × Pos => .Expr t.1 t.2
  | .Expr e p => some ⟨(e, p), rfl⟩
  | _ => none
noncomputable def asRet : (x : Stmt) → As x fun t : PySem.Expr × Pos => .Return (some t.1) t.2
  | .Return (some e) p => some ⟨(e, p), rfl⟩
  | _ => none
noncomputable def asAsg : (x : Stmt) → As x fun t : List PySem.Expr × PySem.Expr × Pos => .Assign t.1 t.2.1 t.2.2
  | .Assign ts e p => some ⟨(ts, e, p), rfl⟩
  | _ => none
noncomputable def asAug : (x : Stmt) → As x fun t : PySem.Operator × EP × Pos => .AugAssign t.2.1.1 t.1 t.2.1.2 t.2.2
  | .AugAssign a o e p => some ⟨(o, (a, e), p), rfl⟩
  | _ => none
noncomputable def asIf : (x : Stmt) → As x fun t : PySem.Expr × (List Stmt × List Stmt) × Pos => .If t.1 t.2.1.1 t.2.1.2 t.2.2
  | .If c a b p => some ⟨(c, (a, b), p), rfl⟩
  | _ => none
noncomputable def asWhl : (x : Stmt) → As x fun t : PySem.Expr × List Stmt × Pos => .While t.1 t.2.1 [] t.2.2
  | .While c a [] p => some ⟨(c, a, p), rfl⟩
  | _ => none
noncomputable def asFor : (x : Stmt) → As x fun t : EP × List Stmt × Pos => .For t.1.1 t.1.2 t.2.1 [] t.2.2
  | .For a b c [] p => some ⟨((a, b), c, p), rfl⟩
  | _ => none
noncomputable def asBrk : (x : Stmt) → As x fun p : Pos => .Break p
  | .Break p => some ⟨p, rfl⟩
  | _ => none

noncomputable def isCel : CT → Bool
  | .cel _ => true
  | _ => false
noncomputable def isCompC : CE → Bool
  | .comp .. => true
  | _ => false
noncomputable def one1 (f : PySem.Expr → Bool) : List PySem.Expr → Bool
  | [x] => f x
  | _ => false
noncomputable def more2 : List PySem.Expr → Bool
  | _ :: _ :: _ => true
  | _ => false
noncomputable def tup2 (fx : Fx) (i j : Nat) (l : Nat) (ts : List PySem.Expr) : Bool :=
  two2 (fun a => seen (asName a) fun u => isLoc fx u.1 i && u.2.line == l) (fun a => seen (asName a) fun u => isLoc fx u.1 j && u.2.line == l) ts
noncomputable def useOk (fx : Fx) (i : Nat) (tx : PySem.Expr) (e : PySem.Expr) : Bool := seen (asName tx) fun u => isLoc fx u.1 i && seen (asComp e) fun t => u.2.line == t.p.line && !(t.scope.names.any fun (n, k) => n == u.1 && (k == .local || k == .cell))

section
variable (T : Tb)
mutual
noncomputable def chkS (fx : Fx) : CS → Stmt → Bool
  | .expr c, x => seen (asExpr x) fun t => notComp t.1 && chkE T fx c t.1
  | .ret c, x => seen (asRet x) fun t => chkE T fx c t.1
  | .asg tt c, x => seen (asAsg x) fun t => one1 (fun tx => (notComp t.2.1 || isCel tt) && (notTuple tx || notTuple t.2.1) && chkT T fx tt tx) t.1 && chkE T fx c t.2.1
  | .asgs ts c, x => seen (asAsg x) fun t => more2 t.1 && chkTs T fx ts t.1 && chkE T fx c t.2.1
  | .swap i j a b, x => seen (asAsg x) fun t => one1 (fun tx => seen (asTup tx) fun u => seen (asTup t.2.1) fun v => tup2 fx i j (u.1.head?.map (·.pos.line) |>.getD 0) u.1 && i != j && !(v.1.all (foldedForSure 8)) && !(v.1.all (constantsAlone 8)) &&
      chkEs T fx (.cons a (.cons b .nil)) v.1) t.1
  | .use i c, x => seen (asAsg x) fun t => isCompC c && one1 (fun tx => useOk fx i tx t.2.1) t.1 && chkE T fx c t.2.1
  | .augl i o c, x => seen (asAug x) fun t => seen (asName t.2.1.1) fun u => isLoc fx u.1 i && t.1 == opOf o && chkE T fx c t.2.1.2
  | .augi o i b c, x => seen (asAug x) fun t => seen (asSub t.2.1.1) fun u => notSlice u.1.2 && t.1 == opOf b && chkE T fx o u.1.1 && chkE T fx i u.1.2 && chkE T fx c t.2.1.2
  | .ife c a b, x => seen (asIf x) fun t => chkB T fx c t.1 && chkSs fx a t.2.1.1 && chkSs fx b t.2.1.2
  | .whl c b, x => seen (asWhl x) fun t => chkB T fx c t.1 && chkSs fx b t.2.1
  | .for tt it b, x => seen (asFor x) fun t => notSet t.1.2 && chkT T fx tt t.1.1 && chkI T fx it t.1.2 && chkSs fx b t.2.1
  | .brk, x => seen (asBrk x) fun _ => true
noncomputable def chkSs (fx : Fx) : CSs → List Stmt → Bool
  | .nil, xs => xs.isEmpty
  | .cons c r, xs => match xs with
    | x :: xs => chkS fx c x && chkSs fx r xs
    | [] => false
end
end

variable {l : Nat} {G : Gl} {T : Tb} {call : CallT} {n : Nat} {fx : Fx} {ρ ρ₁ : List Addr} {A : Around} {L : Addr} {ln : List Str} {st : St} {s s₁ : Shared} {cl : List Nat} {env : Env} {E : Value → Shared → Prop}
theorem one1_inv {f : PySem.Expr → Bool} {es : List PySem.Expr} (h : one1 f es = true) : ∃ x, es = [x] ∧ f x = true := by
  match es, h with
  | [x], h => exact ⟨x, rfl, h⟩
theorem sw_plain {e : PySem.Expr} (h : notComp e = true) (t : Option PySem.Expr) (l : Nat) (env : Env) : swapsWith e t l env = pure false := by
  cases e <;> first | rfl | cases h
theorem inter_fn {env : Env} (h : env.scope.kind = .function) : interactive env = false := by unfold interactive; rw [h]; rfl
theorem sw_cell {e : PySem.Expr} {x : Str} {p : Pos} {l : Nat} {env : Env} (h : env.kindOf x ≠ some .local) : swapsWith e (some (.Name x p)) l env = pure false := by
  have hk : (env.kindOf x == some .local) = false := by simpa using h
  cases e <;> first | rfl | (unfold swapsWith; simp [hk])
theorem swst2 (x x' : PySem.Expr) (xs : List PySem.Expr) (e : PySem.Expr) (env : Env) : swappedStores (x :: x' :: xs) e env = pure none := by
  cases x <;> first | rfl | (cases e <;> rfl)
theorem aug_plain {i : PySem.Expr} (h : notSlice i = true) (ov iv new : Value) : augStore i ov iv new = (do holding [new, ov, iv] (setItem ov iv new); release [new, ov, iv] []; pure .next) := by
  cases i <;> first | rfl | cases h
noncomputable def isLst : PySem.Expr → Bool
  | .List .. => true
  | _ => false
/-- a target of the small language is no list display -/
theorem tgt_form {t : CT} {e : PySem.Expr} (h : chkT T fx t e = true) : isStar e = false ∧ ∀ v, (notTuple e = true ∨ notTuple v = true) → ∀ env, swappedStores [e] v env = pure none := by
  have key : isStar e = false ∧ isLst e = false := by
    cases t with
    | loc i => obtain ⟨t, q, _⟩ := seen_inv (show tLoc fx i e = true from h); rw [q]; exact ⟨rfl, rfl⟩
    | cel i => obtain ⟨t, q, _⟩ := seen_inv (show tCel fx i e = true from h); rw [q]; exact ⟨rfl, rfl⟩
    | attr c k => obtain ⟨t, q, _⟩ := seen_inv (show tAttr T (chkE T fx c) k e = true from h); rw [q]; exact ⟨rfl, rfl⟩
    | item c i => obtain ⟨t, q, _⟩ := seen_inv (show cItem (chkE T fx c) (chkE T fx i) e = true from h); rw [q]; exact ⟨rfl, rfl⟩
    | sfrom c i => obtain ⟨t, q, _⟩ := seen_inv (show cSfrom (chkE T fx c) (chkE T fx i) e = true from h); rw [q]; exact ⟨rfl, rfl⟩
    | tup ts => obtain ⟨t, q, _⟩ := seen_inv (show cTup (chkTs T fx ts) e = true from h); rw [q]; exact ⟨rfl, rfl⟩
  refine ⟨key.1, fun v hv env => ?_⟩
  have h2 := key.2
  cases e with
  | List => exact noB h2.symm
  | Tuple => exact hv.elim noB fun hv => by cases v <;> first | rfl | exact noB hv
  | _ => rfl
theorem ss_expr {c : CE} {f : PySem.Expr → Bool} {x : Stmt} (hc : Snd G T call n fx c f) (h : (seen (asExpr x) fun t => notComp t.1 && f t.1) = true) : SS G T call n fx (.expr c) x := by
  intro ρ A L st s cl env Q E hA R EO hv
  obtain ⟨⟨e, p⟩, rfl, h⟩ := seen_inv h
  obtain ⟨h1, h2⟩ := and1 h
  skip
  rw [exec_Expr env _ _ (inter_fn EO.kind) (sw_plain h1 _ _ _)]
  refine wpAny_bind (wpAny_standAt (wpAny_bind (wpAny_mono (hc _ h2 hA R EO hv) (fun v s₁ h => ?_) fun _ _ z => z)))
  refine Ret.el h fun ρ₁ x st₁ hx R1 S1 q1 => ?_
  exact wpAny_dropValue ⟨ρ₁, .next, st₁, .next, R1, S1, q1⟩
theorem ss_ret {c : CE} {f : PySem.Expr → Bool} {x : Stmt} (hc : Snd G T call n fx c f) (h : (seen (asRet x) fun t => f t.1) = true) : SS G T call n fx (.ret c) x := by
  intro ρ A L st s cl env Q E hA R EO hv
  obtain ⟨⟨e, p⟩, rfl, h⟩ := seen_inv h
  skip
  refine wpAny_Return_some (wpAny_mono (hc _ h hA R EO hv) (fun v s₁ h => ?_) fun _ _ z => z)
  refine Ret.el h fun ρ₁ x st₁ hx R1 S1 q1 => ?_
  exact ⟨ρ₁, _, st₁, .ret hx, R1, S1, q1⟩
theorem ss_asg {tt : CT} {c : CE} {x : Stmt} (hf : FxOk fx) (ht : SndT G T call n fx tt (chkT T fx tt)) (hc : Snd G T call n fx c (chkE T fx c))
    (h : (seen (asAsg x) fun t => one1 (fun tx => (notComp t.2.1 || isCel tt) && (notTuple tx || notTuple t.2.1) && chkT T fx tt tx) t.1 && chkE T fx c t.2.1) = true) : SS G T call n fx (.asg tt c) x := by
  intro ρ A L st s cl env Q E hA R EO hv
  obtain ⟨⟨ts, e, pos⟩, rfl, h⟩ := seen_inv h
  obtain ⟨hh, h4⟩ := and1 h
  obtain ⟨tx, h0, hh1⟩ := one1_inv hh
  obtain ⟨h1, h2, h3⟩ := and2 hh1
  dsimp only at h0 h1 h2 h3 h4 ⊢
  subst h0
  obtain ⟨t1, t2⟩ := tgt_form h3
  have hst : (assignEach [tx] env).map (·.2) = [assign tx env] := by rw [astar1 t1]; rfl
  have hs0 : swapsWithSole [tx] e pos.line env = pure false := by
    show swapsWith e (some tx) pos.line env = pure false
    rcases Bool.or_eq_true_iff.mp h1 with h1 | h1
    · exact sw_plain h1 _ _ _
    · cases tt with
      | cel j =>
        rw [chkT] at h3
        obtain ⟨t, rfl, h3⟩ := seen_inv h3
        exact sw_cell (by rw [EO.kindOf, beq_iff_eq.mp (and1 h3).1]; simp)
      | _ => cases h1
  skip
  refine wpAny_Assign_stores (wpAny_mono (hc _ h4 hA R EO hv) (fun v s₁ h => ?_) fun _ _ z => z) hs0 (t2 _ (Bool.or_eq_true_iff.mp h2) env)
  refine Ret.el h fun ρ₁ x st₁ hx R1 S1 q1 => ?_
  rw [hst]
  refine wpAny_mono (ht _ h3 hA R1 (EO.mono S1.pre) hx q1) (fun _ s₂ h => ?_) fun _ _ z => z
  refine RetU.el h fun ρ₂ st₂ R2 S2 q2 => ?_
  exact ⟨ρ₂, .next, st₂, .next, R2, S1.trans S2, q2⟩
theorem assignAll_ok (W : TbOk G T) (H : CallOk G n call) (hf : FxOk fx) (hA : AOk A n) : ∀ {ts : CTs} {es : List PySem.Expr} {ρ : List Addr} {st : St} {s : Shared} {x : AV} {v : Value} {Q : St → Prop}, chkTs T fx ts es = true → Rep G ρ L fx.ln st s → EnvOk G ρ L fx cl env → VR G ρ x v →
    evAll T call cl ts x st Q → wpAny (MM G) A (assignAll v (es.map fun e => assign e env)) (fun _ => RetU G ρ L fx.ln s Q) E s
  | .nil, es, ρ, st, s, x, v, Q, h, R, EO, hx, hv => by
    rw [chkTs] at h
    cases es with
    | cons _ _ => cases h
    | nil => rw [evAll] at hv; exact wpAny_pure ⟨ρ, st, R, .rfl, hv⟩
  | .cons t r, es, ρ, st, s, x, v, Q, h, R, EO, hx, hv => by
    rw [chkTs] at h
    obtain ⟨e, es, rfl, h1, h2⟩ := two_inv h
    skip
    have h1 := t_ok W H t fx hf e (and1 h1).2 hA R EO hx hv (E := E)
    cases es with
    | nil =>
      refine wpAny_mono h1 (fun _ s₁ h => ?_) fun _ _ z => z
      refine RetU.el h fun ρ₁ st₁ R1 S1 q1 => ?_
      cases r with
      | cons _ _ => rw [chkTs] at h2; cases h2
      | nil => rw [evAll] at q1; exact ⟨ρ₁, st₁, R1, S1, q1⟩
    | cons e' es =>
      refine wpAny_bind (wpAny_holding (wpAny_mono h1 (fun _ s₁ h => ?_) fun _ _ z => z))
      refine RetU.el h fun ρ₁ st₁ R1 S1 q1 => ?_
      exact wretU S1 (assignAll_ok W H hf hA h2 R1 (EO.mono S1.pre) (hx.mono S1.pre) q1)
theorem ss_asgs (W : TbOk G T) (H : CallOk G n call) {ts : CTs} {c : CE} {x : Stmt} (hf : FxOk fx) (h : (seen (asAsg x) fun t => more2 t.1 && chkTs T fx ts t.1 && chkE T fx c t.2.1) = true) : SS G T call n fx (.asgs ts c) x := by
  intro ρ A L st s cl env Q E hA R EO hv
  obtain ⟨⟨es, e, pos⟩, rfl, h⟩ := seen_inv h
  obtain ⟨h0, h1, h2⟩ := and2 h
  dsimp only at h0 h1 h2 ⊢
  obtain ⟨x, x', xs, rfl⟩ : ∃ x x' xs, es = x :: x' :: xs := by
    match es, h0 with
    | x :: x' :: xs, _ => exact ⟨x, x', xs, rfl⟩
  skip
  refine wpAny_Assign_stores (wpAny_mono (e_ok W H c fx hf _ h2 hA R EO hv) (fun v s₁ h => ?_) fun _ _ z => z) rfl (swst2 ..)
  refine Ret.el h fun ρ₁ y st₁ hx R1 S1 q1 => ?_
  rw [astar_of ((ts_ok W H ts fx hf _ h1).1.1), List.map_map]
  refine wpAny_mono (assignAll_ok W H hf hA h1 R1 (EO.mono S1.pre) hx q1) (fun _ s₂ h => ?_) fun _ _ z => z
  refine RetU.el h fun ρ₂ st₂ R2 S2 q2 => ?_
  exact ⟨ρ₂, .next, st₂, .next, R2, S1.trans S2, q2⟩
set_option backward.match.sparseCases true
theorem kk {e : PySem.Expr} (h : isStar e = false) : (match (generalizing := false) e with | .Starred .. => true | _ => false) = false := by
  cases e <;> first | rfl | exact noB h.symm
theorem swst_fin {f : PySem.Expr → Option Str} {a b : PySem.Expr} {x y : Str} {A B : Prop} [Decidable A] [Decidable B] {V W : Sem (Option (List Str))} (h1 : f a = some x) (h2 : f b = some y) (hxy : x ≠ y) (hA : ¬ A) (hB : ¬ B) :
    (if (([a, b].filterMap f).length != [a, b].length || ([a, b].filterMap f).eraseDups.length != ([a, b].filterMap f).length) = true then V else if A then V else if B then W else pure (some ([a, b].filterMap f))) = pure (some [x, y]) := by
  rw [show [a, b].filterMap f = [x, y] from by rw [List.filterMap_cons_some h1, List.filterMap_cons_some h2]; rfl, if_neg hA, if_neg hB]
  exact if_neg (by rw [List.eraseDups_cons, List.filter_cons_of_pos (by simpa using Ne.symm hxy)]; exact Bool.false_ne_true)
theorem swst_two {x y : Str} {p q up vp : Pos} {uk vk : Nat} {e1 e2 : PySem.Expr} {env : Env} (hk : env.scope.kind = .function) (hx : env.kindOf x = some .local) (hy : env.kindOf y = some .local) (hxy : x ≠ y) (hl : q.line = p.line) (s1 : isStar e1 = false) (s2 : isStar e2 = false)
    (f1 : [e1, e2].all (foldedForSure 8) = false) (f2 : [e1, e2].all (constantsAlone 8) = false) : swappedStores [.Tuple [.Name x p, .Name y q] uk up] (.Tuple [e1, e2] vk vp) env = pure (some [x, y]) := by
  have b1 : (env.kindOf x == some .local && p.line == p.line) = true := by rw [hx, beq_self_eq_true, beq_self_eq_true]; rfl
  have b2 : (env.kindOf y == some .local && q.line == p.line) = true := by rw [hy, hl, beq_self_eq_true, beq_self_eq_true]; rfl
  delta swappedStores
  refine (if_neg ?_).trans ((if_neg ?_).trans (swst_fin (if_pos b1) (if_pos b2) hxy (by rw [f1]; decide) (by rw [f2]; decide)))
  · show ¬ ((env.blockKind != .function) = true)
    rw [show env.blockKind = .function from by unfold Env.blockKind; rw [hk]; rfl]; decide
  · intro h
    rcases Bool.or_eq_true_iff.mp h with h | h
    · exact noB ((kk s1).symm.trans h)
    · exact noB (((congrArg (· || false) (kk s2)).symm).trans h)
set_option backward.match.sparseCases false
theorem ne_of_bne2 {a b : Nat} (h : (a != b) = true) : a ≠ b := bne_iff_ne.mp h
theorem evs_two {a b : CE} {Q : List AV → St → Prop} (hv : ev T call cl a st fun x s₁ => ev T call cl b s₁ fun y s₂ => Q [x, y] s₂) : evs T call cl (.cons a (.cons b .nil)) st Q := hv
/-- the two stores of a swap -/
theorem swap_stores (hA : AOk A n) {i j : Nat} {x y : Str} {u v : AV} {tv : Value} {ss : List (Value → Sem Unit)} {Q : Fl → St → Prop} (hf : FxOk fx) (R : Rep G ρ L fx.ln st s) (EO : EnvOk G ρ L fx cl env) (ht : VR G ρ (.loc l) tv) (hl : st.σ[l]? = some (.tup [u, v])) (kx : fx.names.lookup x = some .local) (x2 : fx.ln[i]? = some x) (ky : fx.names.lookup y = some .local) (y2 : fx.ln[j]? = some y)
    (hi : i < st.vars.length) (hj : j < st.vars.length) (hq : Q .next ⟨(st.vars.set j (some v)).set i (some u), st.σ⟩) : wpAny (MM G) A (assignStores env tv (some [x, y]) ss) (RetF G ρ L fx.ln s Q) E s := by
  obtain ⟨ta, tvs, tn, rfl, te, t1, t2⟩ := R.tup hl ht
  obtain ⟨w1, w2, rfl, hw1, hw2⟩ := t2.inv2
  show wpAny _ A (do rule "assign.swapped-stores"; let items ← unpackItems (.ref ta) 2 none; assignInOrder [bindName env y, bindName env x] items.reverse; pure Flow.next : Sem Flow) _ _ _
  refine wpAny_bind (wpAny_rule (wpAny_bind (wpAny_unpackItems_tuple (items := #[w1, w2]) hA.hh ⟨_, t1, rfl, _, rfl⟩ fun h' he => ?_)))
  obtain ⟨R3, S3⟩ := R.grow (t := s.toks) (h' := h') fun b o eb => he b o (Nat.ne_of_lt (Heap.lt_size eb)) eb
  refine wpAny_bind (wpAny_assignInOrder_more (wpAny_bindName (wpAny_mono (s_loc (Q := fun st' => st' = ⟨st.vars.set j (some v), st.σ⟩) R3 (EO.mono S3.pre) hf ky y2 (hw2.mono S3.pre) hj rfl) (fun _ s₄ h => RetU.el h fun ρ₄ st₄ R4 S4 e4 => ?_) fun _ _ z => z)))
  subst e4
  have S14 := S3.trans S4
  refine wpAny_assignInOrder_more (wpAny_bindName (wpAny_mono (s_loc (Q := fun st' => st' = ⟨(st.vars.set j (some v)).set i (some u), st.σ⟩) R4 (EO.mono S14.pre) hf kx x2 (hw1.mono S14.pre) (by rw [List.length_set]; exact hi) rfl) (fun _ s₅ h => RetU.el h fun ρ₅ st₅ R5 S5 e5 => ?_) fun _ _ z => z))
  subst e5
  exact wpAny_assignInOrder_none (wpAny_pure ⟨ρ₅, .next, _, .next, R5, S14.trans S5, hq⟩)
theorem ss_swap {i j : Nat} {a b : CE} {x : Stmt} (hf : FxOk fx) (hab : SndL G T call n fx (.cons a (.cons b .nil)) (chkEs T fx (.cons a (.cons b .nil))))
    (h : (seen (asAsg x) fun t => one1 (fun tx => seen (asTup tx) fun u => seen (asTup t.2.1) fun v => tup2 fx i j (u.1.head?.map (·.pos.line) |>.getD 0) u.1 && i != j && !(v.1.all (foldedForSure 8)) && !(v.1.all (constantsAlone 8)) && chkEs T fx (.cons a (.cons b .nil)) v.1) t.1) = true) :
    SS G T call n fx (.swap i j a b) x := by
  intro ρ A L st s cl env Q E hA R EO hv
  obtain ⟨⟨ts, e, pos⟩, rfl, h⟩ := seen_inv h
  obtain ⟨tx, h0, h⟩ := one1_inv h
  obtain ⟨⟨us, uk, up⟩, q1, h⟩ := seen_inv h
  obtain ⟨⟨vs, vk, vp⟩, q2, h⟩ := seen_inv h
  have c := and1 h
  have d := and3 c.1
  obtain ⟨ex, ey, q3, g1, g2⟩ := two2_inv d.1
  obtain ⟨⟨x, p⟩, q4, g1⟩ := seen_inv g1
  obtain ⟨⟨y, q⟩, q5, g2⟩ := seen_inv g2
  have gx := and1 (and1 g1).1; have gy := and1 (and1 g2).1
  obtain ⟨hns, hE⟩ := hab _ c.2
  obtain ⟨e1, es1, q6, _, h6⟩ := two_inv (f := fun e => !isStar e && chkE T fx a e) c.2
  obtain ⟨e2, es2, q7, _, h7⟩ := two_inv (f := fun e => !isStar e && chkE T fx b e) h6
  have q8 := List.isEmpty_iff.mp h7
  dsimp only at h0 q1 q2 q3 q4 q5 q6 d c hns hE
  subst q8 q7 q6 q5 q4 q3 q2 q1 h0
  have kx := eq_of_beq gx.1; have ky := eq_of_beq gy.1
  have hxy : x ≠ y := fun q => ne_of_bne2 d.2.1 (nodup_inj hf.ln (eq_of_beq gx.2) (q ▸ eq_of_beq gy.2))
  have hsw : swappedStores [.Tuple [.Name x p, .Name y q] uk up] (.Tuple [e1, e2] vk vp) env = pure (some [x, y]) :=
    swst_two EO.kind ((EO.kindOf x).trans kx) ((EO.kindOf y).trans ky) hxy (eq_of_beq (and1 g2).2) hns.1 hns.2.1 (not1 d.2.2.1) (not1 d.2.2.2)
  rw [exec_Assign_arm]
  refine wpAny_bind (wpAny_standAt ?_)
  rw [show swapsWithSole [PySem.Expr.Tuple [.Name x p, .Name y q] uk up] (PySem.Expr.Tuple [e1, e2] vk vp) pos.line env = pure false from rfl]
  refine wpAny_bind (wpAny_pure ?_)
  rw [if_neg (by decide)]
  rw [arm_eval_Tuple, star_of hns, back_of]
  refine wpAny_bind (wpAny_bind (wpAny_standAt (wpAny_bind (wpAny_mono (hE (Q := fun vs s₁ => on2 vs fun u v => (i < s₁.vars.length ∧ j < s₁.vars.length) ∧ Q .next ⟨(s₁.vars.set j (some v)).set i (some u), s₁.σ ++ [AO.tup [u, v]]⟩) hA R EO (evs_two hv)) (fun vs s₁ h => RetVs.el h fun ρ₁ as st₁ hvs R1 S1 q0 => ?_) fun _ _ z => z))))
  obtain ⟨u, v, qa, q1, q2⟩ := on2_p q0
  rw [qa] at hvs
  refine wpAny_mono (p_newTuple (Q := fun z st' => z = .loc st₁.σ.length ∧ st' = ⟨st₁.vars, st₁.σ ++ [.tup [u, v]]⟩) R1 hvs (by rw [sizeLine_eq]; exact Nat.le_of_ble_eq_true rfl) ⟨rfl, rfl⟩) (fun tv s₂ h => Ret.el h fun ρ₂ z st₂ hz R2 S2 q3 => ?_) fun _ _ z => z
  rw [q3.1] at hz; rw [q3.2] at R2
  rw [hsw]
  have S12 := S1.trans S2
  refine wpAny_bind (wpAny_pure (wpAny_mono (swap_stores (Q := Q) hA hf R2 (EO.mono S12.pre) hz List.getElem?_concat_length kx (eq_of_beq gx.2) ky (eq_of_beq gy.2) q1.1 q1.2 q2) (fun f s₃ h => h.after S12) fun _ _ z => z))
end Mine

set_option Elab.async false
set_option genSizeOf false
set_option genInjectivity false
set_option backward.match.sparseCases false
set_option bootstrap.genMatcherCode false
set_option tactic.hygienic false
set_option linter.unusedVariables false
set_option maxRecDepth 100000
namespace Mine
open PySem PySem.Calls PyProof.Rows PySem.W PySem.SeqAt
variable {G : Gl} {T : Tb} {call : CallT} {n : Nat} {fx : Fx} {ρ ρ₁ : List Addr} {A : Around} {L : Addr} {ln : List Str} {st : St} {s s₁ : Shared} {cl : List Nat} {env : Env} {E : Value → Shared → Prop}

structure CompI where
  up : List Nat
  own : Nat
  nl : Nat
  t : CT
  it : CI
  ifs : CEs
  r : CLs
theorem isCompC_ {c : CE} (h : isCompC c = true) : ∃ x : CompI, c = .comp x.up x.own x.nl x.t x.it x.ifs x.r := by
  cases c with
  | comp up own nl t it ifs r => exact ⟨⟨up, own, nl, t, it, ifs, r⟩, rfl⟩
  | _ => exact noB h
theorem ss_use (W : TbOk G T) (H : CallOk G n call) (hf : FxOk fx) {i : Nat} {c : CE} {x : Stmt}
    (h : (seen (asAsg x) fun t => isCompC c && one1 (fun tx => useOk fx i tx t.2.1) t.1 && chkE T fx c t.2.1) = true) : SS G T call n fx (.use i c) x := by
  intro ρ A L st s cl env Q E hA R EO hv
  obtain ⟨⟨ts, e, pos⟩, rfl, h⟩ := seen_inv h
  obtain ⟨hic, h1, h2⟩ := and2 h
  obtain ⟨⟨up, own, nl, t, it, ifs, r⟩, hc⟩ := isCompC_ hic
  subst hc
  obtain ⟨tx, h0, h3⟩ := one1_inv h1
  dsimp only at h0 h2 h3 ⊢
  subst h0
  obtain ⟨⟨x, px⟩, rfl, h4⟩ := seen_inv h3
  obtain ⟨hl, h5⟩ := and1 h4
  obtain ⟨⟨elt, tx, ix, ifx, gens, scope, cpos⟩, rfl, h6⟩ := seen_inv h5
  obtain ⟨h7, h8⟩ := and1 h6
  obtain ⟨l1, l2⟩ := and1 hl
  dsimp only at h7 h8 l1 l2 h2 ⊢
  have l1 := beq_iff_eq.mp l1; have l2 := beq_iff_eq.mp l2
  have hsw : swapsWith (.ListComp elt (⟨tx, ix, ifx, 0⟩ :: gens) scope cpos) (some (.Name x px)) pos.line env = pure true := by
    have hb : env.blockKind = .function := by unfold Env.blockKind; rw [EO.kind]; rfl
    have kx : env.kindOf x = some .local := (EO.kindOf x).trans l1
    unfold swapsWith
    simp only [hb, kx, h8, beq_self_eq_true, Bool.true_and, Bool.and_true]
    rw [show (px.line == (PySem.Expr.ListComp elt (⟨tx, ix, ifx, 0⟩ :: gens) scope cpos).pos.line) = true from h7]
  obtain ⟨⟨elt', tx', ix', ifx', gens', scope', cpos'⟩, he, h9⟩ := seen_inv (show cComp fx up own nl (fun e => notSet e && chkI T fx it e) (fun fx => chkT T fx t) (fun fx => chkIfs T fx ifs) (fun fx => chkC T fx r) _ = true from h2)
  dsimp only at he h9
  cases he
  obtain ⟨c1, c2, c3, c4⟩ := and3 h9
  obtain ⟨c2, c5⟩ := and1 c2
  obtain ⟨c4, c6⟩ := and1 c4
  unfold okComp at c1
  simp only [Bool.and_eq_true, beq_iff_eq, List.all_eq_true, Bool.or_eq_true, bne_iff_ne, ne_eq, okFx, decide_eq_true_eq] at c1
  obtain ⟨⟨⟨⟨⟨⟨g1, g2⟩, g3⟩, g4⟩, g5⟩, g6⟩, g7⟩ := c1
  have hf' : FxOk (compFx fx scope) := ⟨g7.1, g7.2⟩
  rw [exec_Assign_Name_used _ _ _ _ hsw]
  have hv : ev T call cl (.comp up own nl t it ifs r) st (fun v s₁ => i < s₁.vars.length ∧ Q .next ⟨s₁.vars.set i (some v), s₁.σ⟩) := hv
  refine wpAny_bind (wpAny_standAt (wpAny_bind ?_))
  show wpAny _ A (do let _ ← comprehension (.ListComp elt (⟨tx, ix, ifx, 0⟩ :: gens) scope cpos) scope env ix.pos (newList []) false (eval ix env) (some (assign (.Name x px) env))) _ _ s
  refine wpAny_bind (wpAny_mono (comp_core (use := some (assign (.Name x px) env)) (Qf := fun _ s' => RetF G ρ L fx.ln s Q .next s') hf hf' g1 (fun x hx hl => (g2 x hx).resolve_left fun q => q hl) g3 g4 g5 (fun x hx => g6 x hx) (fun env x => fs_plain c2 env x) (i_ok W H it fx hf _ c5) (t_ok W H t _ hf' _ c3)
    (if_ok W H ifs _ hf' _ c4) (c_ok W H r _ hf' _ _ _ _ _ _ rfl c6) hA R EO hv ?_) (fun _ s' hq => wpAny_pure (wpAny_pure hq)) fun _ _ z => z)
  intro ρ' st' s' C D a R' S' hD k1 k2 k3 k4 k5 hm hq
  obtain ⟨m, hm⟩ := hm
  show wpAny _ A (assign (.Name x px) env (.ref a)) _ _ _
  refine wpAny_assign_Name (wpAny_mono (s_loc (Q := fun st'' => Q .next st'') R' (EO.mono S'.pre) hf l1 l2 (.loc hD) hq.1 hq.2) (fun _ s'' h => ?_) fun _ _ z => z)
  refine RetU.el h fun ρ'' st'' R'' S'' hq' => ?_
  have hC : ∃ m, s''.heap.Ns C m := by
    obtain ⟨oC, es, ep, hoC, hdC, hr⟩ := hm
    exact ⟨m, oC, es, ep, S''.keep C oC hoC k1 k2 k3, hdC, hr⟩
  have hCn : C ∉ ρ'' := fun q => (S''.new C q).elim k1 fun z => by obtain ⟨oC, es, ep, hoC, _⟩ := hm; rw [z] at hoC; cases hoC
  obtain ⟨m', hm'⟩ := hC
  refine ⟨m', hm', fun h' hs => ?_⟩
  obtain ⟨oC, es, ep, hoC, hdC, _⟩ := hm'
  have hk : ∀ b o, b ≠ C → s''.heap.get? b = some o → h'.get? b = some o := fun b o hb e => (hs.2 b hb).trans e
  have R3 := R''.foreign (t := s''.toks) hCn k2 k3 k4 hk (fun o vs q u e1 e2 => by rw [hoC] at e1; cases e1; rw [hdC] at e2; cases e2)
  have S3 := S'.trans S''
  have hne : ∀ b o, s.heap.get? b = some o → b ≠ C := fun b o e q => by rw [q, k5] at e; cases e
  exact ⟨ρ'', .next, st'', .next, R3, ⟨S3.pre, fun b o e x1 x2 x3 => hk b o (hne b o e) (S3.keep b o e x1 x2 x3), fun b o e => let ⟨o', e'⟩ := S3.live b o e; ⟨o', hk b o' (hne b o e) e'⟩, S3.new, S3.os⟩, hq'⟩
theorem ss_augl {i : Nat} {o : Bop} {c : CE} {f : PySem.Expr → Bool} {x : Stmt} (hf : FxOk fx) (hc : Snd G T call n fx c f) (h : (seen (asAug x) fun t => seen (asName t.2.1.1) fun u => isLoc fx u.1 i && t.1 == opOf o && f t.2.1.2) = true) : SS G T call n fx (.augl i o c) x := by
  intro ρ A L st s cl env Q E hA R EO hv
  obtain ⟨⟨op, ⟨a, e⟩, p⟩, rfl, hh⟩ := seen_inv h
  obtain ⟨⟨x, q⟩, he, hh1⟩ := seen_inv hh
  dsimp only at he hh1 ⊢
  subst he
  obtain ⟨h1, h2, h4⟩ := and2 hh1
  obtain ⟨h1, h3⟩ := and1 h1
  cases beq_iff_eq.mp h2
  have h1 := beq_iff_eq.mp h1; have h3 := beq_iff_eq.mp h3
  obtain ⟨x0, hvv, hv⟩ := onVar_p hv
  ·
    refine wpAny_AugAssign_Name (wpAny_mono (l_loc (Q := fun a st' => a = _ ∧ st' = st) R EO h1 h3 hvv ⟨rfl, rfl⟩) (fun v s₁ h => ?_) fun _ _ z => z)
    obtain ⟨ρ₁, x, st₁, hx, R1, S1, e1, e2⟩ := h
    subst e1; subst e2
    refine wpAny_mono (hc _ h4 hA R1 (EO.mono S1.pre) hv) (fun w s₂ h => ?_) fun _ _ z => z
    refine Ret.el h fun ρ₂ y st₂ hy R2 S2 q2 => ?_
    refine wpAny_mono (augV_ok (Q := fun v st' => _ < st'.vars.length ∧ Q .next ⟨st'.vars.set _ (some v), st'.σ⟩) R2 (hx.mono S2.pre) hy q2) (fun u s₃ h => ?_) fun _ _ z => z
    refine Ret.el h fun ρ₃ z st₃ hz R3 S3 q3 => ?_
    have S := (S1.trans S2).trans S3
    refine wpAny_mono (s_loc R3 (EO.mono S.pre) hf h1 h3 hz q3.1 q3.2) (fun _ s₄ h => ?_) fun _ _ z => z
    refine RetU.el h fun ρ₄ st₄ R4 S4 q4 => ?_
    exact ⟨ρ₄, .next, st₄, .next, R4, S.trans S4, q4⟩
theorem ss_augi (W : TbOk G T) {o i c : CE} {b : Bop} {f g k : PySem.Expr → Bool} {x : Stmt} (ho : Snd G T call n fx o f) (hi : Snd G T call n fx i g) (hc : Snd G T call n fx c k)
    (h : (seen (asAug x) fun t => seen (asSub t.2.1.1) fun u => notSlice u.1.2 && t.1 == opOf b && f u.1.1 && g u.1.2 && k t.2.1.2) = true) : SS G T call n fx (.augi o i b c) x := by
  intro ρ A L st s cl env Q E hA R EO hv
  obtain ⟨⟨op, ⟨a, e⟩, p⟩, rfl, hh⟩ := seen_inv h
  obtain ⟨⟨⟨x, y⟩, q⟩, he, hh1⟩ := seen_inv hh
  dsimp only at he hh1 ⊢
  subst he
  obtain ⟨hh1, h5⟩ := and1 hh1
  obtain ⟨h1, h2, h3, h4⟩ := and3 hh1
  cases beq_iff_eq.mp h2
  skip
  refine wpAny_AugAssign_SubscriptAny (both hA (ho _ h3) (hi _ h4) R EO hv fun ho hi R2 S2 q2 => ?_) (aug_plain h1)
  obtain ⟨old, e1, q3⟩ := onO_some q2
  refine wpAny_mono (itemG_ok (Q := fun a st' => a = old ∧ st' = _) W R2 ho hi e1 ⟨rfl, rfl⟩) (fun vo s₃ h => ?_) fun _ _ z => z
  obtain ⟨ρ₃, a, st₃, ha, R3, S3, e2, e3⟩ := h
  subst e2; subst e3
  have S123 := S2.trans S3
  refine wpAny_mono (hc _ h5 hA R3 (EO.mono S123.pre) q3) (fun w s₄ h => ?_) fun _ _ z => z
  refine Ret.el h fun ρ₄ y st₄ hy R4 S4 q4 => ?_
  refine wpAny_mono (augV_ok (Q := fun v st' => onO (setItemV _ _ v st'.σ) fun σ => Q .next ⟨st'.vars, σ⟩) R4 (ha.mono S4.pre) hy q4) (fun u s₅ h => ?_) fun _ _ z => z
  refine Ret.el h fun ρ₅ z st₅ hz R5 S5 q5 => ?_
  obtain ⟨σ', e4, q6⟩ := onO_some q5
  have S := (S123.trans S4).trans S5
  have S' := S3.pre.trans (S4.pre.trans S5.pre)
  refine wpAny_mono (setItemV_ok (Q := fun st' => Q .next st') R5 (ho.mono S') (hi.mono S') hz e4 q6) (fun _ s₆ h => ?_) fun _ _ z => z
  refine RetU.el h fun ρ₆ st₆ R6 S6 q7 => ?_
  exact ⟨ρ₆, .next, st₆, .next, R6, S.trans S6, q7⟩
noncomputable abbrev SndSs (G : Gl) (T : Tb) (call : CallT) (n : Nat) (fx : Fx) (c : CSs) : Prop := ∀ x, chkSs T fx c x = true → SSs G T call n fx c x
theorem ss_ife {c : CE} {f : PySem.Expr → Bool} {a b : CSs} {x : Stmt} (hc : SndB G T call n fx c f) (ha : SndSs G T call n fx a) (hb : SndSs G T call n fx b)
    (h : (seen (asIf x) fun t => f t.1 && chkSs T fx a t.2.1.1 && chkSs T fx b t.2.1.2) = true) : SS G T call n fx (.ife c a b) x := by
  intro ρ A L st s cl env Q E hA R EO hv
  obtain ⟨t, rfl, hh⟩ := seen_inv h
  obtain ⟨h1, h2, h3⟩ := and2 hh
  skip
  refine wpAny_If (wpAny_mono (hc _ h1 hA R EO hv) (fun t s₁ h => ?_) fun _ _ z => z)
  refine RetU.el h fun ρ₁ st₁ R1 S1 q1 => ?_
  cases t with
  | true => exact wretF S1 (ha _ h2 hA R1 (EO.mono S1.pre) q1)
  | false => exact wretF S1 (hb _ h3 hA R1 (EO.mono S1.pre) q1)
theorem ss_whl {c : CE} {f : PySem.Expr → Bool} {a : CSs} {x : Stmt} (hc : SndB G T call n fx c f) (ha : SndSs G T call n fx a) (h : (seen (asWhl x) fun t => f t.1 && chkSs T fx a t.2.1) = true) : SS G T call n fx (.whl c a) x := by
  intro ρ A L st s cl env Q E hA R EO hv
  obtain ⟨t, rfl, hh⟩ := seen_inv h
  obtain ⟨h1, h2⟩ := and1 hh
  skip
  obtain ⟨m, hv⟩ := hv
  exact wpAny_While (while_ok (hc _ h1) (ha _ h2) hA m R EO hv fun f s' h' => h')
theorem ss_for {tt : CT} {it : CI} {b : CSs} {ft fi : PySem.Expr → Bool} {x : Stmt} (ht : SndT G T call n fx tt ft) (hi : SndI G T call n fx it fi) (hb : SndSs G T call n fx b) (h : (seen (asFor x) fun t => notSet t.1.2 && ft t.1.1 && fi t.1.2 && chkSs T fx b t.2.1) = true) : SS G T call n fx (.for tt it b) x := by
  intro ρ A L st s cl env Q E hA R EO hv
  obtain ⟨t, rfl, hh⟩ := seen_inv h
  obtain ⟨h1, h2, h3, h4⟩ := and3 hh
  skip
  refine wpAny_For (wpAny_mono (hi _ h3 hA R EO hv) (fun v s₁ h₁ => wpAny_mono h₁ (fun itv s₂ h₂ => ?_) fun _ _ z => z) fun _ _ z => z) (fun x => fs_plain h1 env x)
  obtain ⟨ρ₂, st₂, src, its, I, It, rfl, R2, S2, W', hit, hIs, hI2, h3'⟩ := h₂
  have hIL : I ≠ L := fun q => by obtain ⟨m, ⟨o, _, _, e, _⟩, _⟩ := R.frame; rw [← q, hIs] at e; cases e
  have hIP : I ≠ G.P := fun q => by obtain ⟨ps, e, _⟩ := R.tab; rw [← q, hIs] at e; cases e
  have hI0 : G.h₀.get? I = none := by
    cases q : G.h₀.get? I with
    | none => rfl
    | some o => have := R.base I o q; rw [hIs] at this; cases this
  exact for_ok (s₀ := s₂) (ρ₀ := ρ₂) (ht _ h2) (hb _ h4) hA W' hIL hIP hI0 its 0 rfl (Nat.zero_le _) (.of .rfl) R2 (EO.mono S2.pre) hI2 hit h3' fun f fl ρ' st' s' SX R' hfl hq =>
    ⟨ρ', fl, st', hfl, R', StepX.close S2 SX (fun b e => by subst e; exact hIs), hq⟩
theorem ss_brk {x : Stmt} (h : (seen (asBrk x) fun _ => true) = true) : SS G T call n fx .brk x := by
  intro ρ A L st s cl env Q E hA R EO hv
  obtain ⟨p, rfl, _⟩ := seen_inv h
  skip
  exact wpAny_bind (wpAny_standAt (wpAny_pure ⟨ρ, .brk, st, .brk, R, .rfl, hv⟩))

noncomputable abbrev N1 (G : Gl) (T : Tb) (call : CallT) (n : Nat) (fx : Fx) (c : CS) : Prop := ∀ x, chkS T fx c x = true → SS G T call n fx c x
noncomputable abbrev N2 (G : Gl) (T : Tb) (call : CallT) (n : Nat) (fx : Fx) (c : CSs) : Prop := ∀ x, chkSs T fx c x = true → SSs G T call n fx c x
theorem sls_nil (x : List Stmt) (h : chkSs T fx .nil x = true) : SSs G T call n fx .nil x := (List.isEmpty_iff.mp h : x = []) ▸ ss_nil
theorem sls_cons {c : CS} {r : CSs} (hc : N1 G T call n fx c) (hr : N2 G T call n fx r) (x : List Stmt) (h : chkSs T fx (.cons c r) x = true) : SSs G T call n fx (.cons c r) x := by
  cases x with
  | nil => exact noB h
  | cons x xs => exact ss_cons (hc x (and1 (a := chkS T fx c x) h).1) (hr xs (and1 (a := chkS T fx c x) h).2)
theorem sl_ok (W : TbOk G T) (H : CallOk G n call) (hf : FxOk fx) (c : CSs) : ∀ (x : List Stmt), chkSs T fx c x = true → SSs G T call n fx c x :=
  CSs.rec (motive_1 := N1 G T call n fx) (motive_2 := N2 G T call n fx)
    (fun c x h => ss_expr (e_ok W H c fx hf) h)
    (fun c x h => ss_ret (e_ok W H c fx hf) h)
    (fun t c x h => ss_asg hf (t_ok W H t fx hf) (e_ok W H c fx hf) h)
    (fun t c x h => ss_asgs W H hf h)
    (fun i j a b x h => ss_swap hf (es_ok W H _ fx hf) h)
    (fun i c x h => ss_use W H hf h)
    (fun i o c x h => ss_augl hf (e_ok W H c fx hf) h)
    (fun o i b c x h => ss_augi W (e_ok W H o fx hf) (e_ok W H i fx hf) (e_ok W H c fx hf) h)
    (fun c a b A B x h => ss_ife (b_ok W H c fx hf) A B h)
    (fun c b B x h => ss_whl (b_ok W H c fx hf) B h)
    (fun t it b B x h => ss_for (t_ok W H t fx hf) (i_ok W H it fx hf) B h)
    (fun x h => ss_brk h)
    sls_nil
    (fun c r A B => sls_cons A B) c
end Mine

set_option Elab.async false
set_option genSizeOf false
set_option genInjectivity false
set_option backward.match.sparseCases false
set_option bootstrap.genMatcherCode false
set_option tactic.hygienic false
set_option linter.unusedVariables false
set_option maxRecDepth 100000
namespace Mine
open PySem PySem.Calls PyProof.Rows PySem.W PySem.SeqAt
variable {M : Model} {A : Around} {E : Value → Shared → Prop} {s : Shared}
theorem zip_some : ∀ {names : List Str} {vs : List Value} {n : Str} {k : Nat}, k ≤ vs.length → n ∈ names.take k → ∃ v, (names.zip vs).lookup n = some v
  | [], _, _, _, _, h => by simp at h
  | x :: names, [], n, k, hk, h => by
    have : k = 0 := by simpa using hk
    subst this; simp at h
  | x :: names, v :: vs, n, 0, hk, h => by simp at h
  | x :: names, v :: vs, n, k + 1, hk, h => by
    rw [List.take_succ_cons] at h
    rw [List.zip_cons_cons, List.lookup_cons]
    by_cases e : n = x
    · subst e; exact ⟨v, by simp⟩
    · rw [(by simpa using e : (n == x) = false)]
      exact zip_some (k := k) (by simpa using hk) ((List.mem_cons.mp h).resolve_left e)
theorem zip_none {α : Type} {n : Str} {names : List Str} {vs : List α} (h : n ∉ names) : (names.zip vs).lookup n = none := by
  induction names generalizing vs with
  | nil => rfl
  | cons x names ih =>
    cases vs with
    | nil => rfl
    | cons v vs =>
      have e : n ≠ x := fun e => h (e ▸ .head _)
      rw [List.zip_cons_cons, List.lookup_cons, (by simpa using e : (n == x) = false)]
      exact ih fun q => h (.tail _ q)
theorem zip_take : ∀ (names : List Str) (vs : List Value), names.zip vs = (names.take vs.length).zip vs
  | [], vs => by simp
  | x :: names, [] => by simp
  | x :: names, v :: vs => by rw [List.zip_cons_cons, List.length_cons, List.take_succ_cons, List.zip_cons_cons, zip_take names vs]
theorem fm_congr {α β : Type} {f g : α → Option β} : ∀ {l : List α}, (∀ x ∈ l, f x = g x) → l.filterMap f = l.filterMap g
  | [], _ => rfl
  | x :: l, h => by rw [List.filterMap_cons, List.filterMap_cons, h x (.head _), fm_congr fun y hy => h y (.tail _ hy)]
theorem zip_names : ∀ {names : List Str} {vs : List Value}, names.Nodup → vs.length = names.length → names.filterMap (fun n => ((names.zip vs).lookup n).map (n, ·)) = names.zip vs
  | [], vs, _, _ => by simp
  | x :: names, [], _, h => by simp at h
  | x :: names, v :: vs, hn, h => by
    obtain ⟨n1, n2⟩ := List.nodup_cons.mp hn
    have ih := zip_names (names := names) (vs := vs) n2 (by simpa using h)
    rw [List.filterMap_cons, List.zip_cons_cons]
    simp only [List.lookup_cons, beq_self_eq_true, Option.map_some]
    congr 1
    refine Eq.trans (fm_congr fun n hn => ?_) ih
    have e : n ≠ x := fun e => n1 (e ▸ hn)
    rw [(by simpa using e : (n == x) = false)]
/-- the turns that lay the defaults -/
theorem defs_loop {ps : List (Str × Value)} : ∀ {acc : List (Str × Value)}, (∀ p ∈ ps, acc.lookup p.1 = none) → (ps.map (·.1)).Nodup →
    (forIn ps acc fun (x : Str × Value) (r : List (Str × Value)) => if (r.lookup x.1).isNone = true then pure (ForInStep.yield (r ++ [(x.1, x.2)])) else pure (ForInStep.yield r) : Sem (List (Str × Value))) = pure (acc ++ ps) := by
  induction ps with
  | nil => intro acc _ _; rw [List.append_nil]; rfl
  | cons p ps ih =>
    intro acc h hn
    rw [List.map_cons] at hn
    obtain ⟨n1, n2⟩ := List.nodup_cons.mp hn
    rw [List.forIn_cons, if_pos (by rw [h p (.head _)]; rfl), pure_bind]
    dsimp only
    rw [ih (fun q hq => ?_) n2, List.append_assoc]; rfl
    rw [List.lookup_append, h q (.tail _ hq)]
    have : q.1 ≠ p.1 := fun e => n1 (e ▸ List.mem_map_of_mem hq)
    simp [List.lookup_cons, (by simpa using this : (q.1 == p.1) = false)]
theorem defs_loop0 {ps : List (Str × Value)} {acc : List (Str × Value)} (h : ∀ p ∈ ps, ∃ v, acc.lookup p.1 = some v) :
    (forIn ps acc fun (x : Str × Value) (r : List (Str × Value)) => if (r.lookup x.1).isNone = true then pure (ForInStep.yield (r ++ [(x.1, x.2)])) else pure (ForInStep.yield r) : Sem (List (Str × Value))) = pure acc := by
  induction ps with
  | nil => rfl
  | cons p ps ih =>
    obtain ⟨v, e⟩ := h p (.head _)
    rw [List.forIn_cons, if_neg (by rw [e]; simp), pure_bind]
    exact ih fun q hq => h q (.tail _ hq)
/-- the arguments are bound -/
theorem binds_of {fd : FuncData} {vs ds : List Value} {od : Option (Array Value)} {Q : List (Str × Value) → Shared → Prop} {names : List Str} (hp : fd.params.posonlyargs = []) (hv : fd.params.vararg = none) (hk : fd.params.kwonlyargs = []) (hn : fd.params.args.map (·.arg) = names)
    (hnd : names.Nodup) (hd : ∀ {Q : Option (Array Value) → Shared → Prop}, Q od s → wpAny M A (seqItems? fd.defaults) Q E s) (hds : (od.getD #[]).toList = ds) (hle : ds.length ≤ names.length)
    (hl : vs.length = names.length ∨ vs.length + ds.length = names.length)
    (h : match fd.params.kwarg with
      | none => Q (names.zip (if vs.length = names.length then vs else vs ++ ds)) s
      | some a => Q (names.zip (if vs.length = names.length then vs else vs ++ ds) ++ [(a.arg, .ref s.heap.objs.size)]) { s with heap := s.heap.push { cls := .type "dict", data := .dict #[] } }) : wpAny M A (bindArgs fd ⟨vs, []⟩) Q E s := by
  have hf : names.length - ds.length ≤ vs.length := by lia
  have loop : (forIn ((names.drop (names.length - ds.length)).zip ds) (names.zip vs) fun (x : Str × Value) (r : List (Str × Value)) => if (r.lookup x.1).isNone = true then pure (ForInStep.yield (r ++ [(x.1, x.2)])) else pure (ForInStep.yield r) : Sem (List (Str × Value))) = pure (names.zip (if vs.length = names.length then vs else vs ++ ds)) := by
    by_cases e : vs.length = names.length
    · rw [if_pos e, defs_loop0 fun p hp => ?_]
      have := (List.of_mem_zip hp).1
      exact zip_some (k := names.length) (by lia) (by rw [List.take_length]; exact List.mem_of_mem_drop this)
    · have e2 : vs.length = names.length - ds.length := by lia
      have hsp : names = names.take vs.length ++ names.drop vs.length := (List.take_append_drop _ _).symm
      have hnd' := hnd
      rw [hsp] at hnd'
      obtain ⟨_, n2, n3⟩ := List.nodup_append.mp hnd'
      have hz := zip_take names vs
      have d1 : ∀ p ∈ (names.drop vs.length).zip ds, (names.zip vs).lookup p.1 = none := fun p hp => by
        rw [hz]
        exact zip_none fun q => n3 _ q _ (List.of_mem_zip hp).1 rfl
      have d2 : (((names.drop vs.length).zip ds).map Prod.fst).Nodup := by
        rw [List.map_fst_zip (by rw [List.length_drop]; lia)]; exact n2
      have d3 : (names.drop vs.length).length = ds.length := by rw [List.length_drop]; lia
      rw [if_neg e, ← e2, defs_loop d1 d2, hz, ← List.zip_append (by rw [List.length_take]; lia), List.take_append_drop]
  have hfull : (if vs.length = names.length then vs else vs ++ ds).length = names.length := by split <;> (try rw [List.length_append]) <;> lia
  have hmiss : (!(List.filter (fun n => (List.lookup n (names.zip vs)).isNone) (List.take (names.length - (List.drop (ds.length - names.length) ds).length) names)).isEmpty) = false := by
    rw [Bool.not_eq_false', List.isEmpty_iff, List.filter_eq_nil_iff]
    intro n hn
    rw [show ds.length - names.length = 0 from by lia, List.drop_zero] at hn
    obtain ⟨v, e⟩ := zip_some hf hn
    rw [e]; simp
  unfold bindArgs
  dsimp only
  refine wpAny_bind (m := pure (_, _)) (wpAny_pure ?_)
  dsimp only
  rw [hp, hv, hk, List.map_nil, List.nil_append, hn]
  refine wpAny_bind (hd ?_)
  rw [hds]
  refine w_neg (by simp; lia) (w_neg (by rw [hmiss]; simp) ?_)
  rw [show ds.length - names.length = 0 from by lia, List.drop_zero]
  refine wpAny_bind (wpAny_of_eq loop (wpAny_bind (m := pure (_, _)) (wpAny_pure (w_neg (by simp) ?_))))
  dsimp only
  rw [List.append_nil, zip_names hnd hfull]
  cases hkw : fd.params.kwarg with
  | none => rw [hkw] at h; exact wpAny_pure h
  | some a =>
    rw [hkw] at h
    refine w_neg (by simp) (wpAny_bind (wpAny_alloc (wpAny_bind (m := pure _) (wpAny_pure (wpAny_pure h)))))
end Mine

set_option Elab.async false
set_option genSizeOf false
set_option genInjectivity false
set_option backward.match.sparseCases false
set_option bootstrap.genMatcherCode false
set_option tactic.hygienic false
set_option linter.unusedVariables false
set_option maxRecDepth 100000
namespace Mine
open PySem PySem.Calls PyProof.Rows PySem.W PySem.SeqAt

noncomputable abbrev boundObj (bt id : String) (x : Addr) : Obj := { cls := .type bt, data := .fields #[.builtin id, .ref x] }
theorem slot_mget : Slot "method_descriptor" "__get__" "method_descriptor.__get__" := .of (owner := "method_descriptor") (n := "__get__") (by rw [typeLookup_type, builtinLookup_eq_fast]; kernel_rfl) (by decide +kernel) (by decide +kernel) (by decide +kernel)
  (by first | exact .inl (by decide +kernel) | exact .inr (by decide +kernel)) (by rw [isSubtype_type]; kernel_rfl)
theorem entry_mget : entryFor table "method_descriptor.__get__" = some Builtin.«method_descriptor.__get__» := entryFor_of_tree (by kernel_rfl)
theorem args_mget (a b c : Value) : argsOk "method_descriptor.__get__" ⟨[a, b, c], []⟩ := by unfold argsOk; kernel_rfl
theorem slot_wget : Slot "wrapper_descriptor" "__get__" "wrapper_descriptor.__get__" := .of (owner := "wrapper_descriptor") (n := "__get__") (by rw [typeLookup_type, builtinLookup_eq_fast]; kernel_rfl) (by decide +kernel) (by decide +kernel) (by decide +kernel)
  (by first | exact .inl (by decide +kernel) | exact .inr (by decide +kernel)) (by rw [isSubtype_type]; kernel_rfl)
theorem entry_wget : entryFor table "wrapper_descriptor.__get__" = some Builtin.«wrapper_descriptor.__get__» := entryFor_of_tree (by kernel_rfl)
theorem args_wget (a b c : Value) : argsOk "wrapper_descriptor.__get__" ⟨[a, b, c], []⟩ := by unfold argsOk; kernel_rfl

section
variable {prog : Program} {w : World} {M : Model} {A : Around} {E : Value → Shared → Prop} {s : Shared} {h : Heap} {x C D so : Addr} {K : Frag}
/-- how a built-in descriptor is bound -/
structure Binds1 (prog : Program) (w : World) (id bt : String) (name : Str) : Prop where
  typ : ∃ ty g, typeOf (.builtin id) = pure (.type ty) ∧ typeLookup (.type ty) "__get__" = pure (some (.builtin g)) ∧
    ∀ {A : Around} {E : Value → Shared → Prop} {s : Shared} {x C : Addr} {Q : Value → Shared → Prop}, Looks (model prog w) s.heap (isInstance (.ref x) (.type "list")) true → Q (.ref s.heap.objs.size) { s with heap := s.heap.push (boundObj bt id x) } → wpAny (model prog w) A (call (.builtin g) [.builtin id, .ref x, .ref C]) Q E s
  cls : bt = "builtin_function_or_method" ∨ bt = "method-wrapper"
theorem owner_pop : (kfb_private% "ownerAndName") "list.pop" = ("list", "pop") := by decide +kernel
theorem owner_len : (kfb_private% "ownerAndName") "list.__len__" = ("list", "__len__") := by decide +kernel
theorem owner_init : (kfb_private% "ownerAndName") "list.__init__" = ("list", "__init__") := by decide +kernel
theorem chk_inst {id n : String} {Q : Unit → Shared → Prop} (h3 : (kfb_private% "ownerAndName") id = ("list", n)) (hi : Looks M s.heap (isInstance (.ref x) (.type "list")) true) (h : Q () s) : wpAny M A ((kfb_private% "checkInstance") (.builtin id) (.ref x)) Q E s := by
  refine wpAny_bind (m := (kfb_private% "nameAndClass") (.builtin id)) (wpAny_of_eq (a := (Str.ofString n, Value.type "list")) ?_ ?_)
  · show (match (kfb_private% "ownerAndName") id with | (owner, name) => (pure (Str.ofString name, Value.type owner) : Sem (Str × Value))) = _
    rw [h3]
  · exact wpAny_bind (hi.here (wpAny_pure h))
theorem bind_m {id n : String} {name : Str} (h1 : typeOf (.builtin id) = pure (.type "method_descriptor")) (h2 : Manifest.toldItsClass.contains id = false) (h3 : (kfb_private% "ownerAndName") id = ("list", n)) : Binds1 prog w id "builtin_function_or_method" name := by
  refine ⟨⟨_, _, h1, slot_mget.lookup, fun {A E s x C Q} hi hq => ?_⟩, .inl rfl⟩
  refine wpAny_call_entry slot_mget (T := "method_descriptor") h1 entry_mget ?_ (args_mget _ _ _)
  unfold Builtin.«method_descriptor.__get__»
  refine wpAny_bind (wpAny_of_eq (a := (.builtin id, some (.ref x), some (.ref C))) rfl ?_)
  refine w_neg (by rw [h2]; decide) ?_
  exact wpAny_bind (chk_inst h3 hi (wpAny_bind (wpAny_newObj_type (wpAny_pure ⟨_, rfl, hq⟩) (by size_fits))))
theorem bind_w {id n : String} {name : Str} (h1 : typeOf (.builtin id) = pure (.type "wrapper_descriptor")) (h3 : (kfb_private% "ownerAndName") id = ("list", n)) : Binds1 prog w id "method-wrapper" name := by
  refine ⟨⟨_, _, h1, slot_wget.lookup, fun {A E s x C Q} hi hq => ?_⟩, .inr rfl⟩
  refine wpAny_call_entry slot_wget (T := "wrapper_descriptor") h1 entry_wget ?_ (args_wget _ _ _)
  unfold Builtin.«wrapper_descriptor.__get__»
  refine wpAny_bind (wpAny_of_eq (a := (.builtin id, some (.ref x), some (.ref C))) rfl ?_)
  exact wpAny_bind (chk_inst h3 hi (wpAny_bind (wpAny_newObj_type (wpAny_pure ⟨_, rfl, hq⟩) (by size_fits))))
theorem binds_pop : Binds1 prog w "list.pop" "builtin_function_or_method" "pop" := bind_m (by kernel_rfl) (by decide +kernel) owner_pop
theorem binds_len : Binds1 prog w "list.__len__" "method-wrapper" "__len__" := bind_w (by kernel_rfl) owner_len
theorem binds_init : Binds1 prog w "list.__init__" "method-wrapper" "__init__" := bind_w (by kernel_rfl) owner_init
theorem super_ga {l₀ l : List Value} {name : Str} {tk : Tok} {id bt : String} {g : Array GenState} {d : Drawn} {t : Nat} {os : OsState} {Q : PySem.Fin → Shared → Prop}
    (hso : h.get? so = some (ks_superObj D x C)) (hno : Looks (model prog w) h (opaqueClassAbove (.ref C)) none)
    (hC : Looks (model prog w) h (mroOf (.ref C)) l₀) (hl : (l₀.dropWhile (· != .ref D)).drop 1 = l) (X : K.In h)
    (hf : alongIn K name l = some (some (.builtin id))) (B : Binds1 prog w id bt name) (hi : Looks (model prog w) h (isInstance (.ref x) (.type "list")) true) (hxC : x ≠ C) (hn : (name == ("__class__" : Str)) = false)
    (hq : Q (.done (.ret (.ref h.objs.size))) ⟨h.push (boundObj bt id x), g, d, t, os⟩) :
    wpAny (model prog w) A (Builtin.«super.__getattribute__» ⟨[.ref so, .str name tk], []⟩) Q E ⟨h, g, d, t, os⟩ := by
  obtain ⟨⟨ty, gid, b1, b2, b3⟩, _⟩ := B
  have hne : (Value.ref x == Value.ref C) = false := by simp [hxC]
  have hdt : (ks_superObj D x C).data = .fields #[.ref D, .ref x, .ref C] := rfl
  have f0 : (#[.ref D, .ref x, .ref C] : Array Value)[0]? = some (.ref D) := rfl
  have f1 : (#[.ref D, .ref x, .ref C] : Array Value)[1]? = some (.ref x) := rfl
  have f2 : (#[.ref D, .ref x, .ref C] : Array Value)[2]? = some (.ref C) := rfl
  unfold Builtin.«super.__getattribute__»
  repeat (first
    | (with_reducible refine wpAny_field hso hdt f0 ?_) | (with_reducible refine wpAny_field hso hdt f1 ?_) | (with_reducible refine wpAny_field hso hdt f2 ?_)
    | (with_reducible refine ks_wpAny_notOpaque hno ?_)
    | (with_reducible refine Looks.at hC ?_; rw [hl])
    | (refine ks_forIn_along X (fun _ _ => rfl) rfl ?_ hf)
    | (with_reducible refine wpAny_of_eq b1 ?_)
    | (with_reducible refine wpAny_of_eq b2 ?_)
    | (with_reducible refine b3 hi ?_)
    | (simp only [hn, hne, Bool.or_false, Bool.false_eq_true, if_false])
    | wp_step
    | dsimp only)
  all_goals exact hq
theorem super_method {l₀ l : List Value} {name : Str} {id bt : String} {g : Array GenState} {d : Drawn} {t : Nat} {os : OsState} {pl : Sem Bool} {Q : Value × List Value → Shared → Prop}
    (hso : h.get? so = some (ks_superObj D x C)) (hno : Looks (model prog w) h (opaqueClassAbove (.ref C)) none)
    (hC : Looks (model prog w) h (mroOf (.ref C)) l₀) (hl : (l₀.dropWhile (· != .ref D)).drop 1 = l) (X : K.In h)
    (hf : alongIn K name l = some (some (.builtin id))) (B : Binds1 prog w id bt name) (hi : Looks (model prog w) h (isInstance (.ref x) (.type "list")) true) (hxC : x ≠ C) (hn : (name == ("__class__" : Str)) = false)
    (hq : Q (.ref h.objs.size, []) ⟨h.push (boundObj bt id x), g, d, t + 1, os⟩) :
    wpAny (model prog w) A (getMethod (.ref so) name pl) Q E ⟨h, g, d, t, os⟩ := by
  have hlk := F.ks_slot_super_ga.lookup
  have hcan := F.ks_canon_super_ga
  have hT : ∀ t', (⟨h, g, d, t', os⟩ : Shared).TypeIs (.ref so) "super" := fun _ => ⟨_, hso, rfl⟩
  unfold getMethod
  refine wpAny_bind (wpAny_specialOf (hT _) hlk ?_)
  show wpAny _ _ (if (Manifest.canonical "super.__getattribute__" != "object.__getattribute__") = true then _ else _) _ _ _
  rw [if_pos hcan]
  unfold getAttr getAttrBy
  refine wpAny_bind (wpAny_bind (wpAny_mkText (wpAny_holding (wpAny_bind (wpAny_typeOf (hT _) (wpAny_bind (wpAny_of_eq hlk ?_)))))))
  show wpAny _ _ (getAttrByItsOwn (.ref so) (.str name t) (.type "super") (.builtin "super.__getattribute__") true false) _ _ _
  unfold getAttrByItsOwn hookBefore callGetattribute boundAndCalled
  refine wpAny_bind (wpAny_of_eq (show (if onTheHeap (.type "super") then typeLookup (.type "super") "__getattr__" else pure none) = pure none from rfl) ?_)
  refine wpAny_bind (wpAny_attempt (wpAny_holding ?_))
  show wpAny _ _ (bindSpecial (.builtin "super.__getattribute__") (.ref so) >>= _) _ _ _
  refine wpAny_bind (wpAny_of_eq (F.ks_slot_super_ga.bind _) ?_)
  refine wpAny_mono (Q := fun v s' => v = .ref h.objs.size ∧ s' = ⟨h.push (boundObj bt id x), g, d, t + 1, os⟩) (E := fun _ _ => False)
    (wpAny_call_entry F.ks_slot_super_ga (hT _) F.ks_entry_super_ga (super_ga hso hno hC hl X hf B hi hxC hn ⟨_, rfl, rfl, rfl⟩) (F.ks_gaArgs_super _ _)) (fun v s' hv => ?_) fun _ _ z => z.elim
  obtain ⟨rfl, rfl⟩ := hv
  exact wpAny_pure (wpAny_pure hq)
/-- a bound built-in method is called -/
theorem call_bound {bt id : String} {b : Addr} {o : Obj} {B : Builtin} {Q : Value → Shared → Prop} (hb : s.heap.get? b = some (boundObj bt id x)) (hc : bt = "builtin_function_or_method" ∨ bt = "method-wrapper") (hx : s.heap.get? x = some o) (ho : o.cls = .ref C) (hi : Looks (model prog w) s.heap (checkBoundCall id ⟨[.ref x], []⟩) ()) (he : entryFor table id = some B) (hp : plainId id = true)
    (h : wpAny (model prog w) A.in1 (B ⟨[.ref x], []⟩) (fun fin s' => ∃ v, fin = .done (.ret v) ∧ Q v s') (fun _ _ => False) s) : wpAny (model prog w) A (call (.ref b) []) Q E s := by
  refine wpAny_call (codeAny_of_tree ?_)
  show wpAny _ A.in1 (callAny (.ref b) ⟨[], []⟩) _ _ _
  unfold callAny
  refine wpAny_bind (wpAny_load hb ?_)
  dsimp only
  refine w_pos (by rcases hc with rfl | rfl <;> decide) (w_pos (by rcases hc with rfl | rfl <;> decide) (wpAny_bind (hi.here ?_)))
  refine wpAny_pure ⟨plainId_quiet hp _, codeAny_builtin he ?_⟩
  rw [Around.under_plainId hp _]
  refine wpAny_mono h (fun fin s' h => ?_) fun _ _ z => z.elim
  obtain ⟨v, rfl, hq⟩ := h
  exact hq
end
end Mine

set_option Elab.async false
set_option genSizeOf false
set_option genInjectivity false
set_option backward.match.sparseCases false
set_option bootstrap.genMatcherCode false
set_option tactic.hygienic false
set_option linter.unusedVariables false
set_option maxRecDepth 100000
namespace Mine
open PySem PySem.Calls PyProof.Rows PySem.W PySem.SeqAt
variable {G : Gl} {T : Tb} {n : Nat} {ρ ρ₁ : List Addr} {A : Around} {L : Addr} {ln : List Str} {st : St} {s s₁ : Shared} {Q : AV → St → Prop} {E : Value → Shared → Prop}

theorem pile_push (W : TbOk G T) (R : Rep G ρ L ln st s) {l d : Nat} {C : Addr} {xs : List AV} {x : AV} {v w : Value} (h : st.σ[l]? = some (.acc C d xs)) (hv : VR G ρ (.loc l) v) (hw : VR G ρ x w) (hc : C ∈ T.accs) (hz : xs.length ≤ 4096)
    (hq : Q .none ⟨st.vars, st.σ.set l (.acc C d (xs ++ [x]))⟩) : wpAny (MM G) A (call (.builtin "list.append") [v, w]) (Ret G ρ L ln s Q) E s := by
  have K := W.acc C hc
  have X := R.K W.gl
  obtain ⟨a, dx, vs, n, rfl, e, ed, g1, g2⟩ := R.pile h hv
  refine call_pile (n := "append") (.inr (by decide +kernel)) (by decide +kernel) F.slot_list_append.plain F.entry_list_append (F.args_list_append_2 _ _) (pile_isList X K g1 rfl) (pile_append g1 (by rw [g2.length]; exact hz) ⟨_, rfl, ?_⟩)
  exact ret_pile R h e ed g1 (ws := vs ++ [w]) (by simp) (g2.append (.one hw)) .none hq
theorem mem_lookup {α β : Type} [BEq α] [LawfulBEq α] {l : List (α × β)} {a : α} {b : β} (h : l.lookup a = some b) : (a, b) ∈ l := by
  induction l with
  | nil => exact noS h
  | cons p r ih =>
    rw [List.lookup_cons] at h
    cases q : a == p.1 with
    | true => rw [q] at h; rw [eq_of_beq q, ← Option.some.inj h]; exact .head _
    | false => rw [q] at h; exact .tail _ (ih h)
/-- a built-in does what its contract says -/
noncomputable def BltOk (G : Gl) (T : Tb) (nm : String) (f : BF) : Prop := ∀ {ρ : List Addr} {A : Around} {L : Addr} {ln : List Str} {st : St} {s : Shared} {Q : AV → St → Prop} {E : Value → Shared → Prop} {as : List AV} {vs : List Value},
  A.handled = none → Rep G ρ L ln st s → VRs G ρ as vs → f T as st.σ (fun x σ => Q x ⟨st.vars, σ⟩) → wpAny (MM G) A (call (.builtin nm) vs) (Ret G ρ L ln s Q) E s
theorem small_line {n : Nat} (h : n ≤ 4096) : n ≤ sizeLine := by rw [sizeLine_eq]; exact Nat.le_trans h (by decide)
theorem small_len {n : Nat} (h : n < 1000000) : n < 2 ^ 62 := Nat.lt_trans h (by decide)
theorem blt_append (W : TbOk G T) : BltOk G T "list.append" bAppend := by
  intro ρ A L ln st s Q E as vs hh R hs h
  obtain ⟨a, v, ea, h⟩ := on2_p h
  rw [ea] at hs
  obtain ⟨va, vv, ev, ha, hv⟩ := hs.inv2
  obtain ⟨l, el, h⟩ := onLo_p h
  rw [el] at ha; rw [ev]
  rcases onV_or h with ⟨t, h1, h⟩ | h
  · exact pile_push W R h1 ha hv h.1.1 h.1.2 h.2
  · obtain ⟨xs, h1, h⟩ := onLst_p h
    exact p_append R h1 ha hv (small_line h.1) h.2
theorem blt_extend : BltOk G T "list.extend" bExtend := by
  intro ρ A L ln st s Q E as vs hh R hs h
  obtain ⟨a, v, ea, h⟩ := on2_p h
  rw [ea] at hs
  obtain ⟨va, vv, ev, ha, hv⟩ := hs.inv2
  obtain ⟨l, el, h⟩ := onLo_p h
  obtain ⟨m, em, h⟩ := onLo_p h
  rw [el] at ha; rw [em] at hv; rw [ev]
  obtain ⟨xs, h1, h⟩ := onLst_p h
  obtain ⟨ys, h2, h⟩ := onLst_p h
  exact p_extend R h1 h2 ha hv h.1 h.2
theorem blt_join : BltOk G T "str.join" bJoin := by
  intro ρ A L ln st s Q E as vs hh R hs h
  obtain ⟨a, v, ea, h⟩ := on2_p h
  rw [ea] at hs
  obtain ⟨va, vv, ev, ha, hv⟩ := hs.inv2
  obtain ⟨x, ex, h⟩ := onSt_p h
  obtain ⟨l, el, h⟩ := onLo_p h
  rw [ex] at ha; rw [el] at hv
  obtain ⟨t, et⟩ := ha.str_
  rw [ev, et]
  obtain ⟨xs, h1, h⟩ := onLst_p h
  obtain ⟨ys, e, h⟩ := onO_some h
  exact p_join R h1 hv e h.1 h.2
theorem blt_count : BltOk G T "str.count" bCount := by
  intro ρ A L ln st s Q E as vs hh R hs h
  obtain ⟨a, v, ea, h⟩ := on2_p h
  rw [ea] at hs
  obtain ⟨va, vv, ev, ha, hv⟩ := hs.inv2
  obtain ⟨x, ex, h⟩ := onSt_p h
  obtain ⟨y, ey, h⟩ := onSt_p h
  rw [ex] at ha; rw [ey] at hv
  obtain ⟨t, et⟩ := ha.str_
  obtain ⟨u, eu⟩ := hv.str_
  rw [ev, et, eu]; exact p_count_str R h
theorem blt_sum : BltOk G T "sum" bSum := by
  intro ρ A L ln st s Q E as vs hh R hs h
  obtain ⟨a, ea, h⟩ := on1_p h
  rw [ea] at hs
  obtain ⟨va, ev, ha⟩ := hs.inv1
  obtain ⟨l, el, h⟩ := onLo_p h
  rw [el] at ha; rw [ev]
  obtain ⟨xs, h1, h⟩ := onLst_p h
  obtain ⟨is, e, h⟩ := onO_some h
  exact p_sum R hh h1 ha e h
theorem blt_all : BltOk G T "all" bAll := by
  intro ρ A L ln st s Q E as vs hh R hs h
  obtain ⟨a, ea, h⟩ := on1_p h
  rw [ea] at hs
  obtain ⟨va, ev, ha⟩ := hs.inv1
  obtain ⟨l, el, h⟩ := onLo_p h
  rw [el] at ha; rw [ev]
  obtain ⟨xs, h1, h⟩ := onLst_p h
  obtain ⟨is, e, h⟩ := onO_some h
  exact p_all R hh h1 ha e h
theorem blt_min : BltOk G T "min" bMin := by
  intro ρ A L ln st s Q E as vs hh R hs h
  obtain ⟨a, v, ea, h⟩ := on2_p h
  rw [ea] at hs
  obtain ⟨va, vv, ev, ha, hv⟩ := hs.inv2
  obtain ⟨x, ex, h⟩ := onI_p h
  obtain ⟨y, ey, h⟩ := onI_p h
  rw [ex] at ha; rw [ey] at hv
  obtain ⟨t, et⟩ := ha.int_
  obtain ⟨u, eu⟩ := hv.int_
  rw [ev, et, eu]; exact p_min R hh h
theorem blt_max : BltOk G T "max" bMax := by
  intro ρ A L ln st s Q E as vs hh R hs h
  obtain ⟨a, v, ea, h⟩ := on2_p h
  rw [ea] at hs
  obtain ⟨va, vv, ev, ha, hv⟩ := hs.inv2
  obtain ⟨x, ex, h⟩ := onI_p h
  obtain ⟨y, ey, h⟩ := onI_p h
  rw [ex] at ha; rw [ey] at hv
  obtain ⟨t, et⟩ := ha.int_
  obtain ⟨u, eu⟩ := hv.int_
  rw [ev, et, eu]; exact p_max R hh h
theorem blt_len (W : TbOk G T) : BltOk G T "len" bLen := by
  intro ρ A L ln st s Q E as vs hh R hs h
  obtain ⟨a, ea, h⟩ := on1_p h
  rw [ea] at hs
  obtain ⟨va, ev, ha⟩ := hs.inv1
  rw [ev]
  rcases onV_or h with ⟨_, e, h⟩ | h
  · rw [e] at ha
    rw [ha.scr_]
    obtain ⟨its, ⟨o, go, gc, n, gd⟩, h1, h2, _⟩ := W.scr
    have e : its.size < 2 ^ 62 := Nat.lt_of_le_of_lt (sizeLine_eq ▸ h2) (by decide)
    exact call_len_list ⟨o, R.base _ _ go, gc, n, gd⟩ (by lia) (by rw [h1]; exact ret0 R (.int _ _) h)
  rcases onV_or h with ⟨x, e, h⟩ | h
  · rw [e] at ha
    obtain ⟨t, et⟩ := ha.str_
    rw [et]; exact p_len_str R (small_len h.1) h.2
  · obtain ⟨l, el, h⟩ := onLo_p h
    rw [el] at ha
    rcases onV_or h with ⟨xs, h1, h⟩ | h
    · exact p_len_list R h1 ha (small_len h.1) h.2
    · obtain ⟨xs, h1, h⟩ := onV_p h
      obtain ⟨_, vs, n, e, _, g1, g2⟩ := R.tup h1 ha
      rw [e]
      have e : vs.toArray.size = xs.length := List.size_toArray.trans g2.length
      have hl := small_len h.1
      exact len_tuple (ist g1) (by rw [e]; lia) (by rw [e]; exact ret0 R (.int _ _) h.2)
theorem blts_ok (W : TbOk G T) : ∀ p ∈ bltL, BltOk G T p.1 p.2 :=
  List.forall_mem_cons.mpr ⟨blt_append W, List.forall_mem_cons.mpr ⟨@blt_extend G T, List.forall_mem_cons.mpr ⟨@blt_join G T, List.forall_mem_cons.mpr ⟨@blt_count G T, List.forall_mem_cons.mpr ⟨@blt_sum G T, List.forall_mem_cons.mpr ⟨@blt_all G T, List.forall_mem_cons.mpr ⟨@blt_min G T, List.forall_mem_cons.mpr ⟨@blt_max G T, List.forall_mem_cons.mpr ⟨blt_len W, fun _ h => (List.not_mem_nil h).elim⟩⟩⟩⟩⟩⟩⟩⟩⟩
theorem bltV_ok (W : TbOk G T) (hh : A.handled = none) (R : Rep G ρ L ln st s) {nm : String} {as : List AV} {vs : List Value} (hs : VRs G ρ as vs) (h : bltV T nm as st.σ fun x σ => Q x ⟨st.vars, σ⟩) : wpAny (MM G) A (call (.builtin nm) vs) (Ret G ρ L ln s Q) E s :=
  (onV_p h).elim fun f h => blts_ok W _ (mem_lookup h.1) hh R hs h.2
theorem typV_ok (R : Rep G ρ L ln st s) {nm : String} {as : List AV} {vs : List Value} (hs : VRs G ρ as vs) (h : typV T nm as st.σ fun x σ => Q x ⟨st.vars, σ⟩) : wpAny (MM G) A (call (.type nm) vs) (Ret G ρ L ln s Q) E s := by
  obtain ⟨e, h⟩ := h
  obtain ⟨a, ea, h⟩ := on1_p h
  rw [ea] at hs
  obtain ⟨va, ev, ha⟩ := hs.inv1
  obtain ⟨l, el, h⟩ := onLo_p h
  rw [el] at ha; rw [ev, e]
  obtain ⟨xs, h1, h⟩ := onLst_p h
  exact p_tupleOf R h1 ha (small_line h.1) h.2
end Mine

set_option Elab.async false
set_option genSizeOf false
set_option genInjectivity false
set_option backward.match.sparseCases false
set_option bootstrap.genMatcherCode false
set_option tactic.hygienic false
set_option linter.unusedVariables false
set_option maxRecDepth 100000
namespace Mine
open PySem PySem.Calls PyProof.Rows PySem.W PySem.SeqAt
variable {G : Gl} {T : Tb} {n : Nat} {fx : Fx} {ρ ρ₁ : List Addr} {A : Around} {L : Addr} {ln : List Str} {st : St} {s s₁ : Shared} {cl : List Nat} {env : Env} {Q : AV → St → Prop} {E : Value → Shared → Prop}

/-! super()'s built-in methods of a pile -/
noncomputable def sigPop (full : String) : Manifest.Signature := ⟨.positional, full, "pop", .self, [⟨"index", .posOnly, false⟩]⟩
theorem sig_pop : Manifest.signature? "list.pop" = some (sigPop "list.pop") := by kernel_rfl
theorem args_bpop (full : String) (x : Value) (hf : (full != "*") = true) : Bind.checkArgs "list.pop" (sigPop full) ⟨[x], []⟩ = pure () := by
  have hp : ∀ r, Bind.printed full true (sigPop full) r = pure full := fun r => by unfold Bind.printed; rw [if_pos hf]
  unfold Bind.checkArgs
  rw [show (sigPop full).full = full from rfl]
  dsimp only [sigPop] at hp ⊢
  simp only [hp, pure_bind]
  kernel_rfl
noncomputable def sigLen : Manifest.Signature := (Manifest.signature? "list.__len__").get (by kernel_rfl)
theorem sig_len : Manifest.signature? "list.__len__" = some sigLen := by kernel_rfl
theorem args_blen (x : Value) : Bind.checkArgs "list.__len__" sigLen ⟨[x], []⟩ = pure () := by kernel_rfl
noncomputable def sigInit : Manifest.Signature := (Manifest.signature? "list.__init__").get (by kernel_rfl)
theorem sig_init : Manifest.signature? "list.__init__" = some sigInit := by kernel_rfl
theorem args_binit (x : Value) : Bind.checkArgs "list.__init__" sigInit ⟨[x], []⟩ = pure () := by kernel_rfl
theorem kind_len : builtinKind "list.__len__" = some .slot := by decide +kernel
theorem kind_init : builtinKind "list.__init__" = some .slot := by decide +kernel
theorem kind_pop : builtinKind "list.pop" = some .method := by decide +kernel
theorem var_pop : Manifest.varargsMethods.contains "list.pop" = false := by decide +kernel
theorem chk_slot {M : Model} {h : Heap} {x : Value} {id : String} {sig : Manifest.Signature} (hk : builtinKind id = some .slot) (hs : Manifest.signature? id = some sig) (ha : Bind.checkArgs id sig ⟨[x], []⟩ = pure ()) : Looks M h (checkBoundCall id ⟨[x], []⟩) () := by
  intro A Q E s k q
  unfold checkBoundCall
  rw [hs]
  dsimp only
  rw [hk]
  exact w_pos (by decide) (by rw [ha]; exact wpAny_pure q)
theorem chk_pop {M : Model} {h : Heap} {a C : Addr} {o : Obj} {cd : ClassData} (X : G.K.In h) (K : AccOk G C) (e : h.get? a = some o) (hc : o.cls = .ref C) (hn : ∀ c, o.data ≠ .cls c) (hcd : clsIn G.K C = some cd) (hq : (cd.qualname.toString ++ "." ++ "pop" != "*") = true) : Looks M h (checkBoundCall "list.pop" ⟨[.ref a], []⟩) () := by
  intro A Q E s k q
  have e' := k _ _ e
  have X' : G.K.In s.heap := X.keeps k
  unfold checkBoundCall
  rw [sig_pop]
  dsimp only
  rw [kind_pop]
  refine w_neg (by decide) ?_
  have im : Looks M s.heap (isInstance (.ref a) (.type "module")) false := (pile_type e' hc).andThen (looks_mroIn X' K.mod)
  refine wpAny_bind (im.here (w_neg (by rw [var_pop]; decide) ?_))
  obtain ⟨hh, g, d, t, os⟩ := s
  refine wpAny_bind (ks_wpAny_isType_inst e' hn (w_neg (by decide) (wpAny_bind ((pile_type e' hc).here ?_))))
  dsimp only
  refine wpAny_bind ((looks_clsIn X' hcd).here (wpAny_bind ((looks_typeIn X' K.mta).here (w_pos (by decide) ?_))))
  rw [show (Bind.lastOf "list.pop") = "pop" from by decide +kernel]
  exact wpAny_of_eq (args_bpop _ _ hq) q

/-- what a call of super() needs to know of the def -/
structure SupOk (G : Gl) (T : Tb) (fx : Fx) (f : FuncData) : Prop where
  ks : fx.names.lookup ("super" : Str) = some .globalImplicit
  kc : fx.names.lookup ("__class__" : Str) = some .free
  gm : nsIn G.K mainGlobals "super" = some none
  arg : ∃ ar, (f.params.posonlyargs ++ f.params.args).head? = some ar ∧ fx.names.lookup ar.arg = some .local ∧ fx.ln[0]? = some ar.arg
  code : ∃ cc oc vs file tf, f.code = .ref cc ∧ G.h₀.get? cc = some oc ∧ oc.data = .fields vs ∧ vs[2]? = some (.str file tf) ∧ ((G.prog.main.file : Str) == file) = true
  top : (G.prog.main.scope.names.lookup ("super" : Str)).isSome = false
  cell : ∃ c D, f.closure.lookup ("__class__" : Str) = some c ∧ G.h₀.IsCell c (some (.ref D)) ∧ ∀ C ∈ T.accs, C = D
  cn : ("__class__" : Str) ∉ fx.cn
/-- the frame of the def f, that stands at fa -/
structure EnvOf (G : Gl) (fx : Fx) (f : FuncData) (fa : Addr) (env : Env) : Prop where
  func : env.func = some fa
  get : ∃ o, G.h₀.get? fa = some o ∧ o.data = .func f
  code : env.code = f.code
  cells : ∃ cs, env.cells = fx.cn.zip cs ++ f.closure
theorem sup_boot : bootBuiltins "super" = some (.type "super") := by decide +kernel
set_option tactic.hygienic true in
theorem acc_cls (K : AccOk G C) {h : Heap} (X : G.K.In h) : ∃ o cd, h.get? C = some o ∧ o.data = .cls cd ∧ clsIn G.K C = some cd := by
  obtain ⟨cd, hcd, _⟩ := K.cls
  have h1 := hcd
  unfold clsIn at h1
  split at h1
  · rename_i c d cd' sl ho
    cases h1
    exact ⟨_, _, X _ _ ho, rfl, hcd⟩
  · cases h1
theorem sup_base (W : TbOk G T) {f : FuncData} (Y : SupOk G T fx f) (R : Rep G ρ L fx.ln st s) (EO : EnvOk G ρ L fx cl env) {fa : Addr} (EF : EnvOf G fx f fa env) {l d : Nat} {C a : Addr} {xs : List AV} (h : st.σ[l]? = some (.acc C d xs)) (hC : C ∈ T.accs) (hv : st.vars[0]? = some (some (.loc l))) (ha : ρ[l]? = some a)
    {body : List Stmt} {p0 p1 : Pos} {attr : Str} {whole : Sem Value} {Q : Value → Shared → Prop} (hat : (attr == ("__class__" : Str)) = false)
    (hq : ∀ h', h'.get? s.heap.objs.size = some (ks_superObj C a C) → (∀ b o, s.heap.get? b = some o → h'.get? b = some o) → Q (.ref s.heap.objs.size) { s with heap := h' }) :
    _root_.PySem.wpAt (MM G) A (.func body env) (attributeBase (.Call (.Name "super" p0) [] [] p1) attr env whole) Q E s := by
  have K := W.acc C hC
  have X := R.K W.gl
  obtain ⟨p, loose, mean, mg, mb, Tp⟩ := W.gl.low
  obtain ⟨ar, hp, hka, hl0⟩ := Y.arg
  obtain ⟨cc, oc, vs, file, tf, hco, hcc, hoc, hvs, hfile⟩ := Y.code
  obtain ⟨c, D, hcl, hcell, hD⟩ := Y.cell
  obtain ⟨of, hof, hfd⟩ := EF.get
  cases hD C hC
  obtain ⟨oD, cd, hD1, hD2, hcd⟩ := acc_cls K X
  obtain ⟨a', dx, ws, m, e0, e1, ed, g1, g2⟩ := R.pile h (.loc ha)
  cases e0
  obtain ⟨fm, hns, hm⟩ := R.frame
  obtain ⟨v, hm1, hm2⟩ := hm 0 _ _ hl0 hv
  have hva : v = .ref a := hm2.loc_.elim fun b e => e.1.trans (congrArg Value.ref (Option.some.inj (e.2.symm.trans ha)))
  subst hva
  have hlk : env.cells.lookup ("__class__" : Str) = some c := by
    obtain ⟨cs, hcs⟩ := EF.cells
    rw [hcs, List.lookup_append, zip_none Y.cn, hcl]; rfl
  obtain ⟨ocl, hocl, hocd⟩ := hcell
  have TR := topRead_of Tp
  obtain ⟨hh, g, dd, t, os⟩ := s
  refine ks_wpAt_super_base ((EO.kindOf _).trans Y.ks) ((EO.kindOf _).trans Y.kc) hat EF.func (R.base _ _ hof) hfd hp (EF.code.trans hco) (R.base _ _ hcc) hoc hvs hfile Y.top ?_
  refine ks_loadName_global EO.kind ((EO.kindOf _).trans Y.ks) (loadGlobal_builtin (EO.glob ▸ TR.g.keeps R.base) (mg_none_of W.gl.X TR.g Y.gm) (EO.blt ▸ TR.b.keeps R.base) ((TR.builtins _ (by decide +kernel)).trans sup_boot) ⟨rfl, ?_⟩)
  refine wpAny_loadName_free EO.kind ((EO.kindOf _).trans Y.kc) hlk ⟨ocl, R.base _ _ hocl, hocd⟩ ?_
  refine wpAny_loadName_local EO.kind ((EO.kindOf _).trans hka) (EO.loc ▸ hns) hm1 ?_
  refine ks_wpAny_isType_cls hD1 hD2 ⟨rfl, ?_⟩
  exact ks_wpAny_call_super hD1 hD2 g1 rfl (fun c e => by cases e) (looks_mroIn X K.self) (fun h' e k => hq h' e k)
end Mine

set_option Elab.async false
set_option genSizeOf false
set_option genInjectivity false
set_option backward.match.sparseCases false
set_option bootstrap.genMatcherCode false
set_option tactic.hygienic false
set_option linter.unusedVariables false
set_option maxRecDepth 100000
namespace Mine
open PySem PySem.Calls PyProof.Rows PySem.W PySem.SeqAt
variable {G : Gl} {T : Tb} {n : Nat} {fx : Fx} {ρ ρ₁ : List Addr} {A : Around} {L : Addr} {ln : List Str} {st : St} {s s₁ : Shared} {cl : List Nat} {env : Env} {Q : AV → St → Prop} {E : Value → Shared → Prop}

noncomputable def supN : Nat → Str
  | 0 => "__len__"
  | 1 => "pop"
  | _ => "__init__"
noncomputable def supE (k : Nat) (p0 p1 p q : Pos) : PySem.Expr := .Call (.Attribute (.Call (.Name "super" p0) [] [] p1) (supN k) p) [] [] q
theorem keep_bound {M : Model} {bt id : String} {a b : Addr} {h : Heap} (hb : h.get? b = some (boundObj bt id a)) (hc : bt = "builtin_function_or_method" ∨ bt = "method-wrapper") : ∃ k, (k = Keeper.frame ∨ k = Keeper.machine ∨ k = Keeper.boundFrame) ∧ Looks M h (keeperOf (.ref b)) k := by
  refine ⟨_, .inr (.inl rfl), ?_⟩
  intro A Q E s k q
  unfold keeperOf
  refine wpAny_bind (wpAny_load (k _ _ hb) ?_)
  dsimp only
  rcases hc with rfl | rfl <;> exact w_pos (by decide) (wpAny_pure q)
/-- one of super()'s built-in methods is called -/
theorem sup_run (W : TbOk G T) {f : FuncData} (Y : SupOk G T fx f) (R : Rep G ρ L fx.ln st s) (EO : EnvOk G ρ L fx cl env) {fa : Addr} (EF : EnvOf G fx f fa env) {l d : Nat} {C : Addr} {xs : List AV} (h : st.σ[l]? = some (.acc C d xs)) (hC : C ∈ T.accs) (hv : st.vars[0]? = some (some (.loc l)))
    {body : List Stmt} {p0 p1 p q : Pos} {name : Str} {id bt : String} {B : Builtin} (hat : (name == ("__class__" : Str)) = false) (hend : (p.endLine == q.line) = true)
    (hf : ks_superIn G.K C C name = some (some (.builtin id))) (B1 : Binds1 G.prog G.w id bt name) (he : entryFor table id = some B) (hp : plainId id = true)
    (hck : ∀ {h : Heap} {a : Addr} {o : Obj}, G.K.In h → h.get? a = some o → o.cls = .ref C → (∀ c, o.data ≠ .cls c) → Looks (MM G) h (checkBoundCall id ⟨[.ref a], []⟩) ())
    (hB : ∀ {s₁ : Shared} {A : Around} {a dx : Addr} {vs : List Value} {m : Nat}, Rep G ρ L fx.ln st s₁ → ρ[l]? = some a → ρ[d]? = some dx → s₁.heap.get? a = some (accObj C dx vs.toArray m) → VRs G ρ xs vs →
      wpAny (MM G) A (B ⟨[.ref a], []⟩) (fun fin s' => ∃ v, fin = .done (.ret v) ∧ Ret G ρ L fx.ln s₁ Q v s') (fun _ _ => False) s₁) :
    _root_.PySem.wpAt (MM G) A (.func body env) (eval (.Call (.Attribute (.Call (.Name "super" p0) [] [] p1) name p) [] [] q) env) (Ret G ρ L fx.ln s Q) E s := by
  have hl : l < ρ.length := by rw [R.len]; exact (List.getElem?_eq_some_iff.mp h).1
  obtain ⟨a, ha⟩ : ∃ a, ρ[l]? = some a := ⟨_, List.getElem?_eq_getElem hl⟩
  have K := W.acc C hC
  rw [arm_eval_Call]
  refine _root_.PySem.wpAt_bind (sup_base W Y R EO EF h hC hv ha hat fun h' e k => ?_)
  refine _root_.PySem.wpAt_of_wpAny (wpAny_bind (wpAny_standAt ?_))
  obtain ⟨R1, S1⟩ := R.grow (t := s.toks) k
  have hform : methodCallForm (([] : List PySem.Expr).length + ([] : List Keyword).length) (backTo q (starEach [] env)) (backToKw q (keywordEach [] env)) = true := rfl
  have hpos : ∀ b, methodCallPos b (.Call (.Name "super" p0) [] [] p1) env p q = pure q := fun b => by unfold methodCallPos; simp [hend]
  have X := R1.K W.gl
  obtain ⟨a', dx, vs, m, e0, e1, ed, g1, g2⟩ := R1.pile h (.loc ha)
  cases e0
  obtain ⟨oD, cd, hD1, hD2, hcd⟩ := acc_cls K X
  have hxC : a ≠ C := fun z => by
    obtain ⟨o, cd', z1, z2, _⟩ := acc_cls K W.gl.X
    have := (R.own a (Rep.mem ha)).1
    rw [z, z1] at this; cases this
  have hm : Looks (MM G) h' (mroOf (.ref C)) cd.mro := (looks_clsIn X hcd).andThen .now
  have hf' : alongIn G.K name ((cd.mro.dropWhile (· != .ref C)).drop 1) = some (some (.builtin id)) := by
    unfold ks_superIn at hf
    rw [hcd] at hf; exact hf
  obtain ⟨hh, g, dd, t, os⟩ := s
  unfold methodCall
  rw [hform]
  refine wpAny_bind (wpAny_holding (super_method (h := h') e (looks_opaque X K.opq) hm rfl X hf' B1 (pile_isList X K g1 rfl) hxC hat ?_))
  refine wpAny_bind (wpAny_of_eq (hpos _) ?_)
  obtain ⟨R2, S2⟩ := R1.grow (t := t + 1) (h' := h'.push (boundObj bt id a)) fun b o e => Heap.get?_push_of_some _ e
  have hb : (h'.push (boundObj bt id a)).get? h'.objs.size = some (boundObj bt id a) := Heap.get?_push_size _ rfl
  have g1' := Heap.get?_push_of_some (boundObj bt id a) g1
  refine callWith_of (P := fun h => h.get? h'.objs.size = some (boundObj bt id a)) rfl (fun h hp => keep_bound hp B1.cls) (evalArgs_all (by intro a ha; cases ha) (wpAny_pure ⟨hb, ?_⟩))
  refine call_bound hb B1.cls g1' rfl (hck (R2.K W.gl) g1' rfl (fun c e => by cases e)) he hp ?_
  refine wpAny_mono (hB R2 e1 ed g1' g2) (fun fin s' ⟨v, hv, hr⟩ => ⟨v, hv, hr.after (S1.trans S2)⟩) fun _ _ z => z
theorem erase_last (ws : List Value) (w : Value) : (ws ++ [w]).toArray.eraseIdxIfInBounds ws.length = ws.toArray := by
  unfold Array.eraseIdxIfInBounds
  rw [dif_pos (by simp)]
  simp [List.eraseIdx_append_of_length_le]
theorem plain_pop : plainId "list.pop" = true := by decide +kernel
theorem plain_len : plainId "list.__len__" = true := by decide +kernel
theorem plain_init : plainId "list.__init__" = true := by decide +kernel
theorem entry_init : entryFor table "list.__init__" = some Builtin.«list.__init__» := entryFor_of_tree (by kernel_rfl)
theorem entry_pop : entryFor table "list.pop" = some Builtin.«list.pop» := PySem.F.entry_list_pop
section
variable (W : TbOk G T) {f : FuncData} (Y : SupOk G T fx f) (R : Rep G ρ L fx.ln st s) (EO : EnvOk G ρ L fx cl env) {fa : Addr} (EF : EnvOf G fx f fa env) {l d : Nat} {C : Addr} {xs : List AV} (h1 : st.σ[l]? = some (.acc C d xs)) (hC : C ∈ T.accs) (hv : st.vars[0]? = some (some (.loc l))) {body : List Stmt} {p0 p1 p q : Pos} (hend : (p.endLine == q.line) = true)
include W Y R EO EF h1 hC hv hend
set_option maxHeartbeats 4000000
theorem sup_len (hq : Q (.int xs.length) st) : _root_.PySem.wpAt (MM G) A (.func body env) (eval (supE 0 p0 p1 p q) env) (Ret G ρ L fx.ln s Q) E s := by
  unfold supE
  rw [show supN 0 = "__len__" from rfl]
  refine sup_run W Y R EO EF h1 hC hv (name := "__len__") (by decide +kernel) hend (W.acc C hC).sup0 binds_len PySem.F.entry_list_len plain_len (fun _ _ _ _ => chk_slot kind_len sig_len (args_blen _)) fun R1 ha hd g1 g2 => ?_
  exact pile_len g1 ⟨_, rfl, by rw [g2.length]; exact ret0 R1 (.int _ _) hq⟩
theorem sup_pop {ys : List AV} {x : AV} (hx : xs = ys ++ [x]) (hz : xs.length ≤ 4096) (hq : Q x ⟨st.vars, st.σ.set l (.acc C d ys)⟩) : _root_.PySem.wpAt (MM G) A (.func body env) (eval (supE 1 p0 p1 p q) env) (Ret G ρ L fx.ln s Q) E s := by
  have K := W.acc C hC
  obtain ⟨cd, hcd, hqn⟩ := K.cls
  unfold supE
  rw [show supN 1 = "pop" from rfl]
  refine sup_run W Y R EO EF h1 hC hv (name := "pop") (by decide +kernel) hend K.sup1 binds_pop entry_pop plain_pop (fun X e hc hn => @chk_pop G (MM G) _ _ C _ cd X K e hc hn hcd hqn) fun {s₁ A a dx vs m} R1 ha hd g1 g2 => ?_
  rw [hx] at g2 hz
  obtain ⟨ws, r, e, hw1, hw2⟩ := A2.split g2
  obtain ⟨w, e2, hw2⟩ := VRs.inv1 hw2
  rw [e2] at e; rw [e] at g1
  exact pile_pop g1 (by rw [A2.length hw1]; rw [List.length_append] at hz; exact Nat.le_trans (Nat.le_add_right _ _) hz) ⟨_, rfl, ret_pile (t := s₁.toks) R1 h1 ha hd g1 (erase_last ws w) hw1 hw2 hq⟩
theorem sup_init {k : Nat} (h0 : k ≠ 0) (h01 : k ≠ 1) (hx : xs = []) (hq : Q .none st) : _root_.PySem.wpAt (MM G) A (.func body env) (eval (supE k p0 p1 p q) env) (Ret G ρ L fx.ln s Q) E s := by
  have hn : supN k = "__init__" := by
    match k, h0, h01 with
    | 0, h0, _ => exact absurd rfl h0
    | 1, _, h1 => exact absurd rfl h1
    | k + 2, _, _ => rfl
  unfold supE
  rw [hn]
  refine sup_run W Y R EO EF h1 hC hv (name := "__init__") (by decide +kernel) hend (W.acc C hC).sup2 binds_init entry_init plain_init (fun _ _ _ _ => chk_slot kind_init sig_init (args_binit _)) fun {s₁ A a dx vs m} R1 ha hd g1 g2 => ?_
  rw [hx] at g2 h1; rw [g2.nil_] at g1
  refine pile_init g1 ⟨_, rfl, ?_⟩
  have hset : st.σ.set l (.acc C d []) = st.σ := by
    obtain ⟨hlt, he⟩ := List.getElem?_eq_some_iff.mp h1
    rw [← he, List.set_getElem_self]
  exact ret_pile (t := s₁.toks) R1 h1 ha hd g1 (ws := []) rfl .nil .none (by rw [hset]; exact hq)
end
theorem sup_ok (W : TbOk G T) {f : FuncData} (Y : SupOk G T fx f) (R : Rep G ρ L fx.ln st s) (EO : EnvOk G ρ L fx cl env) {fa : Addr} (EF : EnvOf G fx f fa env) {k : Nat} {v : AV} (hv : st.vars[0]? = some (some v)) {body : List Stmt} {p0 p1 p q : Pos} (hend : (p.endLine == q.line) = true)
    (h : supV T k v st.σ fun x σ => Q x ⟨st.vars, σ⟩) : _root_.PySem.wpAt (MM G) A (.func body env) (eval (supE k p0 p1 p q) env) (Ret G ρ L fx.ln s Q) E s := by
  obtain ⟨l, e, h⟩ := onLo_p h
  obtain ⟨t, h1, hC, h⟩ := onV_p h
  rw [e] at hv
  by_cases h0 : k = 0
  · rw [if_pos h0] at h; rw [h0]; exact sup_len W Y R EO EF h1 hC hv hend h.2
  rw [if_neg h0] at h
  by_cases h01 : k = 1
  · rw [if_pos h01] at h
    obtain ⟨x, hx, h⟩ := onO_some h
    obtain ⟨ys, hy⟩ := List.getLast?_eq_some_iff.mp hx
    rw [h01]; exact sup_pop W Y R EO EF h1 hC hv hend hy h.1 (by have := h.2; rw [hy, List.dropLast_concat] at this; exact this)
  · rw [if_neg h01] at h; exact sup_init W Y R EO EF h1 hC hv hend h0 h01 h.1 h.2
end Mine

set_option Elab.async false
set_option genSizeOf false
set_option genInjectivity false
set_option backward.match.sparseCases false
set_option bootstrap.genMatcherCode false
set_option tactic.hygienic false
set_option linter.unusedVariables false
set_option maxRecDepth 100000
namespace Mine
open PySem PySem.Calls PyProof.Rows PySem.W PySem.SeqAt
variable {G : Gl} {T : Tb} {n : Nat} {call : CallT} {fx : Fx} {ρ ρ₁ : List Addr} {A : Around} {L : Addr} {ln : List Str} {st : St} {s s₁ : Shared} {cl : List Nat} {env : Env} {Q : AV → St → Prop} {E : Value → Shared → Prop}

noncomputable def defFx (sc : Scope) (lam : Bool) : Fx := ⟨sc.names, (sc.names.filter (·.2 == .local)).map (·.1), (ownNames sc.names).reverse, lam⟩
noncomputable def chkPl (fx : Fx) : List (Nat ⊕ Nat) → List Str → Bool
  | [], xs => xs.isEmpty
  | p :: ps, xs => seen (asC xs) fun t => plAt fx p t.1 && chkPl fx ps t.2
theorem binds_chk {pl : List (Nat ⊕ Nat)} {names : List Str} {as : List AV} {vs : List Value} (h : chkPl fx pl names = true) (hs : VRs G ρ as vs) (hl : as.length = names.length) : Binds G ρ fx pl as (names.zip vs) := by
  induction pl generalizing names as vs with
  | nil =>
    have e := List.isEmpty_iff.mp h
    rw [e] at hl ⊢
    exact ⟨List.eq_nil_of_length_eq_zero hl, rfl⟩
  | cons p ps ih =>
    obtain ⟨t, e, h⟩ := seen_inv h
    have c := and1 h
    rw [e] at hl ⊢
    cases as with
    | nil => exact absurd hl.symm (Nat.succ_ne_zero _)
    | cons a as =>
      obtain ⟨v, ws, e', h1, h2⟩ := hs.cons_
      rw [e']
      exact ⟨a, as, t.1, v, _, rfl, rfl, c.1, h1, ih c.2 h2 (Nat.succ.inj hl)⟩

noncomputable def supS (k : Nat) (r : Bool) (p0 p1 p q p' : Pos) : Stmt := if r then .Return (some (supE k p0 p1 p q)) p' else .Expr (supE k p0 p1 p q) p'
/-- the def fd is what stands in o -/
structure FnAt (G : Gl) (T : Tb) (fd : FnD) (o : Obj) (f : FuncData) (body : List Stmt) (lam : Bool) : Prop where
  data : o.data = .func f
  hbody : f.body = .stmts body
  co : f.scope.isCoroutine = false
  gen : f.scope.isGenerator = false
  code : G.h₀.CodeRec f.code f.qualname
  glob : f.globals = mainGlobals
  blt : f.builtins = builtinsNs
  kind : f.scope.kind = .function
  p1 : f.params.posonlyargs = []
  p2 : f.params.vararg = none
  p3 : f.params.kwonlyargs = []
  np : f.params.args.length = fd.np
  nd : (f.params.args.map (·.arg)).Nodup
  nl : (defFx f.scope lam).ln.length = fd.nl
  own : (ownNames f.scope.names).length = fd.own
  fx : FxOk (defFx f.scope lam)
  pl : chkPl (defFx f.scope lam) fd.pl (f.params.args.map (·.arg) ++ f.params.kwarg.toList.map (·.arg)) = true
  kw : f.params.kwarg.isSome = fd.kw
  hlam : lam = true → (∃ c, f.code = .ref c ∧ CodeHd G.h₀ c G.P) ∧ (f.qualname ++ ".<locals>.") ++ "<lambda>" = G.lq
  dfl : (fd.dfl = [] ∧ f.defaults = .none) ∨ ∃ t ot ds m, f.defaults = .ref t ∧ G.h₀.get? t = some ot ∧ ot.data = .seq ds m ∧ ∀ ρ, VRs G ρ fd.dfl ds.toList
  dn : fd.dfl.length ≤ fd.np
  tail : match fd.tail with
    | none => chkSs T (defFx f.scope lam) fd.body body = true
    | some (k, r) => ∃ init p0 p1 p q p', body = init ++ [supS k r p0 p1 p q p'] ∧ (p.endLine == q.line) = true ∧ chkSs T (defFx f.scope lam) fd.body init = true ∧ SupOk G T (defFx f.scope lam) f
noncomputable def FnOk (G : Gl) (T : Tb) (a : Addr) (fd : FnD) : Prop := ∃ o f body lam, G.h₀.get? a = some o ∧ FnAt G T fd o f body lam

theorem AOk.deep (h : AOk A (n + 1)) (env : Env) : AOk (A.deeper env) n := ⟨h.hh, by have := h.depth; show A.depth + 1 + n < 900; lia, by have := h.units; show A.units + 3 + 60 * n < 9000; lia⟩
theorem sup_stm (W : TbOk G T) {f : FuncData} (Y : SupOk G T fx f) (R : Rep G ρ L fx.ln st s) (EO : EnvOk G ρ L fx cl env) {fa : Addr} (EF : EnvOf G fx f fa env) {k : Nat} {r : Bool} {v : AV} (hv : st.vars[0]? = some (some v)) {body : List Stmt} {p0 p1 p q p' : Pos} (hend : (p.endLine == q.line) = true)
    (h : supV T k v st.σ fun x σ => Q (if r then x else .none) ⟨st.vars, σ⟩) : _root_.PySem.wpAt (MM G) A (.func body env) (exec (supS k r p0 p1 p q p') env) (fun f s' => Ret G ρ L fx.ln s Q (match f with | .ret v => v | _ => .none) s' ∧ (f = .next ∨ ∃ v, f = .ret v)) E s := by
  have base := sup_ok (A := A) (E := E) (Q := fun x st' => Q (if r then x else .none) st') W Y R EO EF hv hend (body := body) (p0 := p0) (p1 := p1) h
  cases r with
  | true => exact ks_wpAt_Return_some (ks_wpAt_mono base (fun v s' h => ⟨h, .inr ⟨_, rfl⟩⟩) fun _ _ z => z)
  | false =>
    show _root_.PySem.wpAt _ _ _ (exec (.Expr (supE k p0 p1 p q) p') env) _ _ _
    refine ks_wpAt_Expr_any (ks_wpAt_mono base (fun v s' h => ⟨?_, .inl rfl⟩) fun _ _ z => z) (inter_fn EO.kind) (sw_plain rfl _ _ _)
    obtain ⟨ρ', x, st', h1, h2, h3, h4⟩ := h
    exact ⟨ρ', .none, st', .none, h2, h3, h4⟩
theorem execs_wp {M : Model} {Γ : Ctx} {x : Stmt} {Q : Flow → Shared → Prop} {init : List Stmt} : ∀ {p : Pos} {s : Shared},
    Sem.wp M Γ (execs init env) (fun f p' s' => match f with | .next => Sem.wp M Γ (exec x env) (fun f _ s'' => Q f s'') (fun e _ s'' => E e s'') p' s' | f => Q f s') (fun e _ s' => E e s') p s →
      Sem.wp M Γ (execs (init ++ [x]) env) (fun f _ s' => Q f s') (fun e _ s' => E e s') p s := by
  induction init with
  | nil =>
    intro p s h
    rw [List.nil_append, execs_cons, Sem.wp_bind']
    rw [execs_nil, Sem.wp_pure'] at h
    refine Sem.wp_mono M Γ _ (fun f p' s' h' => ?_) (fun _ _ _ z => z) _ _ h
    cases f with
    | next => rw [execs_nil, Sem.wp_pure']; exact h'
    | _ => exact h'
  | cons y r ih =>
    intro p s h
    rw [execs_cons, Sem.wp_bind'] at h
    rw [List.cons_append, execs_cons, Sem.wp_bind']
    refine Sem.wp_mono M Γ _ (fun f p' s' h' => ?_) (fun _ _ _ z => z) _ _ h
    cases f with
    | next => exact ih h'
    | _ => exact h'
set_option backward.match.sparseCases true in
theorem execs_snoc {M : Model} {c : Code} {x : Stmt} {Q : Flow → Shared → Prop} {init : List Stmt} (h : wpAny M A (execs init env) (fun f s' => match f with | .next => _root_.PySem.wpAt M A c (exec x env) Q E s' | f => Q f s') E s) : _root_.PySem.wpAt M A c (execs (init ++ [x]) env) Q E s := by
  intro Γ p hc hΓ
  refine execs_wp (Sem.wp_mono M Γ _ (fun f p' s' h' => ?_) (fun _ _ _ z => z) _ _ (h Γ p hΓ))
  cases f with
  | next => exact h' Γ p' hc hΓ
  | _ => exact h'
end Mine

set_option Elab.async false
set_option genSizeOf false
set_option genInjectivity false
set_option backward.match.sparseCases false
set_option bootstrap.genMatcherCode false
set_option tactic.hygienic false
set_option linter.unusedVariables false
set_option maxRecDepth 100000
namespace Mine
open PySem PySem.Calls PyProof.Rows PySem.W PySem.SeqAt
variable {G : Gl} {T : Tb} {n : Nat} {call : CallT} {fx : Fx} {ρ ρ₁ : List Addr} {A : Around} {L : Addr} {ln : List Str} {st : St} {s s₁ : Shared} {cl : List Nat} {env : Env} {Q : AV → St → Prop} {E : Value → Shared → Prop}

/-- the frame's cells -/
noncomputable abbrev ownC (σ : Sto) (own : Nat) : List Nat := (List.range own).reverse.map (σ.length + ·)
set_option tactic.hygienic true in
theorem fn_body (W : TbOk G T) (H : CallOk G n call) {fd : FnD} {o : Obj} {f : FuncData} {body : List Stmt} {lam : Bool} {a : Addr} (F : FnAt G T fd o f body lam) (ho : G.h₀.get? a = some o) (hA : AOk A (n + 1)) {Rr : Result → Shared → Prop} {Q : AV → Sto → Prop}
    (R : Rep G ρ L (defFx f.scope lam).ln st s) (EO : EnvOk G ρ L (defFx f.scope lam) cl env) (EF : EnvOf G (defFx f.scope lam) f a env) (h : exs T call cl fd.body st (runTail T fd.tail Q))
    (hR : ∀ v s', Ret G ρ L (defFx f.scope lam).ln s (fun x st' => Q x st'.σ) v s' → Rr (.ok (.ret v)) s') : codeAny (MM G) A (.func body env) Rr s := by
  have hA' := hA.deep env
  have ht := F.tail
  have hnil := F.fx
  cases htl : fd.tail with
  | none =>
    rw [htl] at ht h
    refine codeAny_func (wpAny_mono (sl_ok W H F.fx fd.body body ht hA' R EO h) (fun fl s' hq => ?_) fun _ _ z => z)
    obtain ⟨ρ', x, st', hfl, R', S', hq⟩ := hq
    refine hR _ _ ?_
    cases hfl with
    | next => exact ⟨ρ', .none, st', .none, R', S', hq⟩
    | brk => exact hq.elim
    | ret hv => exact ⟨ρ', _, st', hv, R', S', hq⟩
  | some t =>
    obtain ⟨k, r⟩ := t
    rw [htl] at ht h
    obtain ⟨init, p0, p1, p, q, p', rfl, hend, hc, Y⟩ := ht
    refine ks_codeAny_funcAt (execs_snoc (wpAny_mono (sl_ok W H F.fx fd.body init hc hA' R EO h) (fun fl s₁ hq => ?_) fun _ _ z => z))
    obtain ⟨ρ', x, st', hfl, R', S', hq⟩ := hq
    cases hfl with
    | next =>
      obtain ⟨v, hv, hq⟩ := onVar_p (show onVar st'.vars[0]? fun v => supV T k v st'.σ fun x σ => Q (if r then x else .none) σ from hq)
      refine ks_wpAt_mono (sup_stm (Q := fun x st' => Q x st'.σ) W Y R' (EO.mono S'.pre) EF hv hend hq) (fun fl s' h => ?_) fun _ _ z => z
      rcases h.2 with e | ⟨v, e⟩ <;> (rw [e] at h ⊢; exact hR _ _ (.after S' h.1))
    | brk => exact hq.elim
    | ret hv => exact hR _ _ ⟨ρ', _, st', hv, R', S', hq⟩
theorem fn_env0 (W : TbOk G T) (H : CallOk G n call) {fd : FnD} {o : Obj} {f : FuncData} {body : List Stmt} {lam : Bool} {a : Addr} (F : FnAt G T fd o f body lam) (ho : G.h₀.get? a = some o) (hA : AOk A (n + 1)) {Rr : Result → Shared → Prop} {as : List AV} {binds : List (Str × Value)} {σ : Sto} {Q : AV → Sto → Prop}
    (R : RepC G ρ σ s) (hb : ∀ ρ', Pre ρ ρ' → Binds G ρ' (defFx f.scope lam) fd.pl as binds)
    (h : exs T call (ownC σ fd.own) fd.body (place (ownC σ fd.own) fd.pl as ⟨List.replicate fd.nl none, σ ++ List.replicate fd.own (.cell none)⟩) (runTail T fd.tail Q))
    (hR : ∀ C ρ' s₁ x v st' s', s.heap.get? C = none → (∀ b o, s.heap.get? b = some o → s₁.heap.get? b = some o) → s₁.os = s.os → VR G ρ' x v → Rep G ρ' C (defFx f.scope lam).ln st' s' → Step G C ρ s₁ ρ' s' → Q x st'.σ → Rr (.ok (.ret v)) s') :
    wpAny (MM G) A.in1 (newFunctionEnv f.scope f.globals f.closure binds (f.qualname ++ ".<locals>.") (some a) f.code none f.builtins)
      (fun env s₂ => s₂.heap.NoLimit ∧ codeAny (MM G) A (.func body env) Rr s₂) (fun e s' => Rr (.error e) s') s := by
  rw [F.glob, F.blt]
  refine newEnv_ok (fx := defFx f.scope lam) (cl0 := []) (fcn := []) (cs0 := []) (ex := f.closure) (nl := fd.nl) (ps := fd.pl) (as := as) R F.fx F.kind rfl (by simp [defFx]) rfl rfl (fun e he => by cases he) F.nl (fun x hx => by cases hx) (fun hl => ⟨rfl, F.hlam hl⟩) hb fun env s₂ _ h2 hsc hne => ?_
  obtain ⟨C, ρ', s₁, EO, R', hC, hk, hos, S'⟩ := hne.out
  obtain ⟨f1, f2, f3, f4, f5⟩ := h2 rfl
  rw [F.own, List.append_nil] at EO R'
  obtain ⟨p, loose, mean, mg, mb, Tp⟩ := W.gl.low
  refine ⟨Tp.nolimit.keeps R'.base, fn_body W H F ho hA R' EO ⟨f1, ⟨o, ho, F.data⟩, f2, f5⟩ h fun v s' hr => ?_⟩
  obtain ⟨ρ₂, x, st₂, hv, R2, S2, hq⟩ := hr
  exact hR C ρ₂ s₁ x v st₂ s' hC hk hos hv R2 (S'.trans S2) hq
theorem fn_env (W : TbOk G T) (H : CallOk G n call) {fd : FnD} {o : Obj} {f : FuncData} {body : List Stmt} {lam : Bool} {a : Addr} (F : FnAt G T fd o f body lam) (ho : G.h₀.get? a = some o) (hA : AOk A (n + 1)) {Rr : Result → Shared → Prop} {as : List AV} {binds : List (Str × Value)} {Q : AV → Sto → Prop}
    (R : Rep G ρ L ln st s) (hb : ∀ ρ', Pre ρ ρ' → Binds G ρ' (defFx f.scope lam) fd.pl as binds)
    (h : exs T call (ownC st.σ fd.own) fd.body (place (ownC st.σ fd.own) fd.pl as ⟨List.replicate fd.nl none, st.σ ++ List.replicate fd.own (.cell none)⟩) (runTail T fd.tail Q))
    (hR : ∀ v s', Ret G ρ L ln s (fun x st' => Q x st'.σ ∧ st'.vars = st.vars) v s' → Rr (.ok (.ret v)) s') :
    wpAny (MM G) A.in1 (newFunctionEnv f.scope f.globals f.closure binds (f.qualname ++ ".<locals>.") (some a) f.code none f.builtins)
      (fun env s₂ => s₂.heap.NoLimit ∧ codeAny (MM G) A (.func body env) Rr s₂) (fun e s' => Rr (.error e) s') s :=
  fn_env0 W H F ho hA R.core hb h fun C ρ' s₁ x v st' s' hC hk hos hv R2 S hq =>
    have z := R.leave R2 hk hos hC S
    hR v s' ⟨ρ', x, _, hv, z.1, z.2, hq, rfl⟩
/-- the first call, that has no frame ahead of it -/
theorem fn_top (W : TbOk G T) (H : CallOk G n call) {fd : FnD} {o : Obj} {f : FuncData} {body : List Stmt} {lam : Bool} {a : Addr} (F : FnAt G T fd o f body lam) (ho : G.h₀.get? a = some o) (hA : AOk A (n + 1)) {Rr : Result → Shared → Prop} {as : List AV} {vs : List Value} {Q : AV → Sto → Prop}
    (R : RepC G ρ [] s) (hs : VRs G ρ as vs) (hl : as.length = fd.np) (hk : fd.kw = false)
    (h : exs T call (ownC [] fd.own) fd.body (place (ownC [] fd.own) fd.pl as ⟨List.replicate fd.nl none, List.replicate fd.own (.cell none)⟩) (runTail T fd.tail Q))
    (hR : ∀ C ρ' s₁ x v st' s', s.heap.get? C = none → (∀ b o, s.heap.get? b = some o → s₁.heap.get? b = some o) → s₁.os = s.os → VR G ρ' x v → Rep G ρ' C (defFx f.scope lam).ln st' s' → Step G C ρ s₁ ρ' s' → Q x st'.σ → Rr (.ok (.ret v)) s') :
    codeAny (MM G) A (.call (.ref a) ⟨vs, []⟩) Rr s := by
  refine codeAny_call_function (by have := hA.depth; show A.depth < 1000; lia) (R.base _ _ ho) F.data F.co F.gen F.hbody (F.code.keeps R.base) ?_
  have hnl : (f.params.args.map (·.arg)).length = fd.np := by rw [List.length_map, F.np]
  have hvl := hs.length
  have hkw := F.kw
  have hpl := F.pl
  rw [hk] at hkw
  have hkn : f.params.kwarg = none := by simpa using hkw
  rw [hkn] at hpl
  obtain ⟨od, hod, hdv⟩ : ∃ od : Option (Array Value), (∀ {Q : Option (Array Value) → Shared → Prop}, Q od s → wpAny (MM G) A.in1 (seqItems? f.defaults) Q (fun e s' => Rr (.error e) s') s) ∧ VRs G ρ fd.dfl (od.getD #[]).toList := by
    rcases F.dfl with ⟨h1, h2⟩ | ⟨t, ot, ds, m, h1, h2, h3, h4⟩
    · refine ⟨none, fun {Q} hq => ?_, by rw [h1]; exact .nil⟩
      rw [h2]; exact wpAny_pure hq
    · refine ⟨some ds, fun {Q} hq => ?_, h4 ρ⟩
      rw [h1]; exact wpAny_seqItems (R.base _ _ h2) h3 hq
  refine binds_of F.p1 F.p2 F.p3 rfl F.nd hod rfl (by rw [hdv.length, hnl]; exact F.dn) (.inl (by rw [hnl, hvl, hl])) ?_
  rw [hkn]
  dsimp only
  rw [if_pos (by rw [hnl, hvl, hl])]
  exact fn_env0 W H F ho hA R (fun ρ' hp => binds_chk (by simpa using hpl) (hs.mono hp) (by rw [hl, hnl])) h hR
set_option tactic.hygienic true in
theorem fn_ok (W : TbOk G T) (H : CallOk G n call) {fd : FnD} {a : Addr} (F : FnOk G T a fd) (hA : AOk A (n + 1)) (R : Rep G ρ L ln st s) {as : List AV} {vs : List Value} (hs : VRs G ρ as vs) {Rr : Result → Shared → Prop}
    (h : runFn T call fd as st.σ fun x σ => Q x ⟨st.vars, σ⟩) (hR : ∀ v s', Ret G ρ L ln s Q v s' → Rr (.ok (.ret v)) s') : codeAny (MM G) A (.call (.ref a) ⟨vs, []⟩) Rr s := by
  obtain ⟨o, f, body, lam, ho, F⟩ := F
  obtain ⟨full, hfull, h⟩ := onO_some h
  refine codeAny_call_function (by have := hA.depth; show A.depth < 1000; lia) (R.base _ _ ho) F.data F.co F.gen F.hbody (F.code.keeps R.base) ?_
  obtain ⟨od, hod, hdv⟩ : ∃ od : Option (Array Value), (∀ {Q : Option (Array Value) → Shared → Prop}, Q od s → wpAny (MM G) A.in1 (seqItems? f.defaults) Q (fun e s' => Rr (.error e) s') s) ∧ VRs G ρ fd.dfl (od.getD #[]).toList := by
    rcases F.dfl with ⟨h1, h2⟩ | ⟨t, ot, ds, m, h1, h2, h3, h4⟩
    · refine ⟨none, fun {Q} hq => ?_, by rw [h1]; exact .nil⟩
      rw [h2]; exact wpAny_pure hq
    · refine ⟨some ds, fun {Q} hq => ?_, h4 ρ⟩
      rw [h1]; exact wpAny_seqItems (R.base _ _ h2) h3 hq
  have hnl : (f.params.args.map (·.arg)).length = fd.np := by rw [List.length_map, F.np]
  have hvl := hs.length
  have hdl := hdv.length
  unfold fullA at hfull
  have hlen : as.length = fd.np ∨ as.length + fd.dfl.length = fd.np := by
    split at hfull
    · left; assumption
    · split at hfull
      · right; assumption
      · cases hfull
  have hfa : VRs G ρ full (if vs.length = (f.params.args.map (·.arg)).length then vs else vs ++ (od.getD #[]).toList) ∧ full.length = fd.np := by
    rw [hnl, hvl]
    split at hfull
    · rename_i e; cases hfull; rw [if_pos e]; exact ⟨hs, e⟩
    · rename_i e
      split at hfull
      · rename_i e2; cases hfull; rw [if_neg e]; exact ⟨hs.append hdv, by rw [List.length_append]; exact e2⟩
      · cases hfull
  obtain ⟨hfa, hfl⟩ := hfa
  refine binds_of F.p1 F.p2 F.p3 rfl F.nd hod rfl (by rw [hdl, hnl]; exact F.dn) (by rw [hnl, hvl, hdl]; exact hlen) ?_
  have hkw := F.kw
  have hpl := F.pl
  cases hk : f.params.kwarg with
  | none =>
    rw [hk] at hkw hpl
    have hkw : fd.kw = false := hkw.symm
    rw [hkw] at h
    refine fn_env (Q := fun x σ => Q x ⟨st.vars, σ⟩) W H F ho hA R (fun ρ' hp => binds_chk (by simpa using hpl) (hfa.mono hp) (by rw [hfl, hnl])) h fun v s' hr => hR v s' ?_
    obtain ⟨ρ', x, st', h1, h2, h3, h4, h5⟩ := hr
    exact ⟨ρ', x, st', h1, h2, h3, by rw [← h5] at h4; exact h4⟩
  | some ar =>
    rw [hk] at hkw hpl
    have hkw : fd.kw = true := hkw.symm
    rw [hkw] at h
    obtain ⟨R1, S1, h3⟩ := R.push (ob := { cls := .type "dict", data := .dict #[] }) (ao := .dict []) (t := s.toks) rfl (.dict (Heap.get?_push_size _ rfl) .nil)
    dsimp only
    have e : ∀ X : List Value, X.length = fd.np → (f.params.args.map (·.arg)).zip X ++ [(ar.arg, .ref s.heap.objs.size)] = (f.params.args.map (·.arg) ++ [ar.arg]).zip (X ++ [.ref s.heap.objs.size]) := fun X hX => (List.zip_append (l₁ := f.params.args.map (·.arg)) (r₁ := [ar.arg]) (l₂ := X) (r₂ := [Value.ref s.heap.objs.size]) (hnl.trans hX.symm)).symm
    rw [e _ (by rw [hfa.length, hfl])]
    have hz : (st.σ ++ [AO.dict []]).length = st.σ.length + 1 := by simp
    refine fn_env (Q := fun x σ => Q x ⟨st.vars, σ⟩) (as := full ++ [.loc st.σ.length]) W H F ho hA R1 (fun ρ' hp => binds_chk (names := f.params.args.map (·.arg) ++ [ar.arg]) (vs := _ ++ [.ref s.heap.objs.size]) hpl (((hfa.mono (.snoc _ _)).append (.one (.loc h3))).mono hp) (by simp [hfl, F.np])) (by simpa only [ownC, hz] using h) fun v s' hr => hR v s' (.after S1 ?_)
    obtain ⟨ρ', x, st', h1, h2, h3, h4, h5⟩ := hr
    exact ⟨ρ', x, st', h1, h2, h3, by rw [← h5] at h4; exact h4⟩
end Mine

set_option Elab.async false
set_option genSizeOf false
set_option genInjectivity false
set_option backward.match.sparseCases false
set_option bootstrap.genMatcherCode false
set_option tactic.hygienic false
set_option linter.unusedVariables false
set_option maxRecDepth 100000
set_option maxHeartbeats 4000000
namespace Mine
open PySem PySem.Calls PyProof.Rows PySem.W PySem.SeqAt Builtin Builtin.ObjectAttr Builtin.Getset_descriptor

noncomputable def makesLIn (K : Frag) (C : Addr) : Bool := match K.lookup C with
  | some ⟨_, _, .cls cd, sl⟩ => !cd.hasDel && (sl.toList[4]?).join == some (.builtin "list.__new__") && !cd.mro.isEmpty && cd.mro.contains (.ref C) && cd.mro.contains (.type "list") &&
      specialIn K (.ref C) "__call__" == some (some (.builtin "type.__call__")) && instIn K (.ref C) (.type "type") == some true
  | _ => false
structure MakesL (M : Model) (h : Heap) (C : Addr) : Prop where
  obj : ∃ oc od cd sl, h.get? C = some ⟨oc, od, .cls cd, sl⟩ ∧ cd.hasDel = false ∧ cd.mro.isEmpty = false
  made : Looks M h (Bind.madeBy (.ref C)) (some "list.__new__")
  base : Looks M h (Bind.staticBase (.ref C)) (.ref C)
  self : Looks M h (isSubtype (.ref C) (.ref C)) true
  top : Looks M h (isSubtype (.ref C) (.type "list")) true
  call : Looks M h (specialOf (.ref C) "__call__") (some (.builtin "type.__call__"))
  typ : Looks M h (isInstance (.ref C) (.type "type")) true
set_option tactic.hygienic true in
theorem makesL_of {K : Frag} {M : Model} {h : Heap} (X : K.In h) {C : Addr} (e : makesLIn K C = true) : MakesL M h C := by
  unfold makesLIn at e
  split at e
  · rename_i oc od cd sl ho
    simp only [Bool.and_eq_true, Bool.not_eq_true', beq_iff_eq] at e
    obtain ⟨⟨⟨⟨⟨⟨e2, e3⟩, e4⟩, e5⟩, e6⟩, e7⟩, e8⟩ := e
    have hc : clsIn K C = some cd := by unfold clsIn; rw [ho]
    have hm : Looks M h (mroOf (.ref C)) cd.mro := (looks_clsIn X hc).andThen .now
    obtain ⟨c, l, hl⟩ : ∃ c l, cd.mro = c :: l := by cases q : cd.mro with | nil => rw [q] at e4; cases e4 | cons c l => exact ⟨c, l, rfl⟩
    have made : Looks M h (Bind.madeBy (.ref C)) (some "list.__new__") := by
      intro A Q E s k q
      unfold Bind.madeBy
      refine wpAny_bind (hm A _ E s k ?_)
      rw [hl, List.forIn_cons]
      refine wpAny_bind (wpAny_bind (wpAny_bind (wpAny_bind (wpAny_loadPart (k _ _ (X _ _ ho)) (wpAny_pure ?_)))))
      dsimp only
      rw [← Array.getElem?_toList, e3]
      exact wpAny_pure (wpAny_pure (wpAny_pure q))
    refine ⟨⟨oc, od, cd, sl, X _ _ ho, e2, e4⟩, made, ?_, looks_mroIn X ?_, looks_mroIn X ?_, looks_specialIn X e7, looks_instIn X e8⟩
    · intro A Q E s k q
      unfold Bind.staticBase
      refine wpAny_bind (hm A _ E s k ?_)
      rw [hl, List.forIn_cons]
      exact wpAny_bind (wpAny_bind (wpAny_bind (made A _ E s k (wpAny_pure (wpAny_pure (wpAny_pure q))))))
    · unfold mroIn; rw [hc, Option.bind_some, if_neg (by rw [e4]; decide), e5]
    · unfold mroIn; rw [hc, Option.bind_some, if_neg (by rw [e4]; decide), e6]
  · cases e
theorem ln_kind : builtinKind "list.__new__" = some .builtinFn := by decide +kernel
theorem ln_split : splitId "list.__new__" = some ("list", "__new__") := by decide +kernel
noncomputable def sigNew : Manifest.Signature := (Manifest.signature? "list.__new__").get (by kernel_rfl)
theorem ln_sig : Manifest.signature? "list.__new__" = some sigNew := by kernel_rfl
theorem ln_args (x : Value) : Bind.checkArgs "list.__new__" sigNew ⟨[x], []⟩ = pure () := by kernel_rfl
section
variable {prog : Program} {w : World} {A : Around} {C : Addr} {R : Result → Shared → Prop} {h : Heap} {g : Array GenState} {d : Drawn} {t : Nat} {os : OsState}
theorem newL_K (Y : MakesL (model prog w) h C) (hq : R (.ok (.ret (.ref (h.objs.size + 1)))) ⟨(h.push emptyDict).push (accObj C h.objs.size #[] 0), g, d, t, os⟩) :
    codeAny (model prog w) A (.call (.builtin "list.__new__") ⟨[.ref C], []⟩) R ⟨h, g, d, t, os⟩ := by
  obtain ⟨⟨oc, od, cd, sl, hC, e2, e4⟩, made, base, self, top, call, typ⟩ := Y
  have isT : Looks (model prog w) h (isType (.ref C)) true := by
    intro A Q E s k q
    obtain ⟨hh, g, d, t, os⟩ := s
    exact ks_wpAny_isType_cls (k _ _ hC) rfl q
  have qn : ("__new__" == "__new__") = true := by decide
  have hcan : (Manifest.canonical "list.__new__" != Manifest.canonical "list.__new__") = false := by decide +kernel
  refine codeAny_call_builtin_code (plainId_quiet F.plain_list_new _) ?_
  simp only [checkBuiltinCall, ln_kind, ln_split, ln_sig]
  rw [ln_args]
  repeat (first | simp only [qn, hcan, bne_self_eq_false, Bool.false_eq_true, if_false, if_true, Bool.not_true] | lk)
  refine codeAny_builtin_stack F.entry_list_new rfl fun p st => ?_
  rw [Around.under_plainId F.plain_list_new _]
  have hown := owner_list_new
  simp only [hown]
  have hC' := Heap.get?_push_of_some (accObj C h.objs.size #[] 0) (Heap.get?_push_of_some emptyDict hC)
  refine wpAny_bind (isT.at (w_neg (by decide) (wpAny_bind (top.at (w_neg (by decide) (wpAny_bind (wpAny_pure ?_)))))))
  refine w_neg (by rw [show typeHasDict (.ref C) = true from rfl]; decide) ?_
  unfold newDict
  refine wpAny_bind (wpAny_newObj_type ?_ (by size_fits))
  show wpAny _ _ (newObj (.ref C) (.seq #[]) (some h.objs.size) >>= _) _ _ _
  unfold newObj
  refine wpAny_bind (w_neg (by decide) ?_)
  show wpAny _ _ (newObjAsIs _ _ _) _ _ _
  unfold newObjAsIs classHasDel
  refine wpAny_bind (wpAny_alloc (wpAny_bind (wpAny_bind (wpAny_load (Heap.get?_push_of_some _ (Heap.get?_push_of_some _ hC)) (wpAny_pure ?_)))))
  rw [e2]
  refine wpAny_pure (wpAny_pure ?_)
  show R _ _
  rw [Heap.size_push]
  exact hq
end
end Mine

set_option Elab.async false
set_option genSizeOf false
set_option genInjectivity false
set_option backward.match.sparseCases false
set_option bootstrap.genMatcherCode false
set_option tactic.hygienic false
set_option linter.unusedVariables false
set_option maxRecDepth 100000
set_option maxHeartbeats 4000000
namespace Mine
open PySem PySem.Calls PyProof.Rows PySem.W PySem.SeqAt Builtin Builtin.ObjectAttr Builtin.Getset_descriptor
section
variable {prog : Program} {w : World} {A : Around} {C : Addr} {R : Result → Shared → Prop} {h : Heap} {g : Array GenState} {d : Drawn} {t : Nat} {os : OsState}
theorem makeL_core {init : Value} (Y : MakesL (model prog w) h C) (hi : Looks (model prog w) h (typeLookup (.ref C) "__init__") (some init))
    (hb : ∀ self, Looks (model prog w) h (bindSpecial init self) (init, [self]))
    (hq : codeAny (model prog w) (A.under (.builtin "type.__call__" ⟨[.ref C], []⟩)) (.call init ⟨[.ref (h.objs.size + 1)], []⟩) (InitBack (h.objs.size + 1) R) ⟨(h.push emptyDict).push (accObj C h.objs.size #[] 0), g, d, t, os⟩) :
    codeAny (model prog w) A (.call (.ref C) ⟨[], []⟩) R ⟨h, g, d, t, os⟩ := by
  have Y' := Y
  obtain ⟨⟨oc, od, cd, sl, hC, e2, e4⟩, made, base, self, top, call, typ⟩ := Y
  refine codeAny_of_tree ?_
  show wpAny _ _ (callAny (.ref C) _) _ _ _
  refine nd_load hC ?_
  show wpAny _ _ (callAny.viaDunder (.ref C) _) _ _ _
  unfold callAny.viaDunder
  refine wpAny_bind (call.at ?_)
  dsimp only
  rw [tc_bind]
  refine wpAny_bind (wpAny_pure (wpAny_bind (wpAny_pure ?_)))
  refine wpAny_pure (a := Fin.again (.call (.builtin "type.__call__") ⟨[.ref C], []⟩)) (And.intro rfl ?_)
  refine codeAny_call_builtin_at (Code.quiet_builtin _ (by decide +kernel)) entry_typeCall (check_slot tc_kind tc_split typ (tc_args _ _ _) ?_)
  unfold Builtin.«type.__call__»
  have hm : Looks (model prog w) h (mroOf (.ref C)) cd.mro := ((Looks.ld (part := none) hC).andThen .now).andThen .now
  repeat (first | simp only [e4, Bool.false_eq_true, if_false] | with_reducible refine wpAny_call ?_ | lk)
  refine newL_K Y' ?_
  have k : ∀ b o, h.get? b = some o → ((h.push emptyDict).push (accObj C h.objs.size #[] 0)).get? b = some o := fun b o e => Heap.get?_push_of_some _ (Heap.get?_push_of_some _ e)
  have hx : ((h.push emptyDict).push (accObj C h.objs.size #[] 0)).get? (h.objs.size + 1) = some (accObj C h.objs.size #[] 0) := by heap_get
  have t1 : Looks (model prog w) ((h.push emptyDict).push (accObj C h.objs.size #[] 0)) (typeOf (.ref (h.objs.size + 1))) (.ref C) := (Looks.ld hx).andThen .now
  have s1 := self.keeps k
  have i1 := hi.keeps k
  have b1 := (hb (.ref (h.objs.size + 1))).keeps k
  unfold isInstance callSpecial? specialOf
  repeat (first | with_reducible refine wpAny_call ?_ | lk)
  refine codeAny_mono hq fun r s' z => ?_
  rcases r with e | (v | _ | _ | _) <;> first | exact z | exact z.elim | skip
  obtain ⟨rfl, z⟩ := z
  exact wpAny_pure (wpAny_pure z)
end
end Mine

set_option Elab.async false
set_option genSizeOf false
set_option genInjectivity false
set_option backward.match.sparseCases false
set_option bootstrap.genMatcherCode false
set_option tactic.hygienic false
set_option linter.unusedVariables false
set_option maxRecDepth 100000
namespace Mine
open PySem PySem.Calls PyProof.Rows PySem.W PySem.SeqAt
variable {G : Gl} {T : Tb} {n : Nat} {call : CallT} {fx : Fx} {ρ ρ₁ : List Addr} {A : Around} {L : Addr} {ln : List Str} {st : St} {s s₁ : Shared} {cl : List Nat} {env : Env} {Q : AV → St → Prop} {E : Value → Shared → Prop}

noncomputable def lamFx (l : LamI) : Fx := ⟨l.scope.names, (l.scope.names.filter (·.2 == .local)).map (·.1), l.free, false⟩
noncomputable def chkLam (T : Tb) (ld : LamD) (l : LamI) : Bool :=
  !l.scope.isCoroutine && !l.scope.isGenerator && l.scope.kind == .function && (ownNames l.scope.names).isEmpty && (l.params.posonlyargs.isEmpty && l.params.vararg.isNone && l.params.kwonlyargs.isEmpty && l.params.kwarg.isNone) &&
    (l.params.args.length == ld.np && (lamFx l).ln.length == ld.nl && l.free.length == ld.nf) && decide (l.params.args.map (·.arg)).Nodup && okFx (lamFx l) && l.free.all (fun x => l.scope.names.lookup x != some .cell) && chkPl (lamFx l) ld.pl (l.params.args.map (·.arg)) && chkE T (lamFx l) ld.body l.body
structure ClOk (G : Gl) (T : Tb) : Prop where
  fns : ∀ a fd, T.fns.lookup a = some fd → FnOk G T a fd
  cls : ∀ C fi, T.clss.lookup C = some (fi, false) → makesIn G.K C = true ∧ findIn G.K (.ref C) "__init__" = some (some (.ref fi)) ∧ typeIn G.K (.ref fi) = some (.type "function") ∧ (T.fns.lookup fi).isSome = true
  acc : ∀ C fi, T.clss.lookup C = some (fi, true) → C ∈ T.accs ∧ makesLIn G.K C = true ∧ findIn G.K (.ref C) "__init__" = some (some (.ref fi)) ∧ typeIn G.K (.ref fi) = some (.type "function") ∧ (T.fns.lookup fi).isSome = true
  lam : ∀ i l ld, G.lamOk i l → T.lams[i]? = some ld → chkLam T ld l = true

theorem Rep.lamAt (R : Rep G ρ L ln st s) {l i : Nat} {cs : List Nat} {d : Option Nat} {v : Value} (h : st.σ[l]? = some (.lam i cs d)) (hv : VR G ρ (.loc l) v) :
    ∃ a o l pm c' ctv as, v = .ref a ∧ G.lamOk i l ∧ cs.map (ρ[·]?) = as.map some ∧ s.heap.get? a = some o ∧ o.data = .func (kla_fn "<lambda>" G.lq l.params l.body l.scope (l.free.zip as) pm (.ref c') ctv) ∧ s.heap.CodeRec (.ref c') G.lq := by
  obtain ⟨a, lm, pm, c', ctv, cs', od, e, _, h1, h2, h3, h4, _⟩ := R.lam h hv
  exact ⟨a, _, lm, pm, c', ctv, cs', e, h1, h2, h3, rfl, h4⟩
theorem len_of_map {α β : Type} {f : Nat → Option α} {cs : List Nat} {as : List α} (h : cs.map f = as.map some) : cs.length = as.length := by
  have := congrArg List.length h; simpa using this
theorem lam_call (W : TbOk G T) (H : CallOk G n call) (Y : ClOk G T) (hA : AOk A (n + 1)) (R : Rep G ρ L ln st s) {l i : Nat} {cs : List Nat} {d : Option Nat} {v : Value} {ld : LamD} {as : List AV} {vs : List Value} {Rr : Result → Shared → Prop}
    (h : st.σ[l]? = some (.lam i cs d)) (hv : VR G ρ (.loc l) v) (hld : T.lams[i]? = some ld) (hs : VRs G ρ as vs) (hn : cs.length = ld.nf) (hp : as.length = ld.np)
    (hq : ev T call cs ld.body (place cs ld.pl as ⟨List.replicate ld.nl none, st.σ⟩) fun v s => Q v ⟨st.vars, s.σ⟩) (hR : ∀ v s', Ret G ρ L ln s Q v s' → Rr (.ok (.ret v)) s') : codeAny (MM G) A (.call v ⟨vs, []⟩) Rr s := by
  obtain ⟨a, o, l, pm, c', ctv, aa, rfl, hl, hcs, ho, hd, hcr⟩ := R.lamAt h hv
  have hc := Y.lam i l ld hl hld
  unfold chkLam okFx at hc
  simp only [Bool.and_eq_true, beq_iff_eq, Bool.not_eq_true', decide_eq_true_eq, List.isEmpty_iff, Option.isNone_iff_eq_none, List.all_eq_true, bne_iff_ne, ne_eq] at hc
  obtain ⟨⟨⟨⟨⟨⟨⟨⟨⟨⟨c1, c2⟩, c3⟩, c4⟩, ⟨⟨c5, c6⟩, c7⟩, c8⟩, ⟨c9, c10⟩, c11⟩, c12⟩, c13, c14⟩, c15⟩, c16⟩, c17⟩ := hc
  have hvl := hs.length
  have hnl : (l.params.args.map (·.arg)).length = ld.np := by rw [List.length_map, c9]
  refine kla_callFunE (by have := hA.depth; show A.depth < 1000; lia) ho hd c1 c2 rfl hcr ?_
  refine binds_of c5 c6 c7 rfl c12 (ds := []) (od := none) (fun hq => wpAny_pure hq) rfl (Nat.zero_le _) (.inl (by rw [hnl, hvl, hp])) ?_
  have c8' : (kla_fn "<lambda>" G.lq l.params l.body l.scope (l.free.zip aa) pm (.ref c') ctv).params.kwarg = none := c8
  rw [c8']
  dsimp only
  rw [if_pos (by rw [hnl, hvl, hp])]
  have key := newEnv_ok (G := G) (A := A.in1) (E := fun e s' => Rr (.error e) s') (Q := fun env s₂ => s₂.heap.NoLimit ∧ codeAny (MM G) A (.expr l.body env) Rr s₂) (fx := lamFx l) (cl0 := cs) (fcn := l.free) (cs0 := aa) (ex := []) (nl := ld.nl) (ps := ld.pl) (as := as)
    (scope := l.scope) (binds := (l.params.args.map (·.arg)).zip vs) (qual := G.lq ++ ".<locals>.") (func := some a) (code := .ref c') (around := none) R.core ⟨c13, c14⟩ c3 rfl (by rw [c4]; rfl) (by rw [hn, c11]) hcs (fun e he => by cases he) c10 (fun x hx => c15 x hx) (fun h => by cases h)
    (fun ρ' hp' => binds_chk c16 (hs.mono hp') (by rw [hp, hnl])) fun env s₂ _ h2 hsc hne => ?_
  · rw [List.append_nil] at key
    exact key
  · obtain ⟨C, ρ', s₁, EO, R', hC, hk, hos, S'⟩ := hne.out
    rw [c4] at EO R'
    obtain ⟨p, loose, mean, mg, mb, Tp⟩ := W.gl.low
    refine ⟨Tp.nolimit.keeps R'.base, kla_codeExpr (wpAny_mono (e_ok W H ld.body (lamFx l) ⟨c13, c14⟩ l.body c17 (hA.deep env) R' EO (by simpa using hq)) (fun v s' hr => hR v s' ?_) fun _ _ z => z)⟩
    refine Ret.el hr fun ρ₂ x st₂ hv R2 S2 hq => ?_
    obtain ⟨R3, S3⟩ := R.leave R2 hk hos hC (S'.trans S2)
    exact ⟨ρ₂, x, _, hv, R3, S3, hq⟩
end Mine

set_option Elab.async false
set_option genSizeOf false
set_option genInjectivity false
set_option backward.match.sparseCases false
set_option bootstrap.genMatcherCode false
set_option tactic.hygienic false
set_option linter.unusedVariables false
set_option maxRecDepth 100000
namespace Mine
open PySem PySem.Calls PyProof.Rows PySem.W PySem.SeqAt
variable {G : Gl} {T : Tb} {n : Nat} {call : CallT} {fx : Fx} {ρ ρ₁ : List Addr} {A : Around} {L : Addr} {ln : List Str} {st : St} {s s₁ : Shared} {cl : List Nat} {env : Env} {Q : AV → St → Prop} {E : Value → Shared → Prop}

theorem keep_fn {M : Model} {h : Heap} {a : Addr} {o : Obj} {f : FuncData} (e : h.get? a = some o) (hd : o.data = .func f) : Looks M h (keeperOf (.ref a)) .frame := by
  intro A Q E s k q
  unfold keeperOf
  refine wpAny_bind (wpAny_load (k _ _ e) ?_)
  rw [hd]; exact wpAny_pure q
theorem keep_cls {M : Model} {h : Heap} {C : Addr} {o : Obj} {cd : ClassData} (e : h.get? C = some o) (hd : o.data = .cls cd) (hs : Looks M h (specialOf (.ref C) "__call__") (some (.builtin "type.__call__"))) : Looks M h (keeperOf (.ref C)) .machine := by
  intro A Q E s k q
  unfold keeperOf
  refine wpAny_bind (wpAny_load (k _ _ e) ?_)
  rw [hd]
  refine wpAny_bind (hs A _ E s k ?_)
  exact wpAny_pure q
theorem keep_b {M : Model} {h : Heap} (nm : String) : Looks M h (keeperOf (.builtin nm)) .machine := fun A Q E s k q => wpAny_pure q
theorem keep_t {M : Model} {h : Heap} (nm : String) : Looks M h (keeperOf (.type nm)) .machine := fun A Q E s k q => wpAny_pure q
theorem weight_make (C : Addr) (rest : List Value) : (Code.builtin "type.__call__" ⟨.ref C :: rest, []⟩).weight = 1 := rfl
theorem units_make (C : Addr) (rest : List Value) : (Code.builtin "type.__call__" ⟨.ref C :: rest, []⟩).cUnits = 1 := rfl
theorem AOk.make (h : AOk A (n + 2)) (C : Addr) (rest : List Value) : AOk (A.under (.builtin "type.__call__" ⟨.ref C :: rest, []⟩)) (n + 1) :=
  ⟨h.hh, by have := h.depth; show A.depth + (Code.builtin "type.__call__" ⟨.ref C :: rest, []⟩).weight + (n + 1) < 900; rw [weight_make]; lia,
    by have := h.units; show A.units + (Code.builtin "type.__call__" ⟨.ref C :: rest, []⟩).cUnits + 60 * (n + 1) < 9000; rw [units_make]; lia⟩
/-- an object is made and its __init__ runs -/
theorem init_ok (W : TbOk G T) {m : Nat} (H : CallOk G m (callN T m)) (Y : ClOk G T) {fi : Addr} (hfi : (T.fns.lookup fi).isSome = true) (hA : AOk A (m + 2)) {C : Addr} {o : Obj} {ao : AO} {as : List AV} {vs : List Value}
    (R : Rep G ρ L ln st s) (hs : VRs G ρ as vs) (hf : o.isFreed = false) (hao : ∀ ρ' h', Pre ρ ρ' → ρ'[st.σ.length]? = some s.heap.objs.size → h'.get? (s.heap.objs.size + 1) = some o → OR G ρ' h' ao (s.heap.objs.size + 1)) {Rr : Result → Shared → Prop}
    (h : callN T (m + 1) (.ext fi) (.loc (st.σ.length + 1) :: as) (st.σ ++ [.ns [], ao]) fun r σ' => r = .none ∧ Q (.loc (st.σ.length + 1)) ⟨st.vars, σ'⟩) (hR : ∀ v s', Ret G ρ L ln s Q v s' → Rr (.ok (.ret v)) s') :
    codeAny (MM G) (A.under (.builtin "type.__call__" ⟨.ref C :: vs, []⟩)) (.call (.ref fi) ⟨.ref (s.heap.objs.size + 1) :: vs, []⟩) (InitBack (s.heap.objs.size + 1) Rr) { s with heap := (s.heap.push emptyDict).push o } := by
  obtain ⟨fd, hfd⟩ := Option.isSome_iff_exists.mp hfi
  obtain ⟨R1, S1, e1⟩ := R.push (ob := emptyDict) (ao := .ns []) (t := s.toks) rfl (.ns (es := []) (n := 0) (Heap.get?_push_size _ rfl) .nil (fun p hp => nomatch hp) (Nat.zero_le _))
  have hsz : (s.heap.push emptyDict).objs.size = s.heap.objs.size + 1 := Heap.size_push ..
  obtain ⟨R2, S2, e2⟩ := R1.push (ob := o) (ao := ao) (t := s.toks) hf (by
    rw [show (⟨s.heap.push emptyDict, s.gens, s.drawn, s.toks, s.os⟩ : Shared).heap = s.heap.push emptyDict from rfl, hsz]
    exact hao _ _ ((Pre.snoc _ _).trans (.snoc _ _)) ((Pre.snoc _ _).get e1) (by rw [← hsz]; exact Heap.get?_push_size _ hf))
  dsimp only at R2 S2 e2 R1 S1 e1
  rw [hsz] at e2 R2 S2
  have e3 : (st.σ ++ [AO.ns []]).length = st.σ.length + 1 := by simp
  rw [e3] at e2
  have hσ : (st.σ ++ [AO.ns []]) ++ [ao] = st.σ ++ [.ns [], ao] := by simp
  rw [hσ] at R2
  have h := call_fn hfd h
  refine fn_ok (Q := fun r st' => r = .none ∧ Q (.loc (st.σ.length + 1)) st') (st := ⟨st.vars, st.σ ++ [.ns [], ao]⟩) W H (Y.fns fi fd hfd) (hA.make C vs) R2 (.cons (.loc e2) (hs.mono ((Pre.snoc _ _).trans (.snoc _ _)))) h fun v s' hr => ?_
  obtain ⟨ρ', x, st', h1, h2, h3, rfl, h5⟩ := hr
  cases h1
  exact ⟨rfl, hR _ _ ⟨ρ', _, st', .loc (h3.pre.get e2), h2, (S1.trans S2).trans h3, h5⟩⟩
end Mine

set_option Elab.async false
set_option genSizeOf false
set_option genInjectivity false
set_option backward.match.sparseCases false
set_option bootstrap.genMatcherCode false
set_option tactic.hygienic false
set_option linter.unusedVariables false
set_option maxRecDepth 100000
namespace Mine
open PySem PySem.Calls PyProof.Rows PySem.W PySem.SeqAt
variable {G : Gl} {T : Tb} {n : Nat} {call : CallT} {fx : Fx} {ρ ρ₁ : List Addr} {A : Around} {L : Addr} {ln : List Str} {st : St} {s s₁ : Shared} {cl : List Nat} {env : Env} {Q : AV → St → Prop} {E : Value → Shared → Prop}

theorem cls_call (W : TbOk G T) {m : Nat} (H : CallOk G m (callN T m)) (Y : ClOk G T) (hA : AOk A (m + 2)) (R : Rep G ρ L ln st s) {C fi : Addr} {acc : Bool} {as : List AV} {vs : List Value} (hc : T.clss.lookup C = some (fi, acc)) (hs : VRs G ρ as vs) {Rr : Result → Shared → Prop}
    (h : callN T (m + 1) (.ext fi) (.loc (st.σ.length + 1) :: as) (st.σ ++ [.ns [], if acc then .acc C st.σ.length [] else .obj C st.σ.length]) fun r σ' => r = .none ∧ Q (.loc (st.σ.length + 1)) ⟨st.vars, σ'⟩) (hv : acc = true → vs = [])
    (hR : ∀ v s', Ret G ρ L ln s Q v s' → Rr (.ok (.ret v)) s') : codeAny (MM G) A (.call (.ref C) ⟨vs, []⟩) Rr s := by
  have X := R.K W.gl
  obtain ⟨hh, g, d, t, os⟩ := s
  cases acc with
  | false =>
    obtain ⟨c1, c2, c3, c4⟩ := Y.cls C fi hc
    exact make_core (makes_of X c1) (looks_findIn X c2) (fun self => bind_fn X self c3) (.inl rfl) (init_ok W H Y c4 hA R hs rfl (fun ρ' h' hp e he => .obj e he) h hR)
  | true =>
    obtain ⟨_, c1, c2, c3, c4⟩ := Y.acc C fi hc
    cases hv rfl
    exact makeL_core (makesL_of X c1) (looks_findIn X c2) (fun self => bind_fn X self c3) (init_ok W H Y c4 hA R hs rfl (fun ρ' h' hp e he => .acc (vs := []) (n := 0) e he .nil) h hR)
theorem keep_ext (Y : ClOk G T) (W : TbOk G T) (R : Rep G ρ L ln st s) {a : Addr} {as : List AV} {Q : AV → Sto → Prop} (h : callN T (n + 1) (.ext a) as st.σ Q) : ∃ k, (k = Keeper.frame ∨ k = Keeper.machine ∨ k = Keeper.boundFrame) ∧ Looks (MM G) s.heap (keeperOf (.ref a)) k := by
  rcases call_ext h with ⟨fd, hfd, _⟩ | ⟨⟨fi, acc⟩, hc, _⟩
  · obtain ⟨o, f, body, lam, ho, F⟩ := Y.fns a fd hfd
    exact ⟨_, .inl rfl, keep_fn (R.base _ _ ho) F.data⟩
  · have X := R.K W.gl
    cases acc with
    | false =>
      obtain ⟨⟨oc, od, cd, sl, hC, _⟩, _, _, _, _, hs, _⟩ := makes_of (M := MM G) X (Y.cls a fi hc).1
      exact ⟨_, .inr (.inl rfl), keep_cls hC rfl hs⟩
    | true =>
      obtain ⟨⟨oc, od, cd, sl, hC, _⟩, _, _, _, _, hs, _⟩ := makesL_of (M := MM G) X (Y.acc a fi hc).2.1
      exact ⟨_, .inr (.inl rfl), keep_cls hC rfl hs⟩
set_option backward.match.sparseCases true in
theorem fin_call {v : Value} {vs : List Value} (h : ∀ Rr : Result → Shared → Prop, (∀ v s', Ret G ρ L ln s Q v s' → Rr (.ok (.ret v)) s') → (∀ e s', E e s' → Rr (.error e) s') → codeAny (MM G) A (.call v ⟨vs, []⟩) Rr s) : wpAny (MM G) A (PySem.call v vs) (Ret G ρ L ln s Q) E s :=
  wpAny_call (h _ (fun _ _ h => h) fun _ _ h => h)
theorem step_ok (W : TbOk G T) (Y : ClOk G T) (H : CallOk G n (callN T n)) (H' : ∀ m, n = m + 1 → CallOk G m (callN T m)) : CallOk G (n + 1) (callN T (n + 1)) where
  wp := by
    intro ρ A L ln st s g as v vs Q E hA R hg hs h
    cases g with
    | blt nm => rw [hg.blt_]; exact bltV_ok W hA.hh R hs h
    | typ nm => rw [hg.typ_]; exact typV_ok R hs h
    | ext a =>
      rw [hg.ext_]
      rcases call_ext h with ⟨fd, hfd, h⟩ | ⟨⟨fi, acc⟩, hc, hv, h⟩
      · exact fin_call fun Rr hR _ => fn_ok W H (Y.fns a fd hfd) hA R hs h hR
      · cases n with
        | zero => exact h.elim
        | succ m => exact fin_call fun Rr hR _ => cls_call W (H' m rfl) Y hA R hc hs h (fun e => List.eq_nil_of_length_eq_zero (hs.length.trans (congrArg List.length (hv e)))) hR
    | loc l =>
      obtain ⟨t, hl, ld, hld, h1, h2, h3⟩ := call_loc h
      exact fin_call fun Rr hR _ => lam_call W H Y hA R hl hg hld hs h1 h2 h3 hR
    | _ => exact h.elim
  keep := by
    intro ρ L ln st s g as v Q R hg h
    cases g with
    | blt nm => rw [hg.blt_]; exact ⟨_, .inr (.inl rfl), keep_b nm⟩
    | typ nm => rw [hg.typ_]; exact ⟨_, .inr (.inl rfl), keep_t nm⟩
    | ext a => rw [hg.ext_]; exact keep_ext Y W R h
    | loc l =>
      obtain ⟨t, hl, _⟩ := call_loc h
      obtain ⟨a, o, li, pm, c', ctv, aa, e, _, _, ho, hd, _⟩ := R.lamAt hl hg
      rw [e]; exact ⟨_, .inl rfl, keep_fn ho hd⟩
    | _ => exact h.elim
theorem all_ok (W : TbOk G T) (Y : ClOk G T) : ∀ n, CallOk G n (callN T n) ∧ ∀ m, n = m + 1 → CallOk G m (callN T m)
  | 0 => ⟨⟨fun _ _ _ _ h => h.elim, fun _ _ h => h.elim⟩, fun m h => absurd h.symm (Nat.succ_ne_zero m)⟩
  | n + 1 => have ih := all_ok W Y n; ⟨step_ok W Y ih.1 ih.2, fun m h => by cases h; exact ih.1⟩
end Mine

set_option Elab.async false
set_option genSizeOf false
set_option genInjectivity false
set_option backward.match.sparseCases false
set_option bootstrap.genMatcherCode false
set_option tactic.hygienic false
set_option linter.unusedVariables false
set_option maxRecDepth 100000
namespace Mine
open PySem PySem.Calls PyProof.Rows PySem.W PySem.SeqAt
variable {G : Gl} {T : Tb}

noncomputable def asInt : (v : Value) → As v fun t : Int × Tok => .int t.1 t.2
  | .int i t => some ⟨(i, t), rfl⟩
  | _ => none
noncomputable def asStr : (v : Value) → As v fun t : Str × Tok => .str t.1 t.2
  | .str i t => some ⟨(i, t), rfl⟩
  | _ => none
noncomputable def vrB (a : AV) (v : Value) : Bool := match a with
  | .none => v == .none
  | .bool a => v == .bool a
  | .int i => seen (asInt v) fun t => i == t.1
  | .str i => seen (asStr v) fun t => i == t.1
  | .ext a => v == .ref a
  | .typ a => v == .type a
  | .blt a => v == .builtin a
  | .loc _ => false
  | .scr => false
theorem vr_of {av : AV} {v : Value} (h : vrB av v = true) (ρ : List Addr) : VR G ρ av v := by
  cases av with
  | none => exact eq_of_beq h ▸ .none
  | bool => exact eq_of_beq h ▸ .bool _
  | int i => obtain ⟨t, e, h⟩ := seen_inv (o := asInt v) (k := fun t => i == t.1) h; cases eq_of_beq h; exact e ▸ .int _ _
  | str i => obtain ⟨t, e, h⟩ := seen_inv (o := asStr v) (k := fun t => i == t.1) h; cases eq_of_beq h; exact e ▸ .str _ _
  | ext => exact eq_of_beq h ▸ .ext _
  | typ => exact eq_of_beq h ▸ .typ _
  | blt => exact eq_of_beq h ▸ .blt _
  | loc => exact nomatch h
  | scr => exact nomatch h
noncomputable def vrsB : List AV → List Value → Bool
  | [], l => l.isEmpty
  | a :: as, l => seen (asC l) fun t => vrB a t.1 && vrsB as t.2
theorem vrs_of : ∀ {as : List AV} {vs : List Value}, vrsB as vs = true → ∀ ρ, VRs G ρ as vs
  | [], _, h, _ => List.isEmpty_iff.mp h ▸ .nil
  | a :: as, _, h, ρ => let ⟨t, e, h⟩ := seen_inv h; e ▸ .cons (vr_of (and1 h).1 ρ) (vrs_of (and1 h).2 ρ)
noncomputable def asVal : (v : Option CFound) → As v fun t : Value => some (.val t)
  | some (.val v) => some ⟨v, rfl⟩
  | _ => none
noncomputable def asBlt : (v : Option (Option Value)) → As v fun t : String => some (some (.builtin t))
  | some (some (.builtin v)) => some ⟨v, rfl⟩
  | _ => none
noncomputable def asDd : (v : Option Obj) → As v fun t : Nat => some ⟨.type "dict", .none, .dict ⟨[]⟩ t, ⟨[]⟩⟩
  | some ⟨c, .none, .dict ⟨[]⟩ n, ⟨[]⟩⟩ => if h : c = .type "dict" then some ⟨n, by rw [h]⟩ else none
  | _ => none
noncomputable def isBlt : AV → Bool
  | .blt _ => true
  | _ => false

section
variable (K : Frag) (T : Tb)
noncomputable def clsB (C : Addr) : Bool := findIn K (.ref C) "__getattribute__" == some (some (.builtin "object.__getattribute__")) && findIn K (.ref C) "__getattr__" == some none && hasDictIn K C && findIn K (.ref C) "__setattr__" == some (some (.builtin "object.__setattr__"))
noncomputable def nmOf (k : Nat) : Str := T.nms.getD k Str.empty
noncomputable def iatB (p : Addr × Nat) : Bool := clsB K p.1 && findIn K (.ref p.1) (nmOf T p.2) == some none && decide (p.2 < T.nms.length) && (plainOver K p.1 && takerIn K p.1 (nmOf T p.2) == some none)
noncomputable def aatB (p : Addr × Nat) : Bool := findIn K (.ref p.1) "__setattr__" == some (some (.builtin "object.__setattr__")) && hasDictIn K p.1 && decide (p.2 < T.nms.length) && (pileOver K p.1 && takerIn K p.1 (nmOf T p.2) == some none)
noncomputable def fatB (k : Nat) : Bool := fastLookup "function" (nmOf T k) == some none && decide (k < T.nms.length)
noncomputable def catB (p : (Addr × Nat) × AV) : Bool := readsIn K p.1.1 (.type "type") && seen (asVal (findCls K (.ref p.1.1) (.type "type") (nmOf T p.1.2))) fun v => vrB p.2 v && handedIn v && !isBlt p.2
noncomputable def accB (C : Addr) : Bool :=
  findIn K (.ref C) "__getitem__" == some (some (.builtin "list.__getitem__")) && findIn K (.ref C) "__setitem__" == some (some (.builtin "list.__setitem__")) && mroIn K C (.type "list") == some true && (mroIn K C (.type "collections.deque") == some false && mroIn K C (.type "module") == some false && mroIn K C (.ref C) == some true) &&
    ((clsIn K C).any (fun cd => cd.qualname.toString ++ "." ++ "pop" != "*") && nsIn K cStatics "thirdparty.any" == some none && typeIn K (.ref C) == some (.type "type")) &&
      (ks_superIn K C C "__len__" == some (some (.builtin "list.__len__")) && ks_superIn K C C "pop" == some (some (.builtin "list.pop")) && ks_superIn K C C "__init__" == some (some (.builtin "list.__init__")))
noncomputable def getB (C : Addr) : Bool := seen (asBlt (findIn K (.ref C) "__getattribute__")) (fun g => !(Manifest.canonical g != "object.__getattribute__")) && findIn K (.ref C) "__getattr__" == some none
noncomputable def cmeC (C : Addr) (x : Str) (v : AV) : Bool := match v with
  | .ext f => findIn K (.ref C) x == some (some (.ref f)) && typeIn K (.ref f) == some (.type "function")
  | .blt id => findIn K (.ref C) x == some (some (.builtin id)) && id == "list.append"
  | _ => false
noncomputable def cmeB (p : (Addr × Nat) × AV) : Bool := getB K p.1.1 && decide (p.1.2 < T.nms.length) && cmeC K p.1.1 (nmOf T p.1.2) p.2
noncomputable def gloN (av : AV) (x : Str) : Option Value → Bool
  | some v => vrB av v
  | none => (bootBuiltins x).any (vrB av) && !(x == ("__name__" : Str))
noncomputable def gloB (p : Str × AV) : Bool := (nsIn K mainGlobals p.1).any (gloN p.2 p.1)
noncomputable def ddB : Bool := T.dd != sysModules && seen (asDd (K.lookup T.dd)) fun _ => true
noncomputable def tbB : Bool := decide T.nms.Nodup && T.iattr.all (iatB K T) && T.aattr.all (aatB K T) && (T.fattr.all (fatB T) && T.cattr.all (catB K T) && T.accs.all (accB K) && T.cmeth.all (cmeB K T)) && (T.globs.all (gloB K) && ddB K T && (K.lookup sysModules).isSome) &&
  (nmOf T kAppend == "append" && nmOf T kExtend == "extend" && nmOf T kJoin == "join" && nmOf T kCount == "count")
end
theorem typ_append : typeOf (.builtin "list.append") = pure (.type "method_descriptor") := by kernel_rfl
theorem cme_of {K : Frag} {C : Addr} {x : Str} {v : AV} (h : cmeC K C x v = true) : (∃ f, v = .ext f ∧ findIn K (.ref C) x = some (some (.ref f)) ∧ typeIn K (.ref f) = some (.type "function")) ∨
    (∃ id, v = .blt id ∧ findIn K (.ref C) x = some (some (.builtin id)) ∧ typeOf (.builtin id) = pure (.type "method_descriptor")) := by
  cases v with
  | ext f => exact .inl ⟨f, rfl, eq_of_beq (and1 h).1, eq_of_beq (and1 h).2⟩
  | blt f => exact .inr ⟨f, rfl, eq_of_beq (and1 h).1, eq_of_beq (and1 h).2 ▸ typ_append⟩
  | _ => exact nomatch h
theorem ne_of_bne {α : Type} [BEq α] [LawfulBEq α] {a b : α} (h : (a != b) = true) : a ≠ b := fun e => by rw [bne_iff_ne] at h; exact h e
theorem ne_of_nbeq {α : Type} [BEq α] [LawfulBEq α] {a b : α} (h : (!(a == b)) = true) : a ≠ b := ne_of_bne h
theorem tbOk_of (X : G.K.In G.h₀) (hlow : ∃ p loose mean mg mb, Top p loose mean mg mb G.h₀) (hn : G.nms = T.nms) (hlam : ∀ i l, T.lamB i l = true → G.lamOk i l)
    (hs : ∃ its, G.h₀.IsList G.scr its ∧ its.size = T.scr.length ∧ its.size ≤ sizeLine ∧ ∀ (k : Nat) (i : Int), T.scr[k]? = some i → ∃ t, its[k]? = some (.int i t)) (h : tbB G.K T = true) : TbOk G T :=
  have hnm : ∀ k, G.nm k = nmOf T k := fun k => by unfold Gl.nm nmOf; rw [hn]
  have hln : ∀ {k}, decide (k < T.nms.length) = true → k < G.nms.length := fun h => by rw [hn]; exact of_decide_eq_true h
  have h0 := (and3 h).1; have h1 := (and3 h).2.1; have h2 := (and3 h).2.2.1; have h3 := (and3 h).2.2.2
  have hall : ∀ {α : Type} {l : List α} {p : α → Bool}, l.all p = true → ∀ {x}, x ∈ l → p x = true := fun h _ hx => List.all_eq_true.mp h _ hx
  have beq : ∀ {a b : Option (Option Value)}, (a == b) = true → a = b := eq_of_beq
  { gl := ⟨X, by rw [hn]; exact of_decide_eq_true (and2 h0).1, hlow⟩
    iat := fun C k hm =>
      have c := and3 (hall (and2 h0).2.1 hm); have d := and3 c.1; have e := and1 c.2.2.2
      ⟨⟨beq d.1, beq d.2.1, d.2.2.1, beq d.2.2.2⟩, by rw [hnm]; exact beq c.2.1, hln c.2.2.1, e.1, by rw [hnm]; exact beq e.2⟩
    aat := fun C k hm =>
      have c := and3 (hall (and2 h0).2.2 hm); have e := and1 c.2.2.2
      ⟨beq c.1, c.2.1, hln c.2.2.1, e.1, by rw [hnm]; exact beq e.2⟩
    fat := fun k hm =>
      have c := and1 (hall (and3 h1).1 hm)
      ⟨by rw [typeLookup_type, builtinLookup_eq_fast, hnm, eq_of_beq c.1], hln c.2⟩
    cat := fun C k av hm =>
      have c := and1 (hall (and3 h1).2.1 (mem_lookup hm))
      let ⟨v, hv, c2⟩ := seen_inv c.2
      have c3 := and2 c2
      ⟨_, v, c.1, by rw [hnm]; exact hv, vr_of c3.1, c3.2.1, fun n e => by
        have c5 := not1 c3.2.2
        rw [show (⟨(C, k), av⟩ : (Addr × Nat) × AV).2 = .blt n from e] at c5; exact nomatch c5⟩
    acc := fun C hm =>
      have c := and2 (hall (and3 h1).2.2.1 hm); have d := and3 c.1; have e := and2 d.2.2.2; have f := and2 c.2.1; have g := and2 c.2.2
      ⟨beq d.1, beq d.2.1, eq_of_beq d.2.2.1, eq_of_beq e.1, eq_of_beq e.2.1, eq_of_beq e.2.2, any_some f.1, beq f.2.1, eq_of_beq f.2.2, beq g.1, beq g.2.1, beq g.2.2⟩
    dd := ⟨ne_of_bne (and1 (and2 h2).2.1).1, let ⟨n, e, _⟩ := seen_inv (and1 (and2 h2).2.1).2; ⟨n, X _ _ e⟩⟩
    sm := let ⟨o, ho⟩ := Option.isSome_iff_exists.mp (and2 h2).2.2; ⟨o, X _ _ ho⟩
    nm := hn.symm
    lam := hlam
    nm0 := have c := and3 h3; ⟨(hnm _).trans (eq_of_beq c.1), (hnm _).trans (eq_of_beq c.2.1), (hnm _).trans (eq_of_beq c.2.2.1), (hnm _).trans (eq_of_beq c.2.2.2)⟩
    cme := fun C k av hm =>
      have c := and2 (hall (and3 h1).2.2.2 (mem_lookup hm)); have d := and1 c.1
      let ⟨g, hg, c1⟩ := seen_inv d.1
      ⟨⟨⟨g, hg, not1 c1⟩, beq d.2⟩, hln c.2.1, by
        have c4 := c.2.2
        rw [hnm]
        exact cme_of c4⟩
    glo := fun x av hm =>
      let ⟨o, e, c⟩ := any_some (hall (and2 h2).1 (mem_lookup hm))
      match o, e, c with
      | some v, e, c => ⟨v, vr_of c, .inl e⟩
      | none, e, c => let ⟨v, e1, e2⟩ := any_some (and1 c).1; ⟨v, vr_of e2, .inr ⟨e, e1, ne_of_nbeq (and1 c).2⟩⟩
    scr := hs }
end Mine

set_option Elab.async false
set_option genSizeOf false
set_option genInjectivity false
set_option backward.match.sparseCases false
set_option bootstrap.genMatcherCode false
set_option tactic.hygienic false
set_option linter.unusedVariables false
set_option maxRecDepth 100000
namespace Mine
open PySem PySem.Calls PyProof.Rows PySem.W PySem.SeqAt
variable {G : Gl} {T : Tb}

section
variable (K : Frag) (T : Tb)
noncomputable def asRef : (v : Value) → As v fun t : Addr => .ref t
  | .ref a => some ⟨a, rfl⟩
  | _ => none
noncomputable def asBool : (v : Value) → As v fun t : Bool => .bool t
  | .bool a => some ⟨a, rfl⟩
  | _ => none
noncomputable def asFields : (d : Data) → As d fun t : Array Value => .fields t
  | .fields a => some ⟨a, rfl⟩
  | _ => none
noncomputable def asSeq : (d : Data) → As d fun t : Array Value × Nat => .seq t.1 t.2
  | .seq a n => some ⟨(a, n), rfl⟩
  | _ => none
noncomputable def asFunc : (d : Data) → As d fun t : FuncData => .func t
  | .func a => some ⟨a, rfl⟩
  | _ => none
noncomputable def asCellR : (d : Data) → As d fun t : Addr => .cell (some (.ref t))
  | .cell (some (.ref a)) => some ⟨a, rfl⟩
  | _ => none
noncomputable def asStrO : (v : Option Value) → As v fun t : Str × Tok => some (.str t.1 t.2)
  | some (.str i t) => some ⟨(i, t), rfl⟩
  | _ => none
/-- the code object of a def that makes lambdas, and its table -/
noncomputable def hdB (c P : Addr) : Bool := (K.lookup c).any fun o => seen (asFields o.data) fun vs => (o.cls == .type "code" && (vs[11]? : Option Value) == some (.ref P) && vs.getD 11 .none == .ref P && c != P) &&
  seen (asStr (vs.getD 18 .none)) fun _ => seen (asInt (vs.getD 7 .none)) fun _ => seen (asBool (vs.getD 9 .none)) fun _ => seen (asInt (vs.getD 10 .none)) fun _ => true
/-- super()'s file -/
noncomputable def fileB (file : Str) (f : FuncData) : Bool := seen (asRef f.code) fun cc => (K.lookup cc).any fun o => seen (asFields o.data) fun vs => seen (asStrO (vs[2]?)) fun x => file == x.1
noncomputable def cellB (f : FuncData) : Bool := (f.closure.lookup ("__class__" : Str)).any fun c => (K.lookup c).any fun o => seen (asCellR o.data) fun D => T.accs.all (· == D)
noncomputable def argB (fx : Fx) (f : FuncData) : Bool := (f.params.posonlyargs ++ f.params.args).head?.any fun ar => fx.names.lookup ar.arg == some .local && fx.ln[0]? == some ar.arg
noncomputable def supB (prog : Program) (fx : Fx) (f : FuncData) : Bool := fx.names.lookup ("super" : Str) == some .globalImplicit && fx.names.lookup ("__class__" : Str) == some .free && nsIn K mainGlobals "super" == some none && (argB fx f && fileB K prog.main.file f && cellB K T f) &&
  (!(prog.main.scope.names.lookup ("super" : Str)).isSome && !fx.cn.contains ("__class__" : Str))
/-- super().name() -/
noncomputable def supEB (k : Nat) (e : PySem.Expr) : Bool := seen (asCall e) fun t => t.2.1.isEmpty && seen (asAttr t.1) fun u => u.2.1 == supN k && u.2.2.endLine == t.2.2.line && seen (asCall u.1) fun w => w.2.1.isEmpty && seen (asName w.1) fun x => x.1 == ("super" : Str)
noncomputable def stmB (k : Nat) (r : Bool) (x : Stmt) : Bool := if r then seen (asRet x) fun t => supEB k t.1 else seen (asExpr x) fun t => supEB k t.1
noncomputable def dflB (fd : FnD) (f : FuncData) : Bool := f.defaults == .none && fd.dfl.isEmpty || seen (asRef f.defaults) fun t => (K.lookup t).any fun o => seen (asSeq o.data) fun ds => vrsB fd.dfl ds.1.toList
noncomputable def tailB (prog : Program) (fx : Fx) (fd : FnD) (f : FuncData) (body : List Stmt) : Option (Nat × Bool) → Bool
  | none => chkSs T fx fd.body body
  | some (k, r) => body.getLast?.any (stmB k r) && chkSs T fx fd.body body.dropLast && supB K T prog fx f
noncomputable def bodyB (prog : Program) (fx : Fx) (fd : FnD) (f : FuncData) (body : List Stmt) : Bool := tailB K T prog fx fd f body fd.tail
/-- f is what the def fd says; lam: lambdas are made in it, noted at P, called lq -/
noncomputable def fnB (prog : Program) (P : Addr) (lq : Str) (lam : Bool) (fd : FnD) (f : FuncData) (body : List Stmt) : Bool :=
  !f.scope.isCoroutine && !f.scope.isGenerator && codeIn K f.code f.qualname && (f.globals == mainGlobals && f.builtins == builtinsNs && f.scope.kind == .function) && (f.params.posonlyargs.isEmpty && f.params.vararg.isNone && f.params.kwonlyargs.isEmpty && f.params.args.length == fd.np) &&
    (decide (f.params.args.map (·.arg)).Nodup && (defFx f.scope lam).ln.length == fd.nl && (ownNames f.scope.names).length == fd.own && okFx (defFx f.scope lam)) &&
      (chkPl (defFx f.scope lam) fd.pl (f.params.args.map (·.arg) ++ f.params.kwarg.toList.map (·.arg)) && f.params.kwarg.isSome == fd.kw && dflB K fd f && decide (fd.dfl.length ≤ fd.np)) &&
        ((!lam || (seen (asRef f.code) (fun c => hdB K c P) && (f.qualname ++ ".<locals>.") ++ "<lambda>" == lq)) && bodyB K T prog (defFx f.scope lam) fd f body)
noncomputable def asStmts : (d : FuncBody) → As d fun t : List Stmt => .stmts t
  | .stmts a => some ⟨a, rfl⟩
  | _ => none
noncomputable def fnAtB (prog : Program) (P : Addr) (lq : Str) (lam : Addr) (p : Addr × FnD) : Bool := (K.lookup p.1).any fun o => seen (asFunc o.data) fun f => seen (asStmts f.body) fun body => fnB K T prog P lq (p.1 == lam) p.2 f body
end
theorem hd_of (X : G.K.In G.h₀) {c P : Addr} (h : hdB G.K c P = true) : CodeHd G.h₀ c P :=
  let ⟨o, ho, h⟩ := any_some h
  let ⟨vs, hd, h⟩ := seen_inv h
  have h0 := and3 (and1 h).1
  let ⟨_, e1, h⟩ := seen_inv (and1 h).2
  let ⟨_, e2, h⟩ := seen_inv h
  let ⟨_, e3, h⟩ := seen_inv h
  let ⟨_, e4, h⟩ := seen_inv h
  ⟨o, vs, _, _, _, _, _, _, _, X _ _ ho, eq_of_beq h0.1, hd, eq_of_beq h0.2.1, eq_of_beq h0.2.2.1, e1, e2, e3, e4, ne_of_bne h0.2.2.2⟩
theorem supE_of {k : Nat} {e : PySem.Expr} (h : supEB k e = true) : ∃ p0 p1 p q, e = supE k p0 p1 p q ∧ (p.endLine == q.line) = true :=
  let ⟨t, e1, g1⟩ := seen_inv h
  let ⟨u, e2, g2⟩ := seen_inv (and1 g1).2
  let ⟨w, e3, g3⟩ := seen_inv (and2 g2).2.2
  let ⟨x, e4, g4⟩ := seen_inv (and1 g3).2
  ⟨x.2, w.2.2, u.2.2, t.2.2, by rw [e1, e2, e3, e4, List.isEmpty_iff.mp (and1 g1).1, List.isEmpty_iff.mp (and1 g3).1, eq_of_beq (and2 g2).1, eq_of_beq g4]; rfl, (and2 g2).2.1⟩
theorem stm_of {k : Nat} {r : Bool} {x : Stmt} (h : stmB k r x = true) : ∃ p0 p1 p q p', x = supS k r p0 p1 p q p' ∧ (p.endLine == q.line) = true := by
  cases r with
  | true =>
    obtain ⟨t, rfl, h⟩ := seen_inv (o := asRet x) (k := fun t => supEB k t.1) h
    obtain ⟨p0, p1, p, q, e, h⟩ := supE_of h
    exact ⟨p0, p1, p, q, _, by rw [e]; rfl, h⟩
  | false =>
    obtain ⟨t, rfl, h⟩ := seen_inv (o := asExpr x) (k := fun t => supEB k t.1) h
    obtain ⟨p0, p1, p, q, e, h⟩ := supE_of h
    exact ⟨p0, p1, p, q, _, by rw [e]; rfl, h⟩
theorem sup_of (X : G.K.In G.h₀) {fx : Fx} {f : FuncData} (h : supB G.K T G.prog fx f = true) : SupOk G T fx f :=
  have h0 := and3 (and1 h).1; have h4 := and2 h0.2.2.2; have h7 := and1 (and1 h).2
  { ks := eq_of_beq h0.1, kc := eq_of_beq h0.2.1, gm := eq_of_beq h0.2.2.1
    arg := let ⟨ar, e, g⟩ := any_some h4.1; ⟨ar, e, eq_of_beq (and1 g).1, eq_of_beq (and1 g).2⟩
    code := let ⟨cc, e1, g⟩ := seen_inv h4.2.1; let ⟨o, ho, g⟩ := any_some g; let ⟨vs, e2, g⟩ := seen_inv g; let ⟨x, e3, g⟩ := seen_inv g; ⟨cc, o, vs, x.1, x.2, e1, X _ _ ho, e2, e3, g⟩
    top := not1 h7.1
    cell := let ⟨c, e1, g⟩ := any_some h4.2.2; let ⟨o, ho, g⟩ := any_some g; let ⟨D, e2, g⟩ := seen_inv g; ⟨c, D, e1, ⟨o, X _ _ ho, e2⟩, fun C hC => eq_of_beq (List.all_eq_true.mp g C hC)⟩
    cn := fun hc => Bool.false_ne_true ((not1 h7.2).symm.trans (List.contains_iff_mem.mpr hc)) }
theorem dfl_of (X : G.K.In G.h₀) {fd : FnD} {f : FuncData} (h : dflB G.K fd f = true) : (fd.dfl = [] ∧ f.defaults = .none) ∨ ∃ t ot ds m, f.defaults = .ref t ∧ G.h₀.get? t = some ot ∧ ot.data = .seq ds m ∧ ∀ ρ, VRs G ρ fd.dfl ds.toList :=
  (Bool.or_eq_true_iff.mp h).elim (fun h => .inl ⟨List.isEmpty_iff.mp (and1 h).2, eq_of_beq (and1 h).1⟩) fun h =>
    let ⟨t, e, h⟩ := seen_inv h; let ⟨o, ho, h⟩ := any_some h; let ⟨ds, e2, h⟩ := seen_inv h; .inr ⟨t, o, ds.1, ds.2, e, X _ _ ho, e2, vrs_of h⟩
theorem tail_of (X : G.K.In G.h₀) {fx : Fx} {fd : FnD} {f : FuncData} {body : List Stmt} : ∀ {t : Option (Nat × Bool)}, tailB G.K T G.prog fx fd f body t = true → match t with
    | none => chkSs T fx fd.body body = true
    | some (k, r) => ∃ init p0 p1 p q p', body = init ++ [supS k r p0 p1 p q p'] ∧ (p.endLine == q.line) = true ∧ chkSs T fx fd.body init = true ∧ SupOk G T fx f
  | none, h => h
  | some (k, r), h => by
    obtain ⟨g1, g2, g3⟩ := and2 h
    obtain ⟨x, hx, g1⟩ := any_some g1
    obtain ⟨p0, p1, p, q, p', rfl, hend⟩ := stm_of g1
    obtain ⟨ys, hy⟩ := List.getLast?_eq_some_iff.mp hx
    refine ⟨ys, p0, p1, p, q, p', hy, hend, ?_, sup_of X g3⟩
    rw [hy, List.dropLast_concat] at g2; exact g2
theorem fn_of (X : G.K.In G.h₀) {lam : Bool} {fd : FnD} {o : Obj} {f : FuncData} {body : List Stmt} (ho : o.data = .func f) (hb : f.body = .stmts body) (h : fnB G.K T G.prog G.P G.lq lam fd f body = true) : FnAt G T fd o f body lam :=
  have a := and1 h; have h14 := and1 a.2
  have b := and1 a.1; have h10 := and3 b.2
  have c := and1 b.1; have h6 := and3 c.2
  have d := and1 c.1; have p := and3 d.2
  have e := and1 d.1; have q := and2 e.2
  have h1 := and2 e.1; have f := and1 h6.2.2.2
  { data := ho, hbody := hb, co := not1 h1.1, gen := not1 h1.2.1, code := codeRec_of X h1.2.2, glob := eq_of_beq q.1, blt := eq_of_beq q.2.1, kind := eq_of_beq q.2.2
    p1 := List.isEmpty_iff.mp p.1, p2 := Option.isNone_iff_eq_none.mp p.2.1, p3 := List.isEmpty_iff.mp p.2.2.1, np := eq_of_beq p.2.2.2
    nd := of_decide_eq_true h6.1, nl := eq_of_beq h6.2.1, own := eq_of_beq h6.2.2.1, fx := ⟨of_decide_eq_true f.1, of_decide_eq_true f.2⟩
    pl := h10.1, kw := eq_of_beq h10.2.1, dfl := dfl_of X h10.2.2.1, dn := of_decide_eq_true h10.2.2.2
    hlam := fun hl => by
      subst hl
      have g := and1 (a := seen (asRef _) _) h14.1
      exact ⟨let ⟨c, e, z⟩ := seen_inv g.1; ⟨c, e, hd_of X z⟩, eq_of_beq g.2⟩
    tail := tail_of X h14.2 }
theorem fnOk_of (X : G.K.In G.h₀) {la : Addr} {p : Addr × FnD} (h : fnAtB G.K T G.prog G.P G.lq la p = true) : FnOk G T p.1 p.2 :=
  let ⟨o, ho, h⟩ := any_some h; let ⟨f, hf, h⟩ := seen_inv h; let ⟨body, hb, h⟩ := seen_inv h
  ⟨o, f, body, _, X _ _ ho, fn_of X hf hb h⟩
section
variable (K : Frag) (T : Tb)
noncomputable def clsAtB (p : Addr × Addr × Bool) : Bool := findIn K (.ref p.1) "__init__" == some (some (.ref p.2.1)) && typeIn K (.ref p.2.1) == some (.type "function") && (T.fns.lookup p.2.1).isSome && (if p.2.2 then T.accs.contains p.1 && makesLIn K p.1 else makesIn K p.1)
end
theorem clOk_of (X : G.K.In G.h₀) {la : Addr} (h1 : T.fns.all (fnAtB G.K T G.prog G.P G.lq la) = true) (h2 : T.clss.all (clsAtB G.K T) = true) (h3 : ∀ i l ld, G.lamOk i l → T.lams[i]? = some ld → chkLam T ld l = true) : ClOk G T := by
  refine ⟨fun a fd h => fnOk_of X (List.all_eq_true.mp h1 _ (mem_lookup h)), fun C fi h => ?_, fun C fi h => ?_, h3⟩
  · obtain ⟨c1, c2, c3, c4⟩ := and3 (List.all_eq_true.mp h2 _ (mem_lookup h))
    exact ⟨c4, beq_iff_eq.mp c1, beq_iff_eq.mp c2, c3⟩
  · obtain ⟨c1, c2, c3, c4⟩ := and3 (List.all_eq_true.mp h2 _ (mem_lookup h))
    obtain ⟨c4, c5⟩ := and1 (by simpa using c4 : (T.accs.contains C && makesLIn G.K C) = true)
    exact ⟨by simpa using c4, c5, beq_iff_eq.mp c1, beq_iff_eq.mp c2, c3⟩
end Mine

set_option Elab.async false
set_option genSizeOf false
set_option genInjectivity false
set_option backward.match.sparseCases false
set_option bootstrap.genMatcherCode false
set_option tactic.hygienic false
set_option linter.unusedVariables false
set_option maxRecDepth 100000
namespace Mine
open PySem PySem.Calls PyProof.Rows PySem.W PySem.SeqAt
noncomputable abbrev pw := PySem.Challenge.pw_xc0024_02
noncomputable def aWhite : Addr := 83
noncomputable def aAcc : Addr := 167
noncomputable def aWinit : Addr := 38
noncomputable def aWeq : Addr := 59
noncomputable def aAinit : Addr := 104
noncomputable def aApush : Addr := 111
noncomputable def aApopf : Addr := 119
noncomputable def aApop : Addr := 127
noncomputable def aAcount : Addr := 164
noncomputable def aSub : Addr := 180
noncomputable def aDrawn : Addr := 187
noncomputable def aParents : Addr := 194
noncomputable def aMade : Addr := 201
noncomputable def aTree : Addr := 208
noncomputable def aRead : Addr := 213
noncomputable def aEnds : Addr := 220
noncomputable def aInto : Addr := 225
noncomputable def aWays : Addr := 230
noncomputable def aTurns : Addr := 237
noncomputable def aTyped : Addr := 242
noncomputable def aLaw : Addr := 247
noncomputable def fWinit : FnD := { np := 2, nl := 9, pl := [.inl 0, .inl 1], own := 0, body := (.cons (.asg (.attr (.loc 0) 4) (.loc 1)) (.cons (.swap 2 3 (.attr (.lit (.ext aWhite)) 14) (.attr (.lit (.ext aWhite)) 15)) (.cons (.asg (.loc 4) (.lst .nil)) (.cons (.asgs (.cons (.loc 5) (.cons (.loc 6) (.cons (.loc 7) .nil))) (.lit (.int 0))) (.cons (.for (.loc 8) (.of (.attr (.loc 0) 4)) (.cons (.ife (.cmp .eq (.loc 8) (.loc 2)) (.cons (.asg (.loc 6) (.bin .add (.loc 6) (.lit (.int 1)))) (.cons (.asg (.loc 5) (.bin .add (.loc 5) (.lit (.int 1)))) .nil)) (.cons (.ife (.cmp .eq (.loc 8) (.loc 3)) (.cons (.asg (.loc 6) (.bin .add (.loc 6) (.lit (.int 1)))) (.cons (.asg (.loc 7) (.bin .add (.loc 7) (.lit (.int 1)))) (.cons (.ife (.cmp .ge (.loc 5) (.call (.lit (.blt "len")) (.cons (.loc 4) .nil))) (.cons (.asg (.loc 4) (.bin .add (.loc 4) (.bin .mul (.lst (.cons (.lit (.int 0)) .nil)) (.bin .add (.bin .sub (.loc 5) (.call (.lit (.blt "len")) (.cons (.loc 4) .nil))) (.lit (.int 1)))))) .nil) .nil) (.cons (.asg (.item (.loc 4) (.loc 5)) (.bin .add (.item (.loc 4) (.loc 5)) (.lit (.int 1)))) (.cons (.asg (.loc 5) (.lit (.int 0))) .nil))))) (.cons .brk .nil)) .nil)) .nil)) (.cons (.asg (.attr (.loc 0) 5) (.loc 6)) (.cons (.asg (.attr (.loc 0) 6) (.loc 7)) (.cons (.asg (.attr (.loc 0) 7) (.tup (.cons (.call (.lit (.typ "tuple")) (.cons (.loc 4) .nil)) (.cons (.loc 5) .nil)))) (.cons (.asg (.attr (.loc 0) 8) (.cmp .le (.call (.lit (.blt "len")) (.cons (.loc 4) .nil)) (.lit (.int 1)))) .nil))))))))) }
noncomputable def fWeq : FnD := { np := 2, nl := 2, pl := [.inl 0, .inl 1], own := 0, body := (.cons (.ret (.cmp .eq (.attr (.loc 0) 7) (.attr (.loc 1) 7))) .nil) }
noncomputable def fAinit : FnD := { np := 2, nl := 2, pl := [.inl 0, .inl 1], own := 0, tail := some (2, false), dfl := [.int 0], body := (.cons (.asg (.attr (.loc 0) 16) (.loc 1)) .nil) }
noncomputable def fApush : FnD := { np := 3, nl := 3, pl := [.inl 0, .inl 1, .inl 2], own := 0, body := (.cons (.expr (.meth (.loc 0) 0 (.cons (.tup (.cons (.loc 1) (.cons (.loc 2) .nil))) .nil))) .nil) }
noncomputable def fApopf : FnD := { np := 2, nl := 3, pl := [.inl 0, .inl 1], own := 0, dfl := [.int 0], body := (.cons (.asg (.loc 2) (.sfrom (.loc 0) (.loc 1))) (.cons (.asg (.sfrom (.loc 0) (.loc 1)) (.lst .nil)) (.cons (.ret (.loc 2)) .nil))) }
noncomputable def fApop : FnD := { np := 1, nl := 1, pl := [.inl 0], own := 0, tail := some (1, true), body := (.cons (.ife (.cmp .eq (.meth (.loc 0) 20 .nil) (.lit (.int 0))) (.cons (.ret (.tup (.cons (.lit (.str "")) (.cons (.lit (.str "")) .nil)))) .nil) .nil) .nil) }
noncomputable def fAcount : FnD := { np := 1, nl := 1, pl := [.inl 0], own := 0, tail := some (0, true), body := .nil }
noncomputable def fSub : FnD := { np := 3, nl := 5, pl := [.inl 0, .inl 1, .inl 2, .inl 3], own := 0, kw := true, dfl := [.ext 172], body := (.cons (.asg (.loc 2) (.merge 2 3)) (.cons (.asg (.loc 4) (.meth (.loc 0) 13 (.cons (.loc 1) (.cons (.loc 2) .nil)))) (.cons (.expr (.meth (.loc 0) 0 (.cons (.loc 4) .nil))) (.cons (.ret (.loc 4)) .nil)))) }
noncomputable def fDrawn : FnD := { np := 1, nl := 3, pl := [.inl 0], own := 0, body := (.cons (.asg (.loc 1) (.lst (.cons (.lit (.int 1)) (.cons (.lit (.int 9)) (.cons (.lit (.int 0)) .nil))))) (.cons (.for (.loc 2) (.rng1 (.call (.lit (.blt "len")) (.cons (.loc 0) .nil))) (.cons (.augi (.loc 1) (.bin .mod (.loc 2) (.lit (.int 3))) .add (.bin .mod (.item (.loc 0) (.loc 2)) (.lit (.int 1000000)))) .nil)) (.cons (.ret (.loc 1)) .nil))) }
noncomputable def fParents : FnD := { np := 1, nl := 3, pl := [.inl 0], own := 0, body := (.cons (.asg (.loc 1) (.lst (.cons (.lit (.int 0)) .nil))) (.cons (.for (.loc 2) (.rng2 (.lit (.int 1)) (.lit (.int 6))) (.cons (.expr (.meth (.loc 1) 0 (.cons (.bin .sub (.bin .sub (.loc 2) (.lit (.int 1))) (.bin .mod (.loc 0) (.call (.lit (.blt "min")) (.cons (.loc 2) (.cons (.lit (.int 3)) .nil))))) .nil))) (.cons (.asg (.loc 0) (.bin .fdiv (.loc 0) (.call (.lit (.blt "min")) (.cons (.loc 2) (.cons (.lit (.int 3)) .nil))))) .nil))) (.cons (.ret (.loc 1)) .nil))) }
noncomputable def fMade : FnD := { np := 2, nl := 2, pl := [.inl 0, .inl 1], own := 1, body := (.cons (.asg (.cel 0) (.lam 0 [])) (.cons (.asg (.attr (.cel 0) 10) (.loc 0)) (.cons (.asg (.attr (.cel 0) 11) (.loc 1)) (.cons (.asg (.attr (.cel 0) 12) (.lst .nil)) (.cons (.asg (.attr (.cel 0) 13) (.lit (.ext aMade))) (.cons (.asg (.attr (.cel 0) 0) (.lam 1 [0])) (.cons (.ret (.cel 0)) .nil))))))) }
noncomputable def fTree : FnD := { np := 1, nl := 3, pl := [.inl 0], own := 0, body := (.cons (.asg (.loc 1) (.lst (.cons (.call (.lit (.ext aSub)) (.cons (.call (.lit (.ext aMade)) (.cons (.lit (.str "")) (.cons .dict0 .nil))) (.cons (.lit (.str "a")) .nil))) .nil))) (.cons (.for (.loc 2) (.rng2 (.lit (.int 1)) (.lit (.int 6))) (.cons (.expr (.meth (.loc 1) 0 (.cons (.call (.lit (.ext aSub)) (.cons (.item (.loc 1) (.item (.loc 0) (.loc 2))) (.cons (.item (.lit (.str "abcdef")) (.loc 2)) .nil))) .nil))) .nil)) (.cons (.ret (.item (.loc 1) (.lit (.int 0)))) .nil))) }
noncomputable def fRead : FnD := { np := 5, nl := 10, pl := [.inl 0, .inl 1, .inl 2, .inl 3, .inl 4], own := 0, body := (.cons (.asg (.loc 5) (.meth (.loc 2) 20 .nil)) (.cons (.for (.loc 6) (.of (.attr (.loc 0) 12)) (.cons (.expr (.call (.lit (.ext aRead)) (.cons (.loc 6) (.cons (.loc 1) (.cons (.loc 2) (.cons (.loc 3) (.cons (.loc 4) .nil))))))) .nil)) (.cons (.asg (.loc 7) (.meth (.lit (.str "")) 2 (.cons (.comp [] 0 3 (.tup (.cons (.loc 1) (.cons (.loc 2) .nil))) (.of (.meth (.loc 2) 18 (.cons (.loc 5) .nil))) .nil (.elt (.bin .add (.loc 1) (.loc 2)))) .nil))) (.cons (.asg (.loc 8) (.call (.lit (.ext aWhite)) (.cons (.bin .add (.bin .add (.loc 7) (.bin .mul (.lit (.str " ")) (.loc 1))) (.attr (.loc 0) 10)) .nil))) (.cons (.expr (.meth (.loc 4) 0 (.cons (.loc 8) .nil))) (.cons (.asg (.loc 9) (.lit (.int 0))) (.cons (.whl (.and (.cmp .lt (.loc 9) (.call (.lit (.blt "len")) (.cons (.loc 3) .nil))) (.not (.meth (.item (.loc 3) (.loc 9)) 9 (.cons (.loc 8) .nil)))) (.cons (.augl 9 .add (.lit (.int 1))) .nil)) (.cons (.ife (.cmp .eq (.loc 9) (.call (.lit (.blt "len")) (.cons (.loc 3) .nil))) (.cons (.expr (.meth (.loc 3) 0 (.cons (.loc 8) .nil))) .nil) .nil) (.cons (.expr (.meth (.loc 2) 17 (.cons (.bin .mul (.lit (.str " ")) (.loc 9)) (.cons (.lit (.str "\t")) .nil)))) .nil))))))))) }
noncomputable def fEnds : FnD := { np := 2, nl := 4, pl := [.inl 0, .inl 1], own := 0, body := (.cons (.asg (.loc 2) (.lst .nil)) (.cons (.for (.loc 3) (.of (.item (.loc 0) (.loc 1))) (.cons (.expr (.meth (.loc 2) 1 (.cons (.call (.lit (.ext aEnds)) (.cons (.loc 0) (.cons (.loc 3) .nil))) .nil))) .nil)) (.cons (.ret (.bin .add (.loc 2) (.lst (.cons (.loc 1) .nil)))) .nil))) }
noncomputable def fInto : FnD := { np := 1, nl := 5, pl := [.inr 2], own := 3, body := (.cons (.use 1 (.comp [2] 1 1 (.cel 0) (.rng1 (.lit (.int 6))) .nil (.elt (.comp [0, 1] 0 2 (.loc 1) (.rng2 (.bin .add (.cel 0) (.lit (.int 1))) (.lit (.int 6))) (.cons (.cmp .eq (.item (.cel 1) (.loc 1)) (.cel 0)) .nil) (.elt (.loc 1)))))) (.cons (.asg (.cel 1) (.lst .nil)) (.cons (.for (.loc 2) (.of (.lst (.cons (.lst .nil) (.cons (.lst (.cons (.lit (.int 0)) .nil)) (.cons (.lst (.cons (.lit (.int 1)) .nil)) (.cons (.lst (.cons (.lit (.int 2)) .nil)) (.cons (.lst (.cons (.lit (.int 3)) .nil)) (.cons (.lst (.cons (.lit (.int 4)) .nil)) (.cons (.lst (.cons (.lit (.int 0)) (.cons (.lit (.int 0)) .nil))) (.cons (.lst (.cons (.lit (.int 6)) .nil)) (.cons (.lst (.cons (.lit (.int 7)) .nil)) .nil))))))))))) (.cons (.asg (.loc 3) (.lst .nil)) (.cons (.for (.loc 0) (.rng1 (.lit (.int 6))) (.cons (.asg (.loc 4) (.lit (.int 1))) (.cons (.for (.cel 0) (.of (.loc 2)) (.cons (.augl 4 .mul (.call (.lit (.blt "sum")) (.cons (.comp [1, 0] 0 2 (.loc 1) (.of (.item (.loc 1) (.loc 0))) .nil (.elt (.item (.item (.cel 0) (.cel 1)) (.loc 1)))) .nil))) .nil)) (.cons (.expr (.meth (.loc 3) 0 (.cons (.loc 4) .nil))) .nil)))) (.cons (.expr (.meth (.cel 1) 0 (.cons (.loc 3) .nil))) .nil)))) (.cons (.ret (.comp [1] 1 1 (.cel 0) (.of (.call (.lit (.ext aEnds)) (.cons (.loc 1) (.cons (.lit (.int 0)) .nil)))) .nil (.elt (.comp [0] 0 2 (.loc 1) (.of (.cel 1)) .nil (.elt (.item (.loc 1) (.cel 0))))))) .nil)))) }
noncomputable def fWays : FnD := { np := 2, nl := 0, pl := [.inr 2, .inr 1], own := 3, body := (.cons (.asg (.cel 0) (.call (.lit (.blt "len")) (.cons (.cel 1) .nil))) (.cons (.ife (.cmp .eq (.cel 0) (.lit (.int 6))) (.cons (.ret (.lit (.int 1))) .nil) .nil) (.cons (.ret (.call (.lit (.blt "sum")) (.cons (.comp [2, 1, 0] 0 2 (.loc 1) (.rng2 (.lit (.int 1)) (.lit (.int 6))) (.cons (.and (.cmp .notin (.loc 1) (.cel 1)) (.cmp .eq (.item (.cel 0) (.loc 1)) (.item (.cel 1) (.item (.cel 0) (.cel 2))))) .nil) (.elt (.call (.lit (.ext aWays)) (.cons (.cel 0) (.cons (.bin .add (.cel 1) (.lst (.cons (.loc 1) .nil))) .nil))))) .nil))) .nil))) }
noncomputable def fTurns : FnD := { np := 1, nl := 6, pl := [.inl 0], own := 0, body := (.cons (.asg (.loc 1) (.lit (.int 1))) (.cons (.for (.tup (.cons (.loc 2) (.cons (.loc 3) .nil))) (.of (.loc 0)) (.cons (.for (.loc 4) (.of (.loc 2)) (.cons (.for (.loc 5) (.rng2 (.lit (.int 2)) (.bin .add (.loc 4) (.lit (.int 1)))) (.cons (.augl 1 .mul (.loc 5)) .nil)) .nil)) .nil)) (.cons (.ret (.loc 1)) .nil))) }
noncomputable def fTyped : FnD := { np := 1, nl := 2, pl := [.inl 0], own := 1, body := (.cons (.asg (.tup (.cons (.cel 0) (.cons (.loc 1) .nil))) (.loc 0)) (.cons (.ret (.bin .add (.meth (.lit (.str "")) 2 (.cons (.comp [0] 0 2 (.loc 1) (.rng1 (.call (.lit (.blt "len")) (.cons (.cel 0) .nil))) .nil (.elt (.bin .mul (.bin .add (.bin .mul (.lit (.str " ")) (.loc 1)) (.lit (.str "\t"))) (.item (.cel 0) (.loc 1))))) .nil)) (.bin .mul (.lit (.str " ")) (.loc 1)))) .nil)) }
noncomputable def fLaw : FnD := { np := 1, nl := 13, pl := [.inl 0], own := 2, body := (.cons (.asg (.loc 1) (.call (.lit (.ext aDrawn)) (.cons (.loc 0) .nil))) (.cons (.asg (.loc 2) (.call (.lit (.ext aParents)) (.cons (.item (.loc 1) (.lit (.int 0))) .nil))) (.cons (.asg (.loc 3) (.call (.lit (.ext aParents)) (.cons (.item (.loc 1) (.lit (.int 1))) .nil))) (.cons (.asg (.loc 4) (.bin .mod (.item (.loc 1) (.lit (.int 2))) (.lit (.int 3)))) (.cons (.asg (.loc 5) (.call (.lit (.ext aAcc)) .nil)) (.cons (.asg (.loc 6) (.lst .nil)) (.cons (.asg (.cel 1) (.lst .nil)) (.cons (.expr (.call (.lit (.ext aRead)) (.cons (.call (.lit (.ext aTree)) (.cons (.loc 2) .nil)) (.cons (.loc 4) (.cons (.loc 5) (.cons (.loc 6) (.cons (.cel 1) .nil))))))) (.cons (.expr (.call (.lit (.ext aRead)) (.cons (.call (.lit (.ext aTree)) (.cons (.loc 3) .nil)) (.cons (.loc 4) (.cons (.loc 5) (.cons (.loc 6) (.cons (.cel 1) .nil))))))) (.cons (.asg (.cel 0) (.bin .add (.call (.lit (.ext aInto)) (.cons (.loc 2) .nil)) (.call (.lit (.ext aInto)) (.cons (.loc 3) .nil)))) (.cons (.ife (.not (.call (.lit (.blt "all")) (.cons (.comp [1, 0] 0 3 (.loc 1) (.rng1 (.lit (.int 12))) .nil (.cons (.loc 2) (.rng1 (.lit (.int 12))) .nil (.elt (.cmp .is (.meth (.item (.cel 0) (.loc 1)) 9 (.cons (.item (.cel 0) (.loc 2)) .nil)) (.cmp .eq (.item (.cel 1) (.loc 1)) (.item (.cel 1) (.loc 2))))))) .nil))) (.cons (.ret (.lit (.bool false))) .nil) .nil) (.cons (.for (.loc 7) (.of (.cel 1)) (.cons (.asg (.loc 8) (.call (.lit (.ext aTyped)) (.cons (.attr (.loc 7) 7) .nil))) (.cons (.ife (.not (.cmp2 .eq .eq (.lst (.cons (.attr (.loc 7) 5) (.cons (.attr (.loc 7) 6) .nil))) (.lst (.cons (.call (.lit (.blt "len")) (.cons (.loc 8) .nil)) (.cons (.meth (.loc 8) 3 (.cons (.lit (.str "\t")) .nil)) .nil))) (.lst (.cons (.bin .sub (.call (.lit (.blt "len")) (.cons (.attr (.loc 7) 4) .nil)) (.lit (.int 1))) (.cons (.meth (.attr (.loc 7) 4) 3 (.cons (.lit (.str "\t")) .nil)) .nil))))) (.cons (.ret (.lit (.bool false))) .nil) .nil) (.cons (.ife (.cmp .isnot (.meth (.loc 7) 9 (.cons (.call (.lit (.ext aWhite)) (.cons (.loc 8) .nil)) .nil)) (.lit (.bool true))) (.cons (.ret (.lit (.bool false))) .nil) .nil) .nil)))) (.cons (.ife (.cmp .isnot (.meth (.item (.cel 1) (.lit (.int 5))) 9 (.cons (.call (.lit (.ext aWhite)) (.cons (.bin .add (.call (.lit (.ext aTyped)) (.cons (.attr (.item (.cel 1) (.lit (.int 5))) 7) .nil)) (.lit (.str " "))) .nil)) .nil)) (.lit (.bool false))) (.cons (.ret (.lit (.bool false))) .nil) .nil) (.cons (.for (.tup (.cons (.loc 9) (.cons (.loc 10) .nil))) (.of (.lst (.cons (.tup (.cons (.loc 2) (.cons (.supto (.cel 1) (.lit (.int 6))) .nil))) (.cons (.tup (.cons (.loc 3) (.cons (.sfrom (.cel 1) (.lit (.int 6))) .nil))) .nil)))) (.cons (.ife (.cmp .ne (.call (.lit (.ext aWays)) (.cons (.loc 9) (.cons (.lst (.cons (.lit (.int 0)) .nil)) .nil))) (.call (.lit (.ext aTurns)) (.cons (.comp [] 0 2 (.loc 1) (.of (.loc 10)) .nil (.elt (.attr (.loc 1) 7))) .nil))) (.cons (.ret (.lit (.bool false))) .nil) .nil) .nil)) (.cons (.asg (.loc 11) (.meth (.loc 5) 19 .nil)) (.cons (.asg (.loc 12) (.meth (.loc 5) 19 .nil)) (.cons (.ret (.and (.cmp .is (.cmp .eq (.loc 12) (.loc 11)) (.cmp .eq (.item (.cel 0) (.lit (.int 5))) (.item (.cel 0) (.lit (.int 11))))) (.cmp .eq (.meth (.loc 5) 19 .nil) (.tup (.cons (.lit (.str "")) (.cons (.lit (.str "")) .nil)))))) .nil))))))))))))))))) }
noncomputable def lamsL : List LamD := [⟨0, 0, 0, [], (.lit (.none))⟩, ⟨1, 1, 1, [.inl 0], (.meth (.attr (.cel 0) 12) 0 (.cons (.loc 0) .nil))⟩]
noncomputable def nmsL : List Str := ["append", "extend", "join", "count", "raw", "n", "nt", "norm", "is_simple", "equal", "tag", "attrib", "inner", "makeelement", "S", "T", "_initial_size", "push", "pop_from", "pop", "part_count"]
noncomputable def fnsL : List (Addr × FnD) := [(aWinit, fWinit), (aWeq, fWeq), (aAinit, fAinit), (aApush, fApush), (aApopf, fApopf), (aApop, fApop), (aAcount, fAcount), (aSub, fSub), (aDrawn, fDrawn), (aParents, fParents), (aMade, fMade), (aTree, fTree), (aRead, fRead), (aEnds, fEnds), (aInto, fInto), (aWays, fWays), (aTurns, fTurns), (aTyped, fTyped), (aLaw, fLaw)]
noncomputable def globsL : List (Str × AV) := [("Whitespace", .ext aWhite), ("_Accumulator", .ext aAcc), ("SubElement", .ext aSub), ("_law_drawn", .ext aDrawn), ("_law_parents", .ext aParents), ("_law_made", .ext aMade), ("_law_tree", .ext aTree), ("_law_read", .ext aRead), ("_law_ends", .ext aEnds), ("_law_into", .ext aInto), ("_law_ways", .ext aWays), ("_law_turns", .ext aTurns), ("_law_typed", .ext aTyped), ("len", .blt "len"), ("sum", .blt "sum"), ("all", .blt "all"), ("min", .blt "min"), ("range", .typ "range"), ("tuple", .typ "tuple")]
noncomputable def T0 (scr : List Int) : Tb := { nms := nmsL, iattr := [(aWhite, 4), (aWhite, 5), (aWhite, 6), (aWhite, 7), (aWhite, 8)], fattr := [0, 10, 11, 12, 13], aattr := [(aAcc, 16)], accs := [aAcc], fns := fnsL, clss := [(aWhite, aWinit, false), (aAcc, aAinit, true)], cattr := [((aWhite, 14), .str " "), ((aWhite, 15), .str "\t")], cmeth := [((aWhite, 9), .ext aWeq), ((aAcc, 0), .blt "list.append"), ((aAcc, 17), .ext aApush), ((aAcc, 18), .ext aApopf), ((aAcc, 19), .ext aApop), ((aAcc, 20), .ext aAcount)], lams := lamsL, globs := globsL, scr := scr, dd := 172 }
noncomputable def TT (scr : List Int) : Tb := { T0 scr with lamB := fun i l => match lamsL[i]? with | some ld => chkLam (T0 scr) ld l | none => false }
/-- all that stands, but for tables of code objects -/
noncomputable def fragOf (h : Heap) : Frag := ((List.range h.objs.size).filterMap fun a => (h.get? a).map fun o => (a, o)).filter fun p => noTabs [p]
theorem fragOf_in (h : Heap) : (fragOf h).In h := fun a o e =>
  let ⟨b, _, e⟩ := List.mem_filterMap.mp (List.mem_filter.mp (mem_lookup e)).1
  let ⟨o', e1, e2⟩ := Option.map_eq_some_iff.mp e
  (show b = a from congrArg Prod.fst e2) ▸ (show o' = o from congrArg Prod.snd e2) ▸ e1
theorem fragOf_noTabs (h : Heap) : noTabs (fragOf h) = true :=
  List.all_eq_true.mpr fun p hp => (and1 (List.mem_filter.mp hp).2).1
noncomputable def aCode : Addr := 200
noncomputable def aTab : Addr := 196
noncomputable def lq : Str := "_law_made.<locals>.<lambda>"
noncomputable def asTab : (o : Option Obj) → As o fun _ : Unit => some (tabObj #[])
  | some ⟨.none, none, .fields ⟨[]⟩, ⟨[]⟩⟩ => some ⟨(), rfl⟩
  | _ => none
noncomputable def chkAll (s : Shared) (scr : List Int) : Bool := tbB (fragOf s.heap) (TT scr) && fnsL.all (fnAtB (fragOf s.heap) (TT scr) pw aTab lq aMade) && [(aWhite, aWinit, false), (aAcc, aAinit, true)].all (clsAtB (fragOf s.heap) (TT scr)) && (hdB (fragOf s.heap) aCode aTab && seen (asTab (s.heap.get? aTab)) fun _ => true)
end Mine

set_option Elab.async false
set_option genSizeOf false
set_option genInjectivity false
set_option backward.match.sparseCases false
set_option bootstrap.genMatcherCode false
set_option tactic.hygienic false
set_option linter.unusedVariables false
set_option maxRecDepth 100000
namespace Mine
open PySem PySem.Calls PyProof.Rows PySem.W PySem.SeqAt

theorem ints_get {vs : List Value} {ns : List Int} (h : IntsAre vs ns) : ∀ (k : Nat) {i : Int}, ns[k]? = some i → ∃ t, vs[k]? = some (.int i t) :=
  IntsAre.rec (motive := fun vs ns _ => ∀ (k : Nat) {i : Int}, ns[k]? = some i → ∃ t, vs[k]? = some (.int i t)) (fun k _ e => nomatch e)
    (fun n t _ _ _ ih k => match k with | 0 => fun e => ⟨t, congrArg (fun x => some (Value.int x t)) (Option.some.inj e)⟩ | k + 1 => fun e => ih k e) h
/-- the law in plain Lean -/
noncomputable def Plain (scr : List Int) : Prop := runFn (TT scr) (callN (TT scr) 40) fLaw [.scr] [] fun v _ => v = .bool true
theorem lam_same (scr : List Int) (i : Nat) (l : LamI) (ld : LamD) (h : lamsL[i]? = some ld) : chkLam (T0 scr) ld l = chkLam (TT scr) ld l := by
  match i, h with
  | 0, h => cases h; rfl
  | 1, h => cases h; rfl
theorem law_walk {w : World} {s₀ s₁ : Shared} {mg mb : Str → Option Value} {p : Program} {loose : List Str} {mean : ExcName → Option Value} {fa a : Addr} {vs : List Value} {ns : List Int} {cw : ClaimW} {cl : Str → Option Addr} {args : List WData} (Tp : Top p loose mean mg mb s₁.heap) (hk : ∀ b o, s₀.heap.get? b = some o → s₁.heap.get? b = some o)
    (hc : chkAll s₀ ns = true) (hfa : fa = aLaw) (hL : s₁.heap.IsList a vs.toArray) (hI : IntsAre vs ns) (hz : ns.length ≤ 63) (hg : s₁.gens = #[]) (hr : ∀ a x, cw.raises a x = false) (hpost : cw.post args (.bool true) args = true) (hp : Plain ns) :
    wpAny (model pw w) callerA (PySem.call (.ref fa) [.ref a]) (fun v s' => GoodWG cw cl mean args s₁ (.ok (.ret v)) s') (fun e s' => GoodWG cw cl mean args s₁ (.error e) s') s₁ := by
  unfold chkAll at hc
  obtain ⟨c1, c2, c3, c4⟩ := and3 hc
  obtain ⟨c4, c5⟩ := and1 c4
  have X0 := fragOf_in s₀.heap
  have X1 : (fragOf s₀.heap).In s₁.heap := X0.keeps hk
  have hT : TabsAt [(aCode, aTab)] s₁.heap := by
    intro q hq
    cases List.mem_singleton.mp hq
    exact ⟨hd_of (G := ⟨pw, w, fragOf s₀.heap, s₁.heap, a, aTab, nmsL, fun _ _ => True, lq⟩) X1 c4, hk _ _ (have ⟨_, e, _⟩ := seen_inv c5; e)⟩
  have X := ghost_K hT X1 (fragOf_noTabs _)
  let G : Gl := ⟨pw, w, fragOf s₀.heap, ghostOf s₁.heap [(aCode, aTab)], a, aTab, nmsL, fun i l => ∀ ld, lamsL[i]? = some ld → chkLam (TT ns) ld l = true, lq⟩
  have W : TbOk G (TT ns) := by
    refine tbOk_of (G := G) X ⟨_, _, _, _, _, ghost_top hT Tp⟩ rfl ?_ ⟨vs.toArray, ghost_list hT hL, by simp [hI.length, TT, T0], ?_, fun k i e => ?_⟩ c1
    · intro i l h ld hld
      have h' : (match lamsL[i]? with | some ld => chkLam (T0 ns) ld l | none => false) = true := h
      rw [hld] at h'
      rw [← lam_same ns i l ld hld]; exact h'
    · rw [List.size_toArray, hI.length, sizeLine_eq]; lia
    · obtain ⟨t, e⟩ := ints_get hI k e
      exact ⟨t, by simpa using e⟩
  have Y : ClOk G (TT ns) := clOk_of (G := G) (la := aMade) X c2 c3 fun i l ld h1 h2 => h1 ld h2
  obtain ⟨H, _⟩ := all_ok W Y 40
  obtain ⟨oo, f, body, lam, ho, F⟩ := Y.fns aLaw fLaw rfl
  have R0 : RepC G [] [] s₁ := ⟨rfl, .nil, (fun l ao b e => nomatch e), (fun b hb => nomatch hb), fun b o e => of_hideAll _ e, Nat.le_of_eq (hideAll_size _ _), ⟨#[], (hT _ (.head _)).2, trivial, (fun pos v e => nomatch e)⟩, hideAll_none _ (.head _), hg⟩
  subst hfa
  have core : codeAny (model pw w) callerA (.call (.ref aLaw) ⟨[.ref a], []⟩) (GoodWG cw cl mean args s₁) s₁ := by
    refine kn_post hT hr ?_
    refine fn_top (A := callerA) (n := 40) (as := [.scr]) W H F ho ⟨rfl, by decide +kernel, by decide +kernel⟩ R0 (.one .scr) rfl rfl (Q := fun v _ => v = .bool true) hp fun C ρ' s₂ x v st' s' hC hkk hos hv R S hx => ?_
    subst hx
    cases hv
    obtain ⟨ps, hps, _⟩ := R.tab
    exact ⟨⟨.inl ⟨_, _, _, rfl, hr args, .bool true, hpost, fun _ => ⟨.nil, fun _ h => nomatch h⟩⟩, R.base, S.os.trans hos, R.gens⟩, ⟨ps, hps⟩, trivial⟩
  refine wpAny_call (codeAny_mono core fun r s' hgood => ?_)
  rcases r with e | (v | _ | _ | v) <;> first | exact hgood | (rcases hgood.1 with ⟨v, d, as, e, _⟩ | ⟨e, ob, cls, e, _⟩ <;> cases e)
end Mine

set_option Elab.async false
set_option genSizeOf false
set_option genInjectivity false
set_option backward.match.sparseCases false
set_option bootstrap.genMatcherCode false
set_option tactic.hygienic false
set_option linter.unusedVariables false
set_option maxRecDepth 100000
set_option maxHeartbeats 0
namespace Mine
open PySem PySem.Calls PyProof.Rows PySem.W PySem.SeqAt
noncomputable def q : Program := view pw [19]
noncomputable def loose : List Str := pw.boundNames.filter fun n => !(n == Str.ofString "law")
noncomputable def dl : DefRec × List (Str × PySem.Expr) := (defOf q (Str.ofString "law")).get (by kernel_rfl)
noncomputable def isLaw (s : Shared) : Bool := nsIn (fragOf s.heap) mainGlobals "law" == some (some (.ref aLaw))
noncomputable def seen02 (s : Shared) (scr : List Int) : Bool := chkAll s scr && isLaw s
noncomputable def endsAs (w : World) : Prop := (openEnds treeTable pw w 4000).map (fun s => (openSeen q loose (importedModules pw.main.body) (fun _ => true) true s, seen02 s)) = some (openGood q loose, fun _ => true)
theorem h0 : ∀ w : World, endsAs (w.withFollow "special-get-raises" false) := by intro w; unfold endsAs; kernel_rfl
theorem h1 : ∀ w : World, endsAs (w.withFollow "special-get-raises" true) := by intro w; unfold endsAs; kernel_rfl
theorem whole : LeftO pw q loose (fun _ => true) seen02 (fun _ _ => true) 4000 := fun w => byRow2 "special-get-raises" (P := endsAs) h0 h1 w
end Mine

set_option Elab.async false
set_option genSizeOf false
set_option genInjectivity false
set_option backward.match.sparseCases false
set_option bootstrap.genMatcherCode false
set_option tactic.hygienic false
set_option linter.unusedVariables false
set_option maxRecDepth 100000
set_option maxHeartbeats 0
namespace Mine
open PySem PySem.Calls PyProof.Rows PySem.W PySem.SeqAt
set_option tactic.hygienic true in
theorem hd (hp : ∀ ns : List Int, ns.length ≤ 63 → Plain ns) : PySem.Challenge.rw_xc0024_02.Holds := by
  refine holds_law (by kernel_rfl) fun said => ?_
  refine holds_openX (q := q) (loose := loose) (Xt := fun _ => true) (XP := fun _ _ => True) (Yf := seen02) (Ya := fun _ _ => true) (N := 4000) (d := dl.1) (kwd := dl.2) whole (fun _ _ => trivial) (fun _ _ _ _ _ => trivial)
    (by kernel_rfl) (by kernel_rfl) (by kernel_rfl) ?_ (by kernel_rfl) said (by kernel_rfl) ?_ ?_ ?_
  · exact fun s _ => recFacts_of (by kernel_rfl)
  · exact ⟨rfl, rfl, rfl, rfl, rfl, by decide +kernel⟩
  · w_witness2
  · intro w s₀ s₁ mg mb GG y fa o pm cd doc dV kV ho hd hcd hD hmg hg args vals as L hpre hlay hrd hwl hlo
    refine Ground.open GG ?_
    intro Tp B D TE TW
    have LK := L.keeps
    wrow_args hpre hlay hrd hwl hlo
    rename_i ns _ _ _ _ _ _ _ a vs _ hL _ _ _ hI _ hlen _
    have hc := congrFun y ns
    obtain ⟨hc1, hc2⟩ := and1 hc
    refine law_walk Tp LK hc1 ?_ hL hI (by omega) hg ?_ ?_ (hp ns (by omega))
    · have e := mg_of ((fragOf_in s₀.heap).keeps LK) Tp.g (beq_iff_eq.mp hc2)
      have e2 : mg "law" = some (.ref fa) := hmg
      rw [e] at e2
      cases e2; rfl
    · exact fun a x => raisesW_false allW_false_nil x
    · wrow_post
end Mine

set_option Elab.async false
set_option genSizeOf false
set_option genInjectivity false
set_option backward.match.sparseCases false
set_option bootstrap.genMatcherCode false
set_option tactic.hygienic false
set_option linter.unusedVariables false
namespace Mine
open PySem PySem.W PyProof.Rows Builtin Builtin.Str StrLaws
/-- a text by its signs -/
noncomputable abbrev S (l : List Nat) : Str := ⟨l.toArray⟩
theorem s_app (a b : List Nat) : S a ++ S b = S (a ++ b) := by
  show (⟨a.toArray ++ b.toArray⟩ : Str) = _
  rw [List.append_toArray]
theorem s_len (a : List Nat) : (S a).length = a.length := by show a.toArray.size = _; simp
theorem s_eq (a b : List Nat) : (S a == S b) = (a == b) := by
  by_cases h : a = b
  · subst h; simp
  · have h2 : S a ≠ S b := fun e => h (by have := congrArg Str.cps e; simpa using this)
    rw [beq_false_of_ne h, beq_false_of_ne h2]
theorem s_blank : (" " : Str) = S [32] := by decide +kernel
theorem s_tab : ("\t" : Str) = S [9] := by decide +kernel
theorem s_nil : ("" : Str) = S [] := by decide +kernel
theorem s_mulf : ∀ (n : Nat) (l : List Nat) (acc : List Nat), (List.replicate n l.toArray).foldl (· ++ ·) acc.toArray = (acc ++ (List.replicate n l).flatten).toArray
  | 0, l, acc => by simp
  | n + 1, l, acc => by
    rw [List.replicate_succ, List.foldl_cons, List.append_toArray, s_mulf n l, List.replicate_succ, List.flatten_cons, List.append_assoc]
set_option tactic.hygienic true in
theorem s_mul (l : List Nat) (n : Nat) : Txt.mul (S l) (n : Int) = S (List.replicate n l).flatten := by
  unfold Txt.mul
  by_cases h : (n : Int) < 1
  · have : n = 0 := by lia
    subst this
    rw [if_pos (by decide)]; rfl
  · rw [if_neg h]
    split
    · rename_i h2
      simp only [Bool.or_eq_true, beq_iff_eq, s_len] at h2
      rcases h2 with h2 | h2
      · have : n = 1 := by lia
        subst this; simp
      · have : l = [] := by simpa using h2
        subst this; simp
    · have := s_mulf n l []
      rw [show ((n : Int).toNat) = n from Int.toNat_natCast n]
      show (⟨_⟩ : Str) = _
      rw [show (#[] : Array Nat) = ([] : List Nat).toArray from rfl, this]; simp
theorem s_mulOk (l : List Nat) (n : Nat) (h : l.length * n ≤ 16777216) (hn : n ≤ 16777216) : MulOk (S l) (n : Int) := by
  refine ⟨by rw [Bool.or_eq_false_iff, decide_eq_false_iff_not, decide_eq_false_iff_not]; lia, fun h1 h2 => ?_, fun h1 h2 => ?_⟩
  · rw [s_len]
    have hn : 0 < (n : Int) := by lia
    have : (l.length : Int) ≤ (2 ^ 63 - 1) / n := by
      rw [Int.le_ediv_iff_mul_le hn]
      have : ((l.length * n : Nat) : Int) ≤ 16777216 := Int.ofNat_le.mpr h
      rw [Int.natCast_mul] at this; lia
    lia
  · rw [s_len, Int.toNat_natCast]
    unfold Builtin.Str.tooLong
    rw [decide_eq_false_iff_not, sizeLine_eq]
    lia
theorem s_join : ∀ ls : List (List Nat), Txt.join (S []) (ls.map S) = S ls.flatten := by
  intro ls
  show glued (S []) (ls.map S) = _
  rw [glued_eq_join]
  induction ls with
  | nil => rfl
  | cons x r ih =>
    cases r with
    | nil => show S x = _; simp
    | cons y r =>
      show S x ++ S [] ++ Str.join (S []) ((y :: r).map S) = _
      rw [ih, s_app, s_app]; simp
theorem sub_one (l : List Nat) (i : Nat) : subAt (S l) (S [9]) i = (l[i]? == some 9) := by
  unfold subAt
  show ((l.toArray).extract i (i + 1) == #[9]) = _
  rw [List.extract_toArray]
  show ((List.take (i + 1 - i) (l.drop i)).toArray == [9].toArray) = _
  rw [show i + 1 - i = 1 from by lia]
  cases h : l.drop i with
  | nil =>
    have : l[i]? = none := by rw [List.drop_eq_nil_iff] at h; exact List.getElem?_eq_none h
    rw [this]; rfl
  | cons x r =>
    have : l[i]? = some x := by
      have := List.getElem?_drop (xs := l) (i := i) (j := 0)
      rw [h] at this; simpa using this.symm
    rw [this]; simp
theorem occ_count (l : List Nat) : ∀ (m i : Nat) (st : Array Nat × Nat), i + m = l.length + 1 → st.2 ≤ i → st.1.size ≤ i →
    (forIn (List.range' i m) st (occBody (S l) (S [9]) l.length (l.length + 1)) : Id _).run.fst.size = st.1.size + (l.drop i).count 9
  | 0, i, st, h, _, _ => by
    rw [List.drop_eq_nil_of_le (by lia)]; simp
  | m + 1, i, st, h, h1, h2 => by
    rw [List.range'_succ, List.forIn_cons]
    unfold occBody
    rw [sub_one]
    have e1 : (S [9]).length = 1 := rfl
    rw [e1]
    by_cases hi : i < l.length
    · have hd : l.drop i = l[i] :: l.drop (i + 1) := (List.drop_eq_getElem_cons hi)
      have hg : l[i]? = some l[i] := List.getElem?_eq_getElem hi
      rw [hd, List.count_cons, hg]
      by_cases h9 : l[i] = 9
      · rw [if_pos ⟨⟨⟨by lia, h1⟩, by lia⟩, by rw [h9]; decide⟩]
        rw [show (l[i] == 9) = true from by rw [h9]; decide, if_pos rfl]
        show (forIn (List.range' (i + 1) m) (st.1.push i, i + 1) (occBody (S l) (S [9]) l.length (l.length + 1)) : Id _).run.fst.size = _
        rw [occ_count l m (i + 1) (st.1.push i, i + 1) (by lia) (by show i + 1 ≤ i + 1; lia) (by rw [Array.size_push]; lia), Array.size_push]
        lia
      · rw [if_neg (fun e => h9 (by simpa using e.2))]
        rw [show (l[i] == 9) = false from by simpa using h9, if_neg (by decide)]
        show (forIn (List.range' (i + 1) m) st (occBody (S l) (S [9]) l.length (l.length + 1)) : Id _).run.fst.size = _
        rw [occ_count l m (i + 1) st (by lia) (by lia) (by lia)]; lia
    · rw [if_neg (fun e => by have := e.1.2; lia)]
      show (forIn (List.range' (i + 1) m) st (occBody (S l) (S [9]) l.length (l.length + 1)) : Id _).run.fst.size = _
      rw [occ_count l m (i + 1) st (by lia) (by lia) (by lia), List.drop_eq_nil_of_le (by lia), List.drop_eq_nil_of_le (by lia)]
theorem s_count (l : List Nat) : Txt.count (S l) (S [9]) = ((l.count 9 : Nat) : Int) := by
  unfold Txt.count
  rw [occ_eq, s_len]
  have := occ_count l (l.length + 1) 0 (#[], 0) (by lia) (Nat.le_refl _) (Nat.le_refl _)
  rw [show l.length + 1 - 0 = l.length + 1 from rfl, Array.length_toList, this]
  simp
end Mine

set_option Elab.async false
set_option genSizeOf false
set_option genInjectivity false
set_option backward.match.sparseCases false
set_option bootstrap.genMatcherCode false
set_option tactic.hygienic false
set_option linter.unusedVariables false
namespace Mine
open PySem PySem.W PyProof.Rows

/-! the store as a call leaves it -/
noncomputable def froz : AO → Bool
  | .list _ => false
  | .acc .. => false
  | _ => true
structure Ext (X : List Nat) (σ σ' : Sto) : Prop where
  len : σ.length ≤ σ'.length
  get : ∀ (l : Nat) (o : AO), σ[l]? = some o → (froz o = false → l ∉ X) → σ'[l]? = some o
theorem lt_of {σ : Sto} {l : Nat} {o : AO} (h : σ[l]? = some o) : l < σ.length := (List.getElem?_eq_some_iff.mp h).1
theorem old {σ : Sto} (τ : Sto) {l : Nat} {o : AO} (h : σ[l]? = some o) : (σ ++ τ)[l]? = some o := by rw [List.getElem?_append_left (lt_of h)]; exact h
theorem new (σ : Sto) (x : AO) (τ : Sto) : (σ ++ x :: τ)[σ.length]? = some x := by rw [List.getElem?_append_right (Nat.le_refl _), Nat.sub_self]; rfl
theorem new1 (σ : Sto) (x y : AO) (τ : Sto) : (σ ++ x :: y :: τ)[σ.length + 1]? = some y := by rw [List.getElem?_append_right (by lia), Nat.add_sub_cancel_left]; rfl
theorem hit {σ : Sto} {l : Nat} {o : AO} (x : AO) (h : σ[l]? = some o) : (σ.set l x)[l]? = some x := List.getElem?_set_self (lt_of h)
theorem miss {σ : Sto} {l m : Nat} {o : AO} (x : AO) (h : σ[m]? = some o) (n : l ≠ m) : (σ.set l x)[m]? = some o := by rw [List.getElem?_set_ne n]; exact h
namespace Ext
variable {X Y : List Nat} {σ σ₁ σ₂ σ₀ : Sto}
theorem rfl' : Ext X σ σ := ⟨Nat.le_refl _, fun _ _ h _ => h⟩
theorem trans (a : Ext X σ σ₁) (b : Ext X σ₁ σ₂) : Ext X σ σ₂ := ⟨Nat.le_trans a.len b.len, fun l o h k => b.get l o (a.get l o h k) k⟩
theorem mono (a : Ext X σ σ₁) (h : ∀ x ∈ X, x ∈ Y) : Ext Y σ σ₁ := ⟨a.len, fun l o e k => a.get l o e fun f q => k f (h l q)⟩
theorem of0 (a : Ext [] σ σ₁) : Ext Y σ σ₁ := a.mono fun _ h => nomatch h
theorem app (τ : Sto) : Ext X σ (σ ++ τ) := ⟨by simp, fun _ _ h _ => old τ h⟩
theorem fz (a : Ext X σ σ₁) {l : Nat} {o : AO} (h : σ[l]? = some o) (f : froz o = true) : σ₁[l]? = some o := a.get l o h fun q => by rw [f] at q; cases q
theorem ls (a : Ext X σ σ₁) {l : Nat} {o : AO} (h : σ[l]? = some o) (n : l ∉ X) : σ₁[l]? = some o := a.get l o h fun _ => n
theorem ls0 (a : Ext [] σ σ₁) {l : Nat} {o : AO} (h : σ[l]? = some o) : σ₁[l]? = some o := a.get l o h fun _ q => nomatch q
/-- a new object is changed -/
theorem setN (a : Ext X σ₀ σ) {l : Nat} (x : AO) (h : σ₀.length ≤ l) : Ext X σ₀ (σ.set l x) := ⟨by simpa using a.len, fun m o e k => miss x (a.get m o e k) (fun q => by have := lt_of e; lia)⟩
theorem setX {l : Nat} {o : AO} (x : AO) (e : σ[l]? = some o) (f : froz o = false) (h : l ∈ X) : Ext X σ (σ.set l x) := ⟨by simp, fun m p e' k => miss x e' fun q => by subst q; rw [e] at e'; cases e'; exact k f h⟩
theorem setA (a : Ext X σ₀ σ) {l : Nat} {o : AO} (x : AO) (e : σ[l]? = some o) (f : froz o = false) (h : l ∈ X) : Ext X σ₀ (σ.set l x) := a.trans (setX x e f h)
theorem appA (a : Ext X σ₀ σ) (τ : Sto) : Ext X σ₀ (σ ++ τ) := a.trans (app τ)
end Ext

/-! rules of the language -/
section
variable {T : Tb} {σ : Sto}
theorem r_on {α : Type} {r : Option α} {b : α} {Q : α → Prop} (h : r = some b) (q : Q b) : onO r Q := by rw [h]; exact q
theorem ns_at {k d : Nat} {kvs : List (Nat × AV)} {v : AV} (h2 : σ[d]? = some (.ns kvs)) (h3 : getK k kvs = some v) : atNs σ (some d) k = some v := by
  show onV none (asON σ[d]?) (getK k) = _
  rw [h2]; exact h3
theorem ns_put {k d : Nat} {kvs : List (Nat × AV)} {v : AV} (h2 : σ[d]? = some (.ns kvs)) (h3 : kvs.length < 900) : putNs σ d k v = some (σ.set d (.ns (putK k v kvs))) := by
  unfold putNs
  rw [h2]; exact if_pos h3
theorem mk_at {C : Addr} {k l d : Nat} {kvs : List (Nat × AV)} {f : AV} (h2 : σ[d]? = some (.ns kvs)) (h3 : getK k kvs = none) (h4 : T.cmeth.lookup (C, k) = some f) : methK T σ l C d k = some (f, [.loc l]) := by
  unfold methK
  rw [h2]; exact (if_neg (by rw [h3]; exact Bool.false_ne_true)).trans (by rw [h4]; rfl)
theorem nat_ix {k : Nat} (h : k < 1000000) : (0 : Int) ≤ k ∧ (k : Int).toNat < 1000000 := ⟨Int.natCast_nonneg k, h⟩
theorem attr_obj {C : Addr} {k l d : Nat} {kvs : List (Nat × AV)} {v : AV} (hm : (C, k) ∈ T.iattr) (h1 : σ[l]? = some (.obj C d)) (h2 : σ[d]? = some (.ns kvs)) (h3 : getK k kvs = some v) : attrV T (.loc l) k σ = some v := by
  show attrL T l k σ = _
  unfold attrL
  rw [h1]; exact (if_pos hm).trans (ns_at h2 h3)
theorem attr_lam {k l i d : Nat} {cl : List Nat} {kvs : List (Nat × AV)} {v : AV} (hm : k ∈ T.fattr) (h1 : σ[l]? = some (.lam i cl (some d))) (h2 : σ[d]? = some (.ns kvs)) (h3 : getK k kvs = some v) : attrV T (.loc l) k σ = some v := by
  show attrL T l k σ = _
  unfold attrL
  rw [h1]; exact (if_pos hm).trans (ns_at h2 h3)
theorem set_obj {C : Addr} {k l d : Nat} {kvs : List (Nat × AV)} {v : AV} (hm : (C, k) ∈ T.iattr) (h1 : σ[l]? = some (.obj C d)) (h2 : σ[d]? = some (.ns kvs)) (h3 : kvs.length < 900) : setV T (.loc l) k v σ = some (σ.set d (.ns (putK k v kvs))) := by
  show setL T l k v σ = _
  unfold setL
  rw [h1]; exact (if_pos hm).trans (ns_put h2 h3)
theorem set_acc {C : Addr} {k l d : Nat} {kvs : List (Nat × AV)} {xs : List AV} {v : AV} (hm : (C, k) ∈ T.aattr) (h1 : σ[l]? = some (.acc C d xs)) (h2 : σ[d]? = some (.ns kvs)) (h3 : kvs.length < 900) : setV T (.loc l) k v σ = some (σ.set d (.ns (putK k v kvs))) := by
  show setL T l k v σ = _
  unfold setL
  rw [h1]; exact (if_pos hm).trans (ns_put h2 h3)
theorem set_lam0 {k l i : Nat} {cl : List Nat} {v : AV} (hm : k ∈ T.fattr) (h1 : σ[l]? = some (.lam i cl none)) : setV T (.loc l) k v σ = some (((σ ++ [AO.ns []]).set l (.lam i cl (some σ.length))).set σ.length (.ns [(k, v)])) := by
  show setL T l k v σ = _
  unfold setL
  rw [h1]; exact if_pos hm
theorem set_lam {k l i d : Nat} {cl : List Nat} {kvs : List (Nat × AV)} {v : AV} (hm : k ∈ T.fattr) (h1 : σ[l]? = some (.lam i cl (some d))) (h2 : σ[d]? = some (.ns kvs)) (h3 : kvs.length < 900) : setV T (.loc l) k v σ = some (σ.set d (.ns (putK k v kvs))) := by
  show setL T l k v σ = _
  unfold setL
  rw [h1]; exact (if_pos hm).trans (ns_put h2 h3)
theorem meth_obj {C : Addr} {k l d : Nat} {kvs : List (Nat × AV)} {f : AV} (h1 : σ[l]? = some (.obj C d)) (h2 : σ[d]? = some (.ns kvs)) (h3 : getK k kvs = none) (h4 : T.cmeth.lookup (C, k) = some f) : methV T (.loc l) k σ = some (f, [.loc l]) := by
  show methL T l _ σ = _
  unfold methL
  rw [h1]; exact mk_at h2 h3 h4
theorem meth_acc {C : Addr} {k l d : Nat} {kvs : List (Nat × AV)} {xs : List AV} {f : AV} (h1 : σ[l]? = some (.acc C d xs)) (h2 : σ[d]? = some (.ns kvs)) (h3 : getK k kvs = none) (h4 : T.cmeth.lookup (C, k) = some f) : methV T (.loc l) k σ = some (f, [.loc l]) := by
  show methL T l _ σ = _
  unfold methL
  rw [h1]; exact mk_at h2 h3 h4
theorem meth_list0 {l : Nat} {xs : List AV} (h1 : σ[l]? = some (.list xs)) : methV T (.loc l) 0 σ = some (.blt "list.append", [.loc l]) := by
  show methL T l _ σ = _
  unfold methL
  rw [h1]; rfl
theorem meth_list1 {l : Nat} {xs : List AV} (h1 : σ[l]? = some (.list xs)) : methV T (.loc l) 1 σ = some (.blt "list.extend", [.loc l]) := by
  show methL T l _ σ = _
  unfold methL
  rw [h1]; rfl
theorem meth_lam {k l i d : Nat} {cl : List Nat} {kvs : List (Nat × AV)} {f : AV} (hm : k ∈ T.fattr) (h1 : σ[l]? = some (.lam i cl (some d))) (h2 : σ[d]? = some (.ns kvs)) (h3 : getK k kvs = some f) : methV T (.loc l) k σ = some (f, []) := by
  show methL T l _ σ = _
  unfold methL
  rw [h1]; exact (if_pos hm).trans (by rw [show atNs σ (some d) k = some f from ns_at h2 h3]; rfl)
theorem item_list {l k : Nat} {xs : List AV} {v : AV} (h1 : σ[l]? = some (.list xs)) (h2 : xs[k]? = some v) (h3 : k < 1000000) : itemV T (.loc l) (.int k) σ = some v := by
  refine (if_pos (nat_ix h3)).trans ?_
  show itemL l k σ = _
  unfold itemL
  rw [h1]; exact h2
theorem item_scr {k : Nat} {i : Int} (h2 : T.scr[k]? = some i) (h3 : k < 1000000) : itemV T .scr (.int k) σ = some (.int i) := by
  refine (if_pos (nat_ix h3)).trans ?_
  show (T.scr[k]?).map _ = _
  rw [h2]; rfl
theorem item_str {l : List Nat} {k c : Nat} (h2 : l[k]? = some c) (h3 : k < 1000000) : itemV T (.str (S l)) (.int k) σ = some (.str (S [c])) := by
  refine (if_pos (nat_ix h3)).trans ?_
  show ((l.toArray)[k]?).map _ = _
  rw [List.getElem?_toArray, h2]; rfl
theorem setItem_list {l k : Nat} {xs : List AV} {v : AV} (h1 : σ[l]? = some (.list xs)) (h2 : k < xs.length) (h3 : k < 1000000) : setItemV (.loc l) (.int k) v σ = some (σ.set l (.list (xs.set k v))) := by
  show setIL l k v σ = _
  unfold setIL
  rw [h1]; exact if_pos ⟨(nat_ix h3).1, (nat_ix h3).2, h2⟩
theorem it_list {l : Nat} {xs : List AV} (h1 : σ[l]? = some (.list xs)) : itV (.loc l) σ = some (.lst l, xs) := by
  show itL l σ = _
  unfold itL
  rw [h1]; rfl
theorem it_tup {l : Nat} {xs : List AV} (h1 : σ[l]? = some (.tup xs)) : itV (.loc l) σ = some (.tup l, xs) := by
  show itL l σ = _
  unfold itL
  rw [h1]; rfl
theorem it_str {l : List Nat} (h : ∀ c ∈ l, c < 128) : itV (.str (S l)) σ = some (.imm, l.map fun c => .str (S [c])) := by
  exact if_pos (by simpa using h)
end
variable {scr : List Int} {n : Nat} {σ : Sto}
theorem b_call {T : Tb} {nm : String} {as : List AV} {f : BF} {Q : AV → Sto → Prop} (e : bltL.lookup nm = some f) (q : f T as σ Q) : callN T (n + 1) (.blt nm) as σ Q := by
  show bltV T nm as σ Q
  unfold bltV
  rw [e]; exact q
theorem r_list {a : Nat} {xs : List AV} {K : List AV → Prop} (h : σ[a]? = some (.list xs)) (q : K xs) : onLst False σ[a]? K := by rw [h]; exact q
theorem b_len_list {l : Nat} {xs : List AV} {Q : AV → Sto → Prop} (h1 : σ[l]? = some (.list xs)) (h2 : xs.length < 1000000) (q : Q (.int xs.length) σ) : callN (TT scr) (n + 1) (.blt "len") [.loc l] σ Q := by
  refine b_call (f := bLen) (by kernel_rfl) ?_
  show lenL l σ Q
  unfold lenL
  rw [h1]; exact ⟨h2, q⟩
theorem b_append {T : Tb} {l : Nat} {xs : List AV} {v : AV} {Q : AV → Sto → Prop} (h1 : σ[l]? = some (.list xs)) (h2 : xs.length ≤ 4096) (q : Q .none (σ.set l (.list (xs ++ [v])))) : callN T (n + 1) (.blt "list.append") [.loc l, v] σ Q := by
  refine b_call (f := bAppend) (by kernel_rfl) ?_
  show appL T l v σ Q
  unfold appL
  rw [h1]; exact ⟨h2, q⟩
end Mine

set_option Elab.async false
set_option genSizeOf false
set_option genInjectivity false
set_option backward.match.sparseCases false
set_option bootstrap.genMatcherCode false
set_option tactic.hygienic false
set_option linter.unusedVariables false
namespace Mine
open PySem PySem.W PyProof.Rows
variable {scr : List Int} {n : Nat} {σ : Sto}
noncomputable abbrev I (k : Nat) : AV := .int (k : Int)
theorem c_fn {a : Addr} {fd : FnD} {as : List AV} {Q : AV → Sto → Prop} (h : (TT scr).fns.lookup a = some fd) (ho : fd.own = 0) (hk : fd.kw = false) (hl : as.length = fd.np)
    (q : exs (TT scr) (callN (TT scr) n) [] fd.body (place [] fd.pl as ⟨List.replicate fd.nl none, σ⟩) (runTail (TT scr) fd.tail Q)) : callN (TT scr) (n + 1) (.ext a) as σ Q := by
  refine of_fn h ?_
  unfold runFn fullA
  rw [if_pos hl]
  show (match fd.kw with | false => _ | true => _)
  rw [hk, ho]
  dsimp only
  simpa using q
/-- a Whitespace, and what it is about -/
structure IsW (σ : Sto) (l : Nat) (raw : List Nat) (cnt : List Nat) (b n nt : Nat) : Prop where
  out : ∃ d kt kc sm, σ[l]? = some (.obj aWhite d) ∧ σ[d]? = some (.ns [(4, .str (S raw)), (5, I n), (6, I nt), (7, .loc kt), (8, .bool sm)]) ∧ σ[kt]? = some (.tup [.loc kc, I b]) ∧ σ[kc]? = some (.tup (cnt.map I))
theorem iaW {k : Nat} (h : (aWhite, k) ∈ (T0 []).iattr) : (aWhite, k) ∈ (TT scr).iattr := h
theorem iaA {k : Nat} (h : (aAcc, k) ∈ (T0 []).aattr) : (aAcc, k) ∈ (TT scr).aattr := h
theorem iaF {k : Nat} (h : k ∈ (T0 []).fattr) : k ∈ (TT scr).fattr := h
theorem r_onB {r : Option Bool} {b : Bool} {Q : Bool → Prop} (h : r = some b) (q : Q b) : onB r Q := by rw [h]; exact q
theorem int_beq (x y : Nat) : ((x : Int) == (y : Int)) = (x == y) := by
  by_cases h : x = y
  · rw [h, beq_self_eq_true, beq_self_eq_true]
  · rw [beq_false_of_ne h]; exact beq_false_of_ne fun e => h (Int.ofNat.inj e)
theorem eqV_int (m : Nat) (x y : Nat) : eqV (m + 1) σ (I x) (I y) = some (x == y) := congrArg some (int_beq x y)
theorem eq_ints (m : Nat) (a : List Nat) : ∀ b : List Nat, ∃ r, eqVs (eqV (m + 1) σ) (a.map I) (b.map I) = some r ∧ (r && a.length == b.length) = (a == b) := by
  induction a with
  | nil => exact fun b => ⟨true, rfl, by cases b <;> rfl⟩
  | cons x a ih =>
      intro b
      cases b with
      | nil => exact ⟨true, rfl, rfl⟩
      | cons y b =>
        obtain ⟨r, h1, h2⟩ := ih b
        refine ⟨x == y && r, ?_, ?_⟩
        · show and2O (eqV (m + 1) σ (I x) (I y)) (eqVs (eqV (m + 1) σ) (a.map I) (b.map I)) = _
          rw [h1, eqV_int]; rfl
        · rw [Bool.and_assoc]
          rw [show (r && (x :: a).length == (y :: b).length) = (a == b) from (congrArg (r && ·) (show ((x :: a).length == (y :: b).length) = (a.length == b.length) from by simp)).trans h2]; rfl
theorem eq_tups {l m : Nat} {a b : List Nat} (h1 : σ[l]? = some (.tup (a.map I))) (h2 : σ[m]? = some (.tup (b.map I))) (k : Nat) : eqV (k + 2) σ (.loc l) (.loc m) = some (a == b) := by
  show (if l = m then some true else eqO (eqV (k + 1) σ) σ[l]? σ[m]?) = _
  by_cases h : l = m
  · subst h
    rw [h1] at h2
    have e : a = b := (List.map_inj_right (f := I) (fun x y h => by injection h with h; exact Int.ofNat.inj h)).mp (by injection h2 with h; injection h)
    rw [if_pos rfl, e, beq_self_eq_true]
  · rw [if_neg h, h1, h2]
    obtain ⟨r, e1, e2⟩ := eq_ints (σ := σ) k a b
    show (eqVs (eqV (k + 1) σ) (a.map I) (b.map I)).map _ = _
    rw [e1]
    show some (r && (a.map I).length == (b.map I).length) = _
    rw [List.length_map, List.length_map, e2]
theorem eq_norm {l m kc kc' : Nat} {a b : List Nat} {x y : Nat} (h1 : σ[l]? = some (.tup [.loc kc, I x])) (h2 : σ[m]? = some (.tup [.loc kc', I y])) (h3 : σ[kc]? = some (.tup (a.map I))) (h4 : σ[kc']? = some (.tup (b.map I))) :
    cmpV .eq (.loc l) (.loc m) σ = some (a == b && x == y) := by
  show eqO (eqV 6 σ) σ[l]? σ[m]? = _
  rw [h1, h2]
  show (and2O (eqV 6 σ (.loc kc) (.loc kc')) (and2O (eqV 6 σ (I x) (I y)) (some true))).map _ = _
  rw [eq_tups h3 h4 4, eqV_int]
  show some ((a == b && (x == y && true)) && true) = _
  rw [Bool.and_true, Bool.and_true]
theorem IsW.ext {X : List Nat} {σ' : Sto} {l : Nat} {raw cnt : List Nat} {b k nt : Nat} (h : IsW σ l raw cnt b k nt) (e : Ext X σ σ') : IsW σ' l raw cnt b k nt :=
  let ⟨d, kt, kc, sm, h1, h2, h3, h4⟩ := h.out; ⟨d, kt, kc, sm, e.fz h1 rfl, e.fz h2 rfl, e.fz h3 rfl, e.fz h4 rfl⟩
theorem equal_c {l m : Nat} {raw raw' cnt cnt' : List Nat} {b b' k k' nt nt' : Nat} {Q : AV → Sto → Prop} (h1 : IsW σ l raw cnt b k nt) (h2 : IsW σ m raw' cnt' b' k' nt') (q : Q (.bool (cnt == cnt' && b == b')) σ) : callN (TT scr) (n + 1) (.ext aWeq) [.loc l, .loc m] σ Q := by
  obtain ⟨d, kt, kc, sm, e1, e2, e3, e4⟩ := h1.out
  obtain ⟨d', kt', kc', sm', f1, f2, f3, f4⟩ := h2.out
  refine c_fn rfl rfl rfl rfl ?_
  refine r_on (attr_obj (iaW (by decide)) e1 e2 rfl) ⟨rfl, ?_⟩
  refine r_on (attr_obj (iaW (by decide)) f1 f2 rfl) ⟨rfl, ?_⟩
  exact r_onB (eq_norm e3 f3 e4 f4) q
/-- the method, called -/
theorem m_equal {l : Nat} {raw cnt : List Nat} {b k nt : Nat} (h1 : IsW σ l raw cnt b k nt) : methV (TT scr) (.loc l) 9 σ = some (.ext aWeq, [.loc l]) := by
  obtain ⟨d, kt, kc, sm, e1, e2, e3, e4⟩ := h1.out
  exact meth_obj e1 e2 rfl rfl

/-- a pile -/
structure IsP (σ : Sto) (l : Nat) (xs : List AV) : Prop where
  out : ∃ d, σ[l]? = some (.acc aAcc d xs) ∧ σ[d]? = some (.ns [(16, .int 0)])
theorem IsP.at (h : IsP σ l xs) {σ' : Sto} {ys : List AV} {X : List Nat} (e : Ext X σ σ') (f : ∀ d, σ[l]? = some (.acc aAcc d xs) → σ'[l]? = some (.acc aAcc d ys)) : IsP σ' l ys :=
  let ⟨d, h1, h2⟩ := h.out; ⟨d, f d h1, e.fz h2 rfl⟩
theorem m_pile {l k : Nat} {xs : List AV} {f : AV} (h : IsP σ l xs) (hk : k ≠ 16) (h4 : (TT scr).cmeth.lookup (aAcc, k) = some f) : methV (TT scr) (.loc l) k σ = some (f, [.loc l]) := by
  obtain ⟨d, h1, h2⟩ := h.out
  exact meth_acc h1 h2 (by unfold getK; rw [if_neg (Ne.symm hk)]; rfl) h4
theorem iacc : aAcc ∈ (TT scr).accs := List.Mem.head _
theorem b_appendA {l d : Nat} {xs : List AV} {v : AV} {Q : AV → Sto → Prop} (h1 : σ[l]? = some (.acc aAcc d xs)) (h2 : xs.length ≤ 4096) (q : Q .none (σ.set l (.acc aAcc d (xs ++ [v])))) : callN (TT scr) (n + 1) (.blt "list.append") [.loc l, v] σ Q := by
  refine b_call (f := bAppend) (by kernel_rfl) ?_
  show appL (TT scr) l v σ Q
  unfold appL
  rw [h1]; exact ⟨⟨iacc, h2⟩, q⟩
theorem push_c {p : Nat} {xs : List AV} {a b : AV} {Q : AV → Sto → Prop} (h : IsP σ p xs) (hz : xs.length ≤ 4000) (q : ∀ σ' t, Ext [p] σ σ' → IsP σ' p (xs ++ [.loc t]) → σ'[t]? = some (.tup [a, b]) → Q .none σ') : callN (TT scr) (n + 2) (.ext aApush) [.loc p, a, b] σ Q := by
  obtain ⟨d, h1, h2⟩ := h.out
  refine c_fn rfl rfl rfl rfl ?_
  have g := old [AO.tup [a, b]] h1
  have hne : p ≠ σ.length := by have := lt_of h1; lia
  refine r_on (m_pile h (by decide) rfl) ⟨rfl, ⟨Nat.le_of_ble_eq_true rfl, b_appendA (n := n) g (by lia) ?_⟩⟩
  exact q _ σ.length ((Ext.app _).setA _ g rfl (.head _)) ⟨d, hit _ g, miss _ (old _ h2) (fun e => by subst e; rw [h1] at h2; cases h2)⟩ (miss _ (new σ _ _) hne)
theorem count_c {p : Nat} {xs : List AV} {Q : AV → Sto → Prop} (h : IsP σ p xs) (hz : xs.length ≤ 4000) (q : Q (.int xs.length) σ) : callN (TT scr) (n + 1) (.ext aAcount) [.loc p] σ Q := by
  obtain ⟨d, h1, h2⟩ := h.out
  refine c_fn rfl rfl rfl rfl ?_
  show supL (TT scr) 0 p σ Q
  unfold supL
  rw [h1]
  exact ⟨iacc, by lia, q⟩
end Mine

set_option Elab.async false
set_option genSizeOf false
set_option genInjectivity false
set_option backward.match.sparseCases false
set_option bootstrap.genMatcherCode false
set_option tactic.hygienic false
set_option linter.unusedVariables false
set_option maxRecDepth 100000
namespace Mine
open PySem PySem.W PyProof.Rows
variable {scr : List Int} {n : Nat} {σ : Sto}
theorem sfrom_acc {l d k : Nat} {xs : List AV} (h1 : σ[l]? = some (.acc aAcc d xs)) (h2 : xs.length ≤ 4096) (h3 : k < 1000000) : sfromV (TT scr) (.loc l) (.int k) σ = some (xs.drop k) := by
  show sfromL (TT scr) l k σ = _
  unfold sfromL
  rw [if_pos (nat_ix h3), h1]; exact if_pos ⟨iacc, h2⟩
theorem sfrom_list {l k : Nat} {xs : List AV} (h1 : σ[l]? = some (.list xs)) (h2 : xs.length ≤ 4096) (h3 : k < 1000000) : sfromV (TT scr) (.loc l) (.int k) σ = some (xs.drop k) := by
  show sfromL (TT scr) l k σ = _
  unfold sfromL
  rw [if_pos (nat_ix h3), h1]; exact if_pos h2
theorem supto_list {l k : Nat} {xs : List AV} (h1 : σ[l]? = some (.list xs)) (h2 : xs.length ≤ 4096) (h3 : k < 1000000) : suptoV (.loc l) (.int k) σ = some (xs.take k) := by
  show suptoL l k σ = _
  unfold suptoL
  rw [if_pos (nat_ix h3), h1]; exact if_pos h2
theorem cut_acc {l d k r : Nat} {xs : List AV} (h1 : σ[l]? = some (.acc aAcc d xs)) (h0 : σ[r]? = some (.list [])) (h2 : xs.length ≤ 4096) (h3 : k < 1000000) : cutV (TT scr) (.loc l) (.int k) (.loc r) σ = some (σ.set l (.acc aAcc d (xs.take k))) := by
  show cutL (TT scr) l k r σ = _
  unfold cutL
  rw [h1, h0]; exact if_pos ⟨iacc, (nat_ix h3).1, h2, (nat_ix h3).2⟩
theorem p_pos {c : Prop} [Decidable c] {A B : Prop} (h : c) (q : A) : if c then A else B := by rw [if_pos h]; exact q
theorem p_neg {c : Prop} [Decidable c] {A B : Prop} (h : ¬ c) (q : B) : if c then A else B := by rw [if_neg h]; exact q
theorem lt! {a b : Nat} (h : Nat.ble (a + 1) b = true) : a < b := Nat.le_of_ble_eq_true h
theorem le! {a b : Nat} (h : Nat.ble a b = true) : a ≤ b := Nat.le_of_ble_eq_true h
theorem an {a b : Prop} (x : a) (y : b) : a ∧ b := ⟨x, y⟩
theorem popf_c {p k : Nat} {xs : List AV} {Q : AV → Sto → Prop} (h : IsP σ p xs) (hz : xs.length ≤ 4000) (hk : k ≤ 4000) (q : ∀ σ' l, Ext [p] σ σ' → IsP σ' p (xs.take k) → σ'[l]? = some (.list (xs.drop k)) → σ.length ≤ l → Q (.loc l) σ') : callN (TT scr) (n + 1) (.ext aApopf) [.loc p, I k] σ Q := by
  obtain ⟨d, h1, h2⟩ := h.out
  have hp := lt_of h1
  refine c_fn rfl rfl rfl rfl ?_
  refine r_on (sfrom_acc h1 (by lia) (by lia)) ?_
  refine an (lt! rfl) (an (le! rfl) ?_)
  have g0 := old [AO.list (xs.drop k)] h1
  have g1 := old [AO.list []] g0
  refine r_on (cut_acc g1 (new _ _ _) (by lia) (by lia)) ?_
  have hdp : p ≠ d := fun e => by subst e; rw [h1] at h2; cases h2
  refine q _ σ.length (((Ext.app _).appA _).setA _ g1 rfl (.head _)) ⟨d, hit _ g1, miss _ (old _ (old _ h2)) hdp⟩ (miss _ (old _ (new σ _ _)) (by lia)) (Nat.le_refl _)
theorem call_def {a : Addr} {fd : FnD} {Q : AV → Sto → Prop} {as : List AV} (h : (TT scr).fns.lookup a = some fd) (q : runFn (TT scr) (callN (TT scr) n) fd as σ Q) : callN (TT scr) (n + 1) (.ext a) as σ Q := by
  exact of_fn h q
theorem pop_c {p : Nat} {xs : List AV} {x : AV} {Q : AV → Sto → Prop} (h : IsP σ p (xs ++ [x])) (hz : xs.length ≤ 3000) (q : ∀ σ', Ext [p] σ σ' → IsP σ' p xs → Q x σ') : callN (TT scr) (n + 2) (.ext aApop) [.loc p] σ Q := by
  obtain ⟨d, h1, h2⟩ := h.out
  have hdp : p ≠ d := fun e => by subst e; rw [h1] at h2; cases h2
  refine c_fn rfl rfl rfl rfl ?_
  refine r_on (m_pile h (by decide) rfl) ⟨rfl, count_c (n := n) h (by simp; lia) ?_⟩
  refine p_neg (c := ((((xs ++ [x]).length : Nat) : Int) == 0) = true) (by simp; lia) ?_
  show supL (TT scr) 1 p σ Q
  unfold supL
  rw [h1]
  refine ⟨iacc, ?_⟩
  refine r_on (b := x) (by simp) ⟨by simp; lia, ?_⟩
  rw [List.dropLast_concat]
  exact q _ ((Ext.rfl').setA _ h1 rfl (.head _)) ⟨d, hit _ h1, miss _ h2 hdp⟩
theorem pop0_c {p : Nat} {Q : AV → Sto → Prop} (h : IsP σ p []) (q : ∀ σ' t, Ext [] σ σ' → σ'[t]? = some (.tup [.str (S []), .str (S [])]) → Q (.loc t) σ') : callN (TT scr) (n + 2) (.ext aApop) [.loc p] σ Q := by
  refine c_fn rfl rfl rfl rfl ?_
  refine r_on (m_pile h (by decide) rfl) ⟨rfl, count_c (n := n) h (by decide) ?_⟩
  exact ⟨Nat.le_of_ble_eq_true rfl, q _ _ (Ext.app _) (by rw [s_nil]; exact new σ _ _)⟩
/-- a pile is made -/
theorem pile_c {Q : AV → Sto → Prop} (q : ∀ σ' p, Ext [] σ σ' → σ.length ≤ p → IsP σ' p [] → Q (.loc p) σ') : callN (TT scr) (n + 2) (.ext aAcc) [] σ Q := by
  show (true = true → ([] : List AV) = []) ∧ callN (TT scr) (n + 1) (.ext aAinit) [.loc (σ.length + 1)] (σ ++ [AO.ns [], .acc aAcc σ.length []]) _
  refine ⟨fun _ => rfl, ?_⟩
  have g1 := new1 σ (AO.ns []) (.acc aAcc σ.length []) []
  have g2 := new σ (AO.ns []) [.acc aAcc σ.length []]
  refine call_def rfl ?_
  unfold runFn
  refine r_on (b := [.loc (σ.length + 1), .int 0]) rfl ?_
  show exs _ _ _ _ (place _ _ _ ⟨_, (σ ++ [AO.ns [], .acc aAcc σ.length []]) ++ []⟩) _
  rw [List.append_nil]
  refine r_on (set_acc (iaA (by decide)) g1 g2 (by decide)) ?_
  have g3 := miss (.ns (putK 16 (.int 0) [])) g1 (by lia : σ.length ≠ σ.length + 1)
  show supL (TT scr) 2 (σ.length + 1) ((σ ++ [AO.ns [], .acc aAcc σ.length []]).set σ.length (.ns (putK 16 (.int 0) []))) _
  unfold supL
  rw [g3]
  exact ⟨iacc, rfl, rfl, q _ _ ((Ext.app _).setN _ (Nat.le_refl _)) (by lia) ⟨σ.length, g3, hit _ g2⟩⟩
end Mine

set_option Elab.async false
set_option genSizeOf false
set_option genInjectivity false
set_option backward.match.sparseCases false
set_option bootstrap.genMatcherCode false
set_option tactic.hygienic false
set_option linter.unusedVariables false
set_option maxRecDepth 100000
namespace Mine
open PySem PySem.W PyProof.Rows
variable {scr : List Int} {n : Nat} {σ : Sto}
noncomputable def pad (cnt : List Nat) (b : Nat) : List Nat := if b < cnt.length then cnt else cnt ++ List.replicate (b - cnt.length + 1) 0
noncomputable def bump (cnt : List Nat) (b : Nat) : List Nat := (pad cnt b).set b ((pad cnt b).getD b 0 + 1)
structure Sc where
  cnt : List Nat
  b : Nat
  n : Nat
  nt : Nat
noncomputable def scan : List Nat → Sc → Sc
  | [], s => s
  | c :: r, s => if c = 32 then scan r ⟨s.cnt, s.b + 1, s.n + 1, s.nt⟩ else if c = 9 then scan r ⟨bump s.cnt s.b, 0, s.n + 1, s.nt + 1⟩ else s
/-- what built-in calls do -/
structure Lib (call : CallT) : Prop where
  len : ∀ {σ : Sto} {l : Nat} {xs : List AV} {Q : AV → Sto → Prop}, σ[l]? = some (.list xs) → xs.length < 1000000 → Q (.int xs.length) σ → call (.blt "len") [.loc l] σ Q
  lenT : ∀ {σ : Sto} {l : Nat} {xs : List AV} {Q : AV → Sto → Prop}, σ[l]? = some (.tup xs) → xs.length < 1000000 → Q (.int xs.length) σ → call (.blt "len") [.loc l] σ Q
  lenS : ∀ {σ : Sto} {l : List Nat} {Q : AV → Sto → Prop}, l.length < 1000000 → Q (I l.length) σ → call (.blt "len") [.str (S l)] σ Q
  append : ∀ {σ : Sto} {l : Nat} {xs : List AV} {v : AV} {Q : AV → Sto → Prop}, σ[l]? = some (.list xs) → xs.length ≤ 4096 → Q .none (σ.set l (.list (xs ++ [v]))) → call (.blt "list.append") [.loc l, v] σ Q
  extend : ∀ {σ : Sto} {l m : Nat} {xs ys : List AV} {Q : AV → Sto → Prop}, σ[l]? = some (.list xs) → σ[m]? = some (.list ys) → xs.length + ys.length ≤ 4096 → Q .none (σ.set l (.list (xs ++ ys))) → call (.blt "list.extend") [.loc l, .loc m] σ Q
  tuple : ∀ {σ : Sto} {l : Nat} {xs : List AV} {Q : AV → Sto → Prop}, σ[l]? = some (.list xs) → xs.length ≤ 4096 → Q (.loc σ.length) (σ ++ [.tup xs]) → call (.typ "tuple") [.loc l] σ Q
  sum : ∀ {σ : Sto} {l : Nat} {xs : List AV} {is : List Int} {Q : AV → Sto → Prop}, σ[l]? = some (.list xs) → intsOf xs = some is → Q (.int is.sum) σ → call (.blt "sum") [.loc l] σ Q
  all : ∀ {σ : Sto} {l : Nat} {xs : List AV} {is : List Bool} {Q : AV → Sto → Prop}, σ[l]? = some (.list xs) → boolsOf xs = some is → Q (.bool (is.all id)) σ → call (.blt "all") [.loc l] σ Q
  join : ∀ {σ : Sto} {l : Nat} {x : Str} {xs : List AV} {ys : List Str} {Q : AV → Sto → Prop}, σ[l]? = some (.list xs) → strsOf xs = some ys → (ys.map (·.length)).sum + ys.length * x.length ≤ 16777216 → Q (.str (Txt.join x ys)) σ → call (.blt "str.join") [.str x, .loc l] σ Q
  count : ∀ {σ : Sto} {x y : Str} {Q : AV → Sto → Prop}, Q (.int (Txt.count x y)) σ → call (.blt "str.count") [.str x, .str y] σ Q
  min : ∀ {σ : Sto} {a b : Int} {Q : AV → Sto → Prop}, Q (.int (if b < a then b else a)) σ → call (.blt "min") [.int a, .int b] σ Q
theorem lib {T : Tb} : Lib (callN T (n + 1)) where
  len h1 h2 q := b_call (f := bLen) (by kernel_rfl) (by show lenL _ _ _; unfold lenL; rw [h1]; exact ⟨h2, q⟩)
  lenT h1 h2 q := b_call (f := bLen) (by kernel_rfl) (by show lenL _ _ _; unfold lenL; rw [h1]; exact ⟨h2, q⟩)
  lenS {σ l Q} h2 q := b_call (f := bLen) (by kernel_rfl) (show (S l).length < 1000000 ∧ Q (.int (S l).length) σ from by rw [s_len]; exact ⟨h2, q⟩)
  append h1 h2 q := b_append h1 h2 q
  extend h1 h2 h3 q := b_call (f := bExtend) (by kernel_rfl) (r_list h1 (r_list h2 ⟨h3, q⟩))
  tuple h1 h2 q := ⟨rfl, r_list h1 ⟨h2, q⟩⟩
  sum h1 h2 q := b_call (f := bSum) (by kernel_rfl) (r_list h1 (r_on h2 q))
  all h1 h2 q := b_call (f := bAll) (by kernel_rfl) (r_list h1 (r_on h2 q))
  join h1 h2 h3 q := b_call (f := bJoin) (by kernel_rfl) (r_list h1 (r_on h2 ⟨h3, q⟩))
  count q := b_call (f := bCount) (by kernel_rfl) q
  min q := b_call (f := bMin) (by kernel_rfl) q
theorem r_list2 {a b : Nat} {xs ys : List AV} {K : List AV → List AV → Prop} (h : σ[a]? = some (.list xs)) (h' : σ[b]? = some (.list ys)) (q : K xs ys) : onLst False σ[a]? (fun xs => onLst False σ[b]? fun ys => K xs ys) := by rw [h, h']; exact q
theorem of_eq_fun {α β : Type} {f g : (α → β → Prop) → Prop} {Q : α → β → Prop} (h : f = g) (q : g Q) : f Q := by rw [h]; exact q
theorem rep_one (k : Nat) : (List.replicate k [AV.int 0]).flatten = (List.replicate k 0).map I := by
  induction k with
  | zero => rfl
  | succ k ih => rw [List.replicate_succ, List.flatten_cons, ih]; rfl
theorem pad_len (cnt : List Nat) (b : Nat) : b < (pad cnt b).length ∧ ((pad cnt b).length ≤ cnt.length ∨ (pad cnt b).length ≤ b + 1) := by
  unfold pad; split <;> simp <;> omega
/-- the loop's body -/
noncomputable abbrev wB : CSs := match fWinit.body with
  | .cons _ (.cons _ (.cons _ (.cons _ (.cons (.for _ _ b) _)))) => b
  | _ => .nil
noncomputable abbrev wV (self raw c b k nt : AV) (x : Option AV) : List (Option AV) := [some self, some raw, some (.str " "), some (.str "\t"), some c, some b, some k, some nt, x]
theorem init_loop {call : CallT} (H : Lib call) {self raw : AV} {σ0 : Sto} {its : List AV} {Q : Fl → St → Prop} : ∀ (cs : List Nat) {σ : Sto} {c : Nat} {s : Sc} {x : Option AV}, σ[c]? = some (.list (s.cnt.map I)) → Ext [] σ0 σ → σ0.length ≤ c → s.cnt.length ≤ 200 → s.b + cs.length ≤ 200 →
    (∀ σ' c' x', σ'[c']? = some (.list ((scan cs s).cnt.map I)) → Ext [] σ0 σ' → σ0.length ≤ c' → (scan cs s).cnt.length ≤ 200 → Q .next ⟨wV self raw (.loc c') (I (scan cs s).b) (I (scan cs s).n) (I (scan cs s).nt) x', σ'⟩) →
      forT .imm its (fun x s₂ k => evT (TT scr) call [] (.loc 8) x s₂ fun s₃ => exs (TT scr) call [] wB s₃ k) (cs.map fun c => .str (S [c])) ⟨wV self raw (.loc c) (I s.b) (I s.n) (I s.nt) x, σ⟩ Q
  | [], σ, c, s, x, h1, h2, h3, h4, h5, q => an trivial (q σ c x h1 h2 h3 h4)
  | ch :: cs, σ, c, s, x, h1, h2, h3, h4, h5, q => by
    refine an trivial (an (lt! rfl) ?_)
    by_cases e32 : ch = 32
    · refine p_pos (c := (S [ch] == (" " : Str)) = true) (by rw [e32]; decide +kernel) ?_
      have e : scan (ch :: cs) s = scan cs ⟨s.cnt, s.b + 1, s.n + 1, s.nt⟩ := by rw [scan, if_pos e32]
      refine an (lt! rfl) (an (lt! rfl) ?_)
      exact init_loop H cs (s := ⟨s.cnt, s.b + 1, s.n + 1, s.nt⟩) h1 h2 h3 h4 (by have : s.b + (cs.length + 1) ≤ 200 := h5; show s.b + 1 + cs.length ≤ 200; omega) (by rw [e] at q; exact q)
    · refine p_neg (c := (S [ch] == (" " : Str)) = true) (by rw [s_blank, s_eq]; simpa using e32) ?_
      by_cases e9 : ch = 9
      · refine p_pos (c := (S [ch] == ("\t" : Str)) = true) (by rw [e9]; decide +kernel) ?_
        have e : scan (ch :: cs) s = scan cs ⟨bump s.cnt s.b, 0, s.n + 1, s.nt + 1⟩ := by rw [scan, if_neg e32, if_pos e9]
        have hb : s.b + (cs.length + 1) ≤ 200 := h5
        have hpl := pad_len s.cnt s.b
        refine an (lt! rfl) (an (lt! rfl) ?_)
        refine H.len h1 (by rw [List.length_map]; omega) ?_
        have fin : ∀ (σ' : Sto) (c' : Nat), σ'[c']? = some (.list ((pad s.cnt s.b).map I)) → Ext [] σ0 σ' → σ0.length ≤ c' → exs (TT scr) call [] (.cons (.asg (.item (.loc 4) (.loc 5)) (.bin .add (.item (.loc 4) (.loc 5)) (.lit (.int 1)))) (.cons (.asg (.loc 5) (.lit (.int 0))) .nil)) ⟨wV self raw (.loc c') (I s.b) (I (s.n + 1)) (I (s.nt + 1)) (some (.str (S [ch]))), σ'⟩ (fun f s₁ => match f with
            | .next => forT .imm its (fun x s₂ k => evT (TT scr) call [] (.loc 8) x s₂ fun s₃ => exs (TT scr) call [] wB s₃ k) (cs.map fun c => .str (S [c])) s₁ Q
            | .brk => Q .next s₁
            | .ret v => Q (.ret v) s₁) := by
          intro σ' c' g1 g2 g3
          have hg : (pad s.cnt s.b)[s.b]? = some ((pad s.cnt s.b).getD s.b 0) := by rw [List.getElem?_eq_getElem hpl.1, List.getD_eq_getElem?_getD, List.getElem?_eq_getElem hpl.1]; rfl
          refine r_on (item_list (k := s.b) g1 (by rw [List.getElem?_map, hg]; rfl) (by omega)) ?_
          refine r_on (setItem_list (k := s.b) g1 (by rw [List.length_map]; exact hpl.1) (by omega)) ?_
          refine an (lt! rfl) ?_
          have hset : ((pad s.cnt s.b).map I).set s.b (.int ((((pad s.cnt s.b).getD s.b 0 : Nat) : Int) + 1)) = (bump s.cnt s.b).map I := by unfold bump; rw [List.map_set]; rfl
          refine init_loop H cs (s := ⟨bump s.cnt s.b, 0, s.n + 1, s.nt + 1⟩) (by rw [hset]; exact hit _ g1) (g2.setN _ g3) g3 (by show (bump s.cnt s.b).length ≤ 200; unfold bump; rw [List.length_set]; omega) (by show 0 + cs.length ≤ 200; omega) (by rw [e] at q; exact q)
        by_cases hc : s.b < s.cnt.length
        · refine p_neg (c := decide ((((s.cnt.map I).length : Nat) : Int) ≤ (s.b : Int)) = true) (by rw [List.length_map]; simp; omega) ?_
          have hp : pad s.cnt s.b = s.cnt := by unfold pad; rw [if_pos hc]
          exact fin σ c (by rw [hp]; exact h1) h2 h3
        · refine p_pos (c := decide ((((s.cnt.map I).length : Nat) : Int) ≤ (s.b : Int)) = true) (by rw [List.length_map]; simp; omega) ?_
          have hp : pad s.cnt s.b = s.cnt ++ List.replicate (s.b - s.cnt.length + 1) 0 := by unfold pad; rw [if_neg hc]
          refine an (le! rfl) ?_
          have k1 := old [AO.list [.int 0]] h1
          refine H.len k1 (by rw [List.length_map]; omega) ?_
          have hint : ((s.b : Int) - (((s.cnt.map I).length : Nat) : Int) + 1) = ((s.b - s.cnt.length + 1 : Nat) : Int) := by rw [List.length_map]; omega
          have k2 := new σ (AO.list [.int 0]) []
          have hN : ((s.b : Int) - (((s.cnt.map I).length : Nat) : Int) + 1).toNat = s.b - s.cnt.length + 1 := by rw [hint]; rfl
          refine r_list k2 (an ⟨?_, ?_, ?_⟩ ?_)
          · rw [hN]; simp; omega
          · rw [hint]; omega
          · rw [hint]; omega
          refine r_list2 (old _ k1) (new _ _ _) (an ?_ ?_)
          · rw [hN]; simp; omega
          refine an (lt! rfl) ?_
          refine fin _ _ (by rw [hp, List.map_append, ← rep_one]; rw [hN]; exact new _ _ _) (((h2.appA _).appA _).appA _) (by have := h2.len; simp only [List.length_append]; omega)
      · refine p_neg (c := (S [ch] == ("\t" : Str)) = true) (by rw [s_tab, s_eq]; simpa using e9) ?_
        have e : scan (ch :: cs) s = s := by rw [scan, if_neg e32, if_neg e9]
        rw [e] at q
        exact q σ c _ h1 h2 h3 h4
end Mine
namespace Mine
open PySem PySem.W PyProof.Rows
variable {scr : List Int} {n : Nat} {σ : Sto}
theorem init_c {raw : List Nat} (hr : ∀ c ∈ raw, c < 128) (hz : raw.length ≤ 200) {Q : AV → Sto → Prop} (q : ∀ σ' l, Ext [] σ σ' → IsW σ' l raw (scan raw ⟨[], 0, 0, 0⟩).cnt (scan raw ⟨[], 0, 0, 0⟩).b (scan raw ⟨[], 0, 0, 0⟩).n (scan raw ⟨[], 0, 0, 0⟩).nt → σ.length ≤ l → Q (.loc l) σ') :
    callN (TT scr) (n + 3) (.ext aWhite) [.str (S raw)] σ Q := by
  show (false = true → _) ∧ callN (TT scr) (n + 2) (.ext aWinit) [.loc (σ.length + 1), .str (S raw)] (σ ++ [AO.ns [], .obj aWhite σ.length]) _
  refine an (fun h => nomatch h) ?_
  have g1 := new1 σ (AO.ns []) (.obj aWhite σ.length) []
  have g2 := new σ (AO.ns []) [.obj aWhite σ.length]
  refine c_fn rfl rfl rfl rfl ?_
  generalize hcall : callN (TT scr) (n + 1) = call
  have H : Lib call := by rw [← hcall]; exact lib
  have hL : σ.length ≠ σ.length + 1 := by omega
  refine r_on (set_obj (iaW (by decide)) g1 g2 (le! rfl)) ?_
  have g3 := miss (.ns (putK 4 (.str (S raw)) [])) g1 hL
  have g4 := hit (.ns (putK 4 (.str (S raw)) [])) g2
  refine an rfl (an rfl (an (an (lt! rfl) (lt! rfl)) ?_))
  have g5 := old [AO.tup [.str " ", .str "\t"]] g3
  have g6 := old [AO.tup [.str " ", .str "\t"]] g4
  refine an (le! rfl) (an (lt! rfl) ?_)
  have g7 := old [AO.list []] g5
  have g8 := old [AO.list []] g6
  refine an (lt! rfl) (an (lt! rfl) (an (lt! rfl) ?_))
  refine r_on (attr_obj (iaW (by decide)) g7 g8 rfl) (an rfl ?_)
  refine r_on (it_str hr) ?_
  have e0 : Ext [] σ (((σ ++ [AO.ns [], .obj aWhite σ.length]).set σ.length (.ns (putK 4 (.str (S raw)) []))) ++ [AO.tup [.str " ", .str "\t"]]) := ((Ext.app _).setN _ (Nat.le_refl _)).appA _
  have k0 := new (((σ ++ [AO.ns [], .obj aWhite σ.length]).set σ.length (.ns (putK 4 (.str (S raw)) []))) ++ [AO.tup [.str " ", .str "\t"]]) (AO.list []) []
  refine init_loop H raw (s := ⟨[], 0, 0, 0⟩) k0 (Ext.app _) (Nat.le_refl _) (Nat.zero_le _) (by show 0 + raw.length ≤ 200; omega) ?_
  intro σ' c' x' k1 k2 k3 k4
  have e1 := e0.trans k2
  have f1 := k2.fz g5 rfl
  have f2 := k2.fz g6 rfl
  have hLc : σ.length ≠ c' := Nat.ne_of_lt (Nat.lt_of_lt_of_le (Nat.lt_of_succ_lt (lt_of g5)) k3)
  clear k2 k0 e0 g7 g8 g5 g6 g3 g4 g1 g2 k3
  generalize scan raw ⟨[], 0, 0, 0⟩ = z at *
  refine r_on (set_obj (iaW (by decide)) f1 f2 (le! rfl)) ?_
  have f3 := miss (.ns (putK 5 (I z.n) (putK 4 (.str (S raw)) []))) f1 hL
  have f4 := hit (.ns (putK 5 (I z.n) (putK 4 (.str (S raw)) []))) f2
  refine r_on (set_obj (iaW (by decide)) f3 f4 (le! rfl)) ?_
  have f5 := miss (.ns (putK 6 (I z.nt) (putK 5 (I z.n) (putK 4 (.str (S raw)) [])))) f3 hL
  have f6 := hit (.ns (putK 6 (I z.nt) (putK 5 (I z.n) (putK 4 (.str (S raw)) [])))) f4
  have c1 := miss (.ns (putK 6 (I z.nt) (putK 5 (I z.n) (putK 4 (.str (S raw)) [])))) (miss (.ns (putK 5 (I z.n) (putK 4 (.str (S raw)) []))) k1 hLc) hLc
  have e2 := (e1.setN (.ns (putK 5 (I z.n) (putK 4 (.str (S raw)) []))) (Nat.le_refl _)).setN (.ns (putK 6 (I z.nt) (putK 5 (I z.n) (putK 4 (.str (S raw)) [])))) (Nat.le_refl _)
  generalize (σ'.set σ.length (.ns (putK 5 (I z.n) (putK 4 (.str (S raw)) [])))).set σ.length (.ns (putK 6 (I z.nt) (putK 5 (I z.n) (putK 4 (.str (S raw)) [])))) = σ2 at *
  refine H.tuple (σ := σ2) c1 (by rw [List.length_map]; omega) ?_
  have f7 := old [AO.tup [.loc σ2.length, I z.b]] (old [AO.tup (z.cnt.map I)] f5)
  have f8 := old [AO.tup [.loc σ2.length, I z.b]] (old [AO.tup (z.cnt.map I)] f6)
  have c2 := old [AO.tup [.loc σ2.length, I z.b]] (old [AO.tup (z.cnt.map I)] c1)
  have c3 := old [AO.tup [.loc σ2.length, I z.b]] (new σ2 (AO.tup (z.cnt.map I)) [])
  have c4 := new (σ2 ++ [AO.tup (z.cnt.map I)]) (AO.tup [.loc σ2.length, I z.b]) []
  have e3 := (e2.appA [AO.tup (z.cnt.map I)]).appA [AO.tup [.loc σ2.length, I z.b]]
  have hl2 := lt_of f6
  refine an (le! rfl) ?_
  generalize hσ3 : (σ2 ++ [AO.tup (z.cnt.map I)]) ++ [AO.tup [.loc σ2.length, I z.b]] = σ3 at *
  refine r_on (set_obj (σ := σ3) (iaW (by decide)) f7 f8 (le! rfl)) ?_
  refine H.len (miss _ c2 hLc) (by rw [List.length_map]; omega) ?_
  have f9 := miss (.ns (putK 7 (.loc (σ2 ++ [AO.tup (z.cnt.map I)]).length) (putK 6 (I z.nt) (putK 5 (I z.n) (putK 4 (.str (S raw)) []))))) f7 hL
  have f10 := hit (.ns (putK 7 (.loc (σ2 ++ [AO.tup (z.cnt.map I)]).length) (putK 6 (I z.nt) (putK 5 (I z.n) (putK 4 (.str (S raw)) []))))) f8
  refine r_on (set_obj (iaW (by decide)) f9 f10 (le! rfl)) ?_
  have d1 : σ.length ≠ σ2.length := by omega
  have d2 : σ.length ≠ (σ2 ++ [AO.tup (z.cnt.map I)]).length := by rw [List.length_append]; omega
  exact an rfl (q _ _ ((e3.setN _ (Nat.le_refl _)).setN _ (Nat.le_refl _)) ⟨_, _, _, _, miss _ f9 hL, hit _ f10, miss _ (miss _ c4 d2) d2, miss _ (miss _ c3 d1) d1⟩ (by omega))
end Mine

set_option Elab.async false
set_option genSizeOf false
set_option genInjectivity false
set_option backward.match.sparseCases false
set_option bootstrap.genMatcherCode false
set_option tactic.hygienic false
set_option linter.unusedVariables false
set_option maxRecDepth 100000
namespace Mine
open PySem PySem.W PyProof.Rows
variable {scr : List Int} {n : Nat} {σ : Sto}
theorem c_fnO {a : Addr} {fd : FnD} {as : List AV} {Q : AV → Sto → Prop} (h : (TT scr).fns.lookup a = some fd) (hk : fd.kw = false) (hl : as.length = fd.np)
    (q : exs (TT scr) (callN (TT scr) n) (ownC σ fd.own) fd.body (place (ownC σ fd.own) fd.pl as ⟨List.replicate fd.nl none, σ ++ List.replicate fd.own (.cell none)⟩) (runTail (TT scr) fd.tail Q)) : callN (TT scr) (n + 1) (.ext a) as σ Q := by
  refine of_fn h ?_
  unfold runFn fullA
  rw [if_pos hl]
  show (match fd.kw with | false => _ | true => _)
  rw [hk]
  exact q
theorem r_cell {c : Nat} {v : AV} {K : AV → Prop} (h : σ[c]? = some (.cell (some v))) (q : K v) : onCell σ[c]? K := by rw [h]; exact q
theorem r_cset {c : Nat} {o : Option AV} {K : Prop} (h : σ[c]? = some (.cell o)) (q : K) : onSlot σ[c]? K := by rw [h]; exact q
/-- an element -/
structure IsEl (σ : Sto) (e : Nat) (tag : Str) (il : Nat) (kids : List AV) : Prop where
  out : ∃ c d m at', σ[e]? = some (.lam 0 [] (some d)) ∧ σ[d]? = some (.ns [(10, .str tag), (11, at'), (12, .loc il), (13, .ext aMade), (0, .loc m)]) ∧ σ[m]? = some (.lam 1 [c] none) ∧ σ[c]? = some (.cell (some (.loc e))) ∧ σ[il]? = some (.list kids)
theorem missK {l m : Nat} {o o' : AO} (x : AO) (h' : σ[l]? = some o') (h : σ[m]? = some o) (k : o' ≠ o) : (σ.set l x)[m]? = some o := miss x h fun e => by subst e; rw [h'] at h; exact k (Option.some.inj h)
/-- an element that is being made -/
structure Mk (σ : Sto) (c e d : Nat) (kvs : List (Nat × AV)) : Prop where
  c : σ[c]? = some (.cell (some (.loc e)))
  e : σ[e]? = some (.lam 0 [] (some d))
  d : σ[d]? = some (.ns kvs)
theorem Mk.app {c e d : Nat} {kvs : List (Nat × AV)} (h : Mk σ c e d kvs) (τ : Sto) : Mk (σ ++ τ) c e d kvs := ⟨old τ h.c, old τ h.e, old τ h.d⟩
theorem Mk.set {c e d : Nat} {kvs ys : List (Nat × AV)} (h : Mk σ c e d kvs) : Mk (σ.set d (.ns ys)) c e d ys := ⟨missK _ h.d h.c (fun e => nomatch e), missK _ h.d h.e (fun e => nomatch e), hit _ h.d⟩
theorem Mk.run {c e d k : Nat} {kvs : List (Nat × AV)} {v : AV} {Q : Sto → Prop} (h : Mk σ c e d kvs) (hk : k ∈ (T0 []).fattr) (hl : kvs.length < 900) (q : Mk (σ.set d (.ns (putK k v kvs))) c e d (putK k v kvs) → Q (σ.set d (.ns (putK k v kvs)))) :
    (onCell σ[c]? fun x => onO (setV (TT scr) x k v σ) Q) := r_cell h.c (r_on (set_lam (iaF hk) h.e h.d hl) (q h.set))
theorem made_c {tag : Str} {v : AV} {Q : AV → Sto → Prop} (q : ∀ σ' e il, Ext [] σ σ' → IsEl σ' e tag il [] → σ.length ≤ e → σ.length ≤ il → Q (.loc e) σ') : callN (TT scr) (n + 1) (.ext aMade) [.str tag, v] σ Q := by
  refine c_fnO rfl rfl rfl ?_
  generalize callN (TT scr) n = call
  have c0 := new σ (AO.cell none) []
  have c1 := old [AO.lam 0 [] none] c0
  refine r_cset c1 ?_
  have e0 := new (σ ++ [AO.cell none]) (AO.lam 0 [] none) []
  have e1 := missK (.cell (some (.loc (σ ++ [AO.cell none]).length))) c1 e0 (fun e => nomatch e)
  have c2 := hit (.cell (some (.loc (σ ++ [AO.cell none]).length))) c1
  have x1 : Ext [] σ (((σ ++ [AO.cell none]) ++ [AO.lam 0 [] none]).set σ.length (.cell (some (.loc (σ ++ [AO.cell none]).length)))) := ((Ext.app _).appA _).setN _ (Nat.le_refl _)
  have he : σ.length ≤ (σ ++ [AO.cell none]).length := by simp
  show exs (TT scr) call [σ.length] _ ⟨[some (.str tag), some v], ((σ ++ [AO.cell none]) ++ [AO.lam 0 [] none]).set σ.length (.cell (some (.loc (σ ++ [AO.cell none]).length)))⟩ _
  generalize ((σ ++ [AO.cell none]) ++ [AO.lam 0 [] none]).set σ.length (.cell (some (.loc (σ ++ [AO.cell none]).length))) = σ1 at *
  generalize (σ ++ [AO.cell none]).length = e at *
  refine r_cell c2 (r_on (set_lam0 (iaF (by decide)) e1) ?_)
  have b0 : Mk ((σ1 ++ [AO.ns []]).set e (.lam 0 [] (some σ1.length))) σ.length e σ1.length [] := ⟨missK _ (old _ e1) (old _ c2) (fun e => nomatch e), hit _ (old _ e1), missK _ (old _ e1) (new _ _ _) (fun e => nomatch e)⟩
  have b1 := b0.set (ys := [(10, .str tag)])
  have x2 : Ext [] σ (((σ1 ++ [AO.ns []]).set e (.lam 0 [] (some σ1.length))).set σ1.length (.ns [(10, .str tag)])) := ((x1.appA _).setN _ he).setN _ x1.len
  have hd := x1.len
  show exs (TT scr) call [σ.length] _ ⟨[some (.str tag), some v], (((σ1 ++ [AO.ns []]).set e (.lam 0 [] (some σ1.length))).set σ1.length (.ns [(10, .str tag)]))⟩ _
  generalize (((σ1 ++ [AO.ns []]).set e (.lam 0 [] (some σ1.length))).set σ1.length (.ns [(10, .str tag)])) = σ2 at *
  generalize σ1.length = d at *
  clear b0 c2 e1 c0 c1 x1 e0
  refine b1.run (by decide) (le! rfl) fun b2 => ?_
  refine an (le! rfl) ?_
  have x3 := (x2.setN (.ns (putK 11 v [(10, .str tag)])) hd).appA [AO.list []]
  have l1 := new (σ2.set d (.ns (putK 11 v [(10, .str tag)]))) (AO.list []) []
  refine (b2.app [AO.list []]).run (by decide) (le! rfl) fun b3 => ?_
  have l2 := missK (.ns (putK 12 (.loc (σ2.set d (.ns (putK 11 v [(10, .str tag)]))).length) (putK 11 v [(10, .str tag)]))) (b2.app [AO.list []]).d l1 (fun e => nomatch e)
  have x4 := x3.setN (.ns (putK 12 (.loc (σ2.set d (.ns (putK 11 v [(10, .str tag)]))).length) (putK 11 v [(10, .str tag)]))) hd
  have hil := (x2.setN (.ns (putK 11 v [(10, .str tag)])) hd).len
  show exs (TT scr) call [σ.length] _ ⟨[some (.str tag), some v], ((σ2.set d (.ns (putK 11 v [(10, .str tag)]))) ++ [AO.list []]).set d (.ns (putK 12 (.loc (σ2.set d (.ns (putK 11 v [(10, .str tag)]))).length) (putK 11 v [(10, .str tag)])))⟩ _
  generalize ((σ2.set d (.ns (putK 11 v [(10, .str tag)]))) ++ [AO.list []]).set d (.ns (putK 12 (.loc (σ2.set d (.ns (putK 11 v [(10, .str tag)]))).length) (putK 11 v [(10, .str tag)]))) = σ3 at *
  generalize (σ2.set d (.ns (putK 11 v [(10, .str tag)]))).length = il at *
  clear b1 b2 x2 x3 l1
  refine b3.run (by decide) (le! rfl) fun b4 => ?_
  have l3 := missK (.ns (putK 13 (.ext aMade) (putK 12 (.loc il) (putK 11 v [(10, .str tag)])))) b3.d l2 (fun e => nomatch e)
  have x5 := x4.setN (.ns (putK 13 (.ext aMade) (putK 12 (.loc il) (putK 11 v [(10, .str tag)])))) hd
  show exs (TT scr) call [σ.length] _ ⟨[some (.str tag), some v], σ3.set d (.ns (putK 13 (.ext aMade) (putK 12 (.loc il) (putK 11 v [(10, .str tag)]))))⟩ _
  generalize σ3.set d (.ns (putK 13 (.ext aMade) (putK 12 (.loc il) (putK 11 v [(10, .str tag)])))) = σ4 at *
  clear b3 x4 l2
  refine (b4.app [AO.lam 1 [σ.length] none]).run (by decide) (le! rfl) fun b5 => ?_
  have m1 := new σ4 (AO.lam 1 [σ.length] none) []
  refine r_cell b5.c ?_
  exact q _ e il ((x5.appA _).setN _ hd) ⟨σ.length, d, σ4.length, v, b5.e, b5.d, missK _ (b4.app _).d m1 (fun e => nomatch e), b5.c, missK _ (b4.app _).d (old _ l3) (fun e => nomatch e)⟩ he hil
end Mine

set_option Elab.async false
set_option genSizeOf false
set_option genInjectivity false
set_option backward.match.sparseCases false
set_option bootstrap.genMatcherCode false
set_option tactic.hygienic false
set_option linter.unusedVariables false
set_option maxRecDepth 100000
namespace Mine
open PySem PySem.W PyProof.Rows
variable {scr : List Int} {n : Nat} {σ : Sto}
theorem IsEl.ext {X : List Nat} {σ' : Sto} {e : Nat} {tag : Str} {il : Nat} {kids : List AV} (h : IsEl σ e tag il kids) (x : Ext X σ σ') (hi : il ∉ X) : IsEl σ' e tag il kids :=
  let ⟨c, d, m, a, h1, h2, h3, h4, h5⟩ := h.out; ⟨c, d, m, a, x.fz h1 rfl, x.fz h2 rfl, x.fz h3 rfl, x.fz h4 rfl, x.ls h5 hi⟩
theorem IsEl.list {e : Nat} {tag : Str} {il : Nat} {kids : List AV} (h : IsEl σ e tag il kids) : σ[il]? = some (.list kids) := let ⟨c, d, m, a, h1, h2, h3, h4, h5⟩ := h.out; h5
theorem IsEl.set {e : Nat} {tag : Str} {il : Nat} {kids : List AV} (h : IsEl σ e tag il kids) (ys : List AV) : IsEl (σ.set il (.list ys)) e tag il ys :=
  let ⟨c, d, m, a, h1, h2, h3, h4, h5⟩ := h.out
  ⟨c, d, m, a, missK _ h5 h1 (fun e => nomatch e), missK _ h5 h2 (fun e => nomatch e), missK _ h5 h3 (fun e => nomatch e), missK _ h5 h4 (fun e => nomatch e), hit _ h5⟩
theorem IsEl.attr {e : Nat} {tag : Str} {il : Nat} {kids : List AV} (h : IsEl σ e tag il kids) : attrV (TT scr) (.loc e) 12 σ = some (.loc il) ∧ attrV (TT scr) (.loc e) 10 σ = some (.str tag) ∧ methV (TT scr) (.loc e) 13 σ = some (.ext aMade, []) :=
  let ⟨c, d, m, a, h1, h2, h3, h4, h5⟩ := h.out; ⟨attr_lam (iaF (by decide)) h1 h2 rfl, attr_lam (iaF (by decide)) h1 h2 rfl, meth_lam (iaF (by decide)) h1 h2 rfl⟩
theorem elapp_c {p ilp : Nat} {tp : Str} {kids : List AV} {v : AV} {Q : AV → Sto → Prop} (h : IsEl σ p tp ilp kids) (hz : kids.length ≤ 4000) (q : Q .none (σ.set ilp (.list (kids ++ [v])))) : ∃ m, methV (TT scr) (.loc p) 0 σ = some (.loc m, []) ∧ callN (TT scr) (n + 2) (.loc m) [v] σ Q := by
  have hat := h.attr (scr := scr)
  obtain ⟨c, d, m, a, h1, h2, h3, h4, h5⟩ := h.out
  refine ⟨m, meth_lam (iaF (by decide)) h1 h2 rfl, ?_⟩
  refine of_lam h3 rfl rfl rfl ?_
  have H : Lib (callN (TT scr) (n + 1)) := lib
  generalize callN (TT scr) (n + 1) = call at *
  refine r_cell h4 (r_on hat.1 (an rfl (r_on (meth_list0 h5) (an rfl ?_))))
  exact H.append h5 (by lia) q
theorem sub_c {p ilp : Nat} {tp tag : Str} {kids : List AV} {Q : AV → Sto → Prop} (h : IsEl σ p tp ilp kids) (hz : kids.length ≤ 4000)
    (q : ∀ σ' e il, Ext [ilp] σ σ' → IsEl σ' p tp ilp (kids ++ [.loc e]) → IsEl σ' e tag il [] → σ.length ≤ e → σ.length ≤ il → Q (.loc e) σ') : callN (TT scr) (n + 3) (.ext aSub) [.loc p, .str tag] σ Q := by
  refine call_def rfl ?_
  unfold runFn
  refine r_on (b := [.loc p, .str tag, .ext 172]) rfl ?_
  show exs (TT scr) (callN (TT scr) (n + 2)) [] fSub.body ⟨[some (.loc p), some (.str tag), some (.ext 172), some (.loc σ.length), none], (σ ++ [AO.dict []]) ++ []⟩ (runTail (TT scr) none Q)
  rw [List.append_nil]
  refine an rfl (an (new σ _ _) (an (lt! rfl) ?_))
  have x1 : Ext [] σ ((σ ++ [AO.dict []]) ++ [AO.dict []]) := (Ext.app _).appA _
  have h1 := h.ext x1 (fun h => nomatch h)
  show exs (TT scr) (callN (TT scr) (n + 2)) [] _ ⟨[some (.loc p), some (.str tag), some (.loc (σ ++ [AO.dict []]).length), some (.loc σ.length), none], (σ ++ [AO.dict []]) ++ [AO.dict []]⟩ _
  generalize (σ ++ [AO.dict []]) ++ [AO.dict []] = σ1 at *
  refine r_on h1.attr.2.2 (an rfl ?_)
  refine made_c (n := n + 1) fun σ2 e il x2 he hle hli => ?_
  have h2 := h1.ext x2 (fun h => nomatch h)
  refine an (lt! rfl) ?_
  obtain ⟨m, m1, m2⟩ := elapp_c (scr := scr) (n := n) (v := .loc e) (Q := fun v σ' => exs (TT scr) (callN (TT scr) (n + 2)) [] (.cons (.ret (.loc 4)) .nil) ⟨[some (.loc p), some (.str tag), some (.loc (σ ++ [AO.dict []]).length), some (.loc σ.length), some (.loc e)], σ'⟩ (runTail (TT scr) none Q)) h2 hz (by
    have hne : ilp ≠ il := by
      have := lt_of h1.list
      have hli' : σ1.length ≤ il := hli
      lia
    refine q _ e il ((x1.trans x2).of0.setA _ h2.list rfl (.head _)) (h2.set _) ?_ (Nat.le_trans x1.len hle) (Nat.le_trans x1.len hli)
    exact he.ext (X := [ilp]) (Ext.setX _ h2.list rfl (.head _)) (by simpa using hne.symm))
  exact r_on m1 (an rfl m2)
end Mine

set_option Elab.async false
set_option genSizeOf false
set_option genInjectivity false
set_option backward.match.sparseCases false
set_option bootstrap.genMatcherCode false
set_option tactic.hygienic false
set_option linter.unusedVariables false
set_option maxRecDepth 100000
namespace Mine
open PySem PySem.W PyProof.Rows
variable {scr : List Int} {n : Nat} {σ : Sto}
theorem Ext.newX {X : List Nat} {σ₀ σ₁ σ₂ : Sto} (a : Ext [] σ₀ σ₁) (b : Ext X σ₁ σ₂) (h : ∀ x ∈ X, σ₀.length ≤ x) : Ext [] σ₀ σ₂ :=
  ⟨Nat.le_trans a.len b.len, fun l o e k => b.get l o (a.ls0 e) fun _ q => by have := lt_of e; have := h l q; lia⟩
/-- the elements within the v-th one, of the first k -/
noncomputable def kidsN (P : List Nat) (k v : Nat) : List Nat := (List.range k).filter fun c => decide (1 ≤ c ∧ P.getD c 0 = v)
noncomputable def kidsL (P : List Nat) (k : Nat) (els : Nat → Nat) (v : Nat) : List AV := (kidsN P k v).map fun c => .loc (els c)
theorem kidsL_succ (P : List Nat) (k v e : Nat) (els : Nat → Nat) (hk : 1 ≤ k) : kidsL P (k + 1) (fun c => if c = k then e else els c) v = kidsL P k els v ++ if P.getD k 0 = v then [.loc e] else [] := by
  unfold kidsL kidsN
  rw [List.range_succ, List.filter_append, List.map_append]
  congr 1
  · refine List.map_congr_left fun c hc => ?_
    have : c < k := by simpa using (List.mem_filter.mp hc).1
    dsimp only
    rw [if_neg (by lia)]
  · by_cases h : P.getD k 0 = v
    · rw [if_pos h, List.filter_cons_of_pos (by simpa using ⟨hk, h⟩)]; simp
    · rw [if_neg h, List.filter_cons_of_neg (by simp; intro _; simpa using h)]; rfl
theorem kidsL_len (P : List Nat) (k v : Nat) (els : Nat → Nat) : (kidsL P k els v).length ≤ k := by
  unfold kidsL kidsN
  rw [List.length_map]
  exact Nat.le_trans (List.length_filter_le _ _) (by simp)
structure TInv (P : List Nat) (lp le : Nat) (σ0 : Sto) (k : Nat) (els ils : Nat → Nat) (σ : Sto) : Prop where
  ext : Ext [] σ0 σ
  ls : σ[le]? = some (.list ((List.range k).map fun v => .loc (els v)))
  el : ∀ v < k, IsEl σ (els v) (S [97 + v]) (ils v) (kidsL P k els v)
  inj : ∀ v < k, ∀ w < k, ils v = ils w → v = w
  new : ∀ v < k, σ0.length ≤ ils v
  ne : ∀ v < k, ils v ≠ le
theorem tree_loop {P : List Nat} {lp le : Nat} {σ0 : Sto} {its : List AV} {Q : Fl → St → Prop} (hP : P.length = 6) (hlt : ∀ k, 1 ≤ k → k < 6 → P.getD k 0 < k) (hlp : σ0[lp]? = some (.list (P.map I))) (hle : σ0.length ≤ le) (q : ∀ σ' els ils x, TInv P lp le σ0 6 els ils σ' → Q .next ⟨[some (.loc lp), some (.loc le), x], σ'⟩) :
    ∀ (m k : Nat) (σ : Sto) (els ils : Nat → Nat) (x : Option AV), k + m = 6 → 1 ≤ k → TInv P lp le σ0 k els ils σ →
      forT .imm its (fun x s₂ K => evT (TT scr) (callN (TT scr) (n + 3)) [] (.loc 2) x s₂ fun s₃ => exs (TT scr) (callN (TT scr) (n + 3)) [] (.cons (.expr (.meth (.loc 1) 0 (.cons (.call (.lit (.ext aSub)) (.cons (.item (.loc 1) (.item (.loc 0) (.loc 2))) (.cons (.item (.lit (.str "abcdef")) (.loc 2)) .nil))) .nil))) .nil) s₃ K)
        ((List.range' k m).map I) ⟨[some (.loc lp), some (.loc le), x], σ⟩ Q
  | 0, k, σ, els, ils, x, hk, h1, T => by
    have : k = 6 := by lia
    subst this
    exact an trivial (q σ els ils x T)
  | m + 1, k, σ, els, ils, x, hk, h1, T => by
    have hp := hlt k h1 (by lia)
    have hpk : P[k]? = some (P.getD k 0) := by rw [List.getD_eq_getElem?_getD, List.getElem?_eq_getElem (by lia)]; rfl
    have hlen : (kidsL P k els (P.getD k 0)).length ≤ 4000 := Nat.le_trans (kidsL_len _ _ _ _) (by lia)
    refine an trivial (an (lt! rfl) ?_)
    refine r_on (meth_list0 T.ls) (an rfl ?_)
    have Hc : ∀ {σ : Sto} {l : Nat} {xs : List AV} {v : AV} {Q : AV → Sto → Prop}, σ[l]? = some (.list xs) → xs.length ≤ 4096 → Q .none (σ.set l (.list (xs ++ [v]))) → callN (TT scr) (n + 3) (.blt "list.append") [.loc l, v] σ Q := (lib (n := n + 2)).append
    have Hs : ∀ {σ : Sto} {p ilp : Nat} {tp tag : Str} {kids : List AV} {Q : AV → Sto → Prop}, IsEl σ p tp ilp kids → kids.length ≤ 4000 → (∀ σ' e il, Ext [ilp] σ σ' → IsEl σ' p tp ilp (kids ++ [.loc e]) → IsEl σ' e tag il [] → σ.length ≤ e → σ.length ≤ il → Q (.loc e) σ') → callN (TT scr) (n + 3) (.ext aSub) [.loc p, .str tag] σ Q := fun h hz q => sub_c h hz q
    have rec_ := fun σ els ils x h T => tree_loop (its := its) (Q := Q) hP hlt hlp hle q m (k + 1) σ els ils x h (by lia) T
    generalize callN (TT scr) (n + 3) = call at *
    refine r_on (item_list (k := k) (T.ext.ls0 hlp) (by rw [List.getElem?_map, hpk]; rfl) (by lia)) ?_
    refine r_on (item_list (k := P.getD k 0) T.ls (by rw [List.getElem?_map, List.getElem?_range hp]; rfl) (by lia)) ?_
    refine r_on (r := itemV (TT scr) (.str "abcdef") (.int (k : Int)) σ) (b := .str (S [97 + k])) ?_ ?_
    · rw [show ("abcdef" : Str) = S [97, 98, 99, 100, 101, 102] from by decide +kernel]
      refine item_str ?_ (by lia)
      have : k = 1 ∨ k = 2 ∨ k = 3 ∨ k = 4 ∨ k = 5 := by lia
      rcases this with rfl | rfl | rfl | rfl | rfl <;> rfl
    refine Hs (T.el _ hp) hlen fun σ' e il x1 h2 h3 he hil => ?_
    have hil' : σ.length ≤ il := hil
    have lle := x1.ls T.ls (by simpa using (T.ne _ hp).symm)
    refine Hc lle (by simp; lia) ?_
    have hset : ((List.range k).map fun v => AV.loc (els v)) ++ [.loc e] = (List.range (k + 1)).map fun v => AV.loc (if v = k then e else els v) := by
      rw [List.range_succ, List.map_append]
      congr 1
      · refine List.map_congr_left fun c hc => ?_
        have : c < k := by simpa using hc
        rw [if_neg (by lia)]
      · simp
    have hltle : le < σ.length := lt_of T.ls
    refine rec_ _ (fun v => if v = k then e else els v) (fun v => if v = k then il else ils v) _ (by lia) ⟨(T.ext.newX x1 (by simpa using T.new _ hp)).setN _ hle, ?_, fun v hv => ?_, fun v hv w hw e => ?_, fun v hv => ?_, fun v hv => ?_⟩
    · rw [hset]; exact hit _ lle
    · rw [kidsL_succ P k v e els h1]
      have sx := Ext.setX (X := [le]) (.list (((List.range k).map fun v => AV.loc (els v)) ++ [.loc e])) lle rfl (.head _)
      (try dsimp only)
      by_cases hvk : v = k
      · subst hvk
        rw [if_pos rfl, if_pos rfl, if_neg (by lia)]
        have : kidsL P v els v = [] := by
          unfold kidsL kidsN
          rw [List.filter_eq_nil_iff.mpr]
          · rfl
          intro c hc
          have : c < v := by simpa using hc
          simp only [decide_eq_true_eq, not_and]
          intro h1c hpc
          have := hlt c h1c (by lia)
          lia
        rw [this]
        exact h3.ext sx (by simp; lia)
      · rw [if_neg hvk, if_neg hvk]
        have hv' : v < k := by lia
        by_cases hvp : P.getD k 0 = v
        · rw [if_pos hvp]
          subst hvp
          exact h2.ext sx (by simpa using T.ne _ hp)
        · rw [if_neg hvp, List.append_nil]
          exact ((T.el v hv').ext x1 (by simp only [List.mem_singleton]; intro q; exact hvp (T.inj _ hv' _ hp q).symm)).ext sx (by simpa using T.ne _ hv')
    · (try dsimp only at e)
      by_cases h1 : v = k <;> by_cases h2 : w = k
      · lia
      · rw [if_pos h1, if_neg h2] at e
        have := lt_of (T.el w (by lia)).list
        lia
      · rw [if_neg h1, if_pos h2] at e
        have := lt_of (T.el v (by lia)).list
        lia
      · rw [if_neg h1, if_neg h2] at e
        exact T.inj v (by lia) w (by lia) e
    · (try dsimp only)
      split
      · exact Nat.le_trans T.ext.len hil'
      · exact T.new v (by lia)
    · (try dsimp only)
      split
      · lia
      · exact T.ne v (by lia)
end Mine
namespace Mine
open PySem PySem.W PyProof.Rows
variable {scr : List Int} {n : Nat} {σ : Sto}
theorem tree_c {P : List Nat} {lp : Nat} {Q : AV → Sto → Prop} (hP : P.length = 6) (hlt : ∀ k, 1 ≤ k → k < 6 → P.getD k 0 < k) (hlp : σ[lp]? = some (.list (P.map I)))
    (q : ∀ (σ' : Sto) (els ils : Nat → Nat), Ext [] σ σ' → (∀ v < 6, IsEl σ' (els v) (S [97 + v]) (ils v) (kidsL P 6 els v)) → (∀ v < 6, σ.length ≤ ils v) → Q (.loc (els 0)) σ') : callN (TT scr) (n + 4) (.ext aTree) [.loc lp] σ Q := by
  refine c_fn rfl rfl rfl rfl ?_
  have s_e : ("" : Str) = S [] := s_nil
  refine made_c (n := n + 2) fun σ1 g ig x1 hg hgl hil => ?_
  have x1' : Ext [] σ σ1 := (Ext.app _).trans x1
  refine sub_c (n := n) hg (Nat.zero_le _) fun σ2 e il x2 h2 h3 he hil2 => ?_
  have hil0 : (σ ++ [AO.dict []]).length ≤ ig := hil
  have hig : σ.length ≤ ig := by rw [List.length_append] at hil0; lia
  have x2' : Ext [] σ σ2 := x1'.newX x2 (by simpa using hig)
  refine an (le! rfl) (an (lt! rfl) ?_)
  have hil2' : σ1.length ≤ il := hil2
  have g1 := new σ2 (AO.list [.loc e]) []
  refine an (⟨by decide, by decide, by decide, by decide⟩ : (0 : Int) ≤ 1 ∧ (1 : Int) ≤ 4096 ∧ (0 : Int) ≤ 6 ∧ (6 : Int) ≤ 4096) ?_
  refine tree_loop (scr := scr) (n := n) (P := P) (lp := lp) (le := σ2.length) (σ0 := σ) hP hlt hlp x2'.len ?_ 5 1 (σ2 ++ [AO.list [.loc e]]) (fun _ => e) (fun _ => il) none rfl (Nat.le_refl _) ?_
  · intro σ' els ils x T
    refine r_on (item_list (k := 0) (v := .loc (els 0)) T.ls rfl (by lia)) ?_
    exact q σ' els ils T.ext T.el T.new
  · refine ⟨x2'.appA _, g1, fun v hv => ?_, fun v hv w hw _ => by lia, fun v hv => Nat.le_trans x1'.len hil2', fun v hv => ?_⟩
    · have : v = 0 := by lia
      subst this
      have : kidsL P 1 (fun _ => e) 0 = [] := by unfold kidsL kidsN; rfl
      rw [this]
      have h3' := h3.ext (Ext.app (X := []) [AO.list [.loc e]]) (fun h => nomatch h)
      rw [show (S [97 + 0] : Str) = ("a" : Str) from by decide +kernel]
      exact h3'
    · have := lt_of h3.list
      lia
end Mine

set_option Elab.async false
set_option genSizeOf false
set_option genInjectivity false
set_option backward.match.sparseCases false
set_option bootstrap.genMatcherCode false
set_option tactic.hygienic false
set_option linter.unusedVariables false
set_option maxRecDepth 100000
namespace Mine
open PySem PySem.W PyProof.Rows
variable {scr : List Int} {n : Nat} {σ : Sto}
/-! the law's plain side: reading -/
noncomputable def leadOf : List Nat → List Nat
  | [] => []
  | r :: rs => List.replicate r 32 ++ 9 :: leadOf rs
noncomputable def rawOf (rs : List Nat) (s tag : Nat) : List Nat := leadOf rs ++ (List.replicate s 32 ++ [tag])
noncomputable def cntOf (rs : List Nat) : List Nat := rs.foldl bump []
noncomputable def nOf (rs : List Nat) (s : Nat) : Nat := (rs.map (· + 1)).sum + s
theorem scan_blanks (r : Nat) (rest : List Nat) : ∀ (z : Sc), scan (List.replicate r 32 ++ rest) z = scan rest ⟨z.cnt, z.b + r, z.n + r, z.nt⟩ := by
  induction r with
  | zero => intro z; rfl
  | succ r ih =>
    intro z
    rw [List.replicate_succ, List.cons_append, scan, if_pos rfl, ih]
    dsimp only
    rw [show z.b + 1 + r = z.b + (r + 1) from by lia, show z.n + 1 + r = z.n + (r + 1) from by lia]
theorem scan_lead : ∀ (rs : List Nat) (rest : List Nat) (c : List Nat) (k nt : Nat), scan (leadOf rs ++ rest) ⟨c, 0, k, nt⟩ = scan rest ⟨rs.foldl bump c, 0, k + (rs.map (· + 1)).sum, nt + rs.length⟩
  | [], rest, c, k, nt => rfl
  | r :: rs, rest, c, k, nt => by
    rw [leadOf, List.append_assoc, scan_blanks, List.cons_append, scan, if_neg (by decide), if_pos rfl]
    dsimp only
    rw [Nat.zero_add, scan_lead rs rest]
    simp only [List.foldl_cons, List.map_cons, List.sum_cons, List.length_cons]
    rw [show k + r + 1 + (rs.map (· + 1)).sum = k + (r + 1 + (rs.map (· + 1)).sum) from by lia, show nt + 1 + rs.length = nt + (rs.length + 1) from by lia]
theorem scan_raw (rs : List Nat) (s tag : Nat) (h1 : tag ≠ 32) (h2 : tag ≠ 9) : scan (rawOf rs s tag) ⟨[], 0, 0, 0⟩ = ⟨cntOf rs, s, nOf rs s, rs.length⟩ := by
  unfold rawOf
  rw [scan_lead, scan_blanks, scan, if_neg h1, if_neg h2]
  simp [cntOf, nOf]
theorem lead_len (rs : List Nat) : (leadOf rs).length = (rs.map (· + 1)).sum := by
  induction rs with
  | nil => rfl
  | cons r rs ih => rw [leadOf, List.length_append, List.length_replicate, List.length_cons, ih]; simp; lia
theorem lead_lt (rs : List Nat) : ∀ c ∈ leadOf rs, c < 128 := by
  induction rs with
  | nil => intro c h; cases h
  | cons r rs ih =>
    intro c h
    rw [leadOf] at h
    rcases List.mem_append.mp h with h | h
    · have := (List.mem_replicate.mp h).2; lia
    · rcases List.mem_cons.mp h with h | h
      · lia
      · exact ih c h
noncomputable def idx (N : List Nat) : List (List Nat) → Nat
  | [] => 0
  | x :: r => if x == N then 0 else idx N r + 1
noncomputable abbrev KT := List (List Nat) × List (List Nat × Nat)
noncomputable def rds (g : Nat → List (List Nat) → Option (KT × Nat)) : List Nat → List (List Nat) → Option (KT × List Nat)
  | [], K => some ((K, []), [])
  | c :: r, K => match g c K with
    | none => none
    | some ((K1, T1), x) => match rds g r K1 with
      | none => none
      | some ((K2, T2), xs) => some ((K2, T1 ++ T2), x :: xs)
noncomputable def small (K : List (List Nat)) (rs : List Nat) : Bool := Nat.ble K.length 40 && Nat.ble rs.length 4 && rs.all fun r => Nat.ble r 40
noncomputable def rd (B : Nat → List Nat) : Nat → Nat → List (List Nat) → Option (KT × Nat)
  | 0, _, _ => none
  | f + 1, v, K => match rds (rd B f) (B v) K with
    | none => none
    | some ((K1, T1), rs) => if small K1 rs then some ((if idx (cntOf rs) K1 = K1.length then K1 ++ [cntOf rs] else K1, T1 ++ [(rs, 97 + v)]), idx (cntOf rs) K1) else none
theorem small_of {K : List (List Nat)} {rs : List Nat} (h : small K rs = true) : K.length ≤ 40 ∧ rs.length ≤ 4 ∧ ∀ r ∈ rs, r ≤ 40 := by
  unfold small at h
  simp only [Bool.and_eq_true, Nat.ble_eq, List.all_eq_true] at h
  exact ⟨h.1.1, h.1.2, h.2⟩
theorem sum_le : ∀ (rs : List Nat), (∀ r ∈ rs, r ≤ 40) → (rs.map (· + 1)).sum ≤ 41 * rs.length
  | [], _ => by simp
  | r :: rs, h => by
    have := sum_le rs fun x hx => h x (.tail _ hx)
    have := h r (.head _)
    simp only [List.map_cons, List.sum_cons, List.length_cons]; lia
noncomputable def All2 {α β : Type} (R : α → β → Prop) : List α → List β → Prop := A2 R
namespace All2
variable {α β : Type} {R R' : α → β → Prop} {as as' : List α} {bs bs' : List β}
theorem nil : All2 R [] [] := rfl
theorem cons {a : α} {b : β} (h : R a b) (t : All2 R as bs) : All2 R (a :: as) (b :: bs) := ⟨b, bs, rfl, h, t⟩
theorem nil_ (h : All2 R [] bs) : bs = [] := h
theorem nilr (h : All2 R as []) : as = [] := List.eq_nil_of_length_eq_zero (A2.length h).symm
theorem cons_ {a : α} (h : All2 R (a :: as) bs) : ∃ b r, bs = b :: r ∧ R a b ∧ All2 R as r := h
theorem consr {b : β} (h : All2 R as (b :: bs)) : ∃ a r, as = a :: r ∧ R a b ∧ All2 R r bs := by
  cases as with
  | nil => exact absurd (A2.length h) (Nat.succ_ne_zero _)
  | cons a as => exact h.cons_.elim fun c => Exists.elim (h₂ := fun r k => have e := List.cons.inj k.1; ⟨a, as, rfl, e.1 ▸ k.2.1, e.2 ▸ k.2.2⟩)
theorem length (h : All2 R as bs) : as.length = bs.length := (A2.length h).symm
theorem mono (f : ∀ a b, R a b → R' a b) (h : All2 R as bs) : All2 R' as bs := A2.map (f _ _) h
theorem app (h : All2 R as bs) (h' : All2 R as' bs') : All2 R (as ++ as') (bs ++ bs') := A2.append h h'
theorem get {i : Nat} {b : β} (h : All2 R as bs) (e : bs[i]? = some b) : ∃ a, as[i]? = some a ∧ R a b := A2.get' h e
theorem split (h : All2 R as (bs ++ bs')) : All2 R (as.take bs.length) bs ∧ All2 R (as.drop bs.length) bs' :=
  ⟨by have := A2.take bs.length h; rw [List.take_left] at this; exact this, by have := A2.drop bs.length h; rw [List.drop_left] at this; exact this⟩
end All2
/-- a piece of the pile -/
noncomputable def IsPc (σ : Sto) (v : AV) (r : Nat) : Prop := ∃ t, v = .loc t ∧ σ[t]? = some (.tup [.str (S (List.replicate r 32)), .str (S [9])])
noncomputable def IsK (s : Nat) (σ : Sto) (l : Nat) (c : List Nat) : Prop := ∃ raw k nt, IsW σ l raw c s k nt
noncomputable def IsT (s : Nat) (σ : Sto) (l : Nat) (t : List Nat × Nat) : Prop := IsW σ l (rawOf t.1 s t.2) (cntOf t.1) s (nOf t.1 s) t.1.length
/-- the state of the reading -/
structure RS (s kl tl p : Nat) (K : List (List Nat)) (Tl : List (List Nat × Nat)) (R : List Nat) (σ : Sto) : Prop where
  kn : ∃ ks : List Nat, σ[kl]? = some (.list (ks.map .loc)) ∧ All2 (IsK s σ) ks K
  td : ∃ ts : List Nat, σ[tl]? = some (.list (ts.map .loc)) ∧ All2 (IsT s σ) ts Tl
  pl : ∃ xs, IsP σ p xs ∧ All2 (IsPc σ) xs R
theorem IsPc.ext {X : List Nat} {σ' : Sto} {v : AV} {r : Nat} (x : Ext X σ σ') (h : IsPc σ v r) : IsPc σ' v r := let ⟨t, e, h⟩ := h; ⟨t, e, x.fz h rfl⟩
theorem IsK.ext {X : List Nat} {σ' : Sto} {s l : Nat} {c : List Nat} (x : Ext X σ σ') (h : IsK s σ l c) : IsK s σ' l c := let ⟨a, b, c, h⟩ := h; ⟨a, b, c, h.ext x⟩
theorem IsT.ext {X : List Nat} {σ' : Sto} {s l : Nat} {t : List Nat × Nat} (x : Ext X σ σ') (h : IsT s σ l t) : IsT s σ' l t := IsW.ext h x
theorem RS.ext0 {s kl tl p : Nat} {K : List (List Nat)} {Tl : List (List Nat × Nat)} {R : List Nat} {σ' : Sto} (h : RS s kl tl p K Tl R σ) (x : Ext [] σ σ') : RS s kl tl p K Tl R σ' :=
  let ⟨ks, k1, k2⟩ := h.kn; let ⟨ts, t1, t2⟩ := h.td; let ⟨xs, p1, p2⟩ := h.pl
  ⟨⟨ks, x.ls0 k1, k2.mono fun _ _ => IsK.ext x⟩, ⟨ts, x.ls0 t1, t2.mono fun _ _ => IsT.ext x⟩, ⟨xs, p1.at x fun d h => x.ls0 h, p2.mono fun _ _ => IsPc.ext x⟩⟩
end Mine

set_option Elab.async false
set_option genSizeOf false
set_option genInjectivity false
set_option backward.match.sparseCases false
set_option bootstrap.genMatcherCode false
set_option tactic.hygienic false
set_option linter.unusedVariables false
set_option maxRecDepth 100000
namespace Mine
open PySem PySem.W PyProof.Rows
variable {scr : List Int} {n : Nat} {σ : Sto}
theorem p_push {D : Nat} {xs : List AV} {v : AV} (h : σ[D]? = some (.list xs)) (hz : xs.length ≤ 4096) : pushV D v σ = some (σ.set D (.list (xs ++ [v]))) := by
  unfold pushV; rw [h]; exact if_pos hz
theorem r_tup {l : Nat} {xs : List AV} {K : List AV → Prop} (h : σ[l]? = some (.tup xs)) (q : K xs) : onTup σ[l]? K := by rw [h]; exact q
noncomputable def pcS (r : Nat) : List Nat := List.replicate r 32 ++ [9]
theorem lead_flat (rs : List Nat) : (rs.map pcS).flatten = leadOf rs := by
  induction rs with
  | nil => rfl
  | cons r rs ih => rw [List.map_cons, List.flatten_cons, ih, leadOf, pcS, List.append_assoc]; rfl
theorem pieces_c {call : CallT} {l D : Nat} {its : List AV} {Q : St → Prop} (hlD : l ≠ D) : ∀ (rest : List AV) (rs done : List Nat) {σ : Sto} {x0 a b : Option AV}, All2 (IsPc σ) rest rs → σ[l]? = some (.list its) → σ[D]? = some (.list (done.map fun r => .str (S (pcS r)))) → (done ++ rs).length ≤ 4000 → (∀ r ∈ rs, r ≤ 1000) →
    (∀ σ' x, Ext [D] σ σ' → σ'[D]? = some (.list ((done ++ rs).map fun r => .str (S (pcS r)))) → Q ⟨x, σ'⟩) →
      turns (.lst l) its (fun x s₂ k => evT (TT scr) call [] (.tup (.cons (.loc 1) (.cons (.loc 2) .nil))) x s₂ fun s₃ => evIfs (TT scr) call [] .nil s₃ fun b s₄ => if b then evC (TT scr) call [] D (.elt (.bin .add (.loc 1) (.loc 2))) s₄ k else k s₄) rest ⟨[x0, a, b], σ⟩ Q
  | _, [], done, σ, x0, a, b, h0, h1, h2, h3, h4, q => by rw [h0.nilr]; exact an h1 (q σ _ Ext.rfl' (by rw [List.append_nil]; exact h2))
  | _, r :: rs, done, σ, x0, a, b, h0, h1, h2, h3, h4, q => by
    obtain ⟨v, rest, er, ⟨t, e, hp⟩, hr⟩ := h0.consr
    rw [er, e]
    have hr4 := h4 r (.head _)
    refine an h1 (r_tup hp (an rfl (an (lt! rfl) (an (lt! rfl) (an ?_ (r_on (p_push h2 (by simp at h3 ⊢; lia)) ?_))))))
    · rw [s_len, s_len]; simp; lia
    have hne : D ≠ t := fun e => by subst e; rw [h2] at hp; cases hp
    rw [s_app]
    refine pieces_c hlD _ rs (done ++ [r]) (hr.mono fun v r ⟨t', e, h⟩ => ⟨t', e, missK _ h2 h (fun e => nomatch e)⟩) (miss _ h1 hlD.symm) (by rw [List.map_append]; exact hit _ h2) (by simpa using h3) (fun x hx => h4 x (.tail _ hx)) fun σ' x x1 x2 => ?_
    exact q σ' x ((Ext.setX _ h2 rfl (.head _)).trans x1) (by simpa using x2)
end Mine

set_option Elab.async false
set_option genSizeOf false
set_option genInjectivity false
set_option backward.match.sparseCases false
set_option bootstrap.genMatcherCode false
set_option tactic.hygienic false
set_option linter.unusedVariables false
set_option maxRecDepth 100000
namespace Mine
open PySem PySem.W PyProof.Rows
variable {scr : List Int} {n : Nat} {σ : Sto}
noncomputable def Els (P : List Nat) (els ils : Nat → Nat) (σ : Sto) : Prop := ∀ v < 6, IsEl σ (els v) (S [97 + v]) (ils v) (kidsL P 6 els v)
theorem Els.ext {P : List Nat} {els ils : Nat → Nat} {X : List Nat} {σ' : Sto} (h : Els P els ils σ) (x : Ext X σ σ') (hi : ∀ v < 6, ils v ∉ X) : Els P els ils σ' := fun v hv => (h v hv).ext x (hi v hv)
noncomputable abbrev rV (a b c d e f g h i j : Option AV) : List (Option AV) := [a, b, c, d, e, f, g, h, i, j]
/-- reading, as it is called -/
noncomputable def RdOk (call : CallT) (P : List Nat) (els ils : Nat → Nat) (s kl tl p f : Nat) : Prop := ∀ {v : Nat} {σ : Sto} {K K1 : List (List Nat)} {T1 Tl : List (List Nat × Nat)} {r : Nat} {R : List Nat} {Q : AV → Sto → Prop}, v < 6 → rd (kidsN P 6) f v K = some ((K1, T1), r) → Els P els ils σ → RS s kl tl p K Tl R σ → R.length + 10 * f ≤ 1000 → Tl.length + T1.length ≤ 4000 →
  (∀ σ', Ext [kl, tl, p] σ σ' → RS s kl tl p K1 (Tl ++ T1) (R ++ [r]) σ' → Q .none σ') → call (.ext aRead) [.loc (els v), I s, .loc p, .loc kl, .loc tl] σ Q
set_option tactic.hygienic true in
theorem kids_c {call : CallT} {P : List Nat} {els ils : Nat → Nat} {s kl tl p f v0 : Nat} {its : List AV} {a0 : AV} {y : Option AV} {Q : Fl → St → Prop} (hi : ∀ v < 6, ils v ∉ [kl, tl, p]) (hR : RdOk call P els ils s kl tl p f) (hv0 : v0 < 6) (hits : its = kidsL P 6 els v0) :
    ∀ (cs : List Nat) {σ : Sto} {K K1 : List (List Nat)} {T1 Tl : List (List Nat × Nat)} {rs R : List Nat} {x : Option AV}, (∀ c ∈ cs, c < 6) → rds (rd (kidsN P 6) f) cs K = some ((K1, T1), rs) → Els P els ils σ → RS s kl tl p K Tl R σ → R.length + rs.length + 10 * f ≤ 1000 → Tl.length + T1.length ≤ 4000 →
      (∀ σ' x, Ext [kl, tl, p] σ σ' → RS s kl tl p K1 (Tl ++ T1) (R ++ rs) σ' → Q .next ⟨rV (some a0) (some (I s)) (some (.loc p)) (some (.loc kl)) (some (.loc tl)) y x none none none, σ'⟩) →
        forT (.lst (ils v0)) its (fun x s₂ k => evT (TT scr) call [] (.loc 6) x s₂ fun s₃ => exs (TT scr) call [] (.cons (.expr (.call (.lit (.ext aRead)) (.cons (.loc 6) (.cons (.loc 1) (.cons (.loc 2) (.cons (.loc 3) (.cons (.loc 4) .nil))))))) .nil) s₃ k)
          (cs.map fun c => .loc (els c)) ⟨rV (some a0) (some (I s)) (some (.loc p)) (some (.loc kl)) (some (.loc tl)) y x none none none, σ⟩ Q
  | [], σ, K, K1, T1, Tl, rs, R, x, _, hr, he, h, _, _, q => by
    cases hr
    rw [List.append_nil, List.append_nil] at q
    exact an (by rw [hits]; exact (he v0 hv0).list) (q σ x Ext.rfl' h)
  | c :: cs, σ, K, K1, T1, Tl, rs, R, x, hc, hr, he, h, hb, ht, q => by
    rw [rds] at hr
    split at hr
    · cases hr
    · rename_i K2 T2 r hr1
      split at hr
      · cases hr
      · rename_i K3 T3 xs hr2
        cases hr
        simp only [List.length_append, List.length_cons] at hb ht
        refine an (by rw [hits]; exact (he v0 hv0).list) (an (lt! rfl) ?_)
        refine hR (hc c (.head _)) hr1 he h (by lia) (by lia) fun σ' x1 h1 => ?_
        refine kids_c hi hR hv0 hits cs (fun c hm => hc c (.tail _ hm)) hr2 (he.ext x1 hi) h1 (by simp only [List.length_append, List.length_cons, List.length_nil]; lia) (by simp only [List.length_append]; lia) fun σ'' x x2 h2 => ?_
        exact q σ'' x (x1.trans x2) (by simpa using h2)
/-- the search among what is known -/
theorem while_c {call : CallT} {K : List (List Nat)} {ks : List Nat} {kl l s : Nat} {cnt : List Nat} {raw : List Nat} {k nt : Nat} {a b c d e f g : Option AV} {Q : Fl → St → Prop} (H : Lib call) (hEq : ∀ {l m : Nat} {raw raw' cnt cnt' : List Nat} {b b' k k' nt nt' : Nat} {Q : AV → Sto → Prop}, IsW σ l raw cnt b k nt → IsW σ m raw' cnt' b' k' nt' → Q (.bool (cnt == cnt' && b == b')) σ → call (.ext aWeq) [.loc l, .loc m] σ Q)
    (hk : σ[kl]? = some (.list (ks.map .loc))) (hA : All2 (IsK s σ) ks K) (hW : IsW σ l raw cnt s k nt) (hz : ks.length ≤ 4000) (q : Q .next ⟨rV a b c (some (.loc kl)) d e f g (some (.loc l)) (some (I (idx cnt K))), σ⟩) :
    ∀ (m i : Nat), i + m = ks.length → idx cnt K = i + idx cnt (K.drop i) → whileT (evB (TT scr) call [] (.and (.cmp .lt (.loc 9) (.call (.lit (.blt "len")) (.cons (.loc 3) .nil))) (.not (.meth (.item (.loc 3) (.loc 9)) 9 (.cons (.loc 8) .nil))))) (fun s => exs (TT scr) call [] (.cons (.augl 9 .add (.lit (.int 1))) .nil) s) (m + 1) ⟨rV a b c (some (.loc kl)) d e f g (some (.loc l)) (some (I i)), σ⟩ Q
  | 0, i, hi, hx => by
    have hKl := hA.length
    refine H.len hk (by rw [List.length_map]; lia) ?_
    refine p_neg (c := decide ((i : Int) < ((ks.map AV.loc).length : Nat)) = true) (by rw [List.length_map]; simp; lia) ?_
    have : K.drop i = [] := List.drop_eq_nil_of_le (by lia)
    rw [this] at hx
    have : idx cnt K = i := hx
    rw [this] at q
    exact q
  | m + 1, i, hi, hx => by
    have hKl := hA.length
    refine H.len hk (by rw [List.length_map]; lia) ?_
    refine p_pos (c := decide ((i : Int) < ((ks.map AV.loc).length : Nat)) = true) (by rw [List.length_map]; simp; lia) ?_
    have hKi : K[i]? = some (K[i]'(by lia)) := List.getElem?_eq_getElem (by lia)
    obtain ⟨lk, e1, raw', k', nt', hlk⟩ := hA.get hKi
    refine r_on (item_list (k := i) hk (by rw [List.getElem?_map, e1]; rfl) (by lia)) ?_
    refine r_on (m_equal hlk) (an rfl (hEq hlk hW ?_))
    have hd : K.drop i = K[i]'(by lia) :: K.drop (i + 1) := List.drop_eq_getElem_cons (by lia)
    rw [hd, idx] at hx
    by_cases hc : (K[i]'(by lia) == cnt) = true
    · rw [if_pos hc] at hx
      have e2 : (K[i]'(by lia) == cnt && s == s) = true := by rw [hc]; simp
      rw [e2]
      have : idx cnt K = i := hx
      rw [this] at q
      exact q
    · rw [if_neg hc] at hx
      have e2 : (K[i]'(by lia) == cnt && s == s) = false := by rw [Bool.eq_false_iff.mpr hc]; rfl
      rw [e2]
      refine an (lt! rfl) ?_
      exact while_c H hEq hk hA hW hz q m (i + 1) (by lia) (by lia)
end Mine

set_option Elab.async false
set_option genSizeOf false
set_option genInjectivity false
set_option backward.match.sparseCases false
set_option bootstrap.genMatcherCode false
set_option tactic.hygienic false
set_option linter.unusedVariables false
set_option maxRecDepth 100000
namespace Mine
open PySem PySem.W PyProof.Rows
variable {scr : List Int} {n : Nat}
/-- what the classes' calls do -/
structure Cs (call : CallT) : Prop where
  lib : Lib call
  push : ∀ {σ : Sto} {p : Nat} {xs : List AV} {a b : AV} {Q : AV → Sto → Prop}, IsP σ p xs → xs.length ≤ 4000 → (∀ σ' t, Ext [p] σ σ' → IsP σ' p (xs ++ [.loc t]) → σ'[t]? = some (.tup [a, b]) → Q .none σ') → call (.ext aApush) [.loc p, a, b] σ Q
  count : ∀ {σ : Sto} {p : Nat} {xs : List AV} {Q : AV → Sto → Prop}, IsP σ p xs → xs.length ≤ 4000 → Q (.int xs.length) σ → call (.ext aAcount) [.loc p] σ Q
  popf : ∀ {σ : Sto} {p k : Nat} {xs : List AV} {Q : AV → Sto → Prop}, IsP σ p xs → xs.length ≤ 4000 → k ≤ 4000 → (∀ σ' l, Ext [p] σ σ' → IsP σ' p (xs.take k) → σ'[l]? = some (.list (xs.drop k)) → σ.length ≤ l → Q (.loc l) σ') → call (.ext aApopf) [.loc p, I k] σ Q
  init : ∀ {σ : Sto} {raw : List Nat} {Q : AV → Sto → Prop}, (∀ c ∈ raw, c < 128) → raw.length ≤ 200 → (∀ σ' l, Ext [] σ σ' → IsW σ' l raw (scan raw ⟨[], 0, 0, 0⟩).cnt (scan raw ⟨[], 0, 0, 0⟩).b (scan raw ⟨[], 0, 0, 0⟩).n (scan raw ⟨[], 0, 0, 0⟩).nt → σ.length ≤ l → Q (.loc l) σ') → call (.ext aWhite) [.str (S raw)] σ Q
  equal : ∀ {σ : Sto} {l m : Nat} {raw raw' cnt cnt' : List Nat} {b b' k k' nt nt' : Nat} {Q : AV → Sto → Prop}, IsW σ l raw cnt b k nt → IsW σ m raw' cnt' b' k' nt' → Q (.bool (cnt == cnt' && b == b')) σ → call (.ext aWeq) [.loc l, .loc m] σ Q
theorem cs : Cs (callN (TT scr) (n + 4)) := ⟨lib, fun h1 h2 q => push_c h1 h2 q, fun h1 h2 q => count_c h1 h2 q, fun h1 h2 h3 q => popf_c h1 h2 h3 q, fun h1 h2 q => init_c h1 h2 q, fun h1 h2 q => equal_c h1 h2 q⟩
theorem Ext.newX' {X Y : List Nat} {σ₀ σ₁ σ₂ : Sto} (a : Ext X σ₀ σ₁) (b : Ext Y σ₁ σ₂) (h : ∀ x ∈ Y, σ₀.length ≤ x) : Ext X σ₀ σ₂ :=
  ⟨Nat.le_trans a.len b.len, fun l o e k => b.get l o (a.get l o e k) fun _ q => by have := lt_of e; have := h l q; lia⟩
theorem strs_pc (rs : List Nat) : strsOf (rs.map fun r => AV.str (S (pcS r))) = some (rs.map fun r => S (pcS r)) := by
  induction rs with
  | nil => rfl
  | cons r rs ih => show (strsOf (rs.map fun r => AV.str (S (pcS r)))).map _ = _; rw [ih]; rfl
theorem sum_pc (rs : List Nat) (h : ∀ r ∈ rs, r ≤ 40) : ((rs.map fun r => S (pcS r)).map (·.length)).sum ≤ 41 * rs.length := by
  induction rs with
  | nil => simp
  | cons r rs ih =>
    have := ih fun x hx => h x (.tail _ hx)
    have := h r (.head _)
    simp only [List.map_cons, List.sum_cons, List.length_cons, s_len, pcS, List.length_append, List.length_replicate, List.length_nil] at *; lia
theorem rep32 (s : Nat) : (List.replicate s [32]).flatten = List.replicate s 32 := by
  induction s with
  | zero => rfl
  | succ s ih => rw [List.replicate_succ, List.flatten_cons, ih]; rfl
theorem s_sp (s : Nat) : Txt.mul (" " : Str) (s : Int) = S (List.replicate s 32) := by rw [s_blank, s_mul, rep32]
theorem sp_ok {s : Nat} (h : s ≤ 1000) : MulOk (" " : Str) (s : Int) := by rw [s_blank]; exact s_mulOk _ _ (by simp; lia) (by lia)
theorem raw_ok {rs : List Nat} {s v : Nat} (h1 : rs.length ≤ 4) (h2 : ∀ r ∈ rs, r ≤ 40) (hs : s ≤ 10) (hv : v < 6) : (∀ c ∈ rawOf rs s (97 + v), c < 128) ∧ (rawOf rs s (97 + v)).length ≤ 200 := by
  refine ⟨fun c hc => ?_, ?_⟩
  · unfold rawOf at hc
    rcases List.mem_append.mp hc with hc | hc
    · exact lead_lt _ _ hc
    · rcases List.mem_append.mp hc with hc | hc
      · have := (List.mem_replicate.mp hc).2; lia
      · have := List.mem_singleton.mp hc; lia
  · unfold rawOf
    rw [List.length_append, lead_len, List.length_append, List.length_replicate]
    have := sum_le rs h2
    simp only [List.length_cons, List.length_nil]; lia
theorem IsP.ext {X : List Nat} {σ σ' : Sto} {p : Nat} {xs : List AV} (h : IsP σ p xs) (x : Ext X σ σ') (hp : p ∉ X) : IsP σ' p xs := h.at x fun d e => x.ls e hp
theorem idx_le (N : List Nat) : ∀ K : List (List Nat), idx N K ≤ K.length
  | [] => Nat.zero_le _
  | a :: r => by have := idx_le N r; rw [idx]; split <;> simp <;> lia
theorem read_end {call : CallT} (C : Cs call) {s kl tl p r : Nat} {K : List (List Nat)} {T : List (List Nat × Nat)} {R : List Nat} {σ : Sto} {a b c d e f g h : Option AV} {Q : AV → Sto → Prop} (hr : RS s kl tl p K T R σ) (hkp : kl ≠ p) (htp : tl ≠ p) (hz : R.length ≤ 4000) (hr1 : r ≤ 1000)
    (q : ∀ σ', Ext [p] σ σ' → RS s kl tl p K T (R ++ [r]) σ' → Q .none σ') : exs (TT scr) call [] (.cons (.expr (.meth (.loc 2) 17 (.cons (.bin .mul (.lit (.str " ")) (.loc 9)) (.cons (.lit (.str "\t")) .nil)))) .nil) ⟨rV a b (some (.loc p)) d e f g h c (some (I r)), σ⟩ (runTail (TT scr) none Q) := by
  obtain ⟨xs, p1, p2⟩ := hr.pl
  obtain ⟨ks, k1, k2⟩ := hr.kn
  obtain ⟨ts, t1, t2⟩ := hr.td
  refine r_on (m_pile p1 (by decide) rfl) (an rfl (an (sp_ok hr1) ?_))
  refine C.push p1 (by rw [p2.length]; exact hz) fun σ' t x h1 h2 => ?_
  rw [s_sp, s_tab] at h2
  refine q σ' x ⟨⟨ks, x.ls k1 (by simpa using hkp), k2.mono fun _ _ => IsK.ext x⟩, ⟨ts, x.ls t1 (by simpa using htp), t2.mono fun _ _ => IsT.ext x⟩, ⟨_, h1, (p2.mono fun _ _ => IsPc.ext x).app (.cons ⟨t, rfl, h2⟩ .nil)⟩⟩
set_option tactic.hygienic true in
set_option maxHeartbeats 2000000 in
theorem read_step {call : CallT} (C : Cs call) {P : List Nat} {els ils : Nat → Nat} {s kl tl p f : Nat} (hkt : kl ≠ tl) (hs : s ≤ 10) (hi : ∀ v < 6, ils v ∉ [kl, tl, p]) (hR : RdOk call P els ils s kl tl p f) {v : Nat} {σ : Sto} {K K1 : List (List Nat)} {T1 Tl : List (List Nat × Nat)} {r : Nat} {R : List Nat} {Q : AV → Sto → Prop} (hv : v < 6)
    (hr : rd (kidsN P 6) (f + 1) v K = some ((K1, T1), r)) (he : Els P els ils σ) (h : RS s kl tl p K Tl R σ) (hb : R.length + 10 * (f + 1) ≤ 1000) (ht : Tl.length + T1.length ≤ 4000)
    (q : ∀ σ', Ext [kl, tl, p] σ σ' → RS s kl tl p K1 (Tl ++ T1) (R ++ [r]) σ' → Q .none σ') :
    exs (TT scr) call [] fRead.body ⟨rV (some (.loc (els v))) (some (I s)) (some (.loc p)) (some (.loc kl)) (some (.loc tl)) none none none none none, σ⟩ (runTail (TT scr) none Q) := by
  rw [rd] at hr
  split at hr
  · cases hr
  rename_i K2 T2 rs hr2
  split at hr
  case isFalse => cases hr
  rename_i hsm
  cases hr
  obtain ⟨s1, s2, s3⟩ := small_of hsm
  rw [List.length_append] at ht
  simp only [List.length_cons, List.length_nil] at ht
  obtain ⟨xs, p1, p2⟩ := h.pl
  have hxl := p2.length
  refine r_on (m_pile p1 (by decide) rfl) (an rfl (C.count p1 (by lia) (an (lt! rfl) ?_)))
  refine r_on (he v hv).attr.1 (an rfl (r_on (it_list (he v hv).list) ?_))
  refine kids_c (y := some (.int xs.length)) hi hR hv rfl (kidsN P 6 v) (fun c hc => by simpa using (List.mem_filter.mp hc).1) hr2 he h (by lia) (by lia) ?_
  intro σ1 x x1 h1
  have he1 := he.ext x1 hi
  clear hr2 hR he p1 h
  obtain ⟨ys, p3, p4⟩ := h1.pl
  obtain ⟨hA, hB⟩ := p4.split
  have hyl := p4.length
  rw [List.length_append] at hyl
  refine an rfl ?_
  refine r_on (m_pile p3 (by decide) rfl) (an rfl ?_)
  rw [show ((xs.length : Int)) = ((R.length : Nat) : Int) from by rw [hxl]]
  refine C.popf (k := R.length) p3 (by lia) (by lia) fun σ2 l x2 p5 p6 hl => ?_
  refine r_on (it_list p6) ?_
  have hl2 : σ1.length ≤ l := hl
  have x2' : Ext [p] σ1 σ2 := x2
  have d1 := new σ2 (AO.list []) []
  have p6' := old [AO.list []] p6
  refine pieces_c (l := l) (D := σ2.length) (by have := lt_of p6; lia) _ rs [] (hB.mono fun _ _ hpc => (hpc.ext x2').ext (X := []) (Ext.app _)) p6' d1 (by simp; lia) (fun r hr => by have := s3 r hr; lia) fun σ3 xx x3 d2 => ?_
  have x3' : Ext [p] σ1 σ3 := (x2'.appA _).newX' x3 (by have := x2'.len; simpa using this)
  refine C.lib.join (x := "") d2 (strs_pc rs) (by rw [show ("" : Str).length = 0 from by decide +kernel]; have := sum_pc rs s3; lia) ?_
  have hj : Txt.join ("" : Str) (rs.map fun r => S (pcS r)) = S (leadOf rs) := by
    have := s_join (rs.map pcS)
    rw [List.map_map, lead_flat] at this
    rw [s_nil]; exact this
  rw [hj]
  refine an (lt! rfl) ?_
  have he3 := he1.ext (x3'.mono (Y := [kl, tl, p]) (by simp)) hi
  have hl1 : (leadOf rs).length ≤ 170 := by rw [lead_len]; have := sum_le rs s3; lia
  refine an (sp_ok (s := s) (by lia)) (an (by rw [s_len, s_sp, s_len]; simp; lia) (r_on (he3 v hv).attr.2.1 (an rfl (an ?_ ?_))))
  · rw [s_sp, s_app, s_len, s_len]; simp; lia
  have hraw : S (leadOf rs) ++ Txt.mul (" " : Str) (s : Int) ++ S [97 + v] = S (rawOf rs s (97 + v)) := by rw [s_sp, s_app, s_app, rawOf, List.append_assoc]
  rw [hraw]
  obtain ⟨r1, r2⟩ := raw_ok (v := v) s2 s3 hs hv
  refine C.init r1 r2 fun σ4 w x4 hw hwl => ?_
  rw [scan_raw rs s (97 + v) (by lia) (by lia)] at hw
  have x4' : Ext [p] σ1 σ4 := x3'.trans x4.of0
  refine an (lt! rfl) ?_
  obtain ⟨ts, t1, t2⟩ := h1.td
  obtain ⟨ks, k1, k2⟩ := h1.kn
  have hpk : kl ≠ p := fun e => by subst e; obtain ⟨d, e1, _⟩ := p3.out; rw [k1] at e1; cases e1
  have hpt : tl ≠ p := fun e => by subst e; obtain ⟨d, e1, _⟩ := p3.out; rw [t1] at e1; cases e1
  have t4 := x4'.ls t1 (by simpa using hpt)
  have k4 := x4'.ls k1 (by simpa using hpk)
  have htl := t2.length
  rw [List.length_append] at htl
  have hps : p < σ2.length := by obtain ⟨d, e1, _⟩ := p5.out; exact lt_of e1
  have p7 : IsP σ4 p (ys.take R.length) := ((p5.ext (Ext.app (X := []) _) (fun h => nomatch h)).ext x3 (by simp only [List.mem_singleton]; lia)).ext x4 (fun h => nomatch h)
  refine r_on (meth_list0 t4) (an rfl (C.lib.append t4 (by rw [List.length_map]; lia) ?_))
  show exs (TT scr) call [] _ ⟨rV (some (.loc (els v))) (some (I s)) (some (.loc p)) (some (.loc kl)) (some (.loc tl)) (some (I R.length)) x (some (.str (S (leadOf rs)))) (some (.loc w)) none, σ4.set tl (.list (ts.map .loc ++ [.loc w]))⟩ _
  have x5 : Ext [kl, tl, p] σ1 (σ4.set tl (.list (ts.map .loc ++ [.loc w]))) := (x4'.mono (by simp)).setA _ t4 rfl (by simp)
  have x45 : Ext [tl] σ4 (σ4.set tl (.list (ts.map .loc ++ [.loc w]))) := Ext.setX _ t4 rfl (.head _)
  have t5 := hit (.list (ts.map .loc ++ [.loc w])) t4
  have k5 := miss (.list (ts.map .loc ++ [.loc w])) k4 hkt.symm
  have hw5 := hw.ext x45
  have p8 : IsP (σ4.set tl (.list (ts.map .loc ++ [.loc w]))) p (ys.take R.length) := p7.ext x45 (by simpa using hpt.symm)
  have hA5 : All2 (IsPc (σ4.set tl (.list (ts.map .loc ++ [.loc w])))) (ys.take R.length) R := hA.mono fun _ _ hpc => hpc.ext x5
  have k6 : All2 (IsK s (σ4.set tl (.list (ts.map .loc ++ [.loc w])))) ks K2 := k2.mono fun _ _ hk => hk.ext x5
  have t6 : All2 (IsT s (σ4.set tl (.list (ts.map .loc ++ [.loc w])))) (ts ++ [w]) ((Tl ++ T2) ++ [(rs, 97 + v)]) := (t2.mono fun _ _ ht => ht.ext x5).app (.cons hw5 .nil)
  have t7 : (σ4.set tl (.list (ts.map .loc ++ [.loc w])))[tl]? = some (.list ((ts ++ [w]).map .loc)) := by rw [List.map_append]; exact t5
  have hks := k2.length
  have hix := idx_le (cntOf rs) K2
  generalize σ4.set tl (.list (ts.map .loc ++ [.loc w])) = σ5 at *
  have x15 : Ext [kl, tl, p] σ σ5 := x1.trans x5
  clear x45 t5 t4 k4 p7 x4 x4' x3 x3' x2 x2' d1 d2 p6 p6' hw p5 hB p4 p3 t1 k1 he3 he1 h1 hA x5 x1 t2 k2 hps
  refine an (lt! rfl) (Exists.intro (ks.length + 1) ?_)
  refine while_c C.lib (fun h1 h2 q => C.equal h1 h2 q) k5 k6 hw5 (by lia) ?_ ks.length 0 (by lia) (by rw [Nat.zero_add]; rfl)
  refine C.lib.len k5 (by rw [List.length_map]; lia) ?_
  by_cases hc : idx (cntOf rs) K2 = K2.length
  · rw [if_pos hc] at q
    refine p_pos (c := (((idx (cntOf rs) K2 : Nat) : Int) == (((ks.map AV.loc).length : Nat) : Int)) = true) (by rw [List.length_map, hks, hc]; simp) ?_
    refine r_on (meth_list0 k5) (an rfl (C.lib.append k5 (by rw [List.length_map]; lia) ?_))
    have x6 : Ext [kl] σ5 (σ5.set kl (.list (ks.map .loc ++ [.loc w]))) := Ext.setX _ k5 rfl (.head _)
    refine read_end (scr := scr) C (r := idx (cntOf rs) K2) (K := K2 ++ [cntOf rs]) (T := (Tl ++ T2) ++ [(rs, 97 + v)]) (R := R) (σ := σ5.set kl (.list (ks.map .loc ++ [.loc w]))) ⟨⟨ks ++ [w], by rw [List.map_append]; exact hit _ k5, (k6.mono fun _ _ h => h.ext x6).app (.cons ⟨_, _, _, hw5.ext x6⟩ .nil)⟩, ⟨ts ++ [w], x6.ls t7 (by simpa using hkt.symm), t6.mono fun _ _ h => h.ext x6⟩, ⟨_, p8.ext x6 (by simpa using hpk.symm), hA5.mono fun _ _ h => h.ext x6⟩⟩ hpk hpt (by lia) (by lia) fun σ' x7 h7 => ?_
    exact q σ' ((x15.trans (x6.mono (by simp))).trans (x7.mono (by simp))) (by rw [← List.append_assoc]; exact h7)
  · rw [if_neg hc] at q
    refine p_neg (c := (((idx (cntOf rs) K2 : Nat) : Int) == (((ks.map AV.loc).length : Nat) : Int)) = true) (by rw [List.length_map, hks]; simp; lia) ?_
    refine read_end (scr := scr) C (r := idx (cntOf rs) K2) (K := K2) (T := (Tl ++ T2) ++ [(rs, 97 + v)]) (R := R) (σ := σ5) ⟨⟨ks, k5, k6⟩, ⟨ts ++ [w], t7, t6⟩, ⟨_, p8, hA5⟩⟩ hpk hpt (by lia) (by lia) fun σ' x7 h7 => ?_
    exact q σ' (x15.trans (x7.mono (by simp))) (by rw [← List.append_assoc]; exact h7)
end Mine
namespace Mine
open PySem PySem.W PyProof.Rows
variable {scr : List Int} {n : Nat}
theorem read_c {P : List Nat} {els ils : Nat → Nat} {s kl tl p : Nat} (hkt : kl ≠ tl) (hs : s ≤ 10) (hi : ∀ v < 6, ils v ∉ [kl, tl, p]) : ∀ f, RdOk (callN (TT scr) (n + f + 4)) P els ils s kl tl p f
  | 0 => fun _ hr _ _ _ _ _ => by cases hr
  | f + 1 => fun hv hr he h hb ht q => c_fn rfl rfl rfl rfl (read_step (call := callN (TT scr) (n + f + 4)) cs hkt hs hi (read_c hkt hs hi f) hv hr he h hb ht q)
end Mine

set_option Elab.async false
set_option genSizeOf false
set_option genInjectivity false
set_option backward.match.sparseCases false
set_option bootstrap.genMatcherCode false
set_option tactic.hygienic false
set_option linter.unusedVariables false
set_option maxRecDepth 100000
namespace Mine
open PySem PySem.W PyProof.Rows
variable {scr : List Int} {n : Nat} {σ : Sto}
theorem len_scr {Q : AV → Sto → Prop} (q : Q (.int scr.length) σ) : callN (TT scr) (n + 1) (.blt "len") [.scr] σ Q := by
  exact b_call (f := bLen) (by kernel_rfl) q
theorem drawn_loop {call : CallT} {l : Nat} {σ0 : Sto} {its : List AV} {Q : Fl → St → Prop} (hl : σ0.length ≤ l) (hz : scr.length ≤ 63) (q : ∀ σ' x a b c, Ext [] σ0 σ' → σ'[l]? = some (.list [.int a, .int b, .int c]) → Q .next ⟨[some .scr, some (.loc l), x], σ'⟩) :
    ∀ (ks : List Nat) {σ : Sto} {x : Option AV} {a b c : Int}, (∀ k ∈ ks, k < scr.length) → Ext [] σ0 σ → σ[l]? = some (.list [.int a, .int b, .int c]) →
      forT .imm its (fun x s₂ k => evT (TT scr) call [] (.loc 2) x s₂ fun s₃ => exs (TT scr) call [] (.cons (.augi (.loc 1) (.bin .mod (.loc 2) (.lit (.int 3))) .add (.bin .mod (.item (.loc 0) (.loc 2)) (.lit (.int 1000000)))) .nil) s₃ k) (ks.map fun k : Nat => .int (0 + (k : Int))) ⟨[some .scr, some (.loc l), x], σ⟩ Q
  | [], σ, x, a, b, c, _, e, h => an trivial (q σ x a b c e h)
  | k :: ks, σ, x, a, b, c, hk, e, h => by
    have hks := hk k (.head _)
    refine an trivial (an (lt! rfl) (an (by decide) ?_))
    have hm : ((0 + (k : Int)).fmod 3) = ((k % 3 : Nat) : Int) := by rw [Int.zero_add, Int.fmod_eq_emod_of_nonneg _ (by decide)]; rfl
    rw [hm]
    obtain ⟨old, ho⟩ : ∃ old, [AV.int a, .int b, .int c][k % 3]? = some (.int old) := by
      have : k % 3 = 0 ∨ k % 3 = 1 ∨ k % 3 = 2 := by lia
      rcases this with h | h | h <;> rw [h] <;> exact ⟨_, rfl⟩
    refine r_on (item_list (k := k % 3) h ho (by lia)) ?_
    refine r_on (r := itemV (TT scr) .scr (.int (0 + (k : Int))) σ) (b := .int scr[k]) (by rw [Int.zero_add]; exact item_scr (T := TT scr) (List.getElem?_eq_getElem hks) (by lia)) ?_
    refine an (by decide) (r_on (setItem_list (k := k % 3) h (by simp; lia) (by lia)) ?_)
    obtain ⟨a', b', c', hs⟩ : ∃ a' b' c', [AV.int a, .int b, .int c].set (k % 3) (.int (old + scr[k].fmod 1000000)) = [.int a', .int b', .int c'] := by
      have : k % 3 = 0 ∨ k % 3 = 1 ∨ k % 3 = 2 := by lia
      rcases this with h | h | h <;> rw [h] <;> exact ⟨_, _, _, rfl⟩
    refine drawn_loop hl hz q ks (fun k hk' => hk k (.tail _ hk')) (e.setN _ hl) (a := a') (b := b') (c := c') (by rw [hs]; exact hit _ h)
theorem drawn_c {Q : AV → Sto → Prop} (hz : scr.length ≤ 63) (q : ∀ σ' l a b c, Ext [] σ σ' → σ'[l]? = some (.list [.int a, .int b, .int c]) → σ.length ≤ l → Q (.loc l) σ') : callN (TT scr) (n + 2) (.ext aDrawn) [.scr] σ Q := by
  refine c_fn rfl rfl rfl rfl ?_
  have Hl : ∀ {σ : Sto} {Q : AV → Sto → Prop}, Q (.int scr.length) σ → callN (TT scr) (n + 1) (.blt "len") [.scr] σ Q := fun q => len_scr q
  generalize callN (TT scr) (n + 1) = call at *
  refine an (le! rfl) (an (lt! rfl) (Hl (an ⟨by lia, by lia⟩ ?_)))
  refine drawn_loop (l := σ.length) (σ0 := σ) (Nat.le_refl _) hz (fun σ' x a b c h1 h2 => ?_) (List.range scr.length) (fun k hk => by simpa using hk) (Ext.app _) (new σ _ _)
  exact q σ' _ a b c h1 h2 (Nat.le_refl _)
noncomputable def parI : List Nat → Int → List Int
  | [], _ => []
  | k :: r, x => (((k : Int) - 1 - x.fmod (if (3 : Int) < (k : Int) then 3 else (k : Int))) :: parI r (x.fdiv (if (3 : Int) < (k : Int) then 3 else (k : Int))))
theorem par_loop {call : CallT} (H : Lib call) {l : Nat} {σ0 : Sto} {its : List AV} {Q : Fl → St → Prop} (hl : σ0.length ≤ l) {L : List Int} (q : ∀ σ' y x, Ext [] σ0 σ' → σ'[l]? = some (.list (L.map .int)) → Q .next ⟨[some y, some (.loc l), x], σ'⟩) :
    ∀ (ks : List Nat) {σ : Sto} {x : Option AV} {y : Int} {acc : List Int}, (∀ k ∈ ks, 1 ≤ k ∧ k ≤ 5) → (acc ++ parI ks y) = L → acc.length ≤ 100 → Ext [] σ0 σ → σ[l]? = some (.list (acc.map .int)) → acc.length + ks.length ≤ 100 →
      forT .imm its (fun x s₂ k => evT (TT scr) call [] (.loc 2) x s₂ fun s₃ => exs (TT scr) call [] (.cons (.expr (.meth (.loc 1) 0 (.cons (.bin .sub (.bin .sub (.loc 2) (.lit (.int 1))) (.bin .mod (.loc 0) (.call (.lit (.blt "min")) (.cons (.loc 2) (.cons (.lit (.int 3)) .nil))))) .nil))) (.cons (.asg (.loc 0) (.bin .fdiv (.loc 0) (.call (.lit (.blt "min")) (.cons (.loc 2) (.cons (.lit (.int 3)) .nil))))) .nil)) s₃ k) (ks.map I) ⟨[some (.int y), some (.loc l), x], σ⟩ Q
  | [], σ, x, y, acc, _, h1, h2, e, h, _ => an trivial (q σ _ x e (by rw [← h1, parI, List.append_nil]; exact h))
  | k :: ks, σ, x, y, acc, hk, h1, h2, e, h, h3 => by
    obtain ⟨k1, k5⟩ := hk k (.head _)
    have hm0 : (if (3 : Int) < (k : Int) then 3 else (k : Int)) ≠ 0 := by split <;> lia
    have hpy : Builtin.divisionGoesByPylong y (if (3 : Int) < (k : Int) then 3 else (k : Int)) = false := by
      have : k = 1 ∨ k = 2 ∨ k = 3 ∨ k = 4 ∨ k = 5 := by lia
      rcases this with rfl | rfl | rfl | rfl | rfl <;> rfl
    simp only [List.length_cons] at h3
    refine an trivial (an (lt! rfl) (r_on (meth_list0 h) (an rfl (H.min (an hm0 (H.append h (by rw [List.length_map]; lia) (H.min (an hm0 (an hpy (an (lt! rfl) ?_))))))))))
    refine par_loop H hl q ks (acc := acc ++ [(k : Int) - 1 - y.fmod (if (3 : Int) < (k : Int) then 3 else (k : Int))]) (fun k hk' => hk k (.tail _ hk')) (by rw [← h1, parI, List.append_assoc]; rfl) (by simp; lia) (e.setN _ hl) (by rw [List.map_append]; exact hit _ h) (by simp; lia)
noncomputable def parN (p : Nat) : List Nat := [0, 0, 1 - p % 2, 2 - p / 2 % 3, 3 - p / 6 % 3, 4 - p / 18 % 3]
theorem par_step {k : Nat} {ks : List Nat} {m : Int} (r c : Int) (hm : (if (3 : Int) < (k : Int) then 3 else (k : Int)) = m) (h0 : m ≠ 0) : parI (k :: ks) (r + m * c) = ((k : Int) - 1 - r.fmod m) :: parI ks (r.fdiv m + c) := by
  show (_ - _ - (r + m * c).fmod _) :: parI ks ((r + m * c).fdiv _) = _
  rw [hm, Int.add_mul_fmod_self_left, Int.add_mul_fdiv_left _ _ h0]
theorem par_shift (r q : Int) : parI [1, 2, 3, 4, 5] (r + 54 * q) = parI [1, 2, 3, 4, 5] r := by
  rw [show 54 * q = 1 * (2 * (3 * (3 * (3 * q)))) from by lia, par_step (k := 1) (m := 1) _ _ rfl (by decide), par_step (k := 2) (m := 2) _ _ rfl (by decide), par_step (k := 3) (m := 3) _ _ rfl (by decide), par_step (k := 4) (m := 3) _ _ rfl (by decide), par_step (k := 5) (m := 3) _ _ rfl (by decide)]
  rfl
theorem par_all : ∀ r : Nat, r < 54 → [0] ++ parI [1, 2, 3, 4, 5] (r : Int) = (parN r).map fun (k : Nat) => (k : Int) := by decide +kernel
theorem par_eq (x : Int) : [0] ++ parI [1, 2, 3, 4, 5] x = (parN (x.emod 54).toNat).map fun (k : Nat) => (k : Int) := by
  have h0 : 0 ≤ x.emod 54 := Int.emod_nonneg _ (by decide)
  have h1 : x.emod 54 < 54 := Int.emod_lt_of_pos _ (by decide)
  have e : x = (x.emod 54).toNat + 54 * (x / 54) := by rw [Int.toNat_of_nonneg h0]; exact (Int.emod_add_mul_ediv x 54).symm
  conv => lhs; rw [e, par_shift]
  exact par_all _ (by rw [Int.toNat_lt h0]; exact h1)
theorem parents_c {x : Int} {Q : AV → Sto → Prop} (q : ∀ σ' l, Ext [] σ σ' → σ'[l]? = some (.list ((parN (x.emod 54).toNat).map I)) → σ.length ≤ l → Q (.loc l) σ') : callN (TT scr) (n + 2) (.ext aParents) [.int x] σ Q := by
  refine c_fn rfl rfl rfl rfl ?_
  have H : Lib (callN (TT scr) (n + 1)) := lib
  generalize callN (TT scr) (n + 1) = call at *
  refine an (le! rfl) (an (lt! rfl) (an (⟨by decide, by decide, by decide, by decide⟩ : (0 : Int) ≤ 1 ∧ (1 : Int) ≤ 4096 ∧ (0 : Int) ≤ 6 ∧ (6 : Int) ≤ 4096) ?_))
  refine par_loop H (l := σ.length) (σ0 := σ) (Nat.le_refl _) (L := [0] ++ parI [1, 2, 3, 4, 5] x) (fun σ' y z h1 h2 => ?_) [1, 2, 3, 4, 5] (acc := [0]) (by decide) rfl (le! rfl) (Ext.app _) (new σ _ _) (le! rfl)
  rw [par_eq, List.map_map] at h2
  exact q σ' _ h1 h2 (Nat.le_refl _)
end Mine

set_option Elab.async false
set_option genSizeOf false
set_option genInjectivity false
set_option backward.match.sparseCases false
set_option bootstrap.genMatcherCode false
set_option tactic.hygienic false
set_option linter.unusedVariables false
set_option maxRecDepth 100000
namespace Mine
open PySem PySem.W PyProof.Rows
variable {scr : List Int} {n : Nat} {σ : Sto}
noncomputable def bel (P : List Nat) (v : Nat) : List Nat := (List.range' (v + 1) (5 - v)).filter fun c => P.getD c 0 == v
theorem rangeV_nat (a m : Nat) : rangeV (a : Int) m = (List.range' a m).map I := by
  unfold rangeV
  rw [List.range'_eq_map_range, List.map_map]
  refine List.map_congr_left fun k _ => ?_
  show AV.int _ = AV.int _
  simp
theorem cmp_nat {a b : Nat} : cmpV .eq (I a) (I b) σ = some (a == b) := by
  show some ((a : Int) == (b : Int)) = _
  congr 1
  by_cases h : a = b
  · subst h; simp
  · rw [beq_false_of_ne h, beq_false_of_ne (by lia)]
theorem bel_in {call : CallT} {cv cp lp D v : Nat} {P : List Nat} {its : List AV} {Q : St → Prop} (hP : P.length = 6) : ∀ (ks acc : List Nat) {σ : Sto} {x0 x1 : Option AV}, (∀ k ∈ ks, k < 6) → σ[cv]? = some (.cell (some (I v))) → σ[cp]? = some (.cell (some (.loc lp))) → σ[lp]? = some (.list (P.map I)) → lp ≠ D → σ[D]? = some (.list (acc.map I)) → acc.length + ks.length ≤ 100 →
    (∀ σ' x, Ext [D] σ σ' → σ'[D]? = some (.list ((acc ++ ks.filter fun c => P.getD c 0 == v).map I)) → Q ⟨x, σ'⟩) →
      turns .imm its (fun x s₂ k => evT (TT scr) call [cv, cp] (.loc 1) x s₂ fun s₃ => evIfs (TT scr) call [cv, cp] (.cons (.cmp .eq (.item (.cel 1) (.loc 1)) (.cel 0)) .nil) s₃ fun b s₄ => if b then evC (TT scr) call [cv, cp] D (.elt (.loc 1)) s₄ k else k s₄) (ks.map I) ⟨[x0, x1], σ⟩ Q
  | [], acc, σ, x0, x1, _, h1, h2, h3, hn, h4, hz, q => an trivial (q σ _ Ext.rfl' (by rw [List.filter_nil, List.append_nil]; exact h4))
  | k :: ks, acc, σ, x0, x1, hk, h1, h2, h3, hn, h4, hz, q => by
    have hk6 := hk k (.head _)
    have hpk : P[k]? = some (P.getD k 0) := by rw [List.getD_eq_getElem?_getD, List.getElem?_eq_getElem (by lia)]; rfl
    simp only [List.length_cons] at hz
    refine an trivial (an (lt! rfl) (r_cell h2 (r_on (item_list (k := k) h3 (by rw [List.getElem?_map, hpk]; rfl) (by lia)) (r_cell h1 ?_))))
    refine r_onB (cmp_nat (a := P.getD k 0) (b := v)) ?_
    by_cases hc : (P.getD k 0 == v) = true
    · refine p_pos hc (r_on (p_push h4 (by rw [List.length_map]; lia)) ?_)
      have e := Ext.setX (X := [D]) (.list (acc.map I ++ [I k])) h4 rfl (.head _)
      refine bel_in hP ks (acc ++ [k]) (fun k hk' => hk k (.tail _ hk')) (e.fz h1 rfl) (e.fz h2 rfl) (e.ls h3 (by simpa using hn)) hn (by rw [List.map_append]; exact hit _ h4) (by simp; lia) fun σ' x x1 x2 => ?_
      refine q σ' x (e.trans x1) ?_
      rw [List.filter_cons, if_pos hc]
      simpa using x2
    · refine p_neg hc ?_
      refine bel_in hP ks acc (fun k hk' => hk k (.tail _ hk')) h1 h2 h3 hn h4 (by lia) fun σ' x x1 x2 => ?_
      refine q σ' x x1 ?_
      rw [List.filter_cons, if_neg hc]
      exact x2
end Mine

set_option Elab.async false
set_option genSizeOf false
set_option genInjectivity false
set_option backward.match.sparseCases false
set_option bootstrap.genMatcherCode false
set_option tactic.hygienic false
set_option linter.unusedVariables false
set_option maxRecDepth 100000
namespace Mine
open PySem PySem.W PyProof.Rows
variable {scr : List Int} {n : Nat} {σ : Sto}
theorem of_items {src : Src} {its its' : List AV} {body : AV → St → (St → Prop) → Prop} {st : St} {Q : St → Prop} (h : its = its') (q : turns src its' body its' st Q) : turns src its body its st Q := by rw [h]; exact q
noncomputable def IsL (σ : Sto) (l : Nat) (xs : List Nat) : Prop := σ[l]? = some (.list (xs.map I))
theorem IsL.ext {X : List Nat} {σ' : Sto} {l : Nat} {xs : List Nat} (h : IsL σ l xs) (x : Ext X σ σ') (n : l ∉ X) : IsL σ' l xs := x.ls h n
/-- the list of those below, for the outer comprehension -/
theorem bel_out {call : CallT} {cv cp lp D : Nat} {P : List Nat} {its : List AV} {σ0 : Sto} {Q : St → Prop} (hP : P.length = 6) (h2 : σ0[cp]? = some (.cell (some (.loc lp)))) (h3 : σ0[lp]? = some (.list (P.map I))) (hD : σ0.length ≤ D) (hcv : σ0.length ≤ cv) (hvD : cv ≠ D) :
    ∀ (ks vs : List Nat) (bs : List Nat) {σ : Sto} {x0 : Option AV}, (∀ k ∈ ks, k < 6) → Ext [] σ0 σ → (∃ o, σ[cv]? = some (.cell o)) → σ[D]? = some (.list (bs.map .loc)) → All2 (fun l v => IsL σ l (bel P v) ∧ l ≠ D ∧ σ0.length ≤ l) bs vs → bs.length + ks.length ≤ 100 →
      (∀ σ' x bs', Ext [] σ0 σ' → σ'[D]? = some (.list (bs'.map .loc)) → All2 (fun l v => IsL σ' l (bel P v) ∧ l ≠ D ∧ σ0.length ≤ l) bs' (vs ++ ks) → Q ⟨x, σ'⟩) →
        turns .imm its (fun x s₂ k => evT (TT scr) call [cv, cp] (.cel 0) x s₂ fun s₃ => evIfs (TT scr) call [cv, cp] .nil s₃ fun b s₄ => if b then evC (TT scr) call [cv, cp] D (.elt (.comp [0, 1] 0 2 (.loc 1) (.rng2 (.bin .add (.cel 0) (.lit (.int 1))) (.lit (.int 6))) (.cons (.cmp .eq (.item (.cel 1) (.loc 1)) (.cel 0)) .nil) (.elt (.loc 1)))) s₄ k else k s₄) (ks.map I) ⟨[x0], σ⟩ Q
  | [], vs, bs, σ, x0, _, e, _, h4, hA, _, q => an trivial (q σ _ bs e h4 (by rw [List.append_nil]; exact hA))
  | v :: ks, vs, bs, σ, x0, hk, e, ⟨o, h1⟩, h4, hA, hz, q => by
    have hv6 := hk v (.head _)
    simp only [List.length_cons] at hz
    refine an trivial (r_cset h1 ?_)
    have c1 := hit (.cell (some (I v))) h1
    have D1 := missK (.cell (some (I v))) h1 h4 (fun e => nomatch e)
    have e1 : Ext [] σ0 (σ.set cv (.cell (some (I v)))) := e.setN _ hcv
    have hA1 : All2 (fun l w => IsL (σ.set cv (.cell (some (I v)))) l (bel P w) ∧ l ≠ D ∧ σ0.length ≤ l) bs vs := hA.mono fun l w ⟨a, b, c⟩ => ⟨missK _ h1 a (fun e => nomatch e), b, c⟩
    refine r_cell c1 (an ⟨by lia, by lia, by decide, by decide⟩ ?_)
    refine of_items (its' := (List.range' (v + 1) (5 - v)).map I) (by rw [show ((v : Int) + 1) = ((v + 1 : Nat) : Int) from rfl, show ((6 : Int) - ((v + 1 : Nat) : Int)).toNat = 5 - v from by lia]; exact rangeV_nat _ _) ?_
    have D2 := new (σ.set cv (.cell (some (I v)))) (AO.list []) []
    have e2 := e1.appA [AO.list []]
    have hl1 := e1.len
    have hDl : D < (σ.set cv (.cell (some (I v)))).length := lt_of D1
    have hlp : lp < σ0.length := lt_of h3
    refine bel_in (cv := cv) (cp := cp) (lp := lp) (D := (σ.set cv (.cell (some (I v)))).length) (v := v) (P := P) hP (List.range' (v + 1) (5 - v)) [] (fun k hk => by have := List.mem_range'_1.mp hk; lia) (old _ c1) (e2.fz h2 rfl) (e2.ls0 h3) (by lia) D2 (by simp; lia) fun σ' x x1 x2 => ?_
    have e3 : Ext [] σ0 σ' := e2.newX x1 (by simpa using hl1)
    have D3 := x1.ls (old [AO.list []] D1) (by simp only [List.mem_singleton]; lia)
    refine r_on (p_push D3 (by rw [List.length_map]; lia)) ?_
    have hbl := hA.length
    have hcv3 : σ'[cv]? = some (.cell (some (I v))) := x1.fz (old _ c1) rfl
    refine bel_out hP h2 h3 hD hcv hvD ks (vs ++ [v]) (bs ++ [(σ.set cv (.cell (some (I v)))).length]) (fun k hk' => hk k (.tail _ hk')) (e3.setN _ hD) ⟨_, miss _ hcv3 hvD.symm⟩ (by rw [List.map_append]; exact hit _ D3) ?_ (by simp; lia) ?_
    · refine (hA1.mono fun l w ⟨a, b, c⟩ => ⟨?_, b, c⟩).app (.cons ⟨miss _ x2 (by lia), by lia, hl1⟩ .nil)
      have hll := lt_of a
      exact miss _ (x1.ls (old [AO.list []] a) (by simp only [List.mem_singleton]; lia)) (Ne.symm b)
    · intro σ'' x' bs' y1 y2 y3
      exact q σ'' x' bs' y1 y2 (by simpa using y3)
end Mine

set_option Elab.async false
set_option genSizeOf false
set_option genInjectivity false
set_option backward.match.sparseCases false
set_option bootstrap.genMatcherCode false
set_option tactic.hygienic false
set_option linter.unusedVariables false
set_option maxRecDepth 100000
namespace Mine
open PySem PySem.W PyProof.Rows
variable {scr : List Int} {n : Nat}
noncomputable def endsL (g : Nat → Option (List Nat)) : List Nat → Option (List Nat)
  | [] => some []
  | c :: r => match g c with
    | none => none
    | some a => match endsL g r with
      | none => none
      | some b => some (a ++ b)
noncomputable def ends (B : Nat → List Nat) : Nat → Nat → Option (List Nat)
  | 0, _ => none
  | f + 1, v => match endsL (ends B f) (B v) with
    | none => none
    | some a => if Nat.ble a.length 50 then some (a ++ [v]) else none
noncomputable def BelOk (P : List Nat) (lb : Nat) (σ : Sto) : Prop := ∃ bs : List Nat, σ[lb]? = some (.list (bs.map .loc)) ∧ All2 (fun l v => IsL σ l (bel P v)) bs (List.range 6)
theorem BelOk.ext {P : List Nat} {lb : Nat} {σ σ' : Sto} (h : BelOk P lb σ) (x : Ext [] σ σ') : BelOk P lb σ' := let ⟨bs, h1, h2⟩ := h; ⟨bs, x.ls0 h1, h2.mono fun _ _ h => IsL.ext h x (fun q => nomatch q)⟩
noncomputable def EndsOk (call : CallT) (P : List Nat) (lb f : Nat) : Prop := ∀ {v : Nat} {L : List Nat} {σ : Sto} {Q : AV → Sto → Prop}, v < 6 → ends (bel P) f v = some L → BelOk P lb σ → (∀ σ' l, Ext [] σ σ' → IsL σ' l L → σ.length ≤ l → Q (.loc l) σ') → call (.ext aEnds) [.loc lb, I v] σ Q
set_option tactic.hygienic true in
theorem ends_loop {call : CallT} (H : Lib call) {P : List Nat} {lb f lv v le : Nat} {its : List AV} {σ0 : Sto} {Q : Fl → St → Prop} (hE : EndsOk call P lb f) (hb : BelOk P lb σ0) (hv : σ0[lv]? = some (.list its)) (hle : σ0.length ≤ le) :
    ∀ (cs : List Nat) {σ : Sto} {acc L : List Nat} {x : Option AV}, (∀ c ∈ cs, c < 6) → endsL (ends (bel P) f) cs = some L → Ext [] σ0 σ → IsL σ le acc → acc.length + L.length ≤ 2000 → (∀ σ' x, Ext [] σ0 σ' → IsL σ' le (acc ++ L) → Q .next ⟨[some (.loc lb), some (I v), some (.loc le), x], σ'⟩) →
      forT (.lst lv) its (fun x s₂ k => evT (TT scr) call [] (.loc 3) x s₂ fun s₃ => exs (TT scr) call [] (.cons (.expr (.meth (.loc 2) 1 (.cons (.call (.lit (.ext aEnds)) (.cons (.loc 0) (.cons (.loc 3) .nil))) .nil))) .nil) s₃ k) (cs.map I) ⟨[some (.loc lb), some (I v), some (.loc le), x], σ⟩ Q
  | [], σ, acc, L, x, _, h1, e, h2, _, q => by
    cases h1
    rw [List.append_nil] at q
    exact an (e.ls0 hv) (q σ x e h2)
  | c :: cs, σ, acc, L, x, hc, h1, e, h2, hz, q => by
    rw [endsL] at h1
    split at h1
    · cases h1
    rename_i a ha
    split at h1
    · cases h1
    rename_i b hb'
    cases h1
    rw [List.length_append] at hz
    refine an (e.ls0 hv) (an (lt! rfl) (r_on (meth_list1 h2) (an rfl (hE (hc c (.head _)) ha (hb.ext e) fun σ' l x1 h3 hl => ?_))))
    have h2' := h2.ext x1 (fun q => nomatch q)
    refine H.extend h2' h3 (by rw [List.length_map, List.length_map]; lia) ?_
    refine ends_loop H hE hb hv hle cs (acc := acc ++ a) (fun c hm => hc c (.tail _ hm)) hb' ((e.trans x1).setN _ hle) (by unfold IsL; rw [List.map_append]; exact hit _ h2') (by rw [List.length_append]; lia) fun σ'' x y1 y2 => ?_
    exact q σ'' x y1 (by rw [← List.append_assoc]; exact y2)
theorem bel_lt {P : List Nat} {v : Nat} : ∀ c ∈ bel P v, c < 6 := fun c hc => by
  have := List.mem_range'_1.mp (List.mem_filter.mp hc).1
  lia
theorem bel_len {P : List Nat} {v : Nat} : (bel P v).length ≤ 5 := Nat.le_trans (List.length_filter_le _ _) (by rw [List.length_range']; lia)
set_option tactic.hygienic true in
theorem ends_c {P : List Nat} {lb : Nat} : ∀ f, EndsOk (callN (TT scr) (n + f + 1)) P lb f
  | 0 => fun _ h _ _ => by cases h
  | f + 1 => by
    rename_i v L σ Q
    intro hv h hb q
    rw [ends] at h
    split at h
    · cases h
    rename_i a ha
    split at h
    case isFalse => cases h
    rename_i hz
    cases h
    have hz := Nat.le_of_ble_eq_true hz
    refine c_fn rfl rfl rfl rfl ?_
    have hE : EndsOk (callN (TT scr) (n + f + 1)) P lb f := ends_c f
    have H : Lib (callN (TT scr) (n + f + 1)) := lib
    show exs (TT scr) (callN (TT scr) (n + f + 1)) [] fEnds.body ⟨[some (.loc lb), some (I v), none, none], σ⟩ (runTail (TT scr) none Q)
    generalize callN (TT scr) (n + f + 1) = call at *
    obtain ⟨bs, b1, b2⟩ := hb
    obtain ⟨lv, e1, e2⟩ := b2.get (i := v) (b := v) (by rw [List.getElem?_range hv])
    have x0 : Ext [] σ (σ ++ [AO.list []]) := Ext.app _
    refine an (le! rfl) (an (lt! rfl) (r_on (item_list (k := v) (x0.ls0 b1) (by rw [List.getElem?_map, e1]; rfl) (by lia)) (r_on (it_list (x0.ls0 e2)) ?_)))
    refine ends_loop H hE ⟨bs, b1, b2⟩ e2 (le := σ.length) (Nat.le_refl _) (bel P v) (acc := []) bel_lt ha x0 (new σ _ _) (by simp; lia) fun σ' x x1 h2 => ?_
    refine an (le! rfl) ?_
    refine r_list2 (old _ h2) (new _ _ _) (an (by rw [List.length_map]; simp; lia) ?_)
    refine q _ _ ((x1.appA _).appA _) ?_ (by have := x1.len; simp; lia)
    unfold IsL
    rw [show (a ++ [v]).map I = a.map I ++ [I v] from List.map_append]
    exact new _ _ _
end Mine

set_option Elab.async false
set_option genSizeOf false
set_option genInjectivity false
set_option backward.match.sparseCases false
set_option bootstrap.genMatcherCode false
set_option tactic.hygienic false
set_option linter.unusedVariables false
set_option maxRecDepth 100000
namespace Mine
open PySem PySem.W PyProof.Rows
variable {scr : List Int} {n : Nat}
noncomputable def vals (row : List Nat) : List Nat → Option (List Nat)
  | [] => some []
  | c :: r => match row[c]? with
    | none => none
    | some x => match vals row r with
      | none => none
      | some xs => some (x :: xs)
noncomputable def prodO (W : List (List Nat)) (cs : List Nat) : List Nat → Nat → Option Nat
  | [], m => some m
  | j :: r, m => match W[j]? with
    | none => none
    | some row => match vals row cs with
      | none => none
      | some xs => if Nat.ble xs.sum 1000000 then prodO W cs r (m * xs.sum) else none
noncomputable def rowO (W : List (List Nat)) (B : Nat → List Nat) (br : List Nat) : List Nat → Option (List Nat)
  | [] => some []
  | v :: r => match prodO W (B v) br 1 with
    | none => none
    | some x => match rowO W B br r with
      | none => none
      | some xs => some (x :: xs)
noncomputable def waysO (B : Nat → List Nat) : List (List Nat) → List (List Nat) → Option (List (List Nat))
  | [], W => some W
  | b :: r, W => match rowO W B b [0, 1, 2, 3, 4, 5] with
    | none => none
    | some row => waysO B r (W ++ [row])
/-- what the counting holds on to -/
structure WI (P : List Nat) (lb cw cb lw : Nat) (W : List (List Nat)) (N : Nat) (σ : Sto) : Prop where
  bel : ∃ bs : List Nat, σ[lb]? = some (.list (bs.map .loc)) ∧ lb < lw ∧ All2 (fun l v => IsL σ l (bel P v) ∧ l < lw) bs (List.range 6)
  w : σ[cw]? = some (.cell (some (.loc lw)))
  b : ∃ o, σ[cb]? = some (.cell o)
  ws : ∃ ws : List Nat, σ[lw]? = some (.list (ws.map .loc)) ∧ lw < N ∧ All2 (fun l r => IsL σ l r ∧ lw < l ∧ l < N) ws W
theorem WI.keep {P : List Nat} {lb cw cb lw N : Nat} {W : List (List Nat)} {σ σ' : Sto} (h : WI P lb cw cb lw W N σ) (k : ∀ l xs, l < N → σ[l]? = some (.list xs) → σ'[l]? = some (.list xs)) (kw : σ'[cw]? = some (.cell (some (.loc lw)))) (kb : ∃ o, σ'[cb]? = some (.cell o)) : WI P lb cw cb lw W N σ' :=
  let ⟨bs, b1, b2, b3⟩ := h.bel; let ⟨ws, w1, w2, w3⟩ := h.ws
  ⟨⟨bs, k _ _ (Nat.lt_trans b2 w2) b1, b2, b3.mono fun _ _ ⟨a, b⟩ => ⟨k _ _ (Nat.lt_trans b w2) a, b⟩⟩, kw, kb, ⟨ws, k _ _ w2 w1, w2, w3.mono fun _ _ ⟨a, b, c⟩ => ⟨k _ _ c a, b, c⟩⟩⟩
theorem WI.app {P : List Nat} {lb cw cb lw N : Nat} {W : List (List Nat)} {σ : Sto} (h : WI P lb cw cb lw W N σ) (τ : Sto) : WI P lb cw cb lw W N (σ ++ τ) := h.keep (fun _ _ _ e => old _ e) (old _ h.w) (let ⟨o, e⟩ := h.b; ⟨o, old _ e⟩)
theorem WI.setb {P : List Nat} {lb cw cb lw N : Nat} {W : List (List Nat)} {σ : Sto} (h : WI P lb cw cb lw W N σ) (hn : cw ≠ cb) (v : Option AV) : WI P lb cw cb lw W N (σ.set cb (.cell v)) :=
  let ⟨o, e⟩ := h.b; h.keep (fun _ _ _ e' => missK _ e e' (fun q => nomatch q)) (miss _ h.w hn.symm) ⟨_, hit _ e⟩
theorem WI.setD {P : List Nat} {lb cw cb lw N D : Nat} {W : List (List Nat)} {σ : Sto} {xs : List AV} (h : WI P lb cw cb lw W N σ) (e : σ[D]? = some (.list xs)) (hD : N ≤ D) (ys : List AV) : WI P lb cw cb lw W N (σ.set D (.list ys)) :=
  h.keep (fun l _ hl e' => miss _ e' (by lia)) (missK _ e h.w (fun q => nomatch q)) (let ⟨o, e'⟩ := h.b; ⟨o, missK _ e e' (fun q => nomatch q)⟩)
theorem WI.ext {P : List Nat} {lb cw cb lw N : Nat} {W : List (List Nat)} {σ σ' : Sto} {X : List Nat} (h : WI P lb cw cb lw W N σ) (x : Ext X σ σ') (hX : ∀ d ∈ X, N ≤ d) : WI P lb cw cb lw W N σ' :=
  h.keep (fun l _ hl e => x.ls e fun q => by have := hX l q; lia) (x.fz h.w rfl) (let ⟨o, e⟩ := h.b; ⟨o, x.fz e rfl⟩)
set_option tactic.hygienic true in
theorem vals_in {call : CallT} {cw cb lw lr lv D j : Nat} {ws : List Nat} {row : List Nat} {its : List AV} {Q : St → Prop} (hj : j < 100) (hr : ws[j]? = some lr) (hD1 : lw ≠ D) (hD2 : lr ≠ D) (hD3 : lv ≠ D) : ∀ (cs acc xs : List Nat) {σ : Sto} {x0 x1 : Option AV}, (∀ c ∈ cs, c < 6) → vals row cs = some xs → σ[cw]? = some (.cell (some (.loc lw))) → σ[cb]? = some (.cell (some (I j))) → σ[lw]? = some (.list (ws.map .loc)) → IsL σ lr row → σ[lv]? = some (.list its) → IsL σ D acc → acc.length + cs.length ≤ 100 →
    (∀ σ' x, Ext [D] σ σ' → IsL σ' D (acc ++ xs) → Q ⟨x, σ'⟩) →
      turns (.lst lv) its (fun x s₂ k => evT (TT scr) call [cw, cb] (.loc 1) x s₂ fun s₃ => evIfs (TT scr) call [cw, cb] .nil s₃ fun b s₄ => if b then evC (TT scr) call [cw, cb] D (.elt (.item (.item (.cel 0) (.cel 1)) (.loc 1))) s₄ k else k s₄) (cs.map I) ⟨[x0, x1], σ⟩ Q
  | [], acc, xs, σ, x0, x1, _, hv, h1, h2, h3, h4, h5, h6, hz, q => by cases hv; exact an h5 (q σ _ Ext.rfl' (by rw [List.append_nil]; exact h6))
  | c :: cs, acc, xs, σ, x0, x1, hc, hv, h1, h2, h3, h4, h5, h6, hz, q => by
    rw [vals] at hv
    split at hv
    · cases hv
    rename_i x hx
    split at hv
    · cases hv
    rename_i ys hy
    cases hv
    have hc6 := hc c (.head _)
    simp only [List.length_cons] at hz
    refine an h5 (an (lt! rfl) (r_cell h1 (r_cell h2 (r_on (item_list (k := j) h3 (by rw [List.getElem?_map, hr]; rfl) (by lia)) (r_on (item_list (k := c) h4 (by rw [List.getElem?_map, hx]; rfl) (by lia)) (r_on (p_push h6 (by rw [List.length_map]; lia)) ?_))))))
    have e := Ext.setX (X := [D]) (.list (acc.map I ++ [I x])) h6 rfl (.head _)
    refine vals_in hj hr hD1 hD2 hD3 cs (acc ++ [x]) ys (fun c hm => hc c (.tail _ hm)) hy (e.fz h1 rfl) (e.fz h2 rfl) (e.ls h3 (by simpa using hD1)) (e.ls h4 (by simpa using hD2)) (e.ls h5 (by simpa using hD3)) (by unfold IsL; rw [List.map_append]; exact hit _ h6) (by simp; lia) fun σ' z x1 x2 => ?_
    exact q σ' z (e.trans x1) (by simpa using x2)
end Mine

set_option Elab.async false
set_option genSizeOf false
set_option genInjectivity false
set_option backward.match.sparseCases false
set_option bootstrap.genMatcherCode false
set_option tactic.hygienic false
set_option linter.unusedVariables false
set_option maxRecDepth 100000
namespace Mine
open PySem PySem.W PyProof.Rows
variable {scr : List Int} {n : Nat}
theorem ints_of (xs : List Nat) : intsOf (xs.map I) = some (xs.map fun (k : Nat) => (k : Int)) := by
  induction xs with
  | nil => rfl
  | cons x xs ih => show (intsOf (xs.map I)).map _ = _; rw [ih]; rfl
theorem cast_sum (xs : List Nat) : (xs.map fun (k : Nat) => (k : Int)).sum = ((xs.sum : Nat) : Int) := by
  induction xs with
  | nil => rfl
  | cons x xs ih => rw [List.map_cons, List.sum_cons, List.sum_cons, ih]; simp
theorem Lib.sumN {call : CallT} (H : Lib call) {σ : Sto} {l : Nat} {xs : List Nat} {Q : AV → Sto → Prop} (h : IsL σ l xs) (q : Q (I xs.sum) σ) : call (.blt "sum") [.loc l] σ Q := H.sum h (ints_of xs) (by rw [cast_sum]; exact q)
set_option tactic.hygienic true in
theorem bits_ok {s : Nat} (h : s ≤ 1000000) : Builtin.Int.intBits (s : Int) ≤ 64 := by
  unfold Builtin.Int.intBits
  split
  · lia
  · rename_i hs
    have h0 : s ≠ 0 := fun e => by subst e; exact hs rfl
    rw [Int.natAbs_natCast]
    have := (Nat.log2_lt h0 (k := 20)).mpr (by lia)
    lia
/-- what a part of the counting keeps -/
structure Pr (cw cb lw : Nat) (σc σ σ' : Sto) : Prop where
  ext : Ext [] σc σ'
  ls : ∀ (l : Nat) (xs : List AV), l < σ.length → σ[l]? = some (.list xs) → σ'[l]? = some (.list xs)
  w : σ'[cw]? = some (.cell (some (.loc lw)))
  b : ∃ o, σ'[cb]? = some (.cell o)
  len : σ.length ≤ σ'.length
theorem Pr.trans {cw cb lw : Nat} {σc σ σ1 σ2 : Sto} (a : Pr cw cb lw σc σ σ1) (b : Pr cw cb lw σc σ1 σ2) : Pr cw cb lw σc σ σ2 := ⟨b.ext, fun l xs hl e => b.ls l xs (Nat.lt_of_lt_of_le hl a.len) (a.ls l xs hl e), b.w, b.b, Nat.le_trans a.len b.len⟩
theorem WI.pr {P : List Nat} {lb cw cb lw N : Nat} {W : List (List Nat)} {σc σ σ' : Sto} (h : WI P lb cw cb lw W N σ) (p : Pr cw cb lw σc σ σ') (hN : N ≤ σ.length) : WI P lb cw cb lw W N σ' := h.keep (fun l xs hl e => p.ls l xs (Nat.lt_of_lt_of_le hl hN) e) p.w p.b
theorem W_len {P : List Nat} {lb cw cb lw N : Nat} {W : List (List Nat)} {σ : Sto} (h : WI P lb cw cb lw W N σ) (hw : W.length ≤ 50) {j : Nat} {row : List Nat} (e : W[j]? = some row) : j < 100 := by
  have := (List.getElem?_eq_some_iff.mp e).1; lia
noncomputable abbrev iV (a b c d e : Option AV) : List (Option AV) := [a, b, c, d, e]
set_option tactic.hygienic true in
theorem prod_loop {call : CallT} (H : Lib call) {P : List Nat} {lb cw cb cp lw lbr lrow N v : Nat} {W : List (List Nat)} {its : List AV} {σc : Sto} {Q : Fl → St → Prop} (hv : v < 6) (hn : cw ≠ cb) (hcb : σc.length ≤ cb) (hW : W.length ≤ 50) : ∀ (js : List Nat) {σ : Sto} {m r : Nat}, prodO W (bel P v) js m = some r → Ext [] σc σ → WI P lb cw cb lw W N σ → N ≤ σ.length → lbr < N → σ[lbr]? = some (.list its) →
    (∀ σ', Pr cw cb lw σc σ σ' → Q .next ⟨iV (some (I v)) (some (.loc lb)) (some (.loc lbr)) (some (.loc lrow)) (some (I r)), σ'⟩) →
      forT (.lst lbr) its (fun x s₂ k => evT (TT scr) call [cb, cw, cp] (.cel 0) x s₂ fun s₃ => exs (TT scr) call [cb, cw, cp] (.cons (.augl 4 .mul (.call (.lit (.blt "sum")) (.cons (.comp [1, 0] 0 2 (.loc 1) (.of (.item (.loc 1) (.loc 0))) .nil (.elt (.item (.item (.cel 0) (.cel 1)) (.loc 1)))) .nil))) .nil) s₃ k) (js.map I) ⟨iV (some (I v)) (some (.loc lb)) (some (.loc lbr)) (some (.loc lrow)) (some (I m)), σ⟩ Q
  | [], σ, m, r, hp, e, h, hN, hl, hi, q => by cases hp; exact an hi (q σ ⟨e, fun _ _ _ e => e, h.w, h.b, Nat.le_refl _⟩)
  | j :: js, σ, m, r, hp, e, h, hN, hl, hi, q => by
    rw [prodO] at hp
    split at hp
    · cases hp
    rename_i row hrow
    split at hp
    · cases hp
    rename_i xs hxs
    split at hp
    case isFalse => cases hp
    rename_i hz
    have hz := Nat.le_of_ble_eq_true hz
    obtain ⟨o, hb⟩ := h.b
    have h1 := h.setb hn (some (I j))
    have hb1 := hit (.cell (some (I j))) hb
    have hi1 := missK (.cell (some (I j))) hb hi (fun q => nomatch q)
    have e1 := e.setN (.cell (some (I j))) hcb
    refine an hi (r_cset hb ?_)
    obtain ⟨bs, b1, b2, b3⟩ := h1.bel
    obtain ⟨ws, w1, w2, w3⟩ := h1.ws
    obtain ⟨lv, f1, f2, f3⟩ := b3.get (i := v) (b := v) (by rw [List.getElem?_range hv])
    obtain ⟨lr, g1, g2, g4, g3⟩ := w3.get hrow
    have hj := W_len h1 hW hrow
    refine r_on (item_list (k := v) b1 (by rw [List.getElem?_map, f1]; rfl) (by lia)) (r_on (it_list f2) ?_)
    have hlen : (σ.set cb (.cell (some (I j)))).length = σ.length := by simp
    refine vals_in (cw := cw) (cb := cb) (lw := lw) (lr := lr) (lv := lv) (D := (σ.set cb (.cell (some (I j)))).length) hj g1 (by lia) (by lia) (by lia) (bel P v) [] xs bel_lt hxs (old _ h1.w) (old _ hb1) (old _ w1) (old _ g2) (old _ f2) (new _ _ _) (by have := bel_len (P := P) (v := v); simp; lia) fun σ' x x1 x2 => ?_
    refine H.sumN x2 (an (.inr (bits_ok hz)) (an (lt! rfl) ?_))
    have hD : ∀ d ∈ [(σ.set cb (.cell (some (I j)))).length], σ.length ≤ d := fun d hd => by rw [List.mem_singleton.mp hd, hlen]; exact Nat.le_refl _
    have e2 : Ext [] σc σ' := (e1.appA [AO.list []]).newX x1 (fun d hd => Nat.le_trans e.len (hD d hd))
    have p1 : Pr cw cb lw σc σ σ' := ⟨e2, fun l ys hl e => x1.ls (old _ (missK _ hb e (fun q => nomatch q))) fun q => by have := hD l q; lia, x1.fz (old _ h1.w) rfl, ⟨_, x1.fz (old _ hb1) rfl⟩, by have := x1.len; simp at this; lia⟩
    refine prod_loop H hv hn hcb hW js (m := m * xs.sum) hp e2 (h.pr p1 hN) (Nat.le_trans hN p1.len) hl (p1.ls _ _ (by lia) hi) fun σ'' p2 => q σ'' (p1.trans p2)
end Mine

set_option Elab.async false
set_option genSizeOf false
set_option genInjectivity false
set_option backward.match.sparseCases false
set_option bootstrap.genMatcherCode false
set_option tactic.hygienic false
set_option linter.unusedVariables false
set_option maxRecDepth 100000
namespace Mine
open PySem PySem.W PyProof.Rows
variable {scr : List Int} {n : Nat}
set_option tactic.hygienic true in
theorem row_loop {call : CallT} (H : Lib call) {P : List Nat} {lb cw cb cp lw lbr lrow N : Nat} {W : List (List Nat)} {br : List Nat} {its : List AV} {σc : Sto} {Q : Fl → St → Prop} (hn : cw ≠ cb) (hcb : σc.length ≤ cb) (hW : W.length ≤ 50) (hrc : σc.length ≤ lrow) (hrN : N ≤ lrow) (hlN : lbr < N) :
    ∀ (vs : List Nat) {σ : Sto} {racc rs : List Nat} {x m : Option AV}, (∀ v ∈ vs, v < 6) → rowO W (bel P) br vs = some rs → Ext [] σc σ → WI P lb cw cb lw W N σ → σ[lbr]? = some (.list (br.map I)) → IsL σ lrow racc → racc.length + vs.length ≤ 100 →
      (∀ σ' x m, Ext [] σc σ' → WI P lb cw cb lw W N σ' → IsL σ' lrow (racc ++ rs) → (∀ (l : Nat) (xs : List AV), l < N → σ[l]? = some (.list xs) → σ'[l]? = some (.list xs)) → σ.length ≤ σ'.length → Q .next ⟨iV x (some (.loc lb)) (some (.loc lbr)) (some (.loc lrow)) m, σ'⟩) →
        forT .imm its (fun x s₂ k => evT (TT scr) call [cb, cw, cp] (.loc 0) x s₂ fun s₃ => exs (TT scr) call [cb, cw, cp] (.cons (.asg (.loc 4) (.lit (.int 1))) (.cons (.for (.cel 0) (.of (.loc 2)) (.cons (.augl 4 .mul (.call (.lit (.blt "sum")) (.cons (.comp [1, 0] 0 2 (.loc 1) (.of (.item (.loc 1) (.loc 0))) .nil (.elt (.item (.item (.cel 0) (.cel 1)) (.loc 1)))) .nil))) .nil)) (.cons (.expr (.meth (.loc 3) 0 (.cons (.loc 4) .nil))) .nil))) s₃ k) (vs.map I) ⟨iV x (some (.loc lb)) (some (.loc lbr)) (some (.loc lrow)) m, σ⟩ Q
  | [], σ, racc, rs, x, m, _, hr, e, h, hi, hL, hz, q => by cases hr; exact an trivial (q σ x m e h (by rw [List.append_nil]; exact hL) (fun _ _ _ e => e) (Nat.le_refl _))
  | v :: vs, σ, racc, rs, x, m, hv, hr, e, h, hi, hL, hz, q => by
    rw [rowO] at hr
    split at hr
    · cases hr
    rename_i y hy
    split at hr
    · cases hr
    rename_i ys hys
    cases hr
    simp only [List.length_cons] at hz
    have hlt := lt_of hL
    refine an trivial (an (lt! rfl) (an (lt! rfl) (r_on (it_list hi) ?_)))
    refine prod_loop (σ := σ) H (hv v (.head _)) hn hcb hW br (m := 1) hy e h (by lia) hlN hi fun σ' p => ?_
    have hL1 : IsL σ' lrow racc := p.ls _ _ hlt hL
    refine r_on (meth_list0 hL1) (an rfl (H.append hL1 (by rw [List.length_map]; lia) ?_))
    have h1 := (h.pr p (by lia)).setD hL1 hrN (racc.map I ++ [I y])
    refine row_loop H hn hcb hW hrc hrN hlN vs (racc := racc ++ [y]) (fun v hm => hv v (.tail _ hm)) hys (p.ext.setN _ hrc) h1 (miss _ (p.ls _ _ (by lia) hi) (by lia)) (by unfold IsL; rw [List.map_append]; exact hit _ hL1) (by simp; lia) fun σ'' x m x1 x2 x3 x4 x5 => ?_
    exact q σ'' x m x1 x2 (by simpa using x3) (fun l xs hl e => x4 l xs hl (miss _ (p.ls _ _ (by lia) e) (by lia))) (Nat.le_trans p.len (by simpa using x5))
set_option tactic.hygienic true in
theorem ways_loop {call : CallT} (H : Lib call) {P : List Nat} {lb cw cb cp lw lbs : Nat} {its : List AV} {σc : Sto} {Q : Fl → St → Prop} (hn : cw ≠ cb) (hcb : σc.length ≤ cb) (hlw : σc.length ≤ lw) (hbs : lw < lbs) :
    ∀ (ls : List Nat) (brs : List (List Nat)) {σ : Sto} {W W1 : List (List Nat)} {N : Nat} {x y z m : Option AV}, All2 (fun l b => IsL σ l b ∧ lw < l ∧ l < N) ls brs → waysO (bel P) brs W = some W1 → Ext [] σc σ → WI P lb cw cb lw W N σ → N ≤ σ.length → σ[lbs]? = some (.list its) → lbs < N → W.length + brs.length ≤ 50 →
      (∀ σ' x y z m N', Ext [] σc σ' → WI P lb cw cb lw W1 N' σ' → Q .next ⟨iV x (some (.loc lb)) y z m, σ'⟩) →
        forT (.lst lbs) its (fun x s₂ k => evT (TT scr) call [cb, cw, cp] (.loc 2) x s₂ fun s₃ => exs (TT scr) call [cb, cw, cp] (.cons (.asg (.loc 3) (.lst .nil)) (.cons (.for (.loc 0) (.rng1 (.lit (.int 6))) (.cons (.asg (.loc 4) (.lit (.int 1))) (.cons (.for (.cel 0) (.of (.loc 2)) (.cons (.augl 4 .mul (.call (.lit (.blt "sum")) (.cons (.comp [1, 0] 0 2 (.loc 1) (.of (.item (.loc 1) (.loc 0))) .nil (.elt (.item (.item (.cel 0) (.cel 1)) (.loc 1)))) .nil))) .nil)) (.cons (.expr (.meth (.loc 3) 0 (.cons (.loc 4) .nil))) .nil)))) (.cons (.expr (.meth (.cel 1) 0 (.cons (.loc 3) .nil))) .nil))) s₃ k) (ls.map .loc) ⟨iV x (some (.loc lb)) y z m, σ⟩ Q
  | ls0, [], σ, W, W1, N, x, y, z, m, h0, hw, e, h, hN, hi, hl, hz, q => by cases hw; rw [h0.nilr]; exact an hi (q σ x y z m N e h)
  | ls0, br :: brs, σ, W, W1, N, x, y, z, m, h0, hw, e, h, hN, hi, hl, hz, q => by
    obtain ⟨l, ls, el, ⟨h1, h2, h3⟩, ht⟩ := h0.consr
    rw [el]
    rw [waysO] at hw
    split at hw
    · cases hw
    rename_i row hrow
    simp only [List.length_cons] at hz
    refine an hi (an (lt! rfl) (an (le! rfl) (an (lt! rfl) (an (⟨by decide, by decide⟩ : (0 : Int) ≤ 6 ∧ (6 : Int) ≤ 4096) ?_))))
    have e1 := e.appA [AO.list []]
    refine row_loop (σ := σ ++ [AO.list []]) H (lbr := l) (lrow := σ.length) (N := N) hn hcb (by lia) e.len hN h3 [0, 1, 2, 3, 4, 5] (racc := []) (by decide) hrow e1 (h.app _) (old _ h1) (new _ _ _) (le! rfl) fun σ' x' m' x1 x2 x3 x4 x5 => ?_
    have x5' : σ.length + 1 ≤ σ'.length := by simpa using x5
    rw [List.nil_append] at x3
    obtain ⟨ws, w1, w2, w3⟩ := x2.ws
    obtain ⟨bs, b1, b2, b3⟩ := x2.bel
    refine r_cell x2.w (r_on (meth_list0 w1) (an rfl (H.append w1 (by rw [List.length_map, w3.length]; lia) ?_)))
    have hb := x2.b
    have hk : ∀ (l : Nat) (xs : List AV), l ≠ lw → σ'[l]? = some (.list xs) → (σ'.set lw (.list (ws.map .loc ++ [.loc σ.length])))[l]? = some (.list xs) := fun l xs hl e => miss _ e hl.symm
    refine ways_loop H hn hcb hlw hbs ls brs (W := W ++ [row]) (N := σ.length + 1) ?_ hw (x1.setN _ hlw) ⟨⟨bs, hk _ _ (by lia) b1, b2, b3.mono fun _ _ ⟨a, b⟩ => ⟨hk _ _ (by lia) a, b⟩⟩, missK _ w1 x2.w (fun q => nomatch q), (let ⟨o, e⟩ := hb; ⟨o, missK _ w1 e (fun q => nomatch q)⟩), ⟨ws ++ [σ.length], by rw [List.map_append]; exact hit _ w1, by lia, (w3.mono fun _ _ ⟨a, b, c⟩ => ⟨hk _ _ (by lia) a, b, by lia⟩).app (.cons ⟨hk _ _ (by lia) x3, by lia, by lia⟩ .nil)⟩⟩ (by simpa using x5') (hk _ _ (by lia) (x4 _ _ hl (old _ hi))) (by lia) (by simp; lia) q
    exact ht.mono fun a b ⟨p1, p2, p3⟩ => ⟨hk _ _ (by lia) (x4 _ _ p3 (old _ p1)), p2, by lia⟩
end Mine

set_option Elab.async false
set_option genSizeOf false
set_option genInjectivity false
set_option backward.match.sparseCases false
set_option bootstrap.genMatcherCode false
set_option tactic.hygienic false
set_option linter.unusedVariables false
set_option maxRecDepth 100000
namespace Mine
open PySem PySem.W PyProof.Rows
variable {scr : List Int} {n : Nat}
noncomputable def colO (v : Nat) : List (List Nat) → Option (List Nat)
  | [] => some []
  | row :: r => match row[v]? with
    | none => none
    | some x => match colO v r with
      | none => none
      | some xs => some (x :: xs)
noncomputable def colsO (W : List (List Nat)) : List Nat → Option (List (List Nat))
  | [] => some []
  | v :: r => match colO v W with
    | none => none
    | some x => match colsO W r with
      | none => none
      | some xs => some (x :: xs)
noncomputable def brs : List (List Nat) := [[], [0], [1], [2], [3], [4], [0, 0], [6], [7]]
noncomputable def intoO (P : List Nat) : Option (List (List Nat)) := match waysO (bel P) brs [] with
  | none => none
  | some W => match ends (bel P) 7 0 with
    | none => none
    | some E => if Nat.ble E.length 50 then colsO W E else none
set_option tactic.hygienic true in
theorem col_in {call : CallT} {cv lw D v : Nat} {its : List AV} {Q : St → Prop} (hv : v < 100) (hwD : lw ≠ D) : ∀ (ls : List Nat) (W : List (List Nat)) (acc xs : List Nat) {σ : Sto} {x0 x1 : Option AV}, All2 (fun l r => IsL σ l r ∧ l ≠ D) ls W → colO v W = some xs → σ[cv]? = some (.cell (some (I v))) → σ[lw]? = some (.list its) → IsL σ D acc → acc.length + ls.length ≤ 100 →
    (∀ σ' x, Ext [D] σ σ' → IsL σ' D (acc ++ xs) → Q ⟨x, σ'⟩) →
      turns (.lst lw) its (fun x s₂ k => evT (TT scr) call [cv] (.loc 1) x s₂ fun s₃ => evIfs (TT scr) call [cv] .nil s₃ fun b s₄ => if b then evC (TT scr) call [cv] D (.elt (.item (.loc 1) (.cel 0))) s₄ k else k s₄) (ls.map .loc) ⟨[x0, x1], σ⟩ Q
  | ls0, [], acc, xs, σ, x0, x1, h0, hc, h1, h2, h3, hz, q => by cases hc; rw [h0.nilr]; exact an h2 (q σ _ Ext.rfl' (by rw [List.append_nil]; exact h3))
  | ls0, r :: W, acc, xs, σ, x0, x1, h0, hc, h1, h2, h3, hz, q => by
    obtain ⟨l, ls, el, ⟨hl, hlD⟩, ht⟩ := h0.consr
    subst el
    rw [colO] at hc
    split at hc
    · cases hc
    rename_i x hx
    split at hc
    · cases hc
    rename_i ys hy
    cases hc
    simp only [List.length_cons] at hz
    refine an h2 (an (lt! rfl) (r_cell h1 (r_on (item_list (k := v) hl (by rw [List.getElem?_map, hx]; rfl) (by lia)) (r_on (p_push h3 (by rw [List.length_map]; lia)) ?_))))
    have e := Ext.setX (X := [D]) (.list (acc.map I ++ [I x])) h3 rfl (.head _)
    refine col_in hv hwD _ _ (acc ++ [x]) ys (ht.mono fun l r ⟨a, b⟩ => ⟨miss _ a b.symm, b⟩) hy (e.fz h1 rfl) (e.ls h2 (by simpa using hwD)) (by unfold IsL; rw [List.map_append]; exact hit _ h3) (by simp; lia) fun σ' z x1 x2 => ?_
    exact q σ' z (e.trans x1) (by simpa using x2)
/-- lists of counts -/
noncomputable def IsRs (σ : Sto) (D : Nat) (rows : List (List Nat)) : Prop := ∃ rs : List Nat, σ[D]? = some (.list (rs.map .loc)) ∧ All2 (fun l r => IsL σ l r) rs rows
set_option tactic.hygienic true in
theorem col_out {call : CallT} {cv cw lw le D : Nat} {ws : List Nat} {W : List (List Nat)} {its : List AV} {σ0 : Sto} {Q : St → Prop} (hw : σ0[cw]? = some (.cell (some (.loc lw)))) (hws : σ0[lw]? = some (.list (ws.map .loc))) (hWs : All2 (fun l r => IsL σ0 l r) ws W) (hle : σ0[le]? = some (.list its)) (hwl : ws.length ≤ 50) (hD : σ0.length ≤ D) (hcv : σ0.length ≤ cv) (hvD : cv ≠ D) :
    ∀ (vs : List Nat) (rows : List (List Nat)) {σ : Sto} {x0 : Option AV} {ls : List Nat} {rows1 : List (List Nat)}, (∀ v ∈ vs, v < 100) → colsO W vs = some rows1 → Ext [] σ0 σ → (∃ o, σ[cv]? = some (.cell o)) → σ[D]? = some (.list (ls.map .loc)) → All2 (fun l r => IsL σ l r ∧ D < l) ls rows → ls.length + vs.length ≤ 100 →
      (∀ σ' x ls', Ext [] σ0 σ' → σ'[D]? = some (.list (ls'.map .loc)) → All2 (fun l r => IsL σ' l r ∧ D < l) ls' (rows ++ rows1) → Q ⟨x, σ'⟩) →
        turns (.lst le) its (fun x s₂ k => evT (TT scr) call [cv, cw] (.cel 0) x s₂ fun s₃ => evIfs (TT scr) call [cv, cw] .nil s₃ fun b s₄ => if b then evC (TT scr) call [cv, cw] D (.elt (.comp [0] 0 2 (.loc 1) (.of (.cel 1)) .nil (.elt (.item (.loc 1) (.cel 0))))) s₄ k else k s₄) (vs.map I) ⟨[x0], σ⟩ Q
  | [], rows, σ, x0, ls, rows1, _, hc, e, _, h4, hA, _, q => by cases hc; exact an (e.ls0 hle) (q σ _ ls e h4 (by rw [List.append_nil]; exact hA))
  | v :: vs, rows, σ, x0, ls, rows1, hv, hc, e, ⟨o, h1⟩, h4, hA, hz, q => by
    rw [colsO] at hc
    split at hc
    · cases hc
    rename_i x hx
    split at hc
    · cases hc
    rename_i ys hy
    cases hc
    simp only [List.length_cons] at hz
    have c1 := hit (.cell (some (I v))) h1
    have D1 := missK (.cell (some (I v))) h1 h4 (fun e => nomatch e)
    have e1 : Ext [] σ0 (σ.set cv (.cell (some (I v)))) := e.setN _ hcv
    have hlen : (σ.set cv (.cell (some (I v)))).length = σ.length := by simp
    have hDl := lt_of h4
    have hlw := lt_of hws
    have hll := e.len
    refine an (e.ls0 hle) (r_cset h1 (r_cell (e1.fz hw rfl) (r_on (it_list (e1.ls0 hws)) ?_)))
    have e2 := e1.appA [AO.list []]
    refine col_in (cv := cv) (lw := lw) (D := (σ.set cv (.cell (some (I v)))).length) (v := v) (hv v (.head _)) (by lia) ws W [] x ((hWs.mono fun l r a => ⟨e2.ls0 a, by have := lt_of a; lia⟩)) hx (old _ c1) (e2.ls0 hws) (new _ _ _) (by simp; lia) fun σ' z x1 x2 => ?_
    have e3 : Ext [] σ0 σ' := e2.newX x1 (by simpa using hll)
    have D3 := x1.ls (old [AO.list []] D1) (by simp only [List.mem_singleton]; lia)
    refine r_on (p_push D3 (by rw [List.length_map]; lia)) ?_
    have hcv3 : σ'[cv]? = some (.cell (some (I v))) := x1.fz (old _ c1) rfl
    refine col_out hw hws hWs hle hwl hD hcv hvD vs (rows ++ [x]) (ls := ls ++ [(σ.set cv (.cell (some (I v)))).length]) (fun v hm => hv v (.tail _ hm)) hy (e3.setN _ hD) ⟨_, miss _ hcv3 hvD.symm⟩ (by rw [List.map_append]; exact hit _ D3) ?_ (by simp; lia) ?_
    · refine (hA.mono fun l w ⟨a, b⟩ => ⟨?_, b⟩).app (.cons ⟨miss _ x2 (by lia), by lia⟩ .nil)
      have hl := lt_of a
      exact miss _ (x1.ls (old [AO.list []] (missK _ h1 a (fun e => nomatch e))) (by simp only [List.mem_singleton]; lia)) (by lia)
    · intro σ'' x' ls' y1 y2 y3
      exact q σ'' x' ls' y1 y2 (by simpa using y3)
end Mine

set_option Elab.async false
set_option genSizeOf false
set_option genInjectivity false
set_option backward.match.sparseCases false
set_option bootstrap.genMatcherCode false
set_option tactic.hygienic false
set_option linter.unusedVariables false
set_option maxRecDepth 100000
namespace Mine
open PySem PySem.W PyProof.Rows
variable {scr : List Int} {n : Nat}
theorem into_end {call : CallT} {P : List Nat} {lb cw cb cp lw N : Nat} {W rows : List (List Nat)} {Es : List Nat} {σc σ : Sto} {a b c d : Option AV} {Q : AV → Sto → Prop} (hE : EndsOk call P lb 7) (he : ends (bel P) 7 0 = some Es) (hEz : Es.length ≤ 50) (hc : colsO W Es = some rows) (h : WI P lb cw cb lw W N σ) (hW : W.length ≤ 50) (e : Ext [] σc σ) (hEs : ∀ v ∈ Es, v < 100)
    (q : ∀ σ' D, Ext [] σc σ' → IsRs σ' D rows → σc.length ≤ D → Q (.loc D) σ') :
    exs (TT scr) call [cb, cw, cp] (.cons (.ret (.comp [1] 1 1 (.cel 0) (.of (.call (.lit (.ext aEnds)) (.cons (.loc 1) (.cons (.lit (.int 0)) .nil)))) .nil (.elt (.comp [0] 0 2 (.loc 1) (.of (.cel 1)) .nil (.elt (.item (.loc 1) (.cel 0))))))) .nil) ⟨iV a (some (.loc lb)) b c d, σ⟩ (runTail (TT scr) none Q) := by
  obtain ⟨bs, b1, b2, b3⟩ := h.bel
  obtain ⟨ws, w1, w2, w3⟩ := h.ws
  refine hE (v := 0) (by decide) he ⟨bs, b1, b3.mono fun _ _ h => h.1⟩ fun σ1 le x1 h1 hl => ?_
  have e1 := e.trans x1
  refine r_on (it_list h1) ?_
  have x2 : Ext [] σ1 (σ1 ++ [AO.list [], .cell none]) := Ext.app _
  refine col_out (cv := σ1.length + 1) (cw := cw) (lw := lw) (le := le) (D := σ1.length) (ws := ws) (W := W) (σ0 := σ1) (x1.fz h.w rfl) (x1.ls0 w1) (w3.mono fun _ _ h => x1.ls0 h.1) h1 (by rw [w3.length]; exact hW) (Nat.le_refl _) (by lia) (by lia) Es [] (ls := []) hEs hc x2 ⟨_, new1 σ1 _ _ _⟩ (new σ1 _ _) .nil (by simp; lia) fun σ2 x ls y1 y2 y3 => ?_
  exact q σ2 _ (e1.trans y1) ⟨ls, y2, y3.mono fun _ _ h => h.1⟩ e1.len
theorem WI.mono {P : List Nat} {lb cw cb lw N N' : Nat} {W : List (List Nat)} {σ : Sto} (h : WI P lb cw cb lw W N σ) (l : N ≤ N') : WI P lb cw cb lw W N' σ :=
  ⟨h.bel, h.w, h.b, let ⟨ws, w1, w2, w3⟩ := h.ws; ⟨ws, w1, by lia, w3.mono fun _ _ ⟨a, b, c⟩ => ⟨a, b, by lia⟩⟩⟩
theorem waysO_len {B : Nat → List Nat} : ∀ (b W : List (List Nat)) {W1 : List (List Nat)}, waysO B b W = some W1 → W1.length = W.length + b.length
  | [], W, _, h => by cases h; rfl
  | b :: r, W, _, h => by
    rw [waysO] at h
    split at h
    · cases h
    rw [waysO_len r _ h, List.length_append, List.length_cons, List.length_cons, List.length_nil]
    lia
set_option tactic.hygienic true in
theorem endsL_lt {g : Nat → Option (List Nat)} : ∀ (cs L : List Nat), (∀ c ∈ cs, ∀ a, g c = some a → ∀ x ∈ a, x < 6) → endsL g cs = some L → ∀ x ∈ L, x < 6
  | [], _, _, h => by cases h; exact fun _ h => nomatch h
  | c :: r, _, hc, h => by
    rw [endsL] at h
    split at h
    · cases h
    rename_i a ha
    split at h
    · cases h
    rename_i b hb
    cases h
    intro x hx
    rcases List.mem_append.mp hx with hx | hx
    · exact hc c (.head _) a ha x hx
    · exact endsL_lt r b (fun c h => hc c (.tail _ h)) hb x hx
set_option tactic.hygienic true in
theorem ends_lt {P : List Nat} : ∀ (f v : Nat) {L : List Nat}, v < 6 → ends (bel P) f v = some L → ∀ x ∈ L, x < 6
  | 0, _, _, _, h => by cases h
  | f + 1, v, _, hv, h => by
    rw [ends] at h
    split at h
    · cases h
    rename_i a ha
    split at h
    case isFalse => cases h
    cases h
    intro x hx
    rcases List.mem_append.mp hx with hx | hx
    · exact endsL_lt _ a (fun c hc a ha => ends_lt f c (bel_lt c hc) ha) ha x hx
    · rw [List.mem_singleton.mp hx]; exact hv
set_option tactic.hygienic true in
theorem into_c {P : List Nat} (hP : P.length = 6) {lp : Nat} {σ : Sto} {rows : List (List Nat)} {Q : AV → Sto → Prop} (hlp : σ[lp]? = some (.list (P.map I))) (hi : intoO P = some rows) (q : ∀ σ' D, Ext [] σ σ' → IsRs σ' D rows → σ.length ≤ D → Q (.loc D) σ') : callN (TT scr) (n + 9) (.ext aInto) [.loc lp] σ Q := by
  unfold intoO at hi
  split at hi
  · cases hi
  rename_i W hW
  split at hi
  · cases hi
  rename_i E hE
  split at hi
  case isFalse => cases hi
  rename_i hEz
  have hEz := Nat.le_of_ble_eq_true hEz
  refine c_fnO rfl rfl rfl ?_
  have H : Lib (callN (TT scr) (n + 8)) := lib
  have hEn : ∀ lb, EndsOk (callN (TT scr) (n + 8)) P lb 7 := fun lb => ends_c (n := n) 7
  generalize callN (TT scr) (n + 8) = call at *
  have c0 : (σ ++ [AO.cell none, .cell none, .cell none])[σ.length]? = some (.cell none) := new _ _ _
  have c1 : (σ ++ [AO.cell none, .cell none, .cell none])[σ.length + 1]? = some (.cell none) := new1 _ _ _ _
  have c2 : (σ ++ [AO.cell none, .cell none, .cell none])[σ.length + 2]? = some (.cell none) := by rw [List.getElem?_append_right (by lia)]; simp
  have k0 := hit (.cell (some (.loc lp))) c0
  have k1 := miss (.cell (some (.loc lp))) c1 (by lia : σ.length ≠ σ.length + 1)
  have k2 := miss (.cell (some (.loc lp))) c2 (by lia : σ.length ≠ σ.length + 2)
  have x0 : Ext [] σ ((σ ++ [AO.cell none, .cell none, .cell none]).set σ.length (.cell (some (.loc lp)))) := (Ext.app _).setN _ (Nat.le_refl _)
  show exs (TT scr) call [σ.length + 2, σ.length + 1, σ.length] fInto.body ⟨iV none none none none none, (σ ++ [AO.cell none, .cell none, .cell none]).set σ.length (.cell (some (.loc lp)))⟩ (runTail (TT scr) none Q)
  have hs1 : σ.length + 3 ≤ ((σ ++ [AO.cell none, .cell none, .cell none]).set σ.length (.cell (some (.loc lp)))).length := by simp
  generalize (σ ++ [AO.cell none, .cell none, .cell none]).set σ.length (.cell (some (.loc lp))) = σ1 at *
  clear c0 c1 c2
  refine an (⟨by decide, by decide⟩ : (0 : Int) ≤ 6 ∧ (6 : Int) ≤ 4096) ?_
  refine bel_out (cv := σ1.length + 1) (cp := σ.length) (lp := lp) (D := σ1.length) (P := P) (σ0 := σ1) hP k0 (x0.ls0 hlp) (Nat.le_refl _) (by lia) (by lia) [0, 1, 2, 3, 4, 5] [] [] (by decide) (Ext.app _) ⟨_, new1 σ1 _ _ _⟩ (new σ1 _ _) .nil (le! rfl) fun σ2 x bs y1 y2 y3 => ?_
  have x2 := x0.trans y1
  have kw2 := y1.fz k1 rfl
  have kb2 := y1.fz k2 rfl
  have hs2 := y1.len
  refine an (lt! rfl) (an (le! rfl) ?_)
  refine r_cset (old [AO.list []] kw2) ?_
  have w3 := hit (.cell (some (.loc σ2.length))) (old [AO.list []] kw2)
  have b3 := miss (.cell (some (.loc σ2.length))) (old [AO.list []] kb2) (by lia : σ.length + 1 ≠ σ.length + 2)
  have l3 := missK (.cell (some (.loc σ2.length))) (old [AO.list []] kw2) (new σ2 (AO.list []) []) (fun e => nomatch e)
  have x3 : Ext [] σ ((σ2 ++ [AO.list []]).set (σ.length + 1) (.cell (some (.loc σ2.length)))) := (x2.appA _).setN _ (by lia)
  have hbl : σ1.length < σ2.length := lt_of y2
  have W3 : WI P σ1.length (σ.length + 1) (σ.length + 2) σ2.length [] (σ2.length + 1) ((σ2 ++ [AO.list []]).set (σ.length + 1) (.cell (some (.loc σ2.length)))) :=
    ⟨⟨bs, missK _ (old _ kw2) (old _ y2) (fun e => nomatch e), hbl, y3.mono fun l v ⟨a, b, c⟩ => ⟨missK _ (old _ kw2) (old _ a) (fun e => nomatch e), lt_of a⟩⟩, w3, ⟨_, b3⟩, ⟨[], l3, by lia, .nil⟩⟩
  have hs3 : ((σ2 ++ [AO.list []]).set (σ.length + 1) (.cell (some (.loc σ2.length)))).length = σ2.length + 1 := by simp
  generalize ((σ2 ++ [AO.list []]).set (σ.length + 1) (.cell (some (.loc σ2.length)))) = σ3 at *
  generalize σ2.length = lw at *
  clear w3 b3 l3 kw2 kb2 y3 y2 x2
  show exs (TT scr) call [σ.length + 2, σ.length + 1, σ.length] _ ⟨iV none (some (.loc σ1.length)) none none none, σ3⟩ _
  refine an (le! rfl) (an (le! rfl) (an (le! rfl) (an (le! rfl) (an (le! rfl) (an (le! rfl) (an (le! rfl) (an (le! rfl) (an (le! rfl) (an (le! rfl) ?_)))))))))
  refine r_on (it_list (new _ _ _)) ?_
  have W3' := W3.mono (show lw + 1 ≤ lw + 11 from by lia)
  refine ways_loop H (P := P) (lb := σ1.length) (cw := σ.length + 1) (cb := σ.length + 2) (cp := σ.length) (lw := lw) (σc := σ) (W := []) (W1 := W) (N := lw + 11) (by lia) (by lia) (by lia) ?_ [_, _, _, _, _, _, _, _, _] brs (.cons ⟨?_, ?_, ?_⟩ (.cons ⟨?_, ?_, ?_⟩ (.cons ⟨?_, ?_, ?_⟩ (.cons ⟨?_, ?_, ?_⟩ (.cons ⟨?_, ?_, ?_⟩ (.cons ⟨?_, ?_, ?_⟩ (.cons ⟨?_, ?_, ?_⟩ (.cons ⟨?_, ?_, ?_⟩ (.cons ⟨?_, ?_, ?_⟩ .nil))))))))) hW ?_ ?_ ?_ (new _ _ _) ?_ (le! rfl) ?_
  all_goals try dsimp only
  all_goals first
    | (intro σ' x y z m N' e W1; skip)
    | (unfold IsL; refine old _ ?_; repeat (first | exact new _ _ _ | refine old _ ?_))
    | (clear W3; with_reducible (simp only [List.length_append, List.length_cons, List.length_nil, hs3]); lia)
    | with_reducible exact ((((((((((x3.appA _).appA _).appA _).appA _).appA _).appA _).appA _).appA _).appA _).appA _)
    | with_reducible exact ((((((((((W3'.app _).app _).app _).app _).app _).app _).app _).app _).app _).app _)
  refine into_end (hEn _) hE hEz hi W1 ?_ e (fun v hv => Nat.lt_trans (ends_lt 7 0 (by decide) hE v hv) (by decide)) q
  rw [waysO_len _ _ hW]
  exact le! rfl
end Mine

set_option Elab.async false
set_option genSizeOf false
set_option genInjectivity false
set_option backward.match.sparseCases false
set_option bootstrap.genMatcherCode false
set_option tactic.hygienic false
set_option linter.unusedVariables false
set_option maxRecDepth 100000
namespace Mine
open PySem PySem.W PyProof.Rows
variable {scr : List Int} {n : Nat}
noncomputable def wmap (g : Nat → Option Nat) (p : Nat → Bool) : List Nat → Option (List Nat)
  | [] => some []
  | v :: r => match p v with
    | false => wmap g p r
    | true => match g v with
      | none => none
      | some x => match wmap g p r with
        | none => none
        | some xs => some (x :: xs)
noncomputable def waysF (P : List Nat) : Nat → List Nat → Option Nat
  | 0, _ => none
  | f + 1, L => if Nat.beq L.length 6 then some 1 else match L[P.getD L.length 0]? with
    | none => none
    | some w => match wmap (fun v => waysF P f (L ++ [v])) (fun v => !L.contains v && P.getD v 0 == w) [1, 2, 3, 4, 5] with
      | none => none
      | some xs => some xs.sum
theorem mem_I (v : Nat) : ∀ L : List Nat, memI (v : Int) (L.map I) = some (L.contains v)
  | [] => rfl
  | x :: L => by
    show (memI (v : Int) (L.map I)).map _ = _
    rw [mem_I v L]
    show some (((x : Int) == (v : Int)) || L.contains v) = _
    rw [List.contains_cons]
    congr 2
    by_cases h : x = v
    · subst h; simp
    · rw [beq_false_of_ne (by lia), beq_false_of_ne (fun e => h e.symm)]
theorem cmp_notin {σ : Sto} {l v : Nat} {L : List Nat} (h : IsL σ l L) : cmpV .notin (I v) (.loc l) σ = some (!L.contains v) := by
  show (onLst none σ[l]? (memI (v : Int))).map not = _
  rw [h]
  show (memI (v : Int) (L.map I)).map not = _
  rw [mem_I]; rfl
noncomputable def WaysOk (call : CallT) (P : List Nat) (lp f : Nat) : Prop := ∀ {L : List Nat} {l w : Nat} {σ : Sto} {Q : AV → Sto → Prop}, waysF P f L = some w → L.length ≤ 6 → σ[lp]? = some (.list (P.map I)) → IsL σ l L → (∀ σ', Ext [] σ σ' → Q (I w) σ') → call (.ext aWays) [.loc lp, .loc l] σ Q
set_option tactic.hygienic true in
theorem ways_in {call : CallT} {P : List Nat} {lp f c0 c1 c2 l w D : Nat} {L : List Nat} {σ0 : Sto} {its : List AV} {Q : St → Prop} (hP : P.length = 6) (hE : WaysOk call P lp f) (hL : L.length < 6) (hw : L[P.getD L.length 0]? = some w)
    (h0 : σ0[c0]? = some (.cell (some (I L.length)))) (h1 : σ0[c1]? = some (.cell (some (.loc l)))) (h2 : σ0[c2]? = some (.cell (some (.loc lp)))) (h3 : σ0[lp]? = some (.list (P.map I))) (h4 : IsL σ0 l L) (hD : σ0.length ≤ D) :
    ∀ (vs : List Nat) {σ : Sto} {acc xs : List Nat} {x0 x1 : Option AV}, (∀ v ∈ vs, v < 6) → wmap (fun v => waysF P f (L ++ [v])) (fun v => !L.contains v && P.getD v 0 == w) vs = some xs → Ext [] σ0 σ → IsL σ D acc → acc.length + vs.length ≤ 100 →
      (∀ σ' x, Ext [] σ0 σ' → IsL σ' D (acc ++ xs) → Q ⟨x, σ'⟩) →
        turns .imm its (fun x s₂ k => evT (TT scr) call [c2, c1, c0] (.loc 1) x s₂ fun s₃ => evIfs (TT scr) call [c2, c1, c0] (.cons (.and (.cmp .notin (.loc 1) (.cel 1)) (.cmp .eq (.item (.cel 0) (.loc 1)) (.item (.cel 1) (.item (.cel 0) (.cel 2))))) .nil) s₃ fun b s₄ => if b then evC (TT scr) call [c2, c1, c0] D (.elt (.call (.lit (.ext aWays)) (.cons (.cel 0) (.cons (.bin .add (.cel 1) (.lst (.cons (.loc 1) .nil))) .nil)))) s₄ k else k s₄) (vs.map I) ⟨[x0, x1], σ⟩ Q
  | [], σ, acc, xs, x0, x1, _, hm, e, hA, _, q => by cases hm; exact an trivial (q σ _ e (by rw [List.append_nil]; exact hA))
  | v :: vs, σ, acc, xs, x0, x1, hv, hm, e, hA, hz, q => by
    have hv6 := hv v (.head _)
    have hpv : P[v]? = some (P.getD v 0) := by rw [List.getD_eq_getElem?_getD, List.getElem?_eq_getElem (by lia)]; rfl
    have hpk : P[L.length]? = some (P.getD L.length 0) := by rw [List.getD_eq_getElem?_getD, List.getElem?_eq_getElem (by lia)]; rfl
    have hk6 := (List.getElem?_eq_some_iff.mp hw).1
    simp only [List.length_cons] at hz
    rw [wmap] at hm
    have hvs : ∀ v ∈ vs, v < 6 := fun c h => hv c (.tail _ h)
    refine an trivial (an (lt! rfl) (r_cell (e.fz h1 rfl) (r_onB (cmp_notin (e.ls0 h4)) ?_)))
    by_cases hc : (!L.contains v) = true
    · refine p_pos hc (r_cell (e.fz h2 rfl) (r_on (item_list (k := v) (e.ls0 h3) (by rw [List.getElem?_map, hpv]; rfl) (by lia)) (r_cell (e.fz h1 rfl) (r_cell (e.fz h2 rfl) (r_cell (e.fz h0 rfl) (r_on (item_list (k := L.length) (e.ls0 h3) (by rw [List.getElem?_map, hpk]; rfl) (by lia)) (r_on (item_list (k := P.getD L.length 0) (e.ls0 h4) (by rw [List.getElem?_map, hw]; rfl) (by lia)) (r_onB (cmp_nat (a := P.getD v 0) (b := w)) ?_))))))))
      rw [hc, Bool.true_and] at hm
      by_cases hq : (P.getD v 0 == w) = true
      · rw [hq] at hm
        dsimp only at hm
        split at hm
        · cases hm
        rename_i x hx
        split at hm
        · cases hm
        rename_i ys hy
        cases hm
        refine p_pos hq (r_cell (e.fz h2 rfl) (r_cell (e.fz h1 rfl) (an (le! rfl) (r_list2 (old _ (e.ls0 h4)) (new _ _ _) (an (by simp; lia) ?_)))))
        refine hE hx (by simp; lia) (old _ (old _ (e.ls0 h3))) (by unfold IsL; rw [List.map_append]; exact new _ _ _) fun σ' y => ?_
        have e2 := ((e.appA _).appA _).trans y
        have hA2 := y.ls0 (old _ (old _ hA))
        refine r_on (p_push hA2 (by rw [List.length_map]; lia)) ?_
        refine ways_in hP hE hL hw h0 h1 h2 h3 h4 hD vs (acc := acc ++ [x]) hvs hy (e2.setN _ hD) (by unfold IsL; rw [List.map_append]; exact hit _ hA2) (by simp; lia) fun σ'' z y1 y2 => ?_
        exact q σ'' z y1 (by simpa using y2)
      · rw [Bool.eq_false_iff.mpr hq] at hm
        exact p_neg hq (ways_in hP hE hL hw h0 h1 h2 h3 h4 hD vs hvs hm e hA (by lia) q)
    · rw [Bool.eq_false_iff.mpr hc, Bool.false_and] at hm
      exact p_neg hc (p_neg (c := false = true) (fun h => nomatch h) (ways_in hP hE hL hw h0 h1 h2 h3 h4 hD vs hvs hm e hA (by lia) q))
set_option tactic.hygienic true in
theorem ways_c {P : List Nat} {lp : Nat} (hP : P.length = 6) : ∀ f, WaysOk (callN (TT scr) (n + f + 1)) P lp f
  | 0 => fun h _ _ _ _ => by cases h
  | f + 1 => by
    rename_i L l w σ Q
    intro h hL h3 h4 q
    rw [waysF] at h
    refine c_fnO rfl rfl rfl ?_
    have hE : WaysOk (callN (TT scr) (n + f + 1)) P lp f := ways_c hP f
    have H : Lib (callN (TT scr) (n + f + 1)) := lib
    show exs (TT scr) (callN (TT scr) (n + f + 1)) [σ.length + 2, σ.length + 1, σ.length] fWays.body ⟨[], ((σ ++ [AO.cell none, .cell none, .cell none]).set σ.length (.cell (some (.loc lp)))).set (σ.length + 1) (.cell (some (.loc l)))⟩ (runTail (TT scr) none Q)
    generalize callN (TT scr) (n + f + 1) = call at *
    have c0 : (σ ++ [AO.cell none, .cell none, .cell none])[σ.length]? = some (.cell none) := new _ _ _
    have c1 : (σ ++ [AO.cell none, .cell none, .cell none])[σ.length + 1]? = some (.cell none) := new1 _ _ _ _
    have c2 : (σ ++ [AO.cell none, .cell none, .cell none])[σ.length + 2]? = some (.cell none) := by rw [List.getElem?_append_right (by lia)]; simp
    have k0 := miss (.cell (some (.loc l))) (hit (.cell (some (.loc lp))) c0) (by lia : σ.length + 1 ≠ σ.length)
    have k1 := hit (.cell (some (.loc l))) (miss (.cell (some (.loc lp))) c1 (by lia : σ.length ≠ σ.length + 1))
    have k2 := miss (.cell (some (.loc l))) (miss (.cell (some (.loc lp))) c2 (by lia : σ.length ≠ σ.length + 2)) (by lia : σ.length + 1 ≠ σ.length + 2)
    have x0 : Ext [] σ (((σ ++ [AO.cell none, .cell none, .cell none]).set σ.length (.cell (some (.loc lp)))).set (σ.length + 1) (.cell (some (.loc l)))) := ((Ext.app _).setN _ (Nat.le_refl _)).setN _ (by lia)
    generalize ((σ ++ [AO.cell none, .cell none, .cell none]).set σ.length (.cell (some (.loc lp)))).set (σ.length + 1) (.cell (some (.loc l))) = σ1 at *
    clear c0 c1 c2
    refine r_cell k1 (H.len (x0.ls0 h4) (by rw [List.length_map]; lia) (r_cset k2 ?_))
    rw [List.length_map]
    have j2 := hit (.cell (some (I L.length))) k2
    have j1 := miss (.cell (some (I L.length))) k1 (by lia : σ.length + 2 ≠ σ.length + 1)
    have j0 := miss (.cell (some (I L.length))) k0 (by lia : σ.length + 2 ≠ σ.length)
    have x1 : Ext [] σ (σ1.set (σ.length + 2) (.cell (some (I L.length)))) := x0.setN _ (by lia)
    show exs (TT scr) call [σ.length + 2, σ.length + 1, σ.length] _ ⟨[], σ1.set (σ.length + 2) (.cell (some (I L.length)))⟩ _
    generalize σ1.set (σ.length + 2) (.cell (some (I L.length))) = σ2 at *
    clear k0 k1 k2 x0
    refine r_cell j2 ?_
    split at h
    · rename_i h6
      cases h
      have h6 : L.length = 6 := by simpa using h6
      exact p_pos (c := (((L.length : Nat) : Int) == 6) = true) (by rw [h6]; rfl) (q σ2 x1)
    rename_i h6
    have h6 : L.length ≠ 6 := by simpa using h6
    split at h
    · cases h
    rename_i v hv
    split at h
    · cases h
    rename_i xs hxs
    cases h
    refine p_neg (c := (((L.length : Nat) : Int) == 6) = true) (by simp; lia) ?_
    refine an ⟨by decide, by decide, by decide, by decide⟩ ?_
    have y0 : Ext [] σ2 (σ2 ++ [AO.list []]) := Ext.app _
    refine ways_in (σ0 := σ2) (D := σ2.length) hP hE (by lia) hv j2 j1 j0 (x1.ls0 h3) (x1.ls0 h4) (Nat.le_refl _) [1, 2, 3, 4, 5] (acc := []) (by decide) hxs y0 (new _ _ _) (le! rfl) fun σ' x y1 y2 => ?_
    exact H.sumN y2 (q σ' (x1.trans y1))
end Mine

set_option Elab.async false
set_option genSizeOf false
set_option genInjectivity false
set_option backward.match.sparseCases false
set_option bootstrap.genMatcherCode false
set_option tactic.hygienic false
set_option linter.unusedVariables false
set_option maxRecDepth 100000
namespace Mine
open PySem PySem.W PyProof.Rows
variable {scr : List Int} {n : Nat}
noncomputable def facs (c m : Nat) : Nat := (List.range' 2 (c - 1)).foldl (· * ·) m
noncomputable def turnsC (cnt : List Nat) (m : Nat) : Nat := cnt.foldl (fun m c => facs c m) m
noncomputable def turnsN (cnts : List (List Nat)) (m : Nat) : Nat := cnts.foldl (fun m c => turnsC c m) m
noncomputable abbrev tV (a b c d e f : Option AV) : List (Option AV) := [a, b, c, d, e, f]
theorem t_in {call : CallT} {σ : Sto} {its : List AV} {a c d e : Option AV} {Q : Fl → St → Prop} : ∀ (ks : List Nat) {m : Nat} {f : Option AV}, (∀ k ∈ ks, k ≤ 1000000) → (∀ f, Q .next ⟨tV a (some (I (ks.foldl (· * ·) m))) c d e f, σ⟩) →
    forT .imm its (fun x s₂ k => evT (TT scr) call [] (.loc 5) x s₂ fun s₃ => exs (TT scr) call [] (.cons (.augl 1 .mul (.loc 5)) .nil) s₃ k) (ks.map I) ⟨tV a (some (I m)) c d e f, σ⟩ Q
  | [], m, f, _, q => an trivial (q f)
  | k :: ks, m, f, hk, q => an trivial (an (lt! rfl) (an (.inr (bits_ok (hk k (.head _)))) (an (lt! rfl) (t_in ks (m := m * k) (fun k h => hk k (.tail _ h)) q))))
theorem t_mid {call : CallT} {σ : Sto} {l : Nat} {its : List AV} {a c d : Option AV} {Q : Fl → St → Prop} (h : σ[l]? = some (.tup its)) : ∀ (cs : List Nat) {m : Nat} {e f : Option AV}, (∀ k ∈ cs, k ≤ 1000) → (∀ e f, Q .next ⟨tV a (some (I (turnsC cs m))) c d e f, σ⟩) →
    forT (.tup l) its (fun x s₂ k => evT (TT scr) call [] (.loc 4) x s₂ fun s₃ => exs (TT scr) call [] (.cons (.for (.loc 5) (.rng2 (.lit (.int 2)) (.bin .add (.loc 4) (.lit (.int 1)))) (.cons (.augl 1 .mul (.loc 5)) .nil)) .nil) s₃ k) (cs.map I) ⟨tV a (some (I m)) c d e f, σ⟩ Q
  | [], m, e, f, _, q => an h (q e f)
  | c' :: cs, m, e, f, hk, q => by
    have hc := hk c' (.head _)
    refine an h (an (lt! rfl) (an ⟨by decide, by decide, by omega, by omega⟩ ?_))
    have he : rangeV 2 (((c' : Int) + 1) - 2).toNat = (List.range' 2 (c' - 1)).map I := by
      rw [show (((c' : Int) + 1) - 2).toNat = c' - 1 from by omega]
      exact rangeV_nat 2 _
    rw [he]
    exact t_in (List.range' 2 (c' - 1)) (fun k h => by have := List.mem_range'_1.mp h; omega) fun f => t_mid h cs (m := facs c' m) (fun k h => hk k (.tail _ h)) q
/-- a norm: counts and spare -/
noncomputable def IsN (σ : Sto) (v : AV) (cnt : List Nat) : Prop := ∃ kt kc b, v = .loc kt ∧ σ[kt]? = some (.tup [.loc kc, b]) ∧ σ[kc]? = some (.tup (cnt.map I))
theorem IsN.ext {X : List Nat} {σ σ' : Sto} {v : AV} {cnt : List Nat} (h : IsN σ v cnt) (e : Ext X σ σ') : IsN σ' v cnt := let ⟨kt, kc, b, h0, h1, h2⟩ := h; ⟨kt, kc, b, h0, e.fz h1 rfl, e.fz h2 rfl⟩
theorem t_out {call : CallT} {σ : Sto} {l : Nat} {its : List AV} {a : Option AV} {Q : Fl → St → Prop} (h : σ[l]? = some (.list its)) : ∀ (vs : List AV) (cs : List (List Nat)) {m : Nat} {c d e f : Option AV}, All2 (IsN σ) vs cs → (∀ x ∈ cs, ∀ k ∈ x, k ≤ 1000) → (∀ c d e f, Q .next ⟨tV a (some (I (turnsN cs m))) c d e f, σ⟩) →
    forT (.lst l) its (fun x s₂ k => evT (TT scr) call [] (.tup (.cons (.loc 2) (.cons (.loc 3) .nil))) x s₂ fun s₃ => exs (TT scr) call [] (.cons (.for (.loc 4) (.of (.loc 2)) (.cons (.for (.loc 5) (.rng2 (.lit (.int 2)) (.bin .add (.loc 4) (.lit (.int 1)))) (.cons (.augl 1 .mul (.loc 5)) .nil)) .nil)) .nil) s₃ k) vs ⟨tV a (some (I m)) c d e f, σ⟩ Q
  | vs0, [], m, c, d, e, f, h0, _, q => by rw [h0.nilr]; exact an h (q c d e f)
  | vs0, cnt :: cs, m, c, d, e, f, hh, hk, q => by
    obtain ⟨v, vs, ev, ⟨kt, kc, b, h0, h1, h2⟩, ht⟩ := hh.consr
    subst ev
    subst h0
    refine an h ?_
    refine r_tup h1 ?_
    refine an rfl (an (lt! rfl) (an (lt! rfl) (r_on (it_tup h2) ?_)))
    refine t_mid h2 cnt (m := m) (hk cnt (.head _)) fun e f => ?_
    exact t_out h vs cs (m := turnsC cnt m) ht (fun x h => hk x (.tail _ h)) q
theorem turns_c {σ : Sto} {l : Nat} {vs : List AV} {cs : List (List Nat)} {Q : AV → Sto → Prop} (h : σ[l]? = some (.list vs)) (hA : All2 (IsN σ) vs cs) (hk : ∀ x ∈ cs, ∀ k ∈ x, k ≤ 1000) (q : Q (I (turnsN cs 1)) σ) : callN (TT scr) (n + 1) (.ext aTurns) [.loc l] σ Q := by
  refine c_fn rfl rfl rfl rfl ?_
  show exs (TT scr) (callN (TT scr) n) [] fTurns.body ⟨tV (some (.loc l)) none none none none none, σ⟩ (runTail (TT scr) none Q)
  generalize callN (TT scr) n = call
  refine an (lt! rfl) (r_on (it_list h) ?_)
  exact t_out h vs cs (m := 1) hA hk fun c d e f => q
end Mine

set_option Elab.async false
set_option genSizeOf false
set_option genInjectivity false
set_option backward.match.sparseCases false
set_option bootstrap.genMatcherCode false
set_option tactic.hygienic false
set_option linter.unusedVariables false
set_option maxRecDepth 100000
namespace Mine
open PySem PySem.W PyProof.Rows
variable {scr : List Int} {n : Nat}
noncomputable def unp : Nat → List Nat → List Nat
  | _, [] => []
  | b, c :: r => List.replicate c b ++ unp (b + 1) r
noncomputable def tys : Nat → List Nat → List (List Nat)
  | _, [] => []
  | b, c :: r => (List.replicate c (pcS b)).flatten :: tys (b + 1) r
theorem tys_flat : ∀ (cs : List Nat) (b : Nat), (tys b cs).flatten = leadOf (unp b cs)
  | [], b => rfl
  | c :: r, b => by
    rw [tys, List.flatten_cons, tys_flat r, unp]
    induction c with
    | zero => rfl
    | succ c ih => rw [List.replicate_succ, List.flatten_cons, List.replicate_succ, List.cons_append, leadOf, List.append_assoc, ih, pcS, List.append_assoc]; rfl
theorem tys_len : ∀ (cs : List Nat) (b : Nat), (tys b cs).length = cs.length
  | [], b => rfl
  | c :: r, b => by rw [tys, List.length_cons, tys_len r, List.length_cons]
noncomputable def tyOf (cs : List Nat) (s : Nat) : List Nat := leadOf (unp 0 cs) ++ List.replicate s 32
theorem item_tup {T : Tb} {σ : Sto} {l k : Nat} {xs : List AV} {v : AV} (h1 : σ[l]? = some (.tup xs)) (h2 : xs[k]? = some v) (h3 : k < 1000000) : itemV T (.loc l) (.int k) σ = some v := by
  refine (if_pos (nat_ix (by lia))).trans ?_
  show itemL _ _ σ = _
  unfold itemL
  rw [h1]; exact h2
theorem ty_in {call : CallT} {c kc D : Nat} {cnt : List Nat} {its : List AV} {Q : St → Prop} : ∀ (cs : List Nat) (b : Nat) (acc : List (List Nat)) {σ : Sto} {x0 x1 : Option AV}, cnt.drop b = cs → (∀ k ∈ cs, k ≤ 100) → b + cs.length ≤ 100 → σ[c]? = some (.cell (some (.loc kc))) → σ[kc]? = some (.tup (cnt.map I)) → σ[D]? = some (.list (acc.map fun x => .str (S x))) → acc.length + cs.length ≤ 1000 →
    (∀ σ' x, Ext [D] σ σ' → σ'[D]? = some (.list ((acc ++ tys b cs).map fun x => .str (S x))) → Q ⟨x, σ'⟩) →
      turns .imm its (fun x s₂ k => evT (TT scr) call [c] (.loc 1) x s₂ fun s₃ => evIfs (TT scr) call [c] .nil s₃ fun b s₄ => if b then evC (TT scr) call [c] D (.elt (.bin .mul (.bin .add (.bin .mul (.lit (.str " ")) (.loc 1)) (.lit (.str "\t"))) (.item (.cel 0) (.loc 1)))) s₄ k else k s₄) ((List.range' b cs.length).map I) ⟨[x0, x1], σ⟩ Q
  | [], b, acc, σ, x0, x1, _, _, _, h1, h2, h3, _, q => an trivial (q σ _ Ext.rfl' (by rw [tys, List.append_nil]; exact h3))
  | k :: cs, b, acc, σ, x0, x1, hd, hk, hb, h1, h2, h3, hz, q => by
    simp only [List.length_cons] at hz hb
    have hk1 := hk k (.head _)
    have hg : cnt[b]? = some k := by
      have := List.getElem?_drop (xs := cnt) (i := b) (j := 0)
      rw [hd] at this; simpa using this.symm
    have hd' : cnt.drop (b + 1) = cs := by rw [← List.drop_drop, hd]; rfl
    have ha : Txt.mul (" " : Str) (b : Int) ++ ("\t" : Str) = S (pcS b) := by rw [s_sp, s_tab, s_app]; rfl
    have hm : Txt.mul (Txt.mul (" " : Str) (b : Int) ++ ("\t" : Str)) (k : Int) = S (List.replicate k (pcS b)).flatten := by rw [ha, s_mul]
    refine an trivial (an (lt! rfl) (an (sp_ok (s := b) (by lia)) (an (by rw [s_sp, s_tab, s_len, s_len]; simp; lia) (r_cell h1 (r_on (item_tup (k := b) (v := I k) h2 (by rw [List.getElem?_map, hg]; rfl) (by lia)) (an (show MulOk (Txt.mul (" " : Str) (b : Int) ++ ("\t" : Str)) (k : Int) from ?_) ?_))))))
    · rw [ha]
      refine s_mulOk _ _ ?_ (by lia)
      have : (pcS b).length ≤ 101 := by rw [pcS, List.length_append, List.length_replicate]; simp; lia
      exact Nat.le_trans (Nat.mul_le_mul this hk1) (le! rfl)
    rw [hm]
    refine r_on (p_push h3 (by rw [List.length_map]; lia)) ?_
    have e := Ext.setX (X := [D]) (.list (acc.map (fun x => .str (S x)) ++ [.str (S (List.replicate k (pcS b)).flatten)])) h3 rfl (.head _)
    refine ty_in cs (b + 1) (acc ++ [(List.replicate k (pcS b)).flatten]) hd' (fun c h => hk c (.tail _ h)) (by lia) (e.fz h1 rfl) (e.fz h2 rfl) (by rw [List.map_append]; exact hit _ h3) (by simp; lia) fun σ' z x1 x2 => ?_
    exact q σ' z (e.trans x1) (by rw [tys]; simpa using x2)
theorem strs_S (rs : List (List Nat)) : strsOf (rs.map fun r => AV.str (S r)) = some (rs.map S) := by
  induction rs with
  | nil => rfl
  | cons r rs ih => show (strsOf (rs.map fun r => AV.str (S r))).map _ = _; rw [ih]; rfl
theorem typed_c {σ : Sto} {kt kc s : Nat} {cnt : List Nat} {Q : AV → Sto → Prop} (h1 : σ[kt]? = some (.tup [.loc kc, I s])) (h2 : σ[kc]? = some (.tup (cnt.map I))) (hk : ∀ k ∈ cnt, k ≤ 100) (hc : cnt.length ≤ 100) (hs : s ≤ 100) (hz : (leadOf (unp 0 cnt)).length ≤ 10000) (q : ∀ σ', Ext [] σ σ' → Q (.str (S (tyOf cnt s))) σ') : callN (TT scr) (n + 2) (.ext aTyped) [.loc kt] σ Q := by
  refine c_fnO rfl rfl rfl ?_
  have H : Lib (callN (TT scr) (n + 1)) := lib
  show exs (TT scr) (callN (TT scr) (n + 1)) [σ.length] fTyped.body ⟨[some (.loc kt), none], σ ++ [AO.cell none]⟩ (runTail (TT scr) none Q)
  generalize callN (TT scr) (n + 1) = call at *
  have c0 : (σ ++ [AO.cell none])[σ.length]? = some (.cell none) := new _ _ _
  refine r_tup (old _ h1) (an rfl (r_cset c0 (an (lt! rfl) ?_)))
  have c1 := hit (.cell (some (.loc kc))) c0
  have x1 : Ext [] σ ((σ ++ [AO.cell none]).set σ.length (.cell (some (.loc kc)))) := (Ext.app _).setN _ (Nat.le_refl _)
  show exs (TT scr) call [σ.length] _ ⟨[some (.loc kt), some (I s)], (σ ++ [AO.cell none]).set σ.length (.cell (some (.loc kc)))⟩ _
  generalize (σ ++ [AO.cell none]).set σ.length (.cell (some (.loc kc))) = σ1 at *
  have h2' := x1.fz h2 rfl
  refine an rfl ?_
  refine r_cell c1 (H.lenT h2' (by rw [List.length_map]; lia) (an ⟨by rw [List.length_map]; lia, by rw [List.length_map]; lia⟩ ?_))
  have hr : rangeV 0 (((cnt.map I).length : Nat) : Int).toNat = (List.range' 0 cnt.length).map I := by rw [List.length_map, Int.toNat_natCast]; exact rangeV_nat 0 _
  rw [hr]
  refine ty_in (c := σ.length) (kc := kc) (D := σ1.length) cnt 0 [] rfl hk (by lia) (old _ c1) (old _ h2') (new _ _ _) (by simp; lia) fun σ' x e2 l2 => ?_
  have hj : Txt.join ("" : Str) ((tys 0 cnt).map S) = S (leadOf (unp 0 cnt)) := by rw [s_nil, s_join, tys_flat]
  have hsum : (((tys 0 cnt).map S).map (·.length)).sum + ((tys 0 cnt).map S).length * ("" : Str).length ≤ 16777216 := by
    rw [s_nil, s_len]
    have : (((tys 0 cnt).map S).map (·.length)).sum = (leadOf (unp 0 cnt)).length := by
      rw [← tys_flat, List.length_flatten, List.map_map]
      congr 1
    rw [this]; simp; lia
  rw [List.nil_append] at l2
  refine H.join l2 (strs_S _) hsum ?_
  rw [hj]
  refine an (sp_ok (s := s) (by lia)) (an (by rw [s_sp, s_len, s_len]; simp; lia) ?_)
  have : S (leadOf (unp 0 cnt)) ++ Txt.mul (" " : Str) (s : Int) = S (tyOf cnt s) := by rw [s_sp, s_app]; rfl
  rw [this]
  exact q _ ((x1.appA [AO.list []]).newX e2 (by have := x1.len; simp; lia))
end Mine

set_option Elab.async false
set_option genSizeOf false
set_option genInjectivity false
set_option backward.match.sparseCases false
set_option bootstrap.genMatcherCode false
set_option tactic.hygienic false
set_option linter.unusedVariables false
set_option maxRecDepth 100000
namespace Mine
open PySem PySem.W PyProof.Rows
variable {scr : List Int} {n : Nat}
/-- all that the law calls -/
structure La (scr : List Int) (call : CallT) : Prop where
  cs : Cs call
  drawn : ∀ {σ : Sto} {Q : AV → Sto → Prop}, (∀ σ' l a b c, Ext [] σ σ' → σ'[l]? = some (.list [.int a, .int b, .int c]) → σ.length ≤ l → Q (.loc l) σ') → call (.ext aDrawn) [.scr] σ Q
  parents : ∀ {σ : Sto} {x : Int} {Q : AV → Sto → Prop}, (∀ σ' l, Ext [] σ σ' → σ'[l]? = some (.list ((parN (x.emod 54).toNat).map I)) → σ.length ≤ l → Q (.loc l) σ') → call (.ext aParents) [.int x] σ Q
  pile : ∀ {σ : Sto} {Q : AV → Sto → Prop}, (∀ σ' p, Ext [] σ σ' → σ.length ≤ p → IsP σ' p [] → Q (.loc p) σ') → call (.ext aAcc) [] σ Q
  tree : ∀ {P : List Nat} {lp : Nat} {σ : Sto} {Q : AV → Sto → Prop}, P.length = 6 → (∀ k, 1 ≤ k → k < 6 → P.getD k 0 < k) → σ[lp]? = some (.list (P.map I)) → (∀ (σ' : Sto) (els ils : Nat → Nat), Ext [] σ σ' → Els P els ils σ' → (∀ v < 6, σ.length ≤ ils v) → Q (.loc (els 0)) σ') → call (.ext aTree) [.loc lp] σ Q
  read : ∀ {P : List Nat} {els ils : Nat → Nat} {s kl tl p : Nat}, kl ≠ tl → s ≤ 10 → (∀ v < 6, ils v ∉ [kl, tl, p]) → RdOk call P els ils s kl tl p 7
  into : ∀ {P : List Nat} {lp : Nat} {σ : Sto} {rows : List (List Nat)} {Q : AV → Sto → Prop}, P.length = 6 → σ[lp]? = some (.list (P.map I)) → intoO P = some rows → (∀ σ' D, Ext [] σ σ' → IsRs σ' D rows → σ.length ≤ D → Q (.loc D) σ') → call (.ext aInto) [.loc lp] σ Q
  ways : ∀ {P : List Nat} {lp : Nat}, P.length = 6 → WaysOk call P lp 7
  turns : ∀ {σ : Sto} {l : Nat} {vs : List AV} {cs : List (List Nat)} {Q : AV → Sto → Prop}, σ[l]? = some (.list vs) → All2 (IsN σ) vs cs → (∀ x ∈ cs, ∀ k ∈ x, k ≤ 1000) → Q (I (turnsN cs 1)) σ → call (.ext aTurns) [.loc l] σ Q
  typed : ∀ {σ : Sto} {kt kc s : Nat} {cnt : List Nat} {Q : AV → Sto → Prop}, σ[kt]? = some (.tup [.loc kc, I s]) → σ[kc]? = some (.tup (cnt.map I)) → (∀ k ∈ cnt, k ≤ 100) → cnt.length ≤ 100 → s ≤ 100 → (leadOf (unp 0 cnt)).length ≤ 10000 → (∀ σ', Ext [] σ σ' → Q (.str (S (tyOf cnt s))) σ') → call (.ext aTyped) [.loc kt] σ Q
  pop : ∀ {σ : Sto} {p : Nat} {xs : List AV} {x : AV} {Q : AV → Sto → Prop}, IsP σ p (xs ++ [x]) → xs.length ≤ 3000 → (∀ σ', Ext [p] σ σ' → IsP σ' p xs → Q x σ') → call (.ext aApop) [.loc p] σ Q
  pop0 : ∀ {σ : Sto} {p : Nat} {Q : AV → Sto → Prop}, IsP σ p [] → (∀ σ' t, Ext [] σ σ' → σ'[t]? = some (.tup [.str (S []), .str (S [])]) → Q (.loc t) σ') → call (.ext aApop) [.loc p] σ Q
theorem la (hz : scr.length ≤ 63) : La scr (callN (TT scr) (n + 40)) where
  cs := cs (n := n + 36)
  drawn q := drawn_c (n := n + 38) hz q
  parents q := parents_c (n := n + 38) q
  pile q := pile_c (n := n + 38) q
  tree h1 h2 h3 q := tree_c (n := n + 36) h1 h2 h3 q
  read h1 h2 h3 := read_c (n := n + 29) h1 h2 h3 7
  into h1 h2 h3 q := into_c (n := n + 31) h1 h2 h3 q
  ways h1 := ways_c (n := n + 32) h1 7
  turns h1 h2 h3 q := turns_c (n := n + 39) h1 h2 h3 q
  typed h1 h2 h3 h4 h5 h6 q := typed_c (n := n + 38) h1 h2 h3 h4 h5 h6 q
  pop h1 h2 q := pop_c (n := n + 38) h1 h2 q
  pop0 h1 q := pop0_c (n := n + 38) h1 q
theorem eq_lists {σ : Sto} {a b : Nat} {xs ys : List Nat} (h1 : IsL σ a xs) (h2 : IsL σ b ys) : cmpV .eq (.loc a) (.loc b) σ = some (xs == ys) := by
  show eqO (eqV 6 σ) σ[a]? σ[b]? = _
  rw [h1, h2]
  show (if (xs.map I).length = (ys.map I).length then eqVs (eqV 6 σ) (xs.map I) (ys.map I) else some false) = _
  obtain ⟨r, e1, e2⟩ := eq_ints (σ := σ) 5 xs ys
  rw [List.length_map, List.length_map]
  by_cases h : xs.length = ys.length
  · rw [if_pos h, e1, ← e2, h]; simp
  · rw [if_neg h, ← e2]; simp [h]
theorem eq_pairs {σ : Sto} {a b : Nat} {x y x' y' : Str} (h1 : σ[a]? = some (.tup [.str x, .str y])) (h2 : σ[b]? = some (.tup [.str x', .str y'])) : cmpV .eq (.loc a) (.loc b) σ = some (x == x' && y == y') := by
  show eqO (eqV 6 σ) σ[a]? σ[b]? = _
  rw [h1, h2]
  show some ((x == x' && (y == y' && true)) && true) = _
  simp
/-- the state of the law -/
structure LS (s p c0 c1 lo lt : Nat) (P1 P2 : List Nat) (T : List (List Nat × Nat)) (R : List Nat) (W : List (List Nat)) (σ : Sto) : Prop where
  one : σ[lo]? = some (.list (P1.map I))
  two : σ[lt]? = some (.list (P2.map I))
  told : ∃ tl, σ[c1]? = some (.cell (some (.loc tl))) ∧ ∃ ts : List Nat, σ[tl]? = some (.list (ts.map .loc)) ∧ All2 (IsT s σ) ts T
  into : ∃ li, σ[c0]? = some (.cell (some (.loc li))) ∧ IsRs σ li W
  pl : ∃ xs, IsP σ p xs ∧ All2 (IsPc σ) xs R
theorem IsRs.ext {σ σ' : Sto} {D : Nat} {rows : List (List Nat)} (h : IsRs σ D rows) (x : Ext [] σ σ') : IsRs σ' D rows := let ⟨rs, h1, h2⟩ := h; ⟨rs, x.ls0 h1, h2.mono fun _ _ h => x.ls0 h⟩
theorem LS.ext {s p c0 c1 lo lt : Nat} {P1 P2 : List Nat} {T : List (List Nat × Nat)} {R : List Nat} {W : List (List Nat)} {σ σ' : Sto} (h : LS s p c0 c1 lo lt P1 P2 T R W σ) (x : Ext [] σ σ') : LS s p c0 c1 lo lt P1 P2 T R W σ' :=
  ⟨x.ls0 h.one, x.ls0 h.two, (let ⟨tl, t1, ts, t2, t3⟩ := h.told; ⟨tl, x.fz t1 rfl, ts, x.ls0 t2, t3.mono fun _ _ => IsT.ext x⟩), (let ⟨li, i1, i2⟩ := h.into; ⟨li, x.fz i1 rfl, i2.ext x⟩), (let ⟨xs, p1, p2⟩ := h.pl; ⟨xs, p1.at x fun d h => x.ls0 h, p2.mono fun _ _ => IsPc.ext x⟩)⟩
noncomputable abbrev csDrop : Nat → CSs → CSs
  | 0, b => b
  | k + 1, .cons _ r => csDrop k r
  | _ + 1, .nil => .nil
noncomputable abbrev lV (a b c d e f g x7 x8 x9 x10 x11 x12 : Option AV) : List (Option AV) := [a, b, c, d, e, f, g, x7, x8, x9, x10, x11, x12]
end Mine

set_option Elab.async false
set_option genSizeOf false
set_option genInjectivity false
set_option backward.match.sparseCases false
set_option bootstrap.genMatcherCode false
set_option tactic.hygienic false
set_option linter.unusedVariables false
set_option maxRecDepth 100000
namespace Mine
open PySem PySem.W PyProof.Rows
variable {scr : List Int} {n : Nat}
/-- equal norms are equal columns -/
noncomputable def EqOk (T : List (List Nat × Nat)) (W : List (List Nat)) : Prop := ∀ (i j : Nat) (t u : List Nat × Nat) (x y : List Nat), T[i]? = some t → T[j]? = some u → W[i]? = some x → W[j]? = some y → (cntOf t.1 == cntOf u.1) = (x == y)
noncomputable abbrev eElt : CLs := .elt (.cmp .is (.meth (.item (.cel 0) (.loc 1)) 9 (.cons (.item (.cel 0) (.loc 2)) .nil)) (.cmp .eq (.item (.cel 1) (.loc 1)) (.item (.cel 1) (.loc 2))))
theorem all_in {call : CallT} (C : La scr call) {s p c0 c1 lo lt D i : Nat} {P1 P2 : List Nat} {T : List (List Nat × Nat)} {R : List Nat} {W : List (List Nat)} {its : List AV} {σ0 : Sto} {Q : St → Prop} (h : LS s p c0 c1 lo lt P1 P2 T R W σ0) (hT : T.length = 12) (hW : W.length = 12) (hE : EqOk T W) (hi : i < 12) (hD : σ0.length ≤ D) :
    ∀ (ks : List Nat) {m : Nat} {σ : Sto} {a c : Option AV}, (∀ k ∈ ks, k < 12) → Ext [] σ0 σ → σ[D]? = some (.list (List.replicate m (.bool true))) → m + ks.length ≤ 1000 → (∀ σ' c, Ext [] σ0 σ' → σ'[D]? = some (.list (List.replicate (m + ks.length) (.bool true))) → Q ⟨[a, some (I i), c], σ'⟩) →
      turns .imm its (fun x s₂ k => evT (TT scr) call [c1, c0] (.loc 2) x s₂ fun s₃ => evIfs (TT scr) call [c1, c0] .nil s₃ fun b s₄ => if b then evC (TT scr) call [c1, c0] D eElt s₄ k else k s₄) (ks.map I) ⟨[a, some (I i), c], σ⟩ Q
  | [], m, σ, a, c, _, e, hd, _, q => an trivial (q σ c e hd)
  | k :: ks, m, σ, a, c, hk, e, hd, hz, q => by
    have hk12 := hk k (.head _)
    simp only [List.length_cons] at hz
    have h' := h.ext e
    obtain ⟨tl, t1, ts, t2, t3⟩ := h'.told
    obtain ⟨li, i1, rs, i2, i3⟩ := h'.into
    obtain ⟨ti, a1, a2⟩ := t3.get (i := i) (b := T[i]'(by lia)) (List.getElem?_eq_getElem (by lia))
    obtain ⟨tk, b1, b2⟩ := t3.get (i := k) (b := T[k]'(by lia)) (List.getElem?_eq_getElem (by lia))
    obtain ⟨ri, d1, d2⟩ := i3.get (i := i) (b := W[i]'(by lia)) (List.getElem?_eq_getElem (by lia))
    obtain ⟨rk, f1, f2⟩ := i3.get (i := k) (b := W[k]'(by lia)) (List.getElem?_eq_getElem (by lia))
    have hb : (((cntOf (T[i]'(by lia)).1 == cntOf (T[k]'(by lia)).1) && s == s) == ((W[i]'(by lia)) == (W[k]'(by lia)))) = true := by
      rw [hE i k _ _ _ _ (List.getElem?_eq_getElem (by lia)) (List.getElem?_eq_getElem (by lia)) (List.getElem?_eq_getElem (by lia)) (List.getElem?_eq_getElem (by lia))]
      simp
    generalize T[i]'(by lia) = u at *
    generalize T[k]'(by lia) = w at *
    generalize W[i]'(by lia) = x at *
    generalize W[k]'(by lia) = y at *
    refine an trivial (an (lt! rfl) (r_cell t1 (r_on (item_list (k := i) (v := .loc ti) t2 (by rw [List.getElem?_map, a1]; rfl) (by lia)) (r_on (m_equal a2) (an rfl (r_cell t1 (r_on (item_list (k := k) (v := .loc tk) t2 (by rw [List.getElem?_map, b1]; rfl) (by lia)) (C.cs.equal a2 b2 ?_))))))))
    refine r_cell i1 (r_on (item_list (k := i) (v := .loc ri) i2 (by rw [List.getElem?_map, d1]; rfl) (by lia)) (r_cell i1 (r_on (item_list (k := k) (v := .loc rk) i2 (by rw [List.getElem?_map, f1]; rfl) (by lia)) (r_onB (eq_lists d2 f2) ?_))))
    refine r_on (r := pushV D (.bool ((cntOf u.1 == cntOf w.1 && s == s) == (x == y))) σ) (by rw [hb]; exact p_push hd (by rw [List.length_replicate]; lia)) ?_
    refine all_in C h hT hW hE hi hD ks (m := m + 1) (fun k h => hk k (.tail _ h)) (e.setN _ hD) (by rw [List.replicate_succ']; exact hit _ hd) (by lia) fun σ' c x1 x2 => ?_
    exact q σ' c x1 (by rw [List.length_cons, show m + (ks.length + 1) = m + 1 + ks.length from by lia]; exact x2)
theorem all_out {call : CallT} (C : La scr call) {s p c0 c1 lo lt D : Nat} {P1 P2 : List Nat} {T : List (List Nat × Nat)} {R : List Nat} {W : List (List Nat)} {its : List AV} {σ0 : Sto} {Q : St → Prop} (h : LS s p c0 c1 lo lt P1 P2 T R W σ0) (hT : T.length = 12) (hW : W.length = 12) (hE : EqOk T W) (hD : σ0.length ≤ D) :
    ∀ (ks : List Nat) {m : Nat} {σ : Sto} {a b c : Option AV}, (∀ k ∈ ks, k < 12) → Ext [] σ0 σ → σ[D]? = some (.list (List.replicate m (.bool true))) → m + 12 * ks.length ≤ 1000 → (∀ σ' x m, Ext [] σ0 σ' → σ'[D]? = some (.list (List.replicate m (.bool true))) → Q ⟨x, σ'⟩) →
      turns .imm its (fun x s₂ k => evT (TT scr) call [c1, c0] (.loc 1) x s₂ fun s₃ => evIfs (TT scr) call [c1, c0] .nil s₃ fun b s₄ => if b then evC (TT scr) call [c1, c0] D (.cons (.loc 2) (.rng1 (.lit (.int 12))) .nil eElt) s₄ k else k s₄) (ks.map I) ⟨[a, b, c], σ⟩ Q
  | [], m, σ, a, b, c, _, e, hd, _, q => an trivial (q σ _ m e hd)
  | k :: ks, m, σ, a, b, c, hk, e, hd, hz, q => by
    simp only [List.length_cons] at hz
    refine an trivial (an (lt! rfl) (an ⟨by decide, by decide⟩ ?_))
    refine all_in C h hT hW hE (hk k (.head _)) hD [0, 1, 2, 3, 4, 5, 6, 7, 8, 9, 10, 11] (m := m) (by decide) e hd (by simp; lia) fun σ' c x1 x2 => ?_
    exact all_out C h hT hW hE hD ks (m := m + 12) (fun k h => hk k (.tail _ h)) x1 x2 (by lia) q
theorem bools_rep (m : Nat) : boolsOf (List.replicate m (.bool true)) = some (List.replicate m true) := by
  induction m with
  | zero => rfl
  | succ m ih => rw [List.replicate_succ]; show (boolsOf (List.replicate m (.bool true))).map _ = _; rw [ih]; rfl
theorem l_all {call : CallT} (C : La scr call) {s p c0 c1 lo lt : Nat} {P1 P2 : List Nat} {T : List (List Nat × Nat)} {R : List Nat} {W : List (List Nat)} {σ : Sto} {vars : List (Option AV)} {r : CSs} {Q : Fl → St → Prop} (h : LS s p c0 c1 lo lt P1 P2 T R W σ) (hT : T.length = 12) (hW : W.length = 12) (hE : EqOk T W)
    (q : ∀ σ', Ext [] σ σ' → exs (TT scr) call [c0, c1] r ⟨vars, σ'⟩ Q) :
    exs (TT scr) call [c0, c1] (.cons (.ife (.not (.call (.lit (.blt "all")) (.cons (.comp [1, 0] 0 3 (.loc 1) (.rng1 (.lit (.int 12))) .nil (.cons (.loc 2) (.rng1 (.lit (.int 12))) .nil eElt)) .nil))) (.cons (.ret (.lit (.bool false))) .nil) .nil) r) ⟨vars, σ⟩ Q := by
  refine an ⟨by decide, by decide⟩ ?_
  refine all_out C (σ0 := σ) (D := σ.length) h hT hW hE (Nat.le_refl _) [0, 1, 2, 3, 4, 5, 6, 7, 8, 9, 10, 11] (m := 0) (by decide) (Ext.app _) (new _ _ _) (le! rfl) fun σ' x m x1 x2 => ?_
  refine C.cs.lib.all x2 (bools_rep m) ?_
  have : (List.replicate m true).all id = true := by rw [List.all_replicate]; simp
  rw [this]
  exact q σ' x1
end Mine

set_option Elab.async false
set_option genSizeOf false
set_option genInjectivity false
set_option backward.match.sparseCases false
set_option bootstrap.genMatcherCode false
set_option tactic.hygienic false
set_option linter.unusedVariables false
set_option maxRecDepth 100000
namespace Mine
open PySem PySem.W PyProof.Rows
variable {scr : List Int} {n : Nat}
/-- what retyping keeps -/
structure TyF (rs : List Nat) : Prop where
  cnt : cntOf (unp 0 (cntOf rs)) = cntOf rs
  len : (unp 0 (cntOf rs)).length = rs.length
  sum : ((unp 0 (cntOf rs)).map (· + 1)).sum = (rs.map (· + 1)).sum
  le : rs.length ≤ 4 ∧ ∀ r ∈ rs, r ≤ 40
  c1 : (cntOf rs).length ≤ 100
  c2 : ∀ k ∈ cntOf rs, k ≤ 100
theorem scan_end (s : Nat) (c : List Nat) (k nt : Nat) : scan (List.replicate s 32) ⟨c, 0, k, nt⟩ = ⟨c, s, k + s, nt⟩ := by
  have := scan_blanks s [] ⟨c, 0, k, nt⟩
  rw [List.append_nil] at this
  rw [this]; show (⟨_, _, _, _⟩ : Sc) = _; rw [Nat.zero_add]
theorem lead_cnt (rs : List Nat) : (leadOf rs).count 9 = rs.length := by
  induction rs with
  | nil => rfl
  | cons r rs ih => rw [leadOf, List.count_append, List.count_cons, ih, List.count_replicate]; simp
theorem ty_scan {rs : List Nat} (h : TyF rs) (s : Nat) : scan (tyOf (cntOf rs) s) ⟨[], 0, 0, 0⟩ = ⟨cntOf rs, s, nOf rs s, rs.length⟩ := by
  unfold tyOf
  rw [scan_lead, scan_end]
  show (⟨cntOf _, _, _, _⟩ : Sc) = _
  rw [h.cnt, h.sum, h.len]; simp [nOf]
theorem ty_len {rs : List Nat} (h : TyF rs) (s : Nat) : (tyOf (cntOf rs) s).length = nOf rs s := by
  unfold tyOf
  rw [List.length_append, lead_len, h.sum, List.length_replicate]; rfl
theorem ty_cnt {rs : List Nat} (h : TyF rs) (s : Nat) : (tyOf (cntOf rs) s).count 9 = rs.length := by
  unfold tyOf
  rw [List.count_append, lead_cnt, h.len, List.count_replicate]; simp
theorem ty_lt (c : List Nat) (s : Nat) : ∀ x ∈ tyOf c s, x < 128 := fun x hx => by
  rcases List.mem_append.mp hx with h | h
  · exact lead_lt _ x h
  · have := (List.mem_replicate.mp h).2; lia
theorem raw_len (rs : List Nat) (s tag : Nat) : (rawOf rs s tag).length = nOf rs s + 1 := by
  unfold rawOf nOf
  rw [List.length_append, lead_len, List.length_append, List.length_replicate]; simp; lia
theorem raw_cnt (rs : List Nat) (s tag : Nat) (h : tag ≠ 9) : (rawOf rs s tag).count 9 = rs.length := by
  unfold rawOf
  rw [List.count_append, lead_cnt, List.count_append, List.count_replicate, List.count_cons]; simp [h]
theorem nOf_le {rs : List Nat} {s : Nat} (h : TyF rs) (hs : s ≤ 10) : nOf rs s ≤ 174 := by
  unfold nOf
  have := sum_le rs h.le.2
  have := h.le.1
  lia
theorem Lib.countT {call : CallT} (H : Lib call) {σ : Sto} {l : List Nat} {Q : AV → Sto → Prop} (q : Q (I (l.count 9)) σ) : call (.blt "str.count") [.str (S l), .str "\t"] σ Q := H.count (by rw [s_tab, s_count]; exact q)
theorem isl2 {σ : Sto} {l a b : Nat} {v w : AV} (h : σ[l]? = some (.list [v, w])) (e : v = I a) (e' : w = I b) : IsL σ l [a, b] := by subst e e'; exact h
noncomputable abbrev tBody : CSs := .cons (.asg (.loc 8) (.call (.lit (.ext aTyped)) (.cons (.attr (.loc 7) 7) .nil))) (.cons (.ife (.not (.cmp2 .eq .eq (.lst (.cons (.attr (.loc 7) 5) (.cons (.attr (.loc 7) 6) .nil))) (.lst (.cons (.call (.lit (.blt "len")) (.cons (.loc 8) .nil)) (.cons (.meth (.loc 8) 3 (.cons (.lit (.str "\t")) .nil)) .nil))) (.lst (.cons (.bin .sub (.call (.lit (.blt "len")) (.cons (.attr (.loc 7) 4) .nil)) (.lit (.int 1))) (.cons (.meth (.attr (.loc 7) 4) 3 (.cons (.lit (.str "\t")) .nil)) .nil))))) (.cons (.ret (.lit (.bool false))) .nil) .nil) (.cons (.ife (.cmp .isnot (.meth (.loc 7) 9 (.cons (.call (.lit (.ext aWhite)) (.cons (.loc 8) .nil)) .nil)) (.lit (.bool true))) (.cons (.ret (.lit (.bool false))) .nil) .nil) .nil))
theorem told_one {call : CallT} (C : La scr call) {c0 c1 s w : Nat} {t : List Nat × Nat} {σ : Sto} {a b c d e f g x8 x9 x10 x11 x12 : Option AV} {Q : Fl → St → Prop} (hs : s ≤ 10) (hF : TyF t.1) (ht : t.2 ≠ 9) (h : IsT s σ w t) (q : ∀ σ' x, Ext [] σ σ' → Q .next ⟨lV a b c d e f g (some (.loc w)) x x9 x10 x11 x12, σ'⟩) :
    exs (TT scr) call [c0, c1] tBody ⟨lV a b c d e f g (some (.loc w)) x8 x9 x10 x11 x12, σ⟩ Q := by
  obtain ⟨d', kt, kc, sm, e1, e2, e3, e4⟩ := h.out
  have hn := nOf_le hF hs
  refine r_on (attr_obj (iaW (by decide)) e1 e2 rfl) (an rfl ?_)
  refine C.typed (s := s) e3 e4 hF.c2 hF.c1 (by lia) (by rw [lead_len, hF.sum]; have := sum_le t.1 hF.le.2; have := hF.le.1; lia) fun σ1 y1 => ?_
  refine an (lt! rfl) ?_
  have f1 := y1.fz e1 rfl
  have f2 := y1.fz e2 rfl
  have hw := IsT.ext y1 h
  refine r_on (attr_obj (iaW (by decide)) f1 f2 rfl) (an rfl (r_on (attr_obj (iaW (by decide)) f1 f2 rfl) (an rfl (an (le! rfl) ?_))))
  refine C.cs.lib.lenS (by rw [ty_len hF]; lia) (an rfl (C.cs.lib.countT (an (le! rfl) ?_)))
  have l1 : IsL ((σ1 ++ [AO.list [I (nOf t.1 s), I t.1.length]]) ++ [AO.list [I (tyOf (cntOf t.1) s).length, I ((tyOf (cntOf t.1) s).count 9)]]) σ1.length [nOf t.1 s, t.1.length] := old _ (new _ _ _)
  have l2 : IsL ((σ1 ++ [AO.list [I (nOf t.1 s), I t.1.length]]) ++ [AO.list [I (tyOf (cntOf t.1) s).length, I ((tyOf (cntOf t.1) s).count 9)]]) (σ1 ++ [AO.list [I (nOf t.1 s), I t.1.length]]).length [nOf t.1 s, t.1.length] := isl2 (new _ _ _) (by rw [ty_len hF]) (by rw [ty_cnt hF])
  have y2 : Ext [] σ1 ((σ1 ++ [AO.list [I (nOf t.1 s), I t.1.length]]) ++ [AO.list [I (tyOf (cntOf t.1) s).length, I ((tyOf (cntOf t.1) s).count 9)]]) := (Ext.app _).appA _
  refine r_onB (eq_lists l1 l2) ?_
  rw [show ([nOf t.1 s, t.1.length] == [nOf t.1 s, t.1.length]) = true from beq_self_eq_true _]
  generalize ((σ1 ++ [AO.list [I (nOf t.1 s), I t.1.length]]) ++ [AO.list [I (tyOf (cntOf t.1) s).length, I ((tyOf (cntOf t.1) s).count 9)]]) = σ2 at *
  generalize (σ1 ++ [AO.list [I (nOf t.1 s), I t.1.length]]).length = l at *
  have g1 := y2.fz f1 rfl
  have g2 := y2.fz f2 rfl
  refine r_on (attr_obj (iaW (by decide)) g1 g2 rfl) (an rfl (C.cs.lib.lenS (by rw [raw_len]; lia) ?_))
  refine r_on (attr_obj (iaW (by decide)) g1 g2 rfl) (an rfl (an rfl (C.cs.lib.countT (an (le! rfl) ?_))))
  have l3 := isl2 (a := nOf t.1 s) (b := t.1.length) (new σ2 (AO.list [.int (((rawOf t.1 s t.2).length : Nat) - 1 : Int), I ((rawOf t.1 s t.2).count 9)]) []) (by rw [raw_len]; show AV.int _ = AV.int _; congr 1; lia) (by rw [raw_cnt _ _ _ ht])
  refine r_onB (eq_lists (old _ l2) l3) ?_
  rw [show ([nOf t.1 s, t.1.length] == [nOf t.1 s, t.1.length]) = true from beq_self_eq_true _]
  have y3 : Ext [] σ (σ2 ++ [AO.list [.int (((rawOf t.1 s t.2).length : Nat) - 1 : Int), I ((rawOf t.1 s t.2).count 9)]]) := (y1.trans y2).appA _
  generalize (σ2 ++ [AO.list [.int (((rawOf t.1 s t.2).length : Nat) - 1 : Int), I ((rawOf t.1 s t.2).count 9)]]) = σ3 at *
  have hw3 := IsT.ext y3 h
  refine r_on (m_equal hw3) (an rfl (C.cs.init (ty_lt _ _) (by rw [ty_len hF]; lia) fun σ4 w4 y4 h4 _ => ?_))
  rw [ty_scan hF] at h4
  refine C.cs.equal (IsT.ext y4 hw3) h4 ?_
  rw [show ((cntOf t.1 == cntOf t.1) && s == s) = true from by simp]
  exact q σ4 _ (y3.trans y4)
end Mine

set_option Elab.async false
set_option genSizeOf false
set_option genInjectivity false
set_option backward.match.sparseCases false
set_option bootstrap.genMatcherCode false
set_option tactic.hygienic false
set_option linter.unusedVariables false
set_option maxRecDepth 100000
namespace Mine
open PySem PySem.W PyProof.Rows
variable {scr : List Int} {n : Nat}
theorem told_loop {call : CallT} (C : La scr call) {c0 c1 s tl : Nat} {its : List AV} {σ0 : Sto} {a b c d e f g x9 x10 x11 x12 : Option AV} {Q : Fl → St → Prop} (hs : s ≤ 10) (hi : σ0[tl]? = some (.list its)) : ∀ (ts : List Nat) (T : List (List Nat × Nat)) {σ : Sto} {x7 x8 : Option AV}, All2 (IsT s σ0) ts T → (∀ t ∈ T, TyF t.1 ∧ t.2 ≠ 9) → Ext [] σ0 σ → (∀ σ' x7 x8, Ext [] σ0 σ' → Q .next ⟨lV a b c d e f g x7 x8 x9 x10 x11 x12, σ'⟩) →
    forT (.lst tl) its (fun x s₂ k => evT (TT scr) call [c0, c1] (.loc 7) x s₂ fun s₃ => exs (TT scr) call [c0, c1] tBody s₃ k) (ts.map .loc) ⟨lV a b c d e f g x7 x8 x9 x10 x11 x12, σ⟩ Q
  | ts0, [], σ, x7, x8, h0, _, y, q => by rw [h0.nilr]; exact an (y.ls0 hi) (q σ x7 x8 y)
  | ts0, t :: T, σ, x7, x8, h0, hF, y, q => by
    obtain ⟨w, ts, ew, h, ht⟩ := h0.consr
    subst ew
    refine an (y.ls0 hi) (an (lt! rfl) ?_)
    refine told_one C hs (hF t (.head _)).1 (hF t (.head _)).2 (IsT.ext y h) fun σ' x y1 => ?_
    exact told_loop C hs hi ts T ht (fun t h => hF t (.tail _ h)) (y.trans y1) q
theorem l_told {call : CallT} (C : La scr call) {s p c0 c1 lo lt : Nat} {P1 P2 : List Nat} {T : List (List Nat × Nat)} {R : List Nat} {W : List (List Nat)} {σ : Sto} {a b c d e f g x7 x8 x9 x10 x11 x12 : Option AV} {r : CSs} {Q : Fl → St → Prop} (hs : s ≤ 10) (h : LS s p c0 c1 lo lt P1 P2 T R W σ) (hF : ∀ t ∈ T, TyF t.1 ∧ t.2 ≠ 9)
    (q : ∀ σ' x7 x8, Ext [] σ σ' → exs (TT scr) call [c0, c1] r ⟨lV a b c d e f g x7 x8 x9 x10 x11 x12, σ'⟩ Q) :
    exs (TT scr) call [c0, c1] (.cons (.for (.loc 7) (.of (.cel 1)) tBody) r) ⟨lV a b c d e f g x7 x8 x9 x10 x11 x12, σ⟩ Q := by
  obtain ⟨tl, t1, ts, t2, t3⟩ := h.told
  refine r_cell t1 (r_on (it_list t2) ?_)
  exact told_loop C hs t2 ts T t3 hF Ext.rfl' q
theorem ty_succ (c : List Nat) (s : Nat) : tyOf c s ++ [32] = tyOf c (s + 1) := by unfold tyOf; rw [List.append_assoc, ← List.replicate_succ']
theorem l_five {call : CallT} (C : La scr call) {s p c0 c1 lo lt : Nat} {P1 P2 : List Nat} {T : List (List Nat × Nat)} {R : List Nat} {W : List (List Nat)} {σ : Sto} {vars : List (Option AV)} {r : CSs} {Q : Fl → St → Prop} (hs : s ≤ 10) (h : LS s p c0 c1 lo lt P1 P2 T R W σ) (hT : T.length = 12) (hF : ∀ t ∈ T, TyF t.1 ∧ t.2 ≠ 9)
    (q : ∀ σ', Ext [] σ σ' → exs (TT scr) call [c0, c1] r ⟨vars, σ'⟩ Q) :
    exs (TT scr) call [c0, c1] (.cons (.ife (.cmp .isnot (.meth (.item (.cel 1) (.lit (.int 5))) 9 (.cons (.call (.lit (.ext aWhite)) (.cons (.bin .add (.call (.lit (.ext aTyped)) (.cons (.attr (.item (.cel 1) (.lit (.int 5))) 7) .nil)) (.lit (.str " "))) .nil)) .nil)) (.lit (.bool false))) (.cons (.ret (.lit (.bool false))) .nil) .nil) r) ⟨vars, σ⟩ Q := by
  obtain ⟨tl, t1, ts, t2, t3⟩ := h.told
  obtain ⟨w, a1, a2⟩ := t3.get (i := 5) (b := T[5]'(by lia)) (List.getElem?_eq_getElem (by lia))
  have hF5 := (hF (T[5]'(by lia)) (List.getElem_mem _)).1
  generalize T[5]'(by lia) = t at *
  obtain ⟨d', kt, kc, sm, e1, e2, e3, e4⟩ := a2.out
  have hn := nOf_le hF5 hs
  have hn1 := nOf_le hF5 (s := s) hs
  have hl : (tyOf (cntOf t.1) s).length = nOf t.1 s := ty_len hF5 s
  have hg : (ts.map AV.loc)[5]? = some (.loc w) := by rw [List.getElem?_map, a1]; rfl
  refine r_cell t1 (r_on (item_list (k := 5) t2 hg (by decide)) (r_on (m_equal a2) (an rfl (r_cell t1 (r_on (item_list (k := 5) t2 hg (by decide)) (r_on (attr_obj (iaW (by decide)) e1 e2 rfl) (an rfl ?_)))))))
  refine C.typed (s := s) e3 e4 hF5.c2 hF5.c1 (by lia) (by rw [lead_len, hF5.sum]; have := sum_le t.1 hF5.le.2; have := hF5.le.1; lia) fun σ1 y1 => ?_
  have hb : S (tyOf (cntOf t.1) s) ++ (" " : Str) = S (tyOf (cntOf t.1) (s + 1)) := by rw [s_blank, s_app, ty_succ]
  refine an (by rw [s_len, hl, s_blank, s_len]; show nOf t.1 s + 1 ≤ 100000; lia) ?_
  rw [hb]
  have hl1 : (tyOf (cntOf t.1) (s + 1)).length ≤ 200 := by rw [← ty_succ, List.length_append, hl]; show nOf t.1 s + 1 ≤ 200; lia
  refine C.cs.init (ty_lt _ _) hl1 fun σ2 w2 y2 h2 _ => ?_
  rw [ty_scan hF5] at h2
  refine C.cs.equal (IsT.ext (y1.trans y2) a2) h2 ?_
  rw [show ((cntOf t.1 == cntOf t.1) && s == s + 1) = false from by simp]
  exact q σ2 (y1.trans y2)
theorem norm_in {call : CallT} {s l D : Nat} {its : List AV} {σ0 : Sto} {Q : St → Prop} (hi : σ0[l]? = some (.list its)) (hD : σ0.length ≤ D) : ∀ (ts : List Nat) (T : List (List Nat × Nat)) {σ : Sto} {vs : List AV} {cs : List (List Nat)} {x0 x1 : Option AV}, All2 (IsT s σ0) ts T → Ext [] σ0 σ → σ[D]? = some (.list vs) → All2 (IsN σ0) vs cs → vs.length + ts.length ≤ 1000 → (∀ σ' x vs', Ext [] σ0 σ' → σ'[D]? = some (.list vs') → All2 (IsN σ0) vs' (cs ++ T.map fun t => cntOf t.1) → Q ⟨x, σ'⟩) →
    turns (.lst l) its (fun x s₂ k => evT (TT scr) call [] (.loc 1) x s₂ fun s₃ => evIfs (TT scr) call [] .nil s₃ fun b s₄ => if b then evC (TT scr) call [] D (.elt (.attr (.loc 1) 7)) s₄ k else k s₄) (ts.map .loc) ⟨[x0, x1], σ⟩ Q
  | ts0, [], σ, vs, cs, x0, x1, h0, y, hd, hN, _, q => by rw [h0.nilr]; exact an (y.ls0 hi) (q σ _ vs y hd (by simpa using hN))
  | ts0, t :: T, σ, vs, cs, x0, x1, h0, y, hd, hN, hz, q => by
    obtain ⟨w, ts, ew, h, ht⟩ := h0.consr
    subst ew
    simp only [List.length_cons] at hz
    obtain ⟨d', kt, kc, sm, e1, e2, e3, e4⟩ := h.out
    refine an (y.ls0 hi) (an (lt! rfl) (r_on (attr_obj (iaW (by decide)) (y.fz e1 rfl) (y.fz e2 rfl) rfl) (an rfl (r_on (p_push hd (by lia)) ?_))))
    refine norm_in hi hD ts T (vs := vs ++ [.loc kt]) (cs := cs ++ [cntOf t.1]) ht (y.setN _ hD) (hit _ hd) (hN.app (.cons ⟨kt, kc, _, rfl, e3, e4⟩ .nil)) (by simp; lia) fun σ' x vs' x1 x2 x3 => ?_
    exact q σ' x vs' x1 x2 (by simpa using x3)
end Mine

set_option Elab.async false
set_option genSizeOf false
set_option genInjectivity false
set_option backward.match.sparseCases false
set_option bootstrap.genMatcherCode false
set_option tactic.hygienic false
set_option linter.unusedVariables false
set_option maxRecDepth 100000
namespace Mine
open PySem PySem.W PyProof.Rows
variable {scr : List Int} {n : Nat}
noncomputable abbrev wBody : CSs := .cons (.ife (.cmp .ne (.call (.lit (.ext aWays)) (.cons (.loc 9) (.cons (.lst (.cons (.lit (.int 0)) .nil)) .nil))) (.call (.lit (.ext aTurns)) (.cons (.comp [] 0 2 (.loc 1) (.of (.loc 10)) .nil (.elt (.attr (.loc 1) 7))) .nil))) (.cons (.ret (.lit (.bool false))) .nil) .nil) .nil
theorem way_one {call : CallT} (C : La scr call) {cl : List Nat} {s lp lr w : Nat} {P : List Nat} {ts : List Nat} {T : List (List Nat × Nat)} {σ : Sto} {a b c d e f g x7 x8 x11 x12 : Option AV} {Q : Fl → St → Prop} (hP : P.length = 6) (h1 : σ[lp]? = some (.list (P.map I))) (h2 : σ[lr]? = some (.list (ts.map .loc))) (h3 : All2 (IsT s σ) ts T) (hF : ∀ t ∈ T, TyF t.1 ∧ t.2 ≠ 9) (hT : T.length ≤ 100)
    (hw : waysF P 7 [0] = some w) (he : w = turnsN (T.map fun t => cntOf t.1) 1) (q : ∀ σ', Ext [] σ σ' → Q .next ⟨lV a b c d e f g x7 x8 (some (.loc lp)) (some (.loc lr)) x11 x12, σ'⟩) :
    exs (TT scr) call cl wBody ⟨lV a b c d e f g x7 x8 (some (.loc lp)) (some (.loc lr)) x11 x12, σ⟩ Q := by
  refine an (le! rfl) ?_
  refine C.ways hP hw (le! rfl) (old _ h1) (new _ _ _) fun σ1 y1 => ?_
  have y : Ext [] σ σ1 := (Ext.app _).trans y1
  have y2 : Ext [] σ1 (σ1 ++ [AO.list []]) := Ext.app _
  refine r_on (it_list (y.ls0 h2)) ?_
  have hl := h3.length
  refine norm_in (s := s) (σ0 := σ1) (D := σ1.length) (y.ls0 h2) (Nat.le_refl _) ts T (vs := []) (cs := []) (h3.mono fun _ _ => IsT.ext y) y2 (new _ _ _) .nil (by simp; lia) fun σ2 x vs y3 l3 hN => ?_
  rw [List.nil_append] at hN
  refine C.turns l3 (hN.mono fun _ _ h => IsN.ext h y3) (fun x hx k hk => ?_) ?_
  · obtain ⟨t, ht, rfl⟩ := List.mem_map.mp hx
    exact Nat.le_trans ((hF t ht).1.c2 k hk) (le! rfl)
  subst he
  refine p_neg (c := (((turnsN (T.map fun t => cntOf t.1) 1 : Nat) : Int) != ((turnsN (T.map fun t => cntOf t.1) 1 : Nat) : Int)) = true) (by simp) ?_
  exact q σ2 (y.trans y3)
theorem l_ways {call : CallT} (C : La scr call) {s p c0 c1 lo lt : Nat} {P1 P2 : List Nat} {T1 T2 : List (List Nat × Nat)} {R : List Nat} {W : List (List Nat)} {w1 w2 : Nat} {σ : Sto} {a b e f g x7 x8 x9 x10 x11 x12 : Option AV} {r : CSs} {Q : Fl → St → Prop} (h : LS s p c0 c1 lo lt P1 P2 (T1 ++ T2) R W σ) (hF : ∀ t ∈ T1 ++ T2, TyF t.1 ∧ t.2 ≠ 9)
    (hP1 : P1.length = 6) (hP2 : P2.length = 6) (hT1 : T1.length = 6) (hT2 : T2.length = 6) (hw1 : waysF P1 7 [0] = some w1) (hw2 : waysF P2 7 [0] = some w2) (he1 : w1 = turnsN (T1.map fun t => cntOf t.1) 1) (he2 : w2 = turnsN (T2.map fun t => cntOf t.1) 1)
    (q : ∀ σ' x9 x10, Ext [] σ σ' → exs (TT scr) call [c0, c1] r ⟨lV a b (some (.loc lo)) (some (.loc lt)) e f g x7 x8 x9 x10 x11 x12, σ'⟩ Q) :
    exs (TT scr) call [c0, c1] (.cons (.for (.tup (.cons (.loc 9) (.cons (.loc 10) .nil))) (.of (.lst (.cons (.tup (.cons (.loc 2) (.cons (.supto (.cel 1) (.lit (.int 6))) .nil))) (.cons (.tup (.cons (.loc 3) (.cons (.sfrom (.cel 1) (.lit (.int 6))) .nil))) .nil)))) wBody) r) ⟨lV a b (some (.loc lo)) (some (.loc lt)) e f g x7 x8 x9 x10 x11 x12, σ⟩ Q := by
  obtain ⟨tl, t1, ts, t2, t3⟩ := h.told
  have hl := t3.length
  rw [List.length_append] at hl
  obtain ⟨s1, s2⟩ := t3.split
  rw [hT1] at s1 s2
  have hz : (ts.map AV.loc).length ≤ 4096 := by rw [List.length_map]; lia
  refine r_cell t1 (r_on (supto_list (k := 6) t2 hz (by decide)) (an (le! rfl) ?_))
  have y1 : Ext [] σ ((σ ++ [AO.list ((ts.map AV.loc).take 6)]) ++ [AO.tup [.loc lo, .loc σ.length]]) := (Ext.app _).appA _
  have m1 : ((σ ++ [AO.list ((ts.map AV.loc).take 6)]) ++ [AO.tup [.loc lo, .loc σ.length]])[σ.length]? = some (.list ((ts.take 6).map AV.loc)) := by rw [List.map_take]; exact old _ (new _ _ _)
  have m2 := new (σ ++ [AO.list ((ts.map AV.loc).take 6)]) (AO.tup [.loc lo, .loc σ.length]) []
  generalize (σ ++ [AO.list ((ts.map AV.loc).take 6)]) ++ [AO.tup [.loc lo, .loc σ.length]] = σ1 at *
  generalize (σ ++ [AO.list ((ts.map AV.loc).take 6)]).length = u1 at *
  generalize σ.length = v1 at *
  refine r_cell (y1.fz t1 rfl) (r_on (sfrom_list (k := 6) (y1.ls0 t2) hz (by decide)) (an (le! rfl) ?_))
  have y2 : Ext [] σ1 ((σ1 ++ [AO.list ((ts.map AV.loc).drop 6)]) ++ [AO.tup [.loc lt, .loc σ1.length]]) := (Ext.app _).appA _
  have n1 : ((σ1 ++ [AO.list ((ts.map AV.loc).drop 6)]) ++ [AO.tup [.loc lt, .loc σ1.length]])[σ1.length]? = some (.list ((ts.drop 6).map AV.loc)) := by rw [List.map_drop]; exact old _ (new _ _ _)
  have n2 := new (σ1 ++ [AO.list ((ts.map AV.loc).drop 6)]) (AO.tup [.loc lt, .loc σ1.length]) []
  refine an (le! rfl) ?_
  generalize (σ1 ++ [AO.list ((ts.map AV.loc).drop 6)]) ++ [AO.tup [.loc lt, .loc σ1.length]] = σ2 at *
  generalize (σ1 ++ [AO.list ((ts.map AV.loc).drop 6)]).length = u2 at *
  generalize σ1.length = v2 at *
  refine r_on (it_list (new _ _ _)) ?_
  have y3 : Ext [] σ2 (σ2 ++ [AO.list [.loc u1, .loc u2]]) := Ext.app _
  have k3 := new σ2 (AO.list [.loc u1, .loc u2]) []
  have z : Ext [] σ (σ2 ++ [AO.list [.loc u1, .loc u2]]) := (y1.trans y2).trans y3
  have m1' := (y2.trans y3).ls0 m1
  have m2' := (y2.trans y3).fz m2 rfl
  have n1' := y3.ls0 n1
  have n2' := y3.fz n2 rfl
  refine an k3 (r_tup m2' (an rfl (an (lt! rfl) (an (lt! rfl) ?_))))
  refine way_one C hP1 (z.ls0 h.one) m1' (s1.mono fun _ _ => IsT.ext z) (fun t ht => hF t (List.mem_append_left _ ht)) (by lia) hw1 he1 fun σ3 y4 => ?_
  refine an (y4.ls0 k3) (r_tup (y4.fz n2' rfl) (an rfl (an (lt! rfl) (an (lt! rfl) ?_))))
  refine way_one C hP2 ((z.trans y4).ls0 h.two) (y4.ls0 n1') (s2.mono fun _ _ => IsT.ext (z.trans y4)) (fun t ht => hF t (List.mem_append_right _ ht)) (by lia) hw2 he2 fun σ4 y5 => ?_
  exact an (y5.ls0 (y4.ls0 k3)) (q σ4 _ _ ((z.trans y4).trans y5))
theorem l_end {call : CallT} (C : La scr call) {s p c0 c1 lo lt r1 r2 : Nat} {P1 P2 : List Nat} {T : List (List Nat × Nat)} {W : List (List Nat)} {w5 w11 : List Nat} {σ : Sto} {a b c d e g x7 x8 x9 x10 x11 x12 : Option AV} {Q : AV → Sto → Prop} (h : LS s p c0 c1 lo lt P1 P2 T [r1, r2] W σ) (h5 : W[5]? = some w5) (h11 : W[11]? = some w11) (hr : (r1 == r2) = (w5 == w11)) (q : ∀ σ', Q (.bool true) σ') :
    exs (TT scr) call [c0, c1] (.cons (.asg (.loc 11) (.meth (.loc 5) 19 .nil)) (.cons (.asg (.loc 12) (.meth (.loc 5) 19 .nil)) (.cons (.ret (.and (.cmp .is (.cmp .eq (.loc 12) (.loc 11)) (.cmp .eq (.item (.cel 0) (.lit (.int 5))) (.item (.cel 0) (.lit (.int 11))))) (.cmp .eq (.meth (.loc 5) 19 .nil) (.tup (.cons (.lit (.str "")) (.cons (.lit (.str "")) .nil)))))) .nil))) ⟨lV a b c d e (some (.loc p)) g x7 x8 x9 x10 x11 x12, σ⟩ (runTail (TT scr) none Q) := by
  obtain ⟨xs, p1, p2⟩ := h.pl
  obtain ⟨li, i1, rs, i2, i3⟩ := h.into
  obtain ⟨l5, f1, f2⟩ := i3.get h5
  obtain ⟨l11, g1, g2⟩ := i3.get h11
  obtain ⟨x1, xs1, e1, q1, p3⟩ := p2.consr
  obtain ⟨x2, xs2, e2, q2, p4⟩ := p3.consr
  have e3 := p4.nilr
  subst e3 e2 e1
  obtain ⟨t1, rfl, j1⟩ := q1
  obtain ⟨t2, rfl, j2⟩ := q2
  have np : li ≠ p := fun e => by subst e; obtain ⟨d, e1, _⟩ := p1.out; rw [i2] at e1; cases e1
  have n5 : l5 ≠ p := fun e => by subst e; obtain ⟨d, e1, _⟩ := p1.out; rw [f2] at e1; cases e1
  have n11 : l11 ≠ p := fun e => by subst e; obtain ⟨d, e1, _⟩ := p1.out; rw [g2] at e1; cases e1
  refine r_on (m_pile p1 (by decide) rfl) (an rfl (C.pop (xs := [.loc t1]) (x := .loc t2) p1 (le! rfl) fun σ1 y1 p1' => an (lt! rfl) ?_))
  refine r_on (m_pile p1' (by decide) rfl) (an rfl (C.pop (xs := []) (x := .loc t1) p1' (le! rfl) fun σ2 y2 p2' => an (lt! rfl) ?_))
  have y := y1.trans y2
  have hb : ((S (List.replicate r1 32) == S (List.replicate r2 32) && S [9] == S [9]) == (w5 == w11)) = true := by
    rw [← hr, s_eq, beq_self_eq_true, Bool.and_true]
    have : (List.replicate r1 32 == List.replicate r2 32) = (r1 == r2) := by
      by_cases h : r1 = r2
      · subst h; simp
      · rw [beq_false_of_ne h, beq_false_of_ne (fun e => h (by have := congrArg List.length e; simpa using this))]
    rw [this, beq_self_eq_true]
  refine r_onB (eq_pairs (y.fz j1 rfl) (y.fz j2 rfl)) ?_
  refine r_cell (y.fz i1 rfl) (r_on (item_list (k := 5) (v := .loc l5) (y.ls i2 (by simpa using np)) (by rw [List.getElem?_map, f1]; rfl) (by decide)) (r_cell (y.fz i1 rfl) (r_on (item_list (k := 11) (v := .loc l11) (y.ls i2 (by simpa using np)) (by rw [List.getElem?_map, g1]; rfl) (by decide)) (r_onB (eq_lists (y.ls f2 (by simpa using n5)) (y.ls g2 (by simpa using n11))) ?_))))
  refine p_pos (c := ((S (List.replicate r1 32) == S (List.replicate r2 32) && S [9] == S [9]) == (w5 == w11)) = true) hb ?_
  refine r_on (m_pile p2' (by decide) rfl) (an rfl (C.pop0 p2' fun σ3 t y3 j3 => an (le! rfl) ?_))
  refine r_onB (eq_pairs (old _ j3) (new _ _ _)) ?_
  rw [show (S [] == ("" : Str) && S [] == ("" : Str)) = true from by rw [s_nil]; simp]
  exact q _
end Mine

set_option Elab.async false
set_option genSizeOf false
set_option genInjectivity false
set_option backward.match.sparseCases false
set_option bootstrap.genMatcherCode false
set_option tactic.hygienic false
set_option linter.unusedVariables false
set_option maxRecDepth 100000
namespace Mine
open PySem PySem.W PyProof.Rows
variable {scr : List Int} {n : Nat}
/-- what two trees answer -/
structure PairF (P1 P2 : List Nat) (K1 K2 : List (List Nat)) (T1 T2 : List (List Nat × Nat)) (r1 r2 : Nat) (W1 W2 : List (List Nat)) (w1 w2 : Nat) (x5 x11 : List Nat) : Prop where
  rd1 : rd (kidsN P1 6) 7 0 [] = some ((K1, T1), r1)
  rd2 : rd (kidsN P2 6) 7 0 K1 = some ((K2, T2), r2)
  in1 : intoO P1 = some W1
  in2 : intoO P2 = some W2
  wy1 : waysF P1 7 [0] = some w1
  wy2 : waysF P2 7 [0] = some w2
  tu1 : w1 = turnsN (T1.map fun t => cntOf t.1) 1
  tu2 : w2 = turnsN (T2.map fun t => cntOf t.1) 1
  lT1 : T1.length = 6
  lT2 : T2.length = 6
  lW1 : W1.length = 6
  lW2 : W2.length = 6
  ty : ∀ t ∈ T1 ++ T2, TyF t.1 ∧ t.2 ≠ 9
  eq : EqOk (T1 ++ T2) (W1 ++ W2)
  e5 : (W1 ++ W2)[5]? = some x5
  e11 : (W1 ++ W2)[11]? = some x11
  rk : (r1 == r2) = (x5 == x11)
noncomputable def PairOk (P1 P2 : List Nat) : Prop := ∃ K1 K2 T1 T2 r1 r2 W1 W2 w1 w2 x5 x11, PairF P1 P2 K1 K2 T1 T2 r1 r2 W1 W2 w1 w2 x5 x11
theorem par_len (p : Nat) : (parN p).length = 6 := rfl
theorem par_lt (p : Nat) : ∀ k, 1 ≤ k → k < 6 → (parN p).getD k 0 < k := by
  intro k h1 h2
  match k, h1, h2 with
  | 1, _, _ => exact Nat.zero_lt_one
  | 2, _, _ => show 1 - p % 2 < 2; omega
  | 3, _, _ => show 2 - p / 2 % 3 < 3; omega
  | 4, _, _ => show 3 - p / 6 % 3 < 4; omega
  | 5, _, _ => show 4 - p / 18 % 3 < 5; omega
theorem law_end {call : CallT} (C : La scr call) {s p c0 c1 lo lt : Nat} {P1 P2 : List Nat} {K1 K2 : List (List Nat)} {T1 T2 : List (List Nat × Nat)} {r1 r2 : Nat} {W1 W2 : List (List Nat)} {w1 w2 : Nat} {x5 x11 : List Nat} {σ : Sto} {a b e g : Option AV} {Q : AV → Sto → Prop} (hs : s ≤ 10) (F : PairF P1 P2 K1 K2 T1 T2 r1 r2 W1 W2 w1 w2 x5 x11) (hP1 : P1.length = 6) (hP2 : P2.length = 6) (h : LS s p c0 c1 lo lt P1 P2 (T1 ++ T2) [r1, r2] (W1 ++ W2) σ) (q : ∀ σ', Q (.bool true) σ') :
    exs (TT scr) call [c0, c1] (csDrop 10 fLaw.body) ⟨lV a b (some (.loc lo)) (some (.loc lt)) e (some (.loc p)) g none none none none none none, σ⟩ (runTail (TT scr) none Q) := by
  have lT : (T1 ++ T2).length = 12 := by rw [List.length_append, F.lT1, F.lT2]
  have lW : (W1 ++ W2).length = 12 := by rw [List.length_append, F.lW1, F.lW2]
  refine l_all C h lT lW F.eq fun σ1 y1 => ?_
  refine l_told C hs (h.ext y1) F.ty fun σ2 x7 x8 y2 => ?_
  have h2 := (h.ext y1).ext y2
  refine l_five C hs h2 lT F.ty fun σ3 y3 => ?_
  have h3 := h2.ext y3
  refine l_ways C h3 F.ty hP1 hP2 F.lT1 F.lT2 F.wy1 F.wy2 F.tu1 F.tu2 fun σ4 x9 x10 y4 => ?_
  exact l_end C (h3.ext y4) F.e5 F.e11 F.rk q
end Mine

set_option Elab.async false
set_option genSizeOf false
set_option genInjectivity false
set_option backward.match.sparseCases false
set_option bootstrap.genMatcherCode false
set_option tactic.hygienic false
set_option linter.unusedVariables false
set_option maxRecDepth 100000
namespace Mine
open PySem PySem.W PyProof.Rows
variable {scr : List Int} {n : Nat}
theorem fmod3 (c : Int) : ∃ s : Nat, c.fmod 3 = (s : Int) ∧ s ≤ 10 := by
  have h1 := Int.fmod_nonneg_of_pos c (show (0 : Int) < 3 by decide)
  have h2 := Int.fmod_lt_of_pos c (show (0 : Int) < 3 by decide)
  exact ⟨(c.fmod 3).toNat, by lia, by lia⟩
/-- before the reading -/
theorem law_open {call : CallT} (C : La scr call) {Q : Fl → St → Prop}
    (q : ∀ (σ : Sto) (a b : Int) (s lo lt p kl tl l : Nat), s ≤ 10 → σ[lo]? = some (.list ((parN (a.emod 54).toNat).map I)) → σ[lt]? = some (.list ((parN (b.emod 54).toNat).map I)) → IsP σ p [] → σ[kl]? = some (.list []) → σ[tl]? = some (.list []) → σ[0]? = some (.cell (some (.loc tl))) → (∃ o, σ[1]? = some (.cell o)) → lo < lt → lt < p → p < kl → kl < tl → 1 < lo →
      exs (TT scr) call [1, 0] (csDrop 7 fLaw.body) ⟨lV (some .scr) (some (.loc l)) (some (.loc lo)) (some (.loc lt)) (some (I s)) (some (.loc p)) (some (.loc kl)) none none none none none none, σ⟩ Q) :
    exs (TT scr) call [1, 0] fLaw.body ⟨lV (some .scr) none none none none none none none none none none none none, [AO.cell none, .cell none]⟩ Q := by
  have c0 : ([AO.cell none, .cell none] : Sto)[0]? = some (.cell none) := rfl
  have c1 : ([AO.cell none, .cell none] : Sto)[1]? = some (.cell none) := rfl
  have hlen : ([AO.cell none, .cell none] : Sto).length = 2 := rfl
  generalize ([AO.cell none, .cell none] : Sto) = σ0 at *
  refine C.drawn fun σ1 l a b c y1 h1 hl => an (lt! rfl) ?_
  refine r_on (item_list (k := 0) (v := .int a) h1 rfl (by decide)) (C.parents fun σ2 lo y2 h2 hlo => an (lt! rfl) ?_)
  refine r_on (item_list (k := 1) (v := .int b) (y2.ls0 h1) rfl (by decide)) (C.parents fun σ3 lt y3 h3 hlt => an (lt! rfl) ?_)
  refine r_on (item_list (k := 2) (v := .int c) (y3.ls0 (y2.ls0 h1)) rfl (by decide)) (an (by decide) (an (lt! rfl) ?_))
  obtain ⟨s, hs, hs10⟩ := fmod3 c
  rw [hs]
  refine C.pile fun σ4 p y4 hp h4 => an (lt! rfl) (an (le! rfl) (an (lt! rfl) ?_))
  have y : Ext [] σ0 σ4 := ((y1.trans y2).trans y3).trans y4
  have k1 := new σ4 (AO.list []) []
  have yy : Ext [] σ4 ((σ4 ++ [AO.list []]) ++ [AO.list []]) := (Ext.app _).appA _
  have k2 := new (σ4 ++ [AO.list []]) (AO.list []) []
  have k1' := old [AO.list []] k1
  have d0 := (y.trans yy).fz c0 rfl
  have d1 := (y.trans yy).fz c1 rfl
  refine an (le! rfl) (r_cset d0 ?_)
  have hlo : σ1.length ≤ lo := hlo
  have hlt : σ2.length ≤ lt := hlt
  have hp : σ3.length ≤ p := hp
  have hlo' := lt_of h2
  have hlt' := lt_of h3
  have hp' : p < σ4.length := by obtain ⟨d, e, _⟩ := h4.out; exact lt_of e
  have e0 := hit (.cell (some (.loc (σ4 ++ [AO.list []]).length))) d0
  have e1 := miss (.cell (some (.loc (σ4 ++ [AO.list []]).length))) d1 (by lia : 0 ≠ 1)
  have g2 := missK (.cell (some (.loc (σ4 ++ [AO.list []]).length))) d0 (yy.ls0 (y4.ls0 (y3.ls0 h2))) (fun e => nomatch e)
  have g3 := missK (.cell (some (.loc (σ4 ++ [AO.list []]).length))) d0 (yy.ls0 (y4.ls0 h3)) (fun e => nomatch e)
  have g4 : IsP (((σ4 ++ [AO.list []]) ++ [AO.list []]).set 0 (.cell (some (.loc (σ4 ++ [AO.list []]).length)))) p [] := by
    obtain ⟨d, e1, e2⟩ := h4.out
    exact ⟨d, missK _ d0 (yy.ls0 e1) (fun e => nomatch e), missK _ d0 (yy.fz e2 rfl) (fun e => nomatch e)⟩
  have m1 := missK (.cell (some (.loc (σ4 ++ [AO.list []]).length))) d0 k1' (fun e => nomatch e)
  have m2 := missK (.cell (some (.loc (σ4 ++ [AO.list []]).length))) d0 k2 (fun e => nomatch e)
  have z1 : σ0.length ≤ σ1.length := y1.len
  have z2 : σ0.length = 2 := hlen
  exact q _ a b s lo lt p σ4.length (σ4 ++ [AO.list []]).length l hs10 g2 g3 g4 m1 m2 e0 ⟨_, e1⟩ (by lia) (by lia) (by lia) (by simp) (by lia)
end Mine

set_option Elab.async false
set_option genSizeOf false
set_option genInjectivity false
set_option backward.match.sparseCases false
set_option bootstrap.genMatcherCode false
set_option tactic.hygienic false
set_option linter.unusedVariables false
set_option maxRecDepth 100000
namespace Mine
open PySem PySem.W PyProof.Rows
variable {scr : List Int} {n : Nat}
theorem law_mid {call : CallT} (C : La scr call) {s lo lt p kl tl l p1 p2 : Nat} {K1 K2 : List (List Nat)} {T1 T2 : List (List Nat × Nat)} {r1 r2 : Nat} {W1 W2 : List (List Nat)} {w1 w2 : Nat} {x5 x11 : List Nat} {σ : Sto} {Q : Fl → St → Prop} (hs : s ≤ 10) (F : PairF (parN p1) (parN p2) K1 K2 T1 T2 r1 r2 W1 W2 w1 w2 x5 x11)
    (h1 : σ[lo]? = some (.list ((parN p1).map I))) (h2 : σ[lt]? = some (.list ((parN p2).map I))) (hp : IsP σ p []) (hk : σ[kl]? = some (.list [])) (ht : σ[tl]? = some (.list [])) (c0 : σ[0]? = some (.cell (some (.loc tl)))) (c1 : ∃ o, σ[1]? = some (.cell o)) (g1 : lo < lt) (g2 : lt < p) (g3 : p < kl) (g4 : kl < tl)
    (q : ∀ σ', LS s p 1 0 lo lt (parN p1) (parN p2) (T1 ++ T2) [r1, r2] (W1 ++ W2) σ' → exs (TT scr) call [1, 0] (csDrop 10 fLaw.body) ⟨lV (some .scr) (some (.loc l)) (some (.loc lo)) (some (.loc lt)) (some (I s)) (some (.loc p)) (some (.loc kl)) none none none none none none, σ'⟩ Q) :
    exs (TT scr) call [1, 0] (csDrop 7 fLaw.body) ⟨lV (some .scr) (some (.loc l)) (some (.loc lo)) (some (.loc lt)) (some (I s)) (some (.loc p)) (some (.loc kl)) none none none none none none, σ⟩ Q := by
  obtain ⟨o1, c1⟩ := c1
  have gt := lt_of ht
  have R0 : RS s kl tl p [] [] [] σ := ⟨⟨[], hk, .nil⟩, ⟨[], ht, .nil⟩, ⟨[], hp, .nil⟩⟩
  have hX : ∀ {k : Nat}, k < p → k ∉ [kl, tl, p] := fun h => by simp; lia
  have hI : ∀ {τ : Sto} {ils : Nat → Nat}, σ.length ≤ τ.length → (∀ v < 6, τ.length ≤ ils v) → ∀ v < 6, ils v ∉ [kl, tl, p] := fun h h' v hv => by have := h' v hv; simp; lia
  refine C.tree (par_len _) (par_lt _) h1 fun σ1 els ils y1 hE hi => ?_
  refine r_cell (y1.fz c0 rfl) ?_
  have i1 : σ.length ≤ σ1.length := y1.len
  refine C.read (by lia) hs (hI (Nat.le_refl _) hi) (v := 0) (by decide) F.rd1 hE (R0.ext0 y1) (le! rfl) (by rw [F.lT1]; exact le! rfl) fun σ2 y2 R2 => ?_
  rw [List.nil_append] at R2
  have z2 : Ext [kl, tl, p] σ σ2 := y1.of0.trans y2
  have i2 : σ.length ≤ σ2.length := z2.len
  refine C.tree (par_len _) (par_lt _) (z2.ls h2 (hX (by lia))) fun σ3 els' ils' y3 hE' hi' => ?_
  refine r_cell ((z2.trans y3.of0).fz c0 rfl) ?_
  refine C.read (by lia) hs (hI (τ := σ2) i2 hi') (v := 0) (by decide) F.rd2 hE' (R2.ext0 y3) (le! rfl) (by rw [F.lT1, F.lT2]; exact le! rfl) fun σ4 y4 R4 => ?_
  have z4 : Ext [kl, tl, p] σ σ4 := (z2.trans y3.of0).trans y4
  have b1 := z4.ls h1 (hX (by lia))
  have b2 := z4.ls h2 (hX (by lia))
  have b3 := z4.fz c0 rfl
  have b4 := z4.fz c1 rfl
  refine C.into (par_len _) b1 F.in1 fun σ5 D1 y5 hD1 _ => ?_
  refine C.into (par_len _) (y5.ls0 b2) F.in2 fun σ6 D2 y6 hD2 _ => ?_
  obtain ⟨rs1, d1, d2⟩ := hD1
  obtain ⟨rs2, d3, d4⟩ := hD2
  have v1 := d2.length
  have v2 := d4.length
  refine r_list2 (y6.ls0 d1) d3 (an (by rw [List.length_map, List.length_map, v1, v2, F.lW1, F.lW2]; exact le! rfl) ?_)
  have y : Ext [] σ4 (σ6 ++ [AO.list (rs1.map .loc ++ rs2.map .loc)]) := (y5.trans y6).appA _
  have b4' := y.fz b4 rfl
  have m := new σ6 (AO.list (rs1.map .loc ++ rs2.map .loc)) []
  have R5 := R4.ext0 y
  have n0 : ∀ {k : Nat} {xs : List AV} (v : AO), (σ6 ++ [AO.list (rs1.map .loc ++ rs2.map .loc)])[k]? = some (.list xs) → ((σ6 ++ [AO.list (rs1.map .loc ++ rs2.map .loc)]).set 1 v)[k]? = some (.list xs) := fun v h => missK _ b4' h (fun e => nomatch e)
  refine r_cset b4' (q _ ?_)
  have y6' : Ext [] σ6 (σ6 ++ [AO.list (rs1.map .loc ++ rs2.map .loc)]) := Ext.app _
  obtain ⟨ts, t1, t2⟩ := R5.td
  obtain ⟨xs, p1, p2⟩ := R5.pl
  exact {
    one := n0 _ (y.ls0 b1)
    two := n0 _ (y.ls0 b2)
    told := ⟨tl, miss _ (y.fz b3 rfl) (by lia), ts, n0 _ t1, t2.mono fun _ _ h => by
      obtain ⟨d, kt, kc, sm, e1, e2, e3, e4⟩ := h.out
      exact ⟨d, kt, kc, sm, missK _ b4' e1 (fun e => nomatch e), missK _ b4' e2 (fun e => nomatch e), missK _ b4' e3 (fun e => nomatch e), missK _ b4' e4 (fun e => nomatch e)⟩⟩
    into := ⟨σ6.length, hit _ b4', rs1 ++ rs2, by rw [List.map_append]; exact n0 _ m, (d2.mono fun _ _ h => n0 _ (y6'.ls0 (y6.ls0 h))).app (d4.mono fun _ _ h => n0 _ (y6'.ls0 h))⟩
    pl := ⟨xs, (by
      obtain ⟨d, e1, e2⟩ := p1.out
      exact ⟨d, missK _ b4' e1 (fun e => nomatch e), missK _ b4' e2 (fun e => nomatch e)⟩), p2.mono fun _ _ ⟨t, e, h⟩ => ⟨t, e, missK _ b4' h (fun e => nomatch e)⟩⟩ }
/-- the law holds, whatever was drawn -/
theorem law_holds (hz : scr.length ≤ 63) (hF : ∀ p1 < 54, ∀ p2 < 54, PairOk (parN p1) (parN p2)) : Plain scr := by
  have C : La scr (callN (TT scr) 40) := la (n := 0) hz
  unfold Plain
  generalize callN (TT scr) 40 = call at *
  refine r_on (b := [.scr]) rfl ?_
  refine law_open C fun σ a b s lo lt p kl tl l hs h1 h2 hp hk ht c0 c1 g1 g2 g3 g4 _ => ?_
  have l54 : ∀ x : Int, (x.emod 54).toNat < 54 := fun x => by show (x % 54).toNat < 54; lia
  obtain ⟨K1, K2, T1, T2, r1, r2, W1, W2, w1, w2, x5, x11, F⟩ := hF _ (l54 a) _ (l54 b)
  refine law_mid C hs F h1 h2 hp hk ht c0 c1 g1 g2 g3 g4 fun σ' h => ?_
  exact law_end C hs F (par_len _) (par_len _) h fun _ => rfl
end Mine

set_option Elab.async false
set_option genSizeOf false
set_option genInjectivity false
set_option backward.match.sparseCases false
set_option bootstrap.genMatcherCode false
set_option tactic.hygienic false
set_option linter.unusedVariables false
set_option maxRecDepth 100000
namespace Mine
noncomputable def rowT : List (List Nat) := [[1, 0, 0, 0, 0, 0, 0, 0, 0], [1, 1, 0, 0, 0, 0, 1, 0, 0], [1, 1, 1, 0, 0, 0, 1, 1, 0], [1, 1, 1, 1, 0, 0, 1, 1, 1], [1, 1, 1, 1, 1, 0, 1, 1, 1], [1, 1, 1, 1, 1, 1, 1, 1, 1], [1, 2, 1, 1, 1, 0, 4, 1, 1], [1, 2, 1, 1, 0, 0, 4, 1, 1], [1, 1, 2, 1, 1, 0, 1, 4, 1], [1, 2, 2, 1, 0, 0, 4, 2, 1], [1, 3, 1, 1, 0, 0, 9, 1, 1], [1, 2, 1, 0, 0, 0, 4, 1, 0], [1, 1, 2, 1, 0, 0, 1, 4, 1], [1, 1, 1, 2, 1, 0, 1, 1, 4], [1, 2, 2, 1, 0, 0, 4, 4, 1], [1, 2, 2, 0, 0, 0, 4, 2, 0], [1, 1, 2, 2, 0, 0, 1, 4, 2], [1, 3, 1, 0, 0, 0, 9, 1, 0], [1, 1, 3, 1, 0, 0, 1, 9, 1], [1, 2, 0, 0, 0, 0, 4, 0, 0], [1, 1, 2, 0, 0, 0, 1, 4, 0], [1, 1, 1, 2, 0, 0, 1, 1, 4], [1, 1, 1, 1, 2, 0, 1, 1, 1], [1, 2, 1, 2, 0, 0, 4, 1, 4], [1, 2, 2, 0, 0, 0, 4, 4, 0], [1, 1, 2, 2, 0, 0, 1, 4, 4], [1, 2, 3, 0, 0, 0, 4, 5, 0], [1, 3, 2, 0, 0, 0, 9, 4, 0], [1, 3, 2, 0, 0, 0, 9, 2, 0], [1, 3, 0, 0, 0, 0, 9, 0, 0], [1, 1, 3, 0, 0, 0, 1, 9, 0], [1, 1, 1, 3, 0, 0, 1, 1, 9], [1, 2, 3, 0, 0, 0, 4, 9, 0]]
noncomputable def ixT : List (List Nat) := [[0, 1, 2, 3, 4, 5], [0, 0, 1, 2, 3, 6], [0, 0, 1, 2, 7, 8], [0, 1, 2, 3, 0, 6], [0, 1, 0, 1, 2, 9], [0, 0, 0, 1, 2, 10], [0, 0, 1, 11, 12, 13], [0, 0, 0, 1, 11, 14], [0, 1, 2, 0, 7, 8], [0, 1, 0, 1, 2, 9], [0, 1, 2, 3, 0, 6], [0, 0, 1, 2, 0, 10], [0, 1, 0, 1, 15, 16], [0, 1, 2, 0, 1, 9], [0, 0, 0, 1, 17, 18], [0, 0, 1, 11, 0, 14], [0, 0, 1, 11, 0, 14], [0, 1, 2, 0, 0, 10], [0, 0, 19, 20, 21, 22], [0, 0, 0, 19, 20, 23], [0, 0, 0, 19, 24, 25], [0, 0, 19, 20, 0, 23], [0, 1, 0, 0, 19, 26], [0, 0, 0, 0, 19, 27], [0, 1, 0, 11, 12, 13], [0, 0, 1, 0, 11, 14], [0, 1, 0, 1, 15, 16], [0, 1, 2, 0, 1, 9], [0, 1, 2, 0, 1, 9], [0, 0, 1, 0, 1, 28], [0, 1, 2, 0, 7, 8], [0, 1, 0, 1, 2, 9], [0, 0, 1, 0, 17, 18], [0, 1, 0, 11, 0, 14], [0, 0, 19, 0, 1, 26], [0, 1, 0, 0, 1, 28], [0, 1, 0, 11, 12, 13], [0, 0, 1, 0, 11, 14], [0, 1, 0, 1, 15, 16], [0, 1, 2, 0, 1, 9], [0, 1, 2, 0, 1, 9], [0, 0, 1, 0, 1, 28], [0, 0, 0, 29, 30, 31], [0, 0, 0, 0, 29, 32], [0, 0, 19, 0, 24, 25], [0, 1, 0, 0, 19, 26], [0, 0, 19, 20, 0, 23], [0, 0, 0, 19, 0, 27], [0, 0, 19, 0, 24, 25], [0, 1, 0, 0, 19, 26], [0, 1, 0, 0, 17, 18], [0, 0, 19, 0, 1, 26], [0, 1, 0, 11, 0, 14], [0, 1, 0, 1, 0, 28]]
noncomputable def wyT : List Nat := [1, 1, 1, 1, 1, 2, 1, 1, 1, 1, 1, 2, 2, 1, 2, 1, 1, 2, 2, 2, 2, 2, 2, 4, 1, 1, 2, 1, 1, 2, 1, 1, 2, 1, 2, 2, 1, 1, 2, 1, 1, 2, 6, 6, 2, 2, 2, 4, 2, 2, 2, 2, 1, 2]

noncomputable def rowN (k : Nat) : List Nat := rowT.getD k []
noncomputable def ixN (p : Nat) : List Nat := ixT.getD p []
noncomputable def wyN (p : Nat) : Nat := wyT.getD p 0
noncomputable def oneB (p : Nat) : Bool := (intoO (parN p) == some ((ixN p).map rowN)) && (waysF (parN p) 7 [0] == some (wyN p))
theorem one_all : (List.range 54).all oneB = true := by decide +kernel
noncomputable def distB : List (List Nat) → Bool
  | [] => true
  | x :: r => r.all (fun y => !(x == y)) && distB r
theorem row_dist : distB rowT = true := by decide +kernel
noncomputable def ixOk : Bool := ixT.all fun l => Nat.beq l.length 6 && l.all fun k => Nat.blt k rowT.length
theorem ix_ok : ixOk = true := by decide +kernel
noncomputable def tyB (rs : List Nat) : Bool := cntOf (unp 0 (cntOf rs)) == cntOf rs && (Nat.beq (unp 0 (cntOf rs)).length rs.length && (Nat.beq ((unp 0 (cntOf rs)).map (· + 1)).sum (rs.map (· + 1)).sum && (Nat.ble rs.length 4 && (rs.all (fun r => Nat.ble r 40) && (Nat.ble (cntOf rs).length 100 && (cntOf rs).all (fun r => Nat.ble r 100))))))
noncomputable def eqB (c : List Nat) (k : Nat) : List (List Nat × Nat) → List Nat → Bool
  | [], _ => true
  | _ :: _, [] => false
  | t :: T, j :: X => ((cntOf t.1 == c) == Nat.beq j k) && eqB c k T X
noncomputable def eqsB : List (List Nat × Nat) → List Nat → Bool
  | [], _ => true
  | _ :: _, [] => false
  | t :: T, k :: X => eqB (cntOf t.1) k T X && eqsB T X
noncomputable def pairB (p1 p2 : Nat) : Bool := match rd (kidsN (parN p1) 6) 7 0 [] with
  | none => false
  | some ((K1, T1), r1) => match rd (kidsN (parN p2) 6) 7 0 K1 with
    | none => false
    | some ((K2, T2), r2) => Nat.beq (wyN p1) (turnsN (T1.map fun t => cntOf t.1) 1) && (Nat.beq (wyN p2) (turnsN (T2.map fun t => cntOf t.1) 1) && (Nat.beq T1.length 6 && (Nat.beq T2.length 6 && ((T1 ++ T2).all (fun t => tyB t.1 && !Nat.beq t.2 9) && (eqsB (T1 ++ T2) (ixN p1 ++ ixN p2) && (Nat.beq r1 r2 == Nat.beq ((ixN p1).getD 5 0) ((ixN p2).getD 5 0)))))))
noncomputable def rowB (p : Nat) : Bool := (List.range 54).all fun q => pairB p q
theorem rows0 : (List.range' 0 3).all rowB = true := by decide +kernel
theorem rows3 : (List.range' 3 3).all rowB = true := by decide +kernel
theorem rows6 : (List.range' 6 3).all rowB = true := by decide +kernel
theorem rows9 : (List.range' 9 3).all rowB = true := by decide +kernel
theorem rows12 : (List.range' 12 3).all rowB = true := by decide +kernel
theorem rows15 : (List.range' 15 3).all rowB = true := by decide +kernel
theorem rows18 : (List.range' 18 3).all rowB = true := by decide +kernel
theorem rows21 : (List.range' 21 3).all rowB = true := by decide +kernel
theorem rows24 : (List.range' 24 3).all rowB = true := by decide +kernel
theorem rows27 : (List.range' 27 3).all rowB = true := by decide +kernel
theorem rows30 : (List.range' 30 3).all rowB = true := by decide +kernel
theorem rows33 : (List.range' 33 3).all rowB = true := by decide +kernel
theorem rows36 : (List.range' 36 3).all rowB = true := by decide +kernel
theorem rows39 : (List.range' 39 3).all rowB = true := by decide +kernel
theorem rows42 : (List.range' 42 3).all rowB = true := by decide +kernel
theorem rows45 : (List.range' 45 3).all rowB = true := by decide +kernel
theorem rows48 : (List.range' 48 3).all rowB = true := by decide +kernel
theorem rows51 : (List.range' 51 3).all rowB = true := by decide +kernel
theorem pair_all : (List.range 54).all (fun p => (List.range 54).all (fun q => pairB p q)) = true := by
  show (List.range' 0 3 ++ (List.range' 3 3 ++ (List.range' 6 3 ++ (List.range' 9 3 ++ (List.range' 12 3 ++ (List.range' 15 3 ++ (List.range' 18 3 ++ (List.range' 21 3 ++ (List.range' 24 3 ++ (List.range' 27 3 ++ (List.range' 30 3 ++ (List.range' 33 3 ++ (List.range' 36 3 ++ (List.range' 39 3 ++ (List.range' 42 3 ++ (List.range' 45 3 ++ (List.range' 48 3 ++ (List.range' 51 3)))))))))))))))))).all rowB = true
  rw [List.all_append, rows0, List.all_append, rows3, List.all_append, rows6, List.all_append, rows9, List.all_append, rows12, List.all_append, rows15, List.all_append, rows18, List.all_append, rows21, List.all_append, rows24, List.all_append, rows27, List.all_append, rows30, List.all_append, rows33, List.all_append, rows36, List.all_append, rows39, List.all_append, rows42, List.all_append, rows45, List.all_append, rows48, rows51]; rfl
end Mine

set_option Elab.async false
set_option genSizeOf false
set_option genInjectivity false
set_option backward.match.sparseCases false
set_option bootstrap.genMatcherCode false
set_option tactic.hygienic false
set_option linter.unusedVariables false
set_option maxRecDepth 100000
namespace Mine
theorem nbeq (a b : Nat) : (a == b) = Nat.beq a b := by
  by_cases h : a = b
  · subst h; rw [beq_self_eq_true]; exact (Nat.beq_refl a).symm
  · rw [beq_false_of_ne h]
    cases e : Nat.beq a b with
    | false => rfl
    | true => exact absurd (Nat.eq_of_beq_eq_true e) h
theorem nbeq_comm (a b : Nat) : Nat.beq a b = Nat.beq b a := by
  rw [← nbeq, ← nbeq]
  by_cases h : a = b
  · rw [h]
  · rw [beq_false_of_ne h, beq_false_of_ne (Ne.symm h)]
theorem lbeq_comm (a b : List Nat) : (a == b) = (b == a) := by
  by_cases h : a = b
  · rw [h]
  · rw [beq_false_of_ne h, beq_false_of_ne (Ne.symm h)]
theorem eqB_get {c : List Nat} {k : Nat} : ∀ {T : List (List Nat × Nat)} {X : List Nat}, eqB c k T X = true → ∀ {j : Nat} {t : List Nat × Nat} {x : Nat}, T[j]? = some t → X[j]? = some x → (cntOf t.1 == c) = Nat.beq x k
  | [], _, _, j, t, x, h1, h2 => by cases h1
  | _ :: _, [], _, j, t, x, h1, h2 => by cases h2
  | _ :: T, _ :: X, h, 0, t, x, h1, h2 => by
    cases h1; cases h2
    rw [eqB, Bool.and_eq_true] at h
    exact eq_of_beq h.1
  | _ :: T, _ :: X, h, j + 1, t, x, h1, h2 => by
    rw [eqB, Bool.and_eq_true] at h
    exact eqB_get h.2 (by simpa using h1) (by simpa using h2)
theorem eqsB_get : ∀ {T : List (List Nat × Nat)} {X : List Nat}, eqsB T X = true → ∀ {i j : Nat} {t u : List Nat × Nat} {a b : Nat}, i < j → T[i]? = some t → T[j]? = some u → X[i]? = some a → X[j]? = some b → (cntOf u.1 == cntOf t.1) = Nat.beq b a
  | [], _, _, i, j, t, u, a, b, _, h1, _, _, _ => by cases h1
  | _ :: _, [], _, i, j, t, u, a, b, _, _, _, h3, _ => by cases h3
  | _ :: T, _ :: X, h, 0, j + 1, t, u, a, b, _, h1, h2, h3, h4 => by
    cases h1; cases h3
    rw [eqsB, Bool.and_eq_true] at h
    exact eqB_get h.1 (by simpa using h2) (by simpa using h4)
  | _ :: T, _ :: X, h, i + 1, j + 1, t, u, a, b, hij, h1, h2, h3, h4 => by
    rw [eqsB, Bool.and_eq_true] at h
    exact eqsB_get h.2 (i := i) (j := j) (by lia) (by simpa using h1) (by simpa using h2) (by simpa using h3) (by simpa using h4)
theorem dist_get : ∀ {L : List (List Nat)}, distB L = true → ∀ {i j : Nat} {x y : List Nat}, i < j → L[i]? = some x → L[j]? = some y → (x == y) = false
  | [], _, i, j, x, y, _, h1, _ => by cases h1
  | z :: L, h, 0, j + 1, x, y, _, h1, h2 => by
    cases h1
    rw [distB, Bool.and_eq_true, List.all_eq_true] at h
    simpa using h.1 y (List.mem_of_getElem? (by simpa using h2))
  | z :: L, h, i + 1, j + 1, x, y, hij, h1, h2 => by
    rw [distB, Bool.and_eq_true] at h
    exact dist_get h.2 (i := i) (j := j) (by lia) (by simpa using h1) (by simpa using h2)
theorem getD_some {α : Type} {l : List α} {k : Nat} (d : α) (h : k < l.length) : l[k]? = some (l.getD k d) := by rw [List.getD_eq_getElem?_getD, List.getElem?_eq_getElem h]; rfl
theorem row_eq {a b : Nat} (ha : a < rowT.length) (hb : b < rowT.length) : (rowN a == rowN b) = Nat.beq a b := by
  rw [← nbeq]
  have ga := getD_some (l := rowT) [] ha
  have gb := getD_some (l := rowT) [] hb
  rcases Nat.lt_trichotomy a b with h | h | h
  · rw [beq_false_of_ne (by lia : a ≠ b)]; exact dist_get row_dist h ga gb
  · subst h; simp
  · rw [beq_false_of_ne (by lia : a ≠ b), lbeq_comm]; exact dist_get row_dist h gb ga
theorem ixN_ok {p : Nat} (hp : p < 54) : (ixN p).length = 6 ∧ ∀ k ∈ ixN p, k < rowT.length := by
  have h := ix_ok
  unfold ixOk at h
  rw [List.all_eq_true] at h
  have hl : ixT.length = 54 := by decide +kernel
  have := h (ixN p) (List.mem_of_getElem? (getD_some (l := ixT) [] (by lia)))
  rw [Bool.and_eq_true, List.all_eq_true] at this
  exact ⟨Nat.eq_of_beq_eq_true this.1, fun k hk => Nat.le_of_ble_eq_true (this.2 k hk)⟩
theorem eq_ok {T : List (List Nat × Nat)} {X : List Nat} (h : eqsB T X = true) (hX : ∀ k ∈ X, k < rowT.length) : EqOk T (X.map rowN) := by
  intro i j t u x y h1 h2 h3 h4
  rw [List.getElem?_map] at h3 h4
  obtain ⟨a, ha, rfl⟩ := Option.map_eq_some_iff.mp h3
  obtain ⟨b, hb, rfl⟩ := Option.map_eq_some_iff.mp h4
  rw [row_eq (hX a (List.mem_of_getElem? ha)) (hX b (List.mem_of_getElem? hb))]
  rcases Nat.lt_trichotomy i j with g | g | g
  · rw [lbeq_comm, nbeq_comm]; exact eqsB_get h g h1 h2 ha hb
  · subst g
    rw [h1] at h2; rw [ha] at hb; cases h2; cases hb
    rw [← nbeq]; simp
  · exact eqsB_get h g h2 h1 hb ha
theorem ty_of {rs : List Nat} (h : tyB rs = true) : TyF rs := by
  unfold tyB at h
  simp only [Bool.and_eq_true, List.all_eq_true] at h
  obtain ⟨a, b, c, d, e, f, g⟩ := h
  exact ⟨eq_of_beq a, Nat.eq_of_beq_eq_true b, Nat.eq_of_beq_eq_true c, ⟨Nat.le_of_ble_eq_true d, fun r hr => Nat.le_of_ble_eq_true (e r hr)⟩, Nat.le_of_ble_eq_true f, fun r hr => Nat.le_of_ble_eq_true (g r hr)⟩
theorem one_ok {p : Nat} (hp : p < 54) : intoO (parN p) = some ((ixN p).map rowN) ∧ waysF (parN p) 7 [0] = some (wyN p) := by
  have h := one_all
  rw [List.all_eq_true] at h
  have := h p (List.mem_range.mpr hp)
  unfold oneB at this
  rw [Bool.and_eq_true] at this
  exact ⟨eq_of_beq this.1, eq_of_beq this.2⟩
set_option tactic.hygienic true in
theorem pair_ok {p q : Nat} (hp : p < 54) (hq : q < 54) : PairOk (parN p) (parN q) := by
  have h := pair_all
  rw [List.all_eq_true] at h
  have h := h p (List.mem_range.mpr hp)
  rw [List.all_eq_true] at h
  have h := h q (List.mem_range.mpr hq)
  unfold pairB at h
  split at h
  · cases h
  rename_i K1 T1 r1 e1
  split at h
  · cases h
  rename_i K2 T2 r2 e2
  simp only [Bool.and_eq_true, List.all_eq_true] at h
  obtain ⟨a1, a2, a3, a4, a5, a6, a7⟩ := h
  obtain ⟨b1, b2⟩ := ixN_ok hp
  obtain ⟨c1, c2⟩ := ixN_ok hq
  obtain ⟨d1, d2⟩ := one_ok hp
  obtain ⟨f1, f2⟩ := one_ok hq
  have g1 := getD_some (l := ixN p) (k := 5) 0 (by lia)
  have g2 := getD_some (l := ixN q) (k := 5) 0 (by lia)
  refine ⟨K1, K2, T1, T2, r1, r2, (ixN p).map rowN, (ixN q).map rowN, wyN p, wyN q, rowN ((ixN p).getD 5 0), rowN ((ixN q).getD 5 0), e1, e2, d1, f1, d2, f2, Nat.eq_of_beq_eq_true a1, Nat.eq_of_beq_eq_true a2, Nat.eq_of_beq_eq_true a3, Nat.eq_of_beq_eq_true a4, by rw [List.length_map, b1], by rw [List.length_map, c1], fun t ht => ?_, ?_, ?_, ?_, ?_⟩
  · have := a5 t ht
    refine ⟨ty_of this.1, fun e => ?_⟩
    have := this.2
    rw [e] at this; cases this
  · rw [← List.map_append]
    exact eq_ok a6 fun k hk => (List.mem_append.mp hk).elim (b2 k) (c2 k)
  · rw [List.getElem?_append_left (by rw [List.length_map]; lia), List.getElem?_map, g1]; rfl
  · rw [List.getElem?_append_right (by rw [List.length_map]; lia), List.length_map, b1, List.getElem?_map, show 11 - 6 = 5 from rfl, g2]; rfl
  · rw [row_eq (b2 _ (List.mem_of_getElem? g1)) (c2 _ (List.mem_of_getElem? g2)), nbeq]
    exact eq_of_beq a7
end Mine

set_option Elab.async false
set_option genSizeOf false
set_option genInjectivity false
set_option backward.match.sparseCases false
set_option bootstrap.genMatcherCode false
set_option tactic.hygienic false
namespace Mine
open PySem PySem.W PyProof.Rows
theorem all_holds : PySem.Challenge.rw_xc0024_02.Holds := hd fun ns hz => law_holds hz fun p1 h1 p2 h2 => pair_ok h1 h2
end Mine
theorem PySem.Challenge.cw_xc0024_02_holds : PySem.Challenge.rw_xc0024_02.Holds :=
  Mine.all_holds
