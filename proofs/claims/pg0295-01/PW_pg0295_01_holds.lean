import PyProof.Rows.All
import Wide.All
import OpenK.AllK
import Wide.FinOn
import KE.KWords
import Lean
import PySem.Challenge.RW_pg0295_01
open PySem PySem.W PyProof.Rows
set_option Elab.async false
set_option maxRecDepth 100000
set_option linter.unusedVariables false
set_option compiler.extract_closed false
set_option maxHeartbeats 1000000
set_option tactic.hygienic false
namespace Mine
local macro_rules | `(tactic| omega) => `(tactic| lia)
section
inductive PV where
 | none | bool (b : Bool) | int (i : Int) | str (s : Str) | tup (l : List PV) | ref (i : Nat) | sta (v : Value) | rng (a b c : Int)
 deriving Inhabited
theorem len1 {α : Type} {l : List α} (h : l.length = 1) : ∃ a, l = [a] := List.length_eq_one_iff.mp h
theorem len2 {α : Type} {l : List α} (h : l.length = 2) : ∃ a b, l = [a, b] := by
 cases l with
 | nil => cases h
 | cons a l => obtain ⟨b, rfl⟩ := len1 (Nat.succ.inj h); exact ⟨a, b, rfl⟩
theorem len3 {α : Type} {l : List α} (h : l.length = 3) : ∃ a b c, l = [a, b, c] := by
 cases l with
 | nil => cases h
 | cons a l => obtain ⟨b, c, rfl⟩ := len2 (Nat.succ.inj h); exact ⟨a, b, c, rfl⟩
@[elab_as_elim] theorem lts5 {P : Nat → Prop} {i : Nat} (h : i < 5) (h0 : P 0) (h1 : P 1) (h2 : P 2) (h3 : P 3) (h4 : P 4) : P i :=
 match i, h with
 | 0, _ => h0 | 1, _ => h1 | 2, _ => h2 | 3, _ => h3 | 4, _ => h4 | _ + 5, h => absurd h (Nat.not_lt_of_le (Nat.le_add_left 5 _))
@[elab_as_elim] theorem lts6 {P : Nat → Prop} {i : Nat} (h : i < 6) (h0 : P 0) (h1 : P 1) (h2 : P 2) (h3 : P 3) (h4 : P 4) (h5 : P 5) : P i :=
 (Nat.lt_or_eq_of_le (Nat.le_of_lt_succ h)).elim (fun h => lts5 h h0 h1 h2 h3 h4) fun e => e ▸ h5
noncomputable abbrev Loc := List (Str × PV)
inductive Ob where
 | list (xs : List PV)
 | dict (m : List (Str × PV))
 | inst (c : Addr) (i : Nat)
 | ns (m : List (Str × PV))
 deriving Inhabited
noncomputable abbrev Sto := List Ob
set_option genInjectivity false
set_option genSizeOf false
structure Cx where
 prog : Program
 w : World
 S0 : Shared
 mg : Str → Option Value
 mb : Str → Option Value
 g : S0.heap.Ns mainGlobals mg
 b : S0.heap.Ns builtinsNs mb
 lim : S0.heap.NoLimit
 gens : S0.gens = #[]
noncomputable abbrev tupO (vs : List Value) : Obj := { cls := .type "tuple", data := .seq vs.toArray }
noncomputable abbrev listO (vs : List Value) (n : Nat) : Obj := { cls := .type "list", data := .seq vs.toArray n }
noncomputable abbrev rngO (a b c : Int) (t u v : Tok) : Obj := { cls := .type "range", data := .fields #[.int a t, .int b u, .int c v] }
mutual
inductive Rep (h : Heap) (ρ : List Addr) : PV → Value → Prop
 | none : Rep h ρ .none .none
 | bool (b) : Rep h ρ (.bool b) (.bool b)
 | int (i t) : Rep h ρ (.int i) (.int i t)
 | str (x t) : Rep h ρ (.str x) (.str x t)
 | ref (i a) : ρ[i]? = some a → Rep h ρ (.ref i) (.ref a)
 | sta (v) : Rep h ρ (.sta v) v
 | rng (a b c x t u v) : x ∉ ρ → h.get? x = some (rngO a b c t u v) → Rep h ρ (.rng a b c) (.ref x)
 | tup (l a vs) : a ∉ ρ → h.get? a = some (tupO vs) → RepL h ρ l vs → Rep h ρ (.tup l) (.ref a)
inductive RepL (h : Heap) (ρ : List Addr) : List PV → List Value → Prop
 | nil : RepL h ρ [] []
 | cons (p v l vs) : Rep h ρ p v → RepL h ρ l vs → RepL h ρ (p :: l) (v :: vs)
end
noncomputable def RepI (h : Heap) (ρ : List Addr) (v : Value) : PV → Prop
 | .none => v = .none
 | .bool b => v = .bool b
 | .int i => ∃ t, v = .int i t
 | .str x => ∃ t, v = .str x t
 | .ref i => ∃ a, v = .ref a ∧ ρ[i]? = some a
 | .sta u => v = u
 | .rng a b c => ∃ x t u w, v = .ref x ∧ x ∉ ρ ∧ h.get? x = some (rngO a b c t u w)
 | .tup l => ∃ a vs, v = .ref a ∧ a ∉ ρ ∧ h.get? a = some (tupO vs) ∧ RepL h ρ l vs
theorem Rep.inv {h : Heap} {ρ : List Addr} {p : PV} {v : Value} (r : Rep h ρ p v) : RepI h ρ v p := by
 cases r with
 | none => rfl
 | bool b => rfl
 | int i t => exact ⟨t, rfl⟩
 | str x t => exact ⟨t, rfl⟩
 | ref i a e => exact ⟨a, rfl, e⟩
 | sta v => rfl
 | rng a b c x t u w n e => exact ⟨x, t, u, w, rfl, n, e⟩
 | tup l a vs n e q => exact ⟨a, vs, rfl, n, e, q⟩
noncomputable def RepJ (h : Heap) (ρ : List Addr) (vs : List Value) : List PV → Prop
 | [] => vs = []
 | p :: l => ∃ v us, vs = v :: us ∧ Rep h ρ p v ∧ RepL h ρ l us
theorem RepL.inv {h : Heap} {ρ : List Addr} {l : List PV} {vs : List Value} (r : RepL h ρ l vs) : RepJ h ρ vs l := by
 cases r with
 | nil => rfl
 | cons p v l vs a b => exact ⟨v, vs, rfl, a, b⟩
noncomputable def RepF (h : Heap) (ρ : List Addr) (m : List (Str × PV)) (f : Str → Option Value) : Prop :=
 (∀ x pv, m.lookup x = some pv → ∃ v, f x = some v ∧ Rep h ρ pv v) ∧ ∀ x, m.lookup x = none → f x = none
structure Go (W ρ : List Addr) (h : Heap) (ρ' : List Addr) (h' : Heap) : Prop where
 size : h.objs.size ≤ h'.objs.size
 ext : ∃ new, ρ' = ρ ++ new ∧ ∀ a ∈ new, h.objs.size ≤ a
 keep : ∀ a o, a ∉ ρ → a ∉ W → h.get? a = some o → h'.get? a = some o
theorem Go.refl (W ρ : List Addr) (h : Heap) : Go W ρ h ρ h := ⟨Nat.le_refl _, ⟨[], by simp, by simp⟩, fun _ _ _ _ e => e⟩
theorem lt_size_of {h : Heap} {a : Addr} {o : Obj} (e : h.get? a = some o) : a < h.objs.size := Heap.lt_size e
theorem Go.trans {W ρ ρ' ρ'' : List Addr} {h h' h'' : Heap} (x : Go W ρ h ρ' h') (y : Go W ρ' h' ρ'' h'') : Go W ρ h ρ'' h'' := by
 obtain ⟨n1, e1, f1⟩ := x.ext
 obtain ⟨n2, e2, f2⟩ := y.ext
 refine ⟨Nat.le_trans x.size y.size, ⟨n1 ++ n2, by rw [e2, e1, List.append_assoc], fun a ha => ?_⟩, fun a o h1 h2 e => ?_⟩
 ·rcases List.mem_append.mp ha with q | q
  ·exact f1 a q
  ·exact Nat.le_trans x.size (f2 a q)
 ·refine y.keep a o (fun q => ?_) h2 (x.keep a o h1 h2 e)
  rw [e1] at q
  rcases List.mem_append.mp q with q | q
  ·exact h1 q
  ·exact Nat.lt_irrefl _ (Nat.lt_of_lt_of_le (lt_size_of e) (f1 a q))
theorem Go.weaken {W W' ρ ρ' : List Addr} {h h' : Heap} (x : Go W ρ h ρ' h') (hw : ∀ a ∈ W, a ∈ W' ∨ h.objs.size ≤ a) : Go W' ρ h ρ' h' :=
 ⟨x.size, x.ext, fun a o h1 h2 e => x.keep a o h1 (fun q => (hw a q).elim h2 fun q => Nat.lt_irrefl _ (Nat.lt_of_lt_of_le (lt_size_of e) q)) e⟩
theorem Go.nil {W ρ ρ' : List Addr} {h h' : Heap} (x : Go [] ρ h ρ' h') : Go W ρ h ρ' h' := x.weaken fun _ q => by cases q
theorem Go.idx {W ρ ρ' : List Addr} {h h' : Heap} (x : Go W ρ h ρ' h') {i : Nat} {a : Addr} (e : ρ[i]? = some a) : ρ'[i]? = some a := by
 obtain ⟨new, rfl, _⟩ := x.ext
 obtain ⟨hi, _⟩ := List.getElem?_eq_some_iff.mp e
 rw [List.getElem?_append_left hi]; exact e
theorem Go.nin {W ρ ρ' : List Addr} {h h' : Heap} (x : Go W ρ h ρ' h') {a : Addr} (n : a ∉ ρ) (lt : a < h.objs.size) : a ∉ ρ' := by
 obtain ⟨new, rfl, f⟩ := x.ext
 intro q
 rcases List.mem_append.mp q with q | q
 ·exact n q
 ·exact Nat.lt_irrefl _ (Nat.lt_of_lt_of_le lt (f a q))
noncomputable def Fz (o : Obj) : Prop := (∃ xs n, o.data = .seq xs n) ∨ (o.cls = .type "range" ∧ ∃ vs, o.data = .fields vs)
noncomputable def NotSeq (h : Heap) (a : Addr) : Prop := ∀ o, h.get? a = some o → ¬ Fz o
theorem notFz_dict {o : Obj} {es ep} (hd : o.data = .dict es ep) : ¬ Fz o := by rintro (⟨xs, n, q⟩ | ⟨_, vs, q⟩) <;> (rw [hd] at q; cases q)
theorem notFz_cell {o : Obj} {v} (hd : o.data = .cell v) : ¬ Fz o := by rintro (⟨xs, n, q⟩ | ⟨_, vs, q⟩) <;> (rw [hd] at q; cases q)
theorem notFz_it {o : Obj} {T : String} {vs} (hc : o.cls = .type T) (hd : o.data = .fields vs) (hT : T ≠ "range" := by decide) : ¬ Fz o := by
 rintro (⟨xs, n, q⟩ | ⟨q, _⟩)
 ·rw [hd] at q; cases q
 ·rw [hc] at q; cases q; exact hT rfl
section
variable {W ρ ρ' : List Addr} {h h' : Heap}
theorem Rep.goB (x : Go W ρ h ρ' h') (hw : ∀ a ∈ W, NotSeq h a) : (∀ p v, Rep h ρ p v → Rep h' ρ' p v) ∧ ∀ l vs, RepL h ρ l vs → RepL h' ρ' l vs :=
 have r := fun y a b c t u v (n : y ∉ ρ) (e : h.get? y = some (rngO a b c t u v)) => Rep.rng (h := h') (ρ := ρ') a b c y t u v (x.nin n (lt_size_of e)) (x.keep y _ n (fun q => hw y q _ e (.inr ⟨rfl, _, rfl⟩)) e)
 have t := fun l a vs (n : a ∉ ρ) (e : h.get? a = some (tupO vs)) (_ : RepL h ρ l vs) (q : RepL h' ρ' l vs) => Rep.tup l a vs (x.nin n (lt_size_of e)) (x.keep a _ n (fun q => hw a q _ e (.inl ⟨_, _, rfl⟩)) e) q
 ⟨fun p v q => Rep.rec (motive_1 := fun p v _ => Rep h' ρ' p v) (motive_2 := fun l vs _ => RepL h' ρ' l vs) .none .bool .int .str (fun i a e => .ref i a (x.idx e)) .sta (fun a b c y t u v n e => r y a b c t u v n e) t .nil (fun p v l vs _ _ a b => .cons p v l vs a b) q,
  fun l vs q => RepL.rec (motive_1 := fun p v _ => Rep h' ρ' p v) (motive_2 := fun l vs _ => RepL h' ρ' l vs) .none .bool .int .str (fun i a e => .ref i a (x.idx e)) .sta (fun a b c y t u v n e => r y a b c t u v n e) t .nil (fun p v l vs _ _ a b => .cons p v l vs a b) q⟩
theorem Rep.go (x : Go W ρ h ρ' h') (hw : ∀ a ∈ W, NotSeq h a) {p : PV} {v : Value} (q : Rep h ρ p v) : Rep h' ρ' p v := (Rep.goB x hw).1 p v q
theorem RepL.go (x : Go W ρ h ρ' h') (hw : ∀ a ∈ W, NotSeq h a) {l : List PV} {vs : List Value} (q : RepL h ρ l vs) : RepL h' ρ' l vs := (Rep.goB x hw).2 l vs q
end
theorem Rep.go0 {ρ ρ' : List Addr} {h h' : Heap} {p : PV} {v : Value} (r : Rep h ρ p v) (x : Go [] ρ h ρ' h') : Rep h' ρ' p v := Rep.go x (fun _ q => by cases q) r
theorem RepL.go0 {ρ ρ' : List Addr} {h h' : Heap} {l : List PV} {vs : List Value} (r : RepL h ρ l vs) (x : Go [] ρ h ρ' h') : RepL h' ρ' l vs := RepL.go x (fun _ q => by cases q) r
section
variable {h : Heap} {ρ : List Addr}
theorem RepL.length {l : List PV} : ∀ {vs : List Value}, RepL h ρ l vs → vs.length = l.length := by
 induction l with
 | nil => intro vs r; cases (show vs = [] from r.inv); rfl
 | cons p l ih => intro vs r; obtain ⟨v, us, rfl, a, b⟩ := r.inv; exact congrArg (· + 1) (ih b)
theorem RepL.get {l : List PV} : ∀ {vs : List Value}, RepL h ρ l vs → ∀ {i : Nat} {p : PV}, l[i]? = some p → ∃ v, vs[i]? = some v ∧ Rep h ρ p v := by
 induction l with
 | nil => intro vs r i p e; cases e
 | cons q l ih =>
  intro vs r i p e
  obtain ⟨v, us, rfl, a, b⟩ := r.inv
  cases i with
  | zero => cases e; exact ⟨v, rfl, a⟩
  | succ i => exact ih b (i := i) e
theorem RepL.get' {l : List PV} : ∀ {vs : List Value}, RepL h ρ l vs → ∀ {i : Nat} {v : Value}, vs[i]? = some v → ∃ p, l[i]? = some p ∧ Rep h ρ p v := by
 induction l with
 | nil => intro vs r i p e; cases (show vs = [] from r.inv); cases e
 | cons q l ih =>
  intro vs r i p e
  obtain ⟨v, us, rfl, a, b⟩ := r.inv
  cases i with
  | zero => cases e; exact ⟨q, rfl, a⟩
  | succ i => exact ih b (i := i) e
theorem RepL.append {l l' : List PV} : ∀ {vs vs' : List Value}, RepL h ρ l vs → RepL h ρ l' vs' → RepL h ρ (l ++ l') (vs ++ vs') := by
 induction l with
 | nil => intro vs vs' r q; cases (show vs = [] from r.inv); exact q
 | cons p l ih => intro vs vs' r q; obtain ⟨v, us, rfl, a, b⟩ := r.inv; exact .cons _ _ _ _ a (ih b q)
theorem RepL.one {p : PV} {v : Value} (r : Rep h ρ p v) : RepL h ρ [p] [v] := .cons _ _ _ _ r .nil
theorem RepL.set {l : List PV} : ∀ {vs : List Value}, RepL h ρ l vs → ∀ {p : PV} {v : Value} (i : Nat), Rep h ρ p v → RepL h ρ (l.set i p) (vs.set i v) := by
 induction l with
 | nil => intro vs r p v i q; cases (show vs = [] from r.inv); exact .nil
 | cons p l ih =>
  intro vs r p v i q
  obtain ⟨v, us, rfl, a, b⟩ := r.inv
  cases i with
  | zero => exact .cons _ _ _ _ q b
  | succ i => exact .cons _ _ _ _ a (ih b i q)
theorem RepL.take {l : List PV} : ∀ {vs : List Value}, RepL h ρ l vs → ∀ n, RepL h ρ (l.take n) (vs.take n) := by
 induction l with
 | nil => intro vs r n; cases (show vs = [] from r.inv); rw [List.take_nil, List.take_nil]; exact .nil
 | cons p l ih =>
  intro vs r n
  obtain ⟨v, us, rfl, a, b⟩ := r.inv
  cases n with
  | zero => exact .nil
  | succ n => exact .cons _ _ _ _ a (ih b n)
theorem RepL.drop {l : List PV} : ∀ {vs : List Value}, RepL h ρ l vs → ∀ n, RepL h ρ (l.drop n) (vs.drop n) := by
 induction l with
 | nil => intro vs r n; cases (show vs = [] from r.inv); rw [List.drop_nil, List.drop_nil]; exact .nil
 | cons p l ih =>
  intro vs r n
  cases n with
  | zero => exact r
  | succ n => obtain ⟨v, us, rfl, a, b⟩ := r.inv; exact ih b n
theorem RepL.eraseIdx {l : List PV} : ∀ {vs : List Value}, RepL h ρ l vs → ∀ n, RepL h ρ (l.eraseIdx n) (vs.eraseIdx n) := by
 induction l with
 | nil => intro vs r n; cases (show vs = [] from r.inv); exact .nil
 | cons p l ih =>
  intro vs r n
  obtain ⟨v, us, rfl, a, b⟩ := r.inv
  cases n with
  | zero => exact b
  | succ n => exact .cons _ _ _ _ a (ih b n)
end
noncomputable def ObAt (C : Cx) (h : Heap) (ρ : List Addr) (a : Addr) : Ob → Prop
 | .list xs => ∃ vs n, h.get? a = some (listO vs n) ∧ RepL h ρ xs vs
 | .dict m => ∃ kvs, h.DictOf (strKind C.prog C.w) a kvs ∧ kvs.map (·.1) = m.map (·.1) ∧ RepL h ρ (m.map (·.2)) (kvs.map (·.2))
 | .inst c i => ∃ d, ρ[i]? = some d ∧ h.get? a = some { cls := .ref c, dict := some d }
 | .ns m => ∃ f, h.Ns a f ∧ RepF h ρ m f
structure Hp (C : Cx) (ρ : List Addr) (st : Sto) (s : Shared) : Prop where
 old : ∀ a o, C.S0.heap.get? a = some o → s.heap.get? a = some o
 ge : C.S0.heap.objs.size ≤ s.heap.objs.size
 new : ∀ a ∈ ρ, C.S0.heap.objs.size ≤ a
 lt : ∀ a ∈ ρ, a < s.heap.objs.size
 nodup : ρ.Nodup
 len : ρ.length = st.length
 obs : ∀ (i : Nat) a ob, ρ[i]? = some a → st[i]? = some ob → ObAt C s.heap ρ a ob
 gens : s.gens = C.S0.gens
 os : s.os = C.S0.os
noncomputable abbrev frW (env : Env) : List Addr := env.locals :: env.cells.map (·.2)
noncomputable def IsFr (h : Heap) (a : Addr) : Prop := ∃ o, h.get? a = some o ∧ ¬ Fz o
theorem IsFr.notSeq {h : Heap} {a : Addr} (x : IsFr h a) : NotSeq h a := fun o e => by
 obtain ⟨o', e', r⟩ := x
 rw [e] at e'; cases e'; exact r
theorem IsFr.lt {h : Heap} {a : Addr} (x : IsFr h a) : a < h.objs.size := let ⟨_, e, _⟩ := x; lt_size_of e
structure FrAt (C : Cx) (φ : Scope) (loc : Loc) (ρ : List Addr) (h : Heap) (env : Env) : Prop where
 scope : env.scope = φ
 kind : φ.kind = .function
 glob : env.globals = mainGlobals
 blt : env.builtins = builtinsNs
 fr : ∀ a ∈ frW env, a ∉ ρ ∧ C.S0.heap.objs.size ≤ a ∧ IsFr h a
 ns : ∃ m, h.Ns env.locals m ∧ ∀ x pv, loc.lookup x = some pv → φ.names.lookup x = some .local → ∃ v, m x = some v ∧ Rep h ρ pv v
 cells : ∀ x, φ.names.lookup x = some .cell → ∃ c, env.cells.lookup x = some c ∧ c ≠ env.locals ∧
  ∃ v, h.IsCell c v ∧ ∀ pv, loc.lookup x = some pv → ∃ u, v = some u ∧ Rep h ρ pv u
 inj : ∀ x y c, φ.names.lookup x = some .cell → φ.names.lookup y = some .cell → env.cells.lookup x = some c → env.cells.lookup y = some c → x = y
theorem mem_of_lkp {α : Type} : ∀ {l : List (Str × α)} {x : Str} {c : α}, l.lookup x = some c → c ∈ l.map (·.2)
 | [], x, c, e => by simp at e
 | (y, d) :: l, x, c, e => by
  rw [List.lookup_cons] at e
  cases hb : x == y with
  | true => rw [hb] at e; cases e; simp
  | false => rw [hb] at e; exact List.mem_cons_of_mem _ (mem_of_lkp e)
section
variable {C : Cx} {φ : Scope} {loc : Loc} {ρ ρ' : List Addr} {h h' : Heap} {env : Env}
theorem FrAt.lt (F : FrAt C φ loc ρ h env) : env.locals < h.objs.size := let ⟨_, n, _⟩ := F.ns; n.lt
theorem FrAt.notSeq (F : FrAt C φ loc ρ h env) : ∀ a ∈ frW env, NotSeq h a := fun a m => (F.fr a m).2.2.notSeq
theorem FrAt.cellIn (F : FrAt C φ loc ρ h env) {x : Str} {c : Addr} (e : env.cells.lookup x = some c) : c ∈ frW env := List.mem_cons_of_mem _ (mem_of_lkp e)
theorem FrAt.go0 (F : FrAt C φ loc ρ h env) (x : Go [] ρ h ρ' h') : FrAt C φ loc ρ' h' env where
 scope := F.scope
 kind := F.kind
 glob := F.glob
 blt := F.blt
 fr := fun a m => by
  obtain ⟨h1, h2, o, e, r⟩ := F.fr a m
  exact ⟨x.nin h1 (lt_size_of e), h2, o, x.keep _ _ h1 (by simp) e, r⟩
 ns := by
  obtain ⟨m, ⟨o, es, ep, ho, r⟩, e⟩ := F.ns
  exact ⟨m, ⟨o, es, ep, x.keep _ _ (F.fr _ List.mem_cons_self).1 (by simp) ho, r⟩, fun y pv e1 e2 => let ⟨v, a, b⟩ := e y pv e1 e2; ⟨v, a, b.go0 x⟩⟩
 cells := fun y hy => by
  obtain ⟨c, h1, h2, v, ⟨o, ho, hd⟩, r⟩ := F.cells y hy
  exact ⟨c, h1, h2, v, ⟨o, x.keep _ _ (F.fr _ (F.cellIn h1)).1 (by simp) ho, hd⟩, fun pv e => let ⟨u, a, b⟩ := r pv e; ⟨u, a, b.go0 x⟩⟩
 inj := F.inj
theorem FrAt.sub {loc' : Loc} (F : FrAt C φ loc ρ h env) (hs : ∀ x pv, loc'.lookup x = some pv → loc.lookup x = some pv) : FrAt C φ loc' ρ h env :=
 { F with ns := let ⟨m, a, b⟩ := F.ns; ⟨m, a, fun x pv e => b x pv (hs x pv e)⟩, cells := fun x hx => let ⟨c, a, b, v, d, e⟩ := F.cells x hx; ⟨c, a, b, v, d, fun pv q => e pv (hs x pv q)⟩ }
end
theorem ns_at1 {h h' : Heap} {a : Addr} {m : Str → Option Value} (x : h.Ns a m) (same : ∀ o, h.get? a = some o → h'.get? a = some o) : h'.Ns a m := by
 obtain ⟨o, es, ep, ho, r⟩ := x
 exact ⟨o, es, ep, same _ ho, r⟩
theorem RepL.imp {h h' : Heap} {ρ ρ' : List Addr} (r : ∀ p v, Rep h ρ p v → Rep h' ρ' p v) {l : List PV} : ∀ {vs : List Value}, RepL h ρ l vs → RepL h' ρ' l vs := by
 induction l with
 | nil => intro vs q; cases (show vs = [] from q.inv); exact .nil
 | cons p l ih => intro vs q; obtain ⟨v, us, rfl, a, b⟩ := q.inv; exact .cons _ _ _ _ (r _ _ a) (ih b)
theorem RepF.imp {h h' : Heap} {ρ ρ' : List Addr} (r : ∀ p v, Rep h ρ p v → Rep h' ρ' p v) {m : List (Str × PV)} {f : Str → Option Value} (q : RepF h ρ m f) : RepF h' ρ' m f :=
 ⟨fun y pv e => let ⟨v, a, b⟩ := q.1 y pv e; ⟨v, a, r _ _ b⟩, q.2⟩
theorem ObAt.imp {C : Cx} {ρ ρ' : List Addr} {h h' : Heap} {a : Addr} {ob : Ob} (r : ∀ p v, Rep h ρ p v → Rep h' ρ' p v) (ri : ∀ (i : Nat) b, ρ[i]? = some b → ρ'[i]? = some b)
  (same : ∀ o, h.get? a = some o → h'.get? a = some o) (H : ObAt C h ρ a ob) : ObAt C h' ρ' a ob := by
 cases ob with
 | list xs =>
  obtain ⟨vs, n, e, q⟩ := H
  exact ⟨vs, n, same _ e, q.imp r⟩
 | dict m =>
  obtain ⟨kvs, ⟨o, es, ep, ho, q⟩, q2, q3⟩ := H
  exact ⟨kvs, ⟨o, es, ep, same _ ho, q⟩, q2, q3.imp r⟩
 | inst c i =>
  obtain ⟨d, e1, e2⟩ := H
  exact ⟨d, ri _ _ e1, same _ e2⟩
 | ns m =>
  obtain ⟨f, e, q⟩ := H
  exact ⟨f, ns_at1 e same, q.imp r⟩
theorem ObAt.lt {C : Cx} {ρ : List Addr} {h : Heap} {a : Addr} {ob : Ob} (H : ObAt C h ρ a ob) : a < h.objs.size := by
 cases ob with
 | list xs => obtain ⟨vs, n, e, q⟩ := H; exact lt_size_of e
 | dict m => obtain ⟨kvs, ⟨o, es, ep, ho, q⟩, q2, q3⟩ := H; exact lt_size_of ho
 | inst c i => obtain ⟨d, e1, e2⟩ := H; exact lt_size_of e2
 | ns m => obtain ⟨f, e, q⟩ := H; exact e.lt
end
section
theorem nodup_idx {α : Type} : ∀ {l : List α}, l.Nodup → ∀ {i j : Nat} {a : α}, l[i]? = some a → l[j]? = some a → i = j
 | [], _, i, j, a, e, _ => by simp at e
 | x :: l, n, 0, 0, a, _, _ => rfl
 | x :: l, n, 0, j + 1, a, e, e' => by
  simp at e e'; subst e
  exact absurd (List.mem_of_getElem? e') (List.nodup_cons.mp n).1
 | x :: l, n, i + 1, 0, a, e, e' => by
  simp at e e'; subst e'
  exact absurd (List.mem_of_getElem? e) (List.nodup_cons.mp n).1
 | x :: l, n, i + 1, j + 1, a, e, e' => by
  simp at e e'; rw [nodup_idx (List.nodup_cons.mp n).2 e e']
section
variable {C : Cx} {ρ : List Addr} {st : Sto} {s : Shared}
theorem Hp.idx' (H : Hp C ρ st s) {i : Nat} {ob : Ob} (e : st[i]? = some ob) : ∃ a, ρ[i]? = some a ∧ ObAt C s.heap ρ a ob := by
 have hi : i < ρ.length := by rw [H.len]; exact (List.getElem?_eq_some_iff.mp e).1
 exact ⟨ρ[i], by simp [hi], H.obs i _ ob (by simp [hi]) e⟩
theorem Hp.grow (H : Hp C ρ st s) {h' : Heap} {t' : Nat} (hk : ∀ a o, s.heap.get? a = some o → h'.get? a = some o) (hz : s.heap.objs.size ≤ h'.objs.size) :
  Hp C ρ st { s with heap := h', toks := t' } ∧ Go [] ρ s.heap ρ h' := by
 have G : Go [] ρ s.heap ρ h' := ⟨hz, ⟨[], by simp, by simp⟩, fun a o _ _ e => hk a o e⟩
 exact ⟨⟨fun a o e => hk a o (H.old a o e), Nat.le_trans H.ge hz, H.new, fun a m => Nat.lt_of_lt_of_le (H.lt a m) hz, H.nodup, H.len,
  fun i a ob e1 e2 => (H.obs i a ob e1 e2).imp (fun p v r => r.go0 G) (fun _ _ e => e) (hk a), H.gens, H.os⟩, G⟩
theorem Hp.tok (H : Hp C ρ st s) (t' : Nat) : Hp C ρ st { s with toks := t' } := (H.grow (h' := s.heap) (t' := t') (fun _ _ e => e) (Nat.le_refl _)).1
theorem Hp.push (H : Hp C ρ st s) (o : Obj) (t' : Nat) : Hp C ρ st { s with heap := s.heap.push o, toks := t' } ∧ Go [] ρ s.heap ρ (s.heap.push o) :=
 H.grow (fun _ _ e => Heap.get?_push_of_some _ e) (by rw [Heap.size_push]; omega)
theorem getElem?_snoc {α : Type} {l : List α} {x y : α} {i : Nat} (e : (l ++ [x])[i]? = some y) : l[i]? = some y ∨ (i = l.length ∧ y = x) := by
 rcases Nat.lt_trichotomy i l.length with h | h | h
 ·left; rwa [List.getElem?_append_left h] at e
 ·right; subst h; simp at e; exact ⟨rfl, e.symm⟩
 ·rw [List.getElem?_eq_none (by simp; omega)] at e; cases e
theorem Hp.alloc (H : Hp C ρ st s) {o : Obj} {ob : Ob} (t' : Nat) (hob : ∀ h', Go [] ρ s.heap (ρ ++ [s.heap.objs.size]) h' → h'.get? s.heap.objs.size = some o → ObAt C h' (ρ ++ [s.heap.objs.size]) s.heap.objs.size ob)
  (hf : o.isFreed = false := by rfl) :
  Hp C (ρ ++ [s.heap.objs.size]) (st ++ [ob]) { s with heap := s.heap.push o, toks := t' } ∧ Go [] ρ s.heap (ρ ++ [s.heap.objs.size]) (s.heap.push o) := by
 have hk : ∀ a o', s.heap.get? a = some o' → (s.heap.push o).get? a = some o' := fun a o' e => Heap.get?_push_of_some _ e
 have hz : s.heap.objs.size ≤ (s.heap.push o).objs.size := by rw [Heap.size_push]; omega
 have G : Go [] ρ s.heap (ρ ++ [s.heap.objs.size]) (s.heap.push o) := ⟨hz, ⟨[s.heap.objs.size], rfl, by simp⟩, fun a o _ _ e => hk a o e⟩
 refine ⟨⟨fun a o e => hk a o (H.old a o e), Nat.le_trans H.ge hz, fun a m => ?_, fun a m => ?_, ?_, by simp [H.len], fun i a ob' e1 e2 => ?_, H.gens, H.os⟩, G⟩
 ·rcases List.mem_append.mp m with q | q
  ·exact H.new a q
  ·simp at q; subst q; exact H.ge
 ·rcases List.mem_append.mp m with q | q
  ·exact Nat.lt_of_lt_of_le (H.lt a q) hz
  ·simp at q; subst q; show _ < (s.heap.push o).objs.size; rw [Heap.size_push]; omega
 ·rw [List.nodup_append]
  refine ⟨H.nodup, by simp, fun a m b m' => ?_⟩
  simp at m'; subst m'
  exact Nat.ne_of_lt (H.lt a m)
 ·rcases getElem?_snoc e1 with q | ⟨q, rfl⟩
  ·rcases getElem?_snoc e2 with q' | ⟨q', _⟩
   ·exact (H.obs i a ob' q q').imp (fun p v r => r.go0 G) (fun _ _ e => G.idx e) (hk a)
   ·have := (List.getElem?_eq_some_iff.mp q).1; rw [H.len] at this; omega
  ·rcases getElem?_snoc e2 with q' | ⟨_, rfl⟩
   ·have := (List.getElem?_eq_some_iff.mp q').1; rw [← H.len] at this; omega
   ·exact hob _ G (Heap.get?_push_size _ hf)
theorem Hp.upd (H : Hp C ρ st s) {i : Nat} {a : Addr} {ob : Ob} {h' : Heap} (t' : Nat) (ha : ρ[i]? = some a) (hs : Heap.SameBut a s.heap h')
  (hob : Go [] ρ s.heap ρ h' → ObAt C h' ρ a ob) : Hp C ρ (st.set i ob) { s with heap := h', toks := t' } ∧ Go [] ρ s.heap ρ h' := by
 have hm : a ∈ ρ := List.mem_of_getElem? ha
 have hz : s.heap.objs.size ≤ h'.objs.size := Nat.le_of_eq hs.1.symm
 have G : Go [] ρ s.heap ρ h' := ⟨hz, ⟨[], by simp, by simp⟩, fun b o n _ e => (hs.2 b (fun q => n (q ▸ hm))).trans e⟩
 refine ⟨⟨fun b o e => (hs.2 b (fun q => ?_)).trans (H.old b o e), Nat.le_trans H.ge hz, H.new, fun a m => Nat.lt_of_lt_of_le (H.lt a m) hz, H.nodup, by simp [H.len],
  fun j b ob' e1 e2 => ?_, H.gens, H.os⟩, G⟩
 ·subst q; exact Nat.lt_irrefl _ (Nat.lt_of_lt_of_le (lt_size_of e) (H.new b hm))
 ·by_cases hj : j = i
  ·subst hj
   rw [ha] at e1; cases e1
   have hi : j < st.length := by rw [← H.len]; exact (List.getElem?_eq_some_iff.mp ha).1
   rw [List.getElem?_set_self hi] at e2; cases e2
   exact hob G
  ·rw [List.getElem?_set_ne (fun q => hj q.symm)] at e2
   refine (H.obs j b ob' e1 e2).imp (fun p v r => r.go0 G) (fun _ _ e => e) (fun o e => (hs.2 b (fun q => ?_)).trans e)
   subst q
   exact hj (nodup_idx H.nodup e1 ha)
theorem Hp.other (H : Hp C ρ st s) {L : Addr} {h' : Heap} (t' : Nat) (hL : L ∉ ρ) (hge : C.S0.heap.objs.size ≤ L) (hn : NotSeq s.heap L) (hs : Heap.SameBut L s.heap h') :
  Hp C ρ st { s with heap := h', toks := t' } ∧ Go [L] ρ s.heap ρ h' := by
 have hz : s.heap.objs.size ≤ h'.objs.size := Nat.le_of_eq hs.1.symm
 have G : Go [L] ρ s.heap ρ h' := ⟨hz, ⟨[], by simp, by simp⟩, fun b o _ n e => (hs.2 b (by simpa using n)).trans e⟩
 have nw : ∀ a ∈ [L], NotSeq s.heap a := fun a m => by simp at m; subst m; exact hn
 refine ⟨⟨fun b o e => (hs.2 b (fun q => ?_)).trans (H.old b o e), Nat.le_trans H.ge hz, H.new, fun a m => Nat.lt_of_lt_of_le (H.lt a m) hz, H.nodup, H.len,
  fun j b ob' e1 e2 => (H.obs j b ob' e1 e2).imp (fun p v r => Rep.go G nw r) (fun _ _ e => e) (fun o e => (hs.2 b (fun q => hL (q ▸ List.mem_of_getElem? e1))).trans e), H.gens, H.os⟩, G⟩
 subst q; exact Nat.lt_irrefl _ (Nat.lt_of_lt_of_le (lt_size_of e) hge)
theorem Hp.lim (H : Hp C ρ st s) : s.heap.NoLimit := C.lim.keeps H.old
theorem Hp.g (H : Hp C ρ st s) : s.heap.Ns mainGlobals C.mg := C.g.keeps H.old
theorem Hp.b (H : Hp C ρ st s) : s.heap.Ns builtinsNs C.mb := C.b.keeps H.old
end
noncomputable def Lv (n : Nat) (A : Around) : Prop := A.handled = none ∧ A.depth + n ≤ 900 ∧ A.units + 10 * n ≤ 9000
theorem Lv.deeper {n : Nat} {A : Around} {env : Env} (h : Lv (n + 1) A) : Lv n (A.deeper env) := ⟨h.1, by have := h.2.1; show A.depth + 1 + n ≤ 900; omega, by have := h.2.2; show A.units + 3 + 10 * n ≤ 9000; omega⟩
theorem Lv.down {n m : Nat} {A : Around} (h : Lv n A) (hm : m ≤ n) : Lv m A := ⟨h.1, by have := h.2.1; omega, by have := h.2.2; omega⟩
theorem Lv.units {n : Nat} {A : Around} (h : Lv n A) : A.units < cLine := by have := h.2.2; show A.units < 9900; omega
theorem Lv.depth {n : Nat} {A : Around} (h : Lv n A) : A.depth < recursionLimit := by have := h.2.1; show A.depth < 1000; omega
noncomputable abbrev Post (C : Cx) (ρ : List Addr) (s : Shared) (st' : Sto) (p : PV) : Value → Shared → Prop := fun v s' => ∃ ρ', Hp C ρ' st' s' ∧ Go [] ρ s.heap ρ' s'.heap ∧ Rep s'.heap ρ' p v
noncomputable abbrev PostL (C : Cx) (ρ : List Addr) (s : Shared) (st' : Sto) (p : List PV) : List Value → Shared → Prop := fun v s' => ∃ ρ', Hp C ρ' st' s' ∧ Go [] ρ s.heap ρ' s'.heap ∧ RepL s'.heap ρ' p v
noncomputable abbrev PostB (C : Cx) (ρ : List Addr) (s : Shared) (st' : Sto) (p : Bool) : Bool → Shared → Prop := fun v s' => ∃ ρ', Hp C ρ' st' s' ∧ Go [] ρ s.heap ρ' s'.heap ∧ v = p
noncomputable abbrev NoE : Value → Shared → Prop := fun _ _ => False
theorem Post.more {C : Cx} {ρ ρ' : List Addr} {s s' s'' : Shared} {st : Sto} {p : PV} {v : Value} (G : Go [] ρ s.heap ρ' s'.heap) (h : Post C ρ' s' st p v s'') : Post C ρ s st p v s'' :=
 let ⟨r, a, b, c⟩ := h; ⟨r, a, G.trans b, c⟩
noncomputable def Ev (C : Cx) (n : Nat) (φ : Scope) (loc : Loc) (e : Expr) (st : Sto) (p : PV) (st' : Sto) : Prop :=
 ∀ A s ρ env, Lv n A → Hp C ρ st s → FrAt C φ loc ρ s.heap env → wpAny (model C.prog C.w) A (eval e env) (Post C ρ s st' p) NoE s
noncomputable def EvL (C : Cx) (n : Nat) (φ : Scope) (loc : Loc) (es : List Expr) (st : Sto) (ps : List PV) (st' : Sto) : Prop :=
 ∀ pos A s ρ env, Lv n A → Hp C ρ st s → FrAt C φ loc ρ s.heap env → wpAny (model C.prog C.w) A (spliced (backTo pos (starEach es env))) (PostL C ρ s st' ps) NoE s
noncomputable def Tr (C : Cx) (n : Nat) (φ : Scope) (loc : Loc) (e : Expr) (st : Sto) (b : Bool) (st' : Sto) : Prop :=
 ∀ A s ρ env, Lv n A → Hp C ρ st s → FrAt C φ loc ρ s.heap env → wpAny (model C.prog C.w) A (isTrue e env (eval e env)) (PostB C ρ s st' b) NoE s
noncomputable def Cl (C : Cx) (n : Nat) (f : Value) (ps : List PV) (st : Sto) (p : PV) (st' : Sto) : Prop :=
 ∀ A s ρ vs, Lv n A → Hp C ρ st s → RepL s.heap ρ ps vs → wpAny (model C.prog C.w) A (PySem.call f vs []) (Post C ρ s st' p) NoE s
noncomputable def Op2 (C : Cx) (n : Nat) (t : Value → Value → Sem Value) (p q : PV) (st : Sto) (r : PV) (st' : Sto) : Prop :=
 ∀ A s ρ a b, Lv n A → Hp C ρ st s → Rep s.heap ρ p a → Rep s.heap ρ q b → wpAny (model C.prog C.w) A (t a b) (Post C ρ s st' r) NoE s
noncomputable def Op1 (C : Cx) (n : Nat) (t : Value → Sem Value) (p : PV) (st : Sto) (r : PV) (st' : Sto) : Prop :=
 ∀ A s ρ a, Lv n A → Hp C ρ st s → Rep s.heap ρ p a → wpAny (model C.prog C.w) A (t a) (Post C ρ s st' r) NoE s
noncomputable def Truth (C : Cx) (n : Nat) (p : PV) (st : Sto) (b : Bool) : Prop :=
 ∀ A s ρ a, Lv n A → Hp C ρ st s → Rep s.heap ρ p a → wpAny (model C.prog C.w) A (truthy a) (PostB C ρ s st b) NoE s
inductive Fl where | next | brk | cont | ret (p : PV)
inductive RepFl (h : Heap) (ρ : List Addr) : Fl → Flow → Prop
 | next : RepFl h ρ .next .next
 | brk : RepFl h ρ .brk .brk
 | cont : RepFl h ρ .cont .cont
 | ret (p v) : Rep h ρ p v → RepFl h ρ (.ret p) (.ret v)
noncomputable abbrev PostF (C : Cx) (φ : Scope) (env : Env) (ρ : List Addr) (s : Shared) (loc' : Loc) (st' : Sto) (f : Fl) : Flow → Shared → Prop :=
 fun v s' => ∃ ρ', Hp C ρ' st' s' ∧ Go (frW env) ρ s.heap ρ' s'.heap ∧ FrAt C φ loc' ρ' s'.heap env ∧ RepFl s'.heap ρ' f v
noncomputable def Ex (C : Cx) (n : Nat) (φ : Scope) (loc : Loc) (ss : List Stmt) (st : Sto) (f : Fl) (loc' : Loc) (st' : Sto) : Prop :=
 ∀ A s ρ env, Lv n A → Hp C ρ st s → FrAt C φ loc ρ s.heap env → wpAny (model C.prog C.w) A (execs ss env) (PostF C φ env ρ s loc' st' f) NoE s
noncomputable def Ex1 (C : Cx) (n : Nat) (φ : Scope) (loc : Loc) (ss : Stmt) (st : Sto) (f : Fl) (loc' : Loc) (st' : Sto) : Prop :=
 ∀ A s ρ env, Lv n A → Hp C ρ st s → FrAt C φ loc ρ s.heap env → wpAny (model C.prog C.w) A (exec ss env) (PostF C φ env ρ s loc' st' f) NoE s
theorem noE {α : Type} {M : Model} {A : Around} {t : Sem α} {Q Q' : α → Shared → Prop} {E : Value → Shared → Prop} {s : Shared} (h : wpAny M A t Q NoE s) (hQ : ∀ a s, Q a s → Q' a s) : wpAny M A t Q' E s :=
 wpAny_mono h hQ fun _ _ x => x.elim
end
section
section
variable {C : Cx} {n : Nat} {φ : Scope} {lo : Loc} {st st1 st2 st3 : Sto}
theorem Post.here {ρ : List Addr} {s : Shared} {p : PV} {v : Value} (H : Hp C ρ st s) (R : Rep s.heap ρ p v) : Post C ρ s st p v s := ⟨ρ, H, Go.refl _ _ _, R⟩
theorem Post.tok {ρ : List Addr} {s : Shared} {p : PV} {v : Value} {t : Nat} (H : Hp C ρ st s) (R : Rep s.heap ρ p v) : Post C ρ s st p v { s with toks := t } := ⟨ρ, H.tok t, Go.refl _ _ _, R⟩
theorem PostB.here {ρ : List Addr} {s : Shared} {b : Bool} (H : Hp C ρ st s) : PostB C ρ s st b b s := ⟨ρ, H, Go.refl _ _ _, rfl⟩
theorem PostB.tok {ρ : List Addr} {s : Shared} {b : Bool} {t : Nat} (H : Hp C ρ st s) : PostB C ρ s st b b { s with toks := t } := ⟨ρ, H.tok t, Go.refl _ _ _, rfl⟩
theorem Ev.loc {x : Str} {pos : Pos} {p : PV} (hx : lo.lookup x = some p) (hk : φ.names.lookup x = some .local) (hd : (x == ("__debug__" : Str)) = false := by decide) :
  Ev C n φ lo (.Name x pos) st p st := fun A s ρ env hA H F => by
 obtain ⟨m, hn, hm⟩ := F.ns
 obtain ⟨v, hv, R⟩ := hm x p hx hk
 exact wpAny_Name (wpAny_loadName_local (by rw [F.scope]; exact F.kind) (by unfold Env.kindOf; rw [F.scope]; exact hk) hn hv (Post.here H R)) hd
theorem Ev.cell {x : Str} {pos : Pos} {p : PV} (hx : lo.lookup x = some p) (hk : φ.names.lookup x = some .cell) (hd : (x == ("__debug__" : Str)) = false := by decide) :
  Ev C n φ lo (.Name x pos) st p st := fun A s ρ env hA H F => by
 obtain ⟨c, hc, _, v, ⟨o, ho, hd'⟩, R⟩ := F.cells x hk
 obtain ⟨u, rfl, R'⟩ := R p hx
 exact wpAny_Name (wpAny_loadName_cell (by rw [F.scope]; exact F.kind) (by unfold Env.kindOf; rw [F.scope]; exact hk) hc ⟨o, ho, hd'⟩ (Post.here H R')) hd
theorem Ev.glob {x : Str} {pos : Pos} {v : Value} {p : PV} (hg : C.mg x = some v) (hp : ∀ h ρ, Rep h ρ p v) (hk : φ.names.lookup x = some .globalImplicit) (hd : (x == ("__debug__" : Str)) = false := by decide) :
  Ev C n φ lo (.Name x pos) st p st := fun A s ρ env hA H F =>
 Calls.Name_function_global (by rw [F.scope]; exact F.kind) (by unfold Env.kindOf; rw [F.scope]; exact hk) (Calls.loadGlobal_global (by rw [F.glob]; exact H.g) hg (Post.here H (hp _ _))) hd
theorem Ev.blt {x : Str} {pos : Pos} {v : Value} (hg : C.mg x = none) (hb : C.mb x = some v) (hk : φ.names.lookup x = some .globalImplicit) (hd : (x == ("__debug__" : Str)) = false := by decide) :
  Ev C n φ lo (.Name x pos) st (.sta v) st := fun A s ρ env hA H F =>
 Calls.Name_function_global (by rw [F.scope]; exact F.kind) (by unfold Env.kindOf; rw [F.scope]; exact hk) (Calls.loadGlobal_builtin (by rw [F.glob]; exact H.g) hg (by rw [F.blt]; exact H.b) hb (Post.here H (.sta v))) hd
theorem Ev.cint {i : Int} {k pos} : Ev C n φ lo (.Constant (.int i) k pos) st (.int i) st := fun A s ρ env hA H F => wpAny_Constant_int (Post.tok H (.int i _))
theorem Ev.cstr {x : Str} {k pos} : Ev C n φ lo (.Constant (.str x) k pos) st (.str x) st := fun A s ρ env hA H F => wpAny_Constant_str (Post.tok H (.str x _))
theorem Ev.cbool {b : Bool} {k pos} : Ev C n φ lo (.Constant (.bool b) k pos) st (.bool b) st := fun A s ρ env hA H F => wpAny_Constant_bool (Post.here H (.bool b))
theorem Ev.cnone {k pos} : Ev C n φ lo (.Constant .none k pos) st .none st := fun A s ρ env hA H F => wpAny_Constant_none (Post.here H .none)
theorem two {A : Around} {s s1 : Shared} {ρ ρ1 : List Addr} {a : Value} {p q r : PV} {t : Value → Value → Sem Value} {e : Sem Value} (hA : Lv n A)
  (H1 : Hp C ρ1 st1 s1) (G1 : Go [] ρ s.heap ρ1 s1.heap) (R1 : Rep s1.heap ρ1 p a)
  (h2 : wpAny (model C.prog C.w) A e (Post C ρ1 s1 st2 q) NoE s1) (h3 : Op2 C n t p q st2 r st3) :
  wpAny (model C.prog C.w) A e (fun b s2 => wpAny (model C.prog C.w) A (t a b) (Post C ρ s st3 r) NoE s2) NoE s1 :=
 noE h2 fun b s2 ⟨ρ2, H2, G2, R2⟩ => noE (h3 A s2 ρ2 a b hA H2 (R1.go0 G2) R2) fun v s3 h => h.more (G1.trans G2)
theorem Ev.bin {l r : Expr} {op : Operator} {pos} {p q v : PV} (h1 : Ev C n φ lo l st p st1) (h2 : Ev C n φ lo r st1 q st2) (h3 : Op2 C n (binaryOp op) p q st2 v st3) :
  Ev C n φ lo (.BinOp l op r pos) st v st3 := fun A s ρ env hA H F =>
 wpAny_BinOp (noE (h1 A s ρ env hA H F) fun a s1 ⟨ρ1, H1, G1, R1⟩ => two hA H1 G1 R1 (h2 A s1 ρ1 env hA H1 (F.go0 G1)) h3)
theorem Ev.un {x : Expr} {op : UnaryOp} {pos} {p v : PV} (h1 : Ev C n φ lo x st p st1) (h3 : Op1 C n (unaryOp op) p st1 v st2) :
  Ev C n φ lo (.UnaryOp op x pos) st v st2 := fun A s ρ env hA H F =>
 UnaryOp_ (noE (h1 A s ρ env hA H F) fun a s1 ⟨ρ1, H1, G1, R1⟩ => noE (h3 A s1 ρ1 a hA H1 R1) fun v s3 h => h.more G1)
theorem Ev.cmp {l r : Expr} {op : CmpOp} {pos} {p q v : PV} (h1 : Ev C n φ lo l st p st1) (h2 : Ev C n φ lo r st1 q st2) (h3 : Op2 C n (compareOp op) p q st2 v st3)
  (hm : behindInMarks op r = false := by with_unfolding_all rfl) : Ev C n φ lo (.Compare l [op] [r] pos) st v st3 := fun A s ρ env hA H F =>
 wpAny_Compare1 (noE (h1 A s ρ env hA H F) fun a s1 ⟨ρ1, H1, G1, R1⟩ => two hA H1 G1 R1 (h2 A s1 ρ1 env hA H1 (F.go0 G1)) h3) hm
theorem truthB {A : Around} {s s1 : Shared} {ρ ρ1 : List Addr} {a : Value} {p : PV} {b : Bool} (hA : Lv n A) (h : Post C ρ s st1 p a s1) (ht : Truth C n p st1 b) :
  wpAny (model C.prog C.w) A (truthy a) (PostB C ρ s st1 b) NoE s1 :=
 let ⟨ρ1, H1, G1, R1⟩ := h
 noE (ht A s1 ρ1 a hA H1 R1) fun v s2 ⟨ρ2, H2, G2, e⟩ => ⟨ρ2, H2, G1.trans G2, e⟩
theorem Tr.cmp {l r : Expr} {op : CmpOp} {pos} {p q : PV} {b : Bool} (h1 : Ev C n φ lo l st p st1) (h2 : Ev C n φ lo r st1 q st2) (h3 : Op2 C n (compareOp op) p q st2 (.bool b) st3)
  (hm : behindInMarks op r = false := by with_unfolding_all rfl) : Tr C n φ lo (.Compare l [op] [r] pos) st b st3 := fun A s ρ env hA H F =>
 wpAny_isTrue_Compare1 (noE (h1 A s ρ env hA H F) fun a s1 ⟨ρ1, H1, G1, R1⟩ => noE (h2 A s1 ρ1 env hA H1 (F.go0 G1)) fun c s2 ⟨ρ2, H2, G2, R2⟩ =>
  noE (h3 A s2 ρ2 a c hA H2 (R1.go0 G2) R2) fun v s3 ⟨ρ3, H3, G3, R3⟩ => by
   (replace R3 := R3.inv; obtain ⟨_, rfl⟩ := R3)
   exact wpAny_truthy_bool ⟨ρ3, H3, (G1.trans G2).trans G3, rfl⟩) hm
theorem Tr.val {e : Expr} {p : PV} {b : Bool} (h1 : Ev C n φ lo e st p st1) (ht : Truth C n p st1 b)
  (he : ∀ env whole, isTrue e env whole = (do let v ← whole; standAt e.pos; holding [v] (truthy v)) := by intro _ _; rfl) : Tr C n φ lo e st b st1 := fun A s ρ env hA H F =>
 isTrue_plain (noE (h1 A s ρ env hA H F) fun a s1 h => truthB (ρ1 := ρ) hA h ht) (he _ _)
theorem Tr.not {x : Expr} {pos} {b : Bool} (h : Tr C n φ lo x st b st1) : Tr C n φ lo (.UnaryOp .Not x pos) st (!b) st1 := fun A s ρ env hA H F =>
 isTrue_not (noE (h A s ρ env hA H F) fun c s1 ⟨ρ1, H1, G1, e⟩ => ⟨ρ1, H1, G1, by rw [e]⟩)
theorem Tr.and_nil {pos} : Tr C n φ lo (.BoolOp .And [] pos) st true st := fun A s ρ env hA H F => isTrue_and_nil (PostB.here H)
theorem Tr.or_nil {pos} : Tr C n φ lo (.BoolOp .Or [] pos) st false st := fun A s ρ env hA H F => isTrue_or_nil (PostB.here H)
theorem Tr.and_f {x : Expr} {xs : List Expr} {pos} (h : Tr C n φ lo x st false st1) : Tr C n φ lo (.BoolOp .And (x :: xs) pos) st false st1 := fun A s ρ env hA H F =>
 isTrue_and (noE (h A s ρ env hA H F) fun c s1 ⟨ρ1, H1, G1, e⟩ => by subst e; rw [if_neg (by decide)]; exact ⟨ρ1, H1, G1, rfl⟩)
theorem Tr.and_t {x : Expr} {xs : List Expr} {pos} {b : Bool} (h : Tr C n φ lo x st true st1) (h2 : Tr C n φ lo (.BoolOp .And xs pos) st1 b st2) : Tr C n φ lo (.BoolOp .And (x :: xs) pos) st b st2 := fun A s ρ env hA H F =>
 isTrue_and (noE (h A s ρ env hA H F) fun c s1 ⟨ρ1, H1, G1, e⟩ => by
  subst e; rw [if_pos rfl]
  exact noE (h2 A s1 ρ1 env hA H1 (F.go0 G1)) fun c s2 ⟨ρ2, H2, G2, e⟩ => ⟨ρ2, H2, G1.trans G2, e⟩)
theorem Tr.or_t {x : Expr} {xs : List Expr} {pos} (h : Tr C n φ lo x st true st1) : Tr C n φ lo (.BoolOp .Or (x :: xs) pos) st true st1 := fun A s ρ env hA H F =>
 isTrue_or (noE (h A s ρ env hA H F) fun c s1 ⟨ρ1, H1, G1, e⟩ => by subst e; rw [if_pos rfl]; exact ⟨ρ1, H1, G1, rfl⟩)
theorem Tr.or_f {x : Expr} {xs : List Expr} {pos} {b : Bool} (h : Tr C n φ lo x st false st1) (h2 : Tr C n φ lo (.BoolOp .Or xs pos) st1 b st2) : Tr C n φ lo (.BoolOp .Or (x :: xs) pos) st b st2 := fun A s ρ env hA H F =>
 isTrue_or (noE (h A s ρ env hA H F) fun c s1 ⟨ρ1, H1, G1, e⟩ => by
  subst e; rw [if_neg (by decide)]
  exact noE (h2 A s1 ρ1 env hA H1 (F.go0 G1)) fun c s2 ⟨ρ2, H2, G2, e⟩ => ⟨ρ2, H2, G1.trans G2, e⟩)
theorem Ev.ifexp {t b o : Expr} {pos} {c : Bool} {p : PV} (h : Tr C n φ lo t st c st1) (h2 : Ev C n φ lo (if c then b else o) st1 p st2) : Ev C n φ lo (.IfExp t b o pos) st p st2 := fun A s ρ env hA H F =>
 IfExp_ (noE (h A s ρ env hA H F) fun c' s1 ⟨ρ1, H1, G1, e⟩ => by
  subst e
  have := h2 A s1 ρ1 env hA H1 (F.go0 G1)
  cases c' <;> exact noE this fun v s2 h => h.more G1)
theorem Ev.or_t {x y : Expr} {xs : List Expr} {pos} {p : PV} (h : Ev C n φ lo x st p st1) (ht : Truth C n p st1 true) : Ev C n φ lo (.BoolOp .Or (x :: y :: xs) pos) st p st1 := fun A s ρ env hA H F =>
 BoolOp_or (noE (h A s ρ env hA H F) fun v s1 ⟨ρ1, H1, G1, R1⟩ => noE (ht A s1 ρ1 v hA H1 R1) fun c s2 ⟨ρ2, H2, G2, e⟩ => by subst e; rw [if_pos rfl]; exact ⟨ρ2, H2, G1.trans G2, R1.go0 G2⟩)
theorem Ev.or_f {x y : Expr} {xs : List Expr} {pos} {p q : PV} (h : Ev C n φ lo x st p st1) (ht : Truth C n p st1 false) (h2 : Ev C n φ lo (.BoolOp .Or (y :: xs) pos) st1 q st2) : Ev C n φ lo (.BoolOp .Or (x :: y :: xs) pos) st q st2 := fun A s ρ env hA H F =>
 BoolOp_or (noE (h A s ρ env hA H F) fun v s1 ⟨ρ1, H1, G1, R1⟩ => noE (ht A s1 ρ1 v hA H1 R1) fun c s2 ⟨ρ2, H2, G2, e⟩ => by
  subst e; rw [if_neg (by decide)]
  exact noE (h2 A s2 ρ2 env hA H2 (F.go0 (G1.trans G2))) fun v s3 h => h.more (G1.trans G2))
theorem Ev.bool1 {x : Expr} {op : BoolOp} {pos} {p : PV} (h : Ev C n φ lo x st p st1) : Ev C n φ lo (.BoolOp op [x] pos) st p st1 := fun A s ρ env hA H F => BoolOp_one (h A s ρ env hA H F)
theorem Ev.sub {value slice : Expr} {pos} {p q r : PV} (h1 : Ev C n φ lo value st p st1) (h2 : Ev C n φ lo slice st1 q st2) (h3 : Op2 C n (subscriptTail value slice) p q st2 r st3) :
  Ev C n φ lo (.Subscript value slice pos) st r st3 := fun A s ρ env hA H F =>
 Subscript_ (noE (h1 A s ρ env hA H F) fun a s1 ⟨ρ1, H1, G1, R1⟩ => two hA H1 G1 R1 (h2 A s1 ρ1 env hA H1 (F.go0 G1)) h3)
theorem EvL.nil : EvL C n φ lo [] st [] st := fun pos A s ρ env hA H F => wpAny_items_nil ⟨ρ, H, Go.refl _ _ _, .nil⟩
theorem EvL.cons {e : Expr} {es : List Expr} {p : PV} {ps : List PV} (h1 : Ev C n φ lo e st p st1) (h2 : EvL C n φ lo es st1 ps st2)
  (he : ∀ env, starEach (e :: es) env = (false, eval e env) :: starEach es env := by intro _; rfl) : EvL C n φ lo (e :: es) st (p :: ps) st2 := fun pos A s ρ env hA H F =>
 wpAny_items_cons (noE (h1 A s ρ env hA H F) fun v s1 ⟨ρ1, H1, G1, R1⟩ => noE (h2 pos A s1 ρ1 env hA H1 (F.go0 G1)) fun vs s2 ⟨ρ2, H2, G2, R2⟩ =>
  ⟨ρ2, H2, G1.trans G2, .cons _ _ _ _ (R1.go0 G2) R2⟩) (he env)
theorem Ev.tup {es : List Expr} {k pos} {ps : List PV} (h : EvL C n φ lo es st ps st1) (hz : ps.length ≤ sizeLine := by (simp [sizeLine_eq])) : Ev C n φ lo (.Tuple es k pos) st (.tup ps) st1 := fun A s ρ env hA H F =>
 wpAny_Tuple (noE (h pos A s ρ env hA H F) fun vs s1 ⟨ρ1, H1, G1, R1⟩ => by
  refine ⟨by rw [R1.length]; exact hz, ?_⟩
  obtain ⟨H2, G2⟩ := H1.push (tupO vs) s1.toks
  exact ⟨ρ1, H2, G1.trans G2, .tup _ _ _ (fun q => Nat.lt_irrefl _ (H1.lt _ q)) (Heap.get?_push_size _ rfl) (R1.go0 G2)⟩)
theorem newListJ {A : Around} {s s1 : Shared} {ρ ρ1 : List Addr} {vs : List Value} {ps : List PV} (H1 : Hp C ρ1 st1 s1) (G1 : Go [] ρ s.heap ρ1 s1.heap) (R1 : RepL s1.heap ρ1 ps vs) (t : Nat) :
  Post C ρ s (st1 ++ [.list ps]) (.ref st1.length) (.ref s1.heap.objs.size) { s1 with heap := s1.heap.push { cls := .type "list", data := .seq vs.toArray }, toks := t } := by
 obtain ⟨H2, G2⟩ := H1.alloc (o := listO vs 0) (ob := .list ps) t (fun h' G e => ⟨vs, 0, e, R1.go0 G⟩)
 exact ⟨_, H2, G1.trans G2, .ref _ _ (by rw [← H1.len]; simp)⟩
theorem Ev.list {es : List Expr} {pos} {ps : List PV} (h : EvL C n φ lo es st ps st1) (hz : ps.length ≤ sizeLine := by (simp [sizeLine_eq])) : Ev C n φ lo (.List es pos) st (.ref st1.length) (st1 ++ [.list ps]) := fun A s ρ env hA H F =>
 wpAny_List (noE (h pos A s ρ env hA H F) fun vs s1 ⟨ρ1, H1, G1, R1⟩ => ⟨by rw [R1.length]; exact hz, newListJ (A := A) H1 G1 R1 s1.toks⟩)
end
end
section
section
variable {C : Cx} {n : Nat} {φ : Scope} {lo lo1 lo2 lo3 : Loc} {st st1 st2 st3 : Sto}
theorem lookup_cons_ne {x y : Str} {p : PV} (h : y ≠ x) : List.lookup y ((x, p) :: lo) = lo.lookup y := by
 rw [List.lookup_cons]; have : (y == x) = false := by simpa using h
 rw [this]
theorem lookup_cons_self {x : Str} {p : PV} : List.lookup x ((x, p) :: lo) = some p := by
 rw [List.lookup_cons]; simp
theorem ns_isFr {h : Heap} {a : Addr} {m : Str → Option Value} (x : h.Ns a m) : IsFr h a := by
 obtain ⟨o, es, ep, ho, hd, r⟩ := x
 exact ⟨o, ho, notFz_dict hd⟩
noncomputable abbrev PostU (C : Cx) (φ : Scope) (env : Env) (ρ : List Addr) (s : Shared) (lo' : Loc) (st' : Sto) : Unit → Shared → Prop :=
 fun _ s' => ∃ ρ', Hp C ρ' st' s' ∧ Go (frW env) ρ s.heap ρ' s'.heap ∧ FrAt C φ lo' ρ' s'.heap env
theorem storeJ {A : Around} {s : Shared} {ρ : List Addr} {env : Env} {x : Str} {p : PV} {v : Value} {M : Model} (H : Hp C ρ st s) (F : FrAt C φ lo ρ s.heap env) (R : Rep s.heap ρ p v)
  (hk : φ.names.lookup x = some .local ∨ φ.names.lookup x = some .cell) :
  wpAny M A (storeName env x v) (PostU C φ env ρ s ((x, p) :: lo) st) NoE s := by
 rcases hk with hk | hk
 ·obtain ⟨m, hn, hm⟩ := F.ns
  refine wpAny_storeName_local (m := m) (by unfold Env.kindOf; rw [F.scope]; exact hk) hn (fun h' hn' hs => ?_) (by rw [F.scope, F.kind]; rfl)
  obtain ⟨h1, h2, h3⟩ := F.fr env.locals List.mem_cons_self
  obtain ⟨H', G⟩ := H.other (s.toks + 1) h1 h2 h3.notSeq hs
  have nw : ∀ a ∈ [env.locals], NotSeq s.heap a := fun a m => by simp at m; subst m; exact h3.notSeq
  refine ⟨ρ, H', G.weaken fun a m => .inl (by simp at m; subst m; exact List.mem_cons_self), { F with fr := ?_, ns := ?_, cells := ?_ }⟩
  ·intro a ha
   obtain ⟨q1, q2, q3⟩ := F.fr a ha
   refine ⟨q1, q2, ?_⟩
   by_cases e : a = env.locals
   ·subst e; exact ns_isFr hn'
   ·obtain ⟨o, ho, r⟩ := q3
    exact ⟨o, (hs.2 a e).trans ho, r⟩
  ·refine ⟨_, hn', fun y pv e1 e2 => ?_⟩
   by_cases e : y = x
   ·subst e
    rw [lookup_cons_self] at e1; cases e1
    exact ⟨v, by simp, Rep.go G nw R⟩
   ·rw [lookup_cons_ne e] at e1
    obtain ⟨u, a, b⟩ := hm y pv e1 e2
    exact ⟨u, by simp [e, a], Rep.go G nw b⟩
  ·intro y hy
   have e : y ≠ x := fun q => by subst q; rw [hk] at hy; cases hy
   obtain ⟨c, c1, c2, u, ⟨o, ho, hd⟩, r⟩ := F.cells y hy
   exact ⟨c, c1, c2, u, ⟨o, (hs.2 c c2).trans ho, hd⟩, fun pv e1 => by
    rw [lookup_cons_ne e] at e1
    obtain ⟨w, a, b⟩ := r pv e1
    exact ⟨w, a, Rep.go G nw b⟩⟩
 ·obtain ⟨c, c1, c2, u, hc, r⟩ := F.cells x hk
  refine wpAny_storeName_cell (by rw [F.scope]; exact F.kind) (by unfold Env.kindOf; rw [F.scope]; exact hk) c1 hc fun h' hc' hs => ?_
  obtain ⟨h1, h2, h3⟩ := F.fr c (F.cellIn c1)
  obtain ⟨H', G⟩ := H.other s.toks h1 h2 h3.notSeq hs
  have nw : ∀ a ∈ [c], NotSeq s.heap a := fun a m => by simp at m; subst m; exact h3.notSeq
  refine ⟨ρ, H', G.weaken fun a m => .inl (by simp at m; subst m; exact F.cellIn c1), { F with fr := ?_, ns := ?_, cells := ?_ }⟩
  ·intro a ha
   obtain ⟨q1, q2, q3⟩ := F.fr a ha
   refine ⟨q1, q2, ?_⟩
   by_cases e : a = c
   ·subst e; obtain ⟨o, ho, hd⟩ := hc'; exact ⟨o, ho, notFz_cell hd⟩
   ·obtain ⟨o, ho, r⟩ := q3
    exact ⟨o, (hs.2 a e).trans ho, r⟩
  ·obtain ⟨m, hn, hm⟩ := F.ns
   refine ⟨m, hn.sameBut hs (Ne.symm c2), fun y pv e1 e2 => ?_⟩
   have e : y ≠ x := fun q => by subst q; rw [hk] at e2; cases e2
   rw [lookup_cons_ne e] at e1
   obtain ⟨w, a, b⟩ := hm y pv e1 e2
   exact ⟨w, a, Rep.go G nw b⟩
  ·intro y hy
   by_cases e : y = x
   ·subst e
    exact ⟨c, c1, c2, _, hc', fun pv e1 => by
     rw [lookup_cons_self] at e1; cases e1
     exact ⟨v, rfl, Rep.go G nw R⟩⟩
   ·obtain ⟨d, d1, d2, w, ⟨o, ho, hd⟩, r'⟩ := F.cells y hy
    have ne : d ≠ c := fun q => e (F.inj y x c hy hk (q ▸ d1) c1)
    exact ⟨d, d1, d2, w, ⟨o, (hs.2 d ne).trans ho, hd⟩, fun pv e1 => by
     rw [lookup_cons_ne e] at e1
     obtain ⟨z, a, b⟩ := r' pv e1
     exact ⟨z, a, Rep.go G nw b⟩⟩
noncomputable def As (C : Cx) (n : Nat) (φ : Scope) (lo : Loc) (t : Expr) (p : PV) (st : Sto) (lo' : Loc) (st' : Sto) : Prop :=
 ∀ A s ρ env v, Lv n A → Hp C ρ st s → FrAt C φ lo ρ s.heap env → Rep s.heap ρ p v → wpAny (model C.prog C.w) A (assign t env v) (PostU C φ env ρ s lo' st') NoE s
theorem As.name {x : Str} {pos : Pos} {p : PV} (hk : φ.names.lookup x = some .local ∨ φ.names.lookup x = some .cell) : As C n φ lo (.Name x pos) p st ((x, p) :: lo) st := fun A s ρ env v hA H F R =>
 wpAny_assign_Name (storeJ H F R hk)
theorem PostU.of0 {A : Around} {s s' : Shared} {ρ ρ' : List Addr} {env : Env} (F : FrAt C φ lo ρ s.heap env) (H : Hp C ρ' st s') (G : Go [] ρ s.heap ρ' s'.heap) : PostU C φ env ρ s lo st () s' :=
 ⟨ρ', H, G.nil, F.go0 G⟩
noncomputable def Op3 (C : Cx) (n : Nat) (p q r : PV) (st : Sto) (st' : Sto) : Prop :=
 ∀ A s ρ a b c, Lv n A → Hp C ρ st s → Rep s.heap ρ p a → Rep s.heap ρ q b → Rep s.heap ρ r c → wpAny (model C.prog C.w) A (setItem a b c) (fun _ s' => ∃ ρ', Hp C ρ' st' s' ∧ Go [] ρ s.heap ρ' s'.heap) NoE s
theorem As.sub {o i : Expr} {pos : Pos} {p q r : PV} (h1 : Ev C n φ lo o st q st1) (h2 : Ev C n φ lo i st1 r st2) (h3 : Op3 C n q r p st2 st3) : As C n φ lo (.Subscript o i pos) p st lo st3 := fun A s ρ env v hA H F R => by
 rw [assign_Subscript]
 refine wpAny_bind (wpAny_holding (noE (h1 A s ρ env hA H F) fun a s1 ⟨ρ1, H1, G1, R1⟩ => ?_))
 refine wpAny_bind (wpAny_holding (noE (h2 A s1 ρ1 env hA H1 (F.go0 G1)) fun b s2 ⟨ρ2, H2, G2, R2⟩ => ?_))
 refine wpAny_bind (wpAny_standAt ?_)
 refine wpAny_bind (wpAny_holding (noE (h3 A s2 ρ2 a b v hA H2 (R1.go0 G2) R2 (R.go0 (G1.trans G2))) fun _ s3 ⟨ρ3, H3, G3⟩ => ?_))
 exact fun Γ p hΓ => by rw [Sem.wp_release]; exact PostU.of0 (A := A) F H3 ((G1.trans G2).trans G3)
theorem Ex.nil : Ex C n φ lo [] st .next lo st := fun A s ρ env hA H F => wpAny_execs_nil ⟨ρ, H, Go.refl _ _ _, F, .next⟩
theorem Ex.cons {x : Stmt} {xs : List Stmt} {f : Fl} (h1 : Ex1 C n φ lo x st .next lo1 st1) (h2 : Ex C n φ lo1 xs st1 f lo2 st2) : Ex C n φ lo (x :: xs) st f lo2 st2 := fun A s ρ env hA H F =>
 wpAny_execs_cons (noE (h1 A s ρ env hA H F) fun fl s1 ⟨ρ1, H1, G1, F1, R1⟩ => by
  cases R1
  exact noE (h2 A s1 ρ1 env hA H1 F1) fun fl s2 ⟨ρ2, H2, G2, F2, R2⟩ => ⟨ρ2, H2, G1.trans G2, F2, R2⟩)
theorem Ex.stop {x : Stmt} {xs : List Stmt} {f : Fl} (h1 : Ex1 C n φ lo x st f lo1 st1) (hf : f ≠ .next := by intro h; cases h) : Ex C n φ lo (x :: xs) st f lo1 st1 := fun A s ρ env hA H F =>
 wpAny_execs_cons (noE (h1 A s ρ env hA H F) fun fl s1 ⟨ρ1, H1, G1, F1, R1⟩ => by
  cases R1 with
  | next => exact absurd rfl hf
  | brk => exact ⟨ρ1, H1, G1, F1, .brk⟩
  | cont => exact ⟨ρ1, H1, G1, F1, .cont⟩
  | ret p v r => exact ⟨ρ1, H1, G1, F1, .ret _ _ r⟩)
theorem Ex.one {x : Stmt} {f : Fl} (h1 : Ex1 C n φ lo x st f lo1 st1) : Ex C n φ lo [x] st f lo1 st1 := by
 cases f with
 | next => exact Ex.cons h1 .nil
 | brk => exact Ex.stop h1
 | cont => exact Ex.stop h1
 | ret p => exact Ex.stop h1
theorem Ex.sub {xs : List Stmt} {f : Fl} (h : Ex C n φ lo xs st f lo1 st1) (hs : ∀ x pv, lo2.lookup x = some pv → lo1.lookup x = some pv) : Ex C n φ lo xs st f lo2 st1 := fun A s ρ env hA H F =>
 noE (h A s ρ env hA H F) fun fl s1 ⟨ρ1, H1, G1, F1, R1⟩ => ⟨ρ1, H1, G1, F1.sub hs, R1⟩
theorem Ex.pre {xs : List Stmt} {f : Fl} (h : Ex C n φ lo xs st f lo1 st1) (hs : ∀ x pv, lo.lookup x = some pv → lo2.lookup x = some pv) : Ex C n φ lo2 xs st f lo1 st1 := fun A s ρ env hA H F =>
 h A s ρ env hA H (F.sub hs)
theorem Ex1.sub {xs : Stmt} {f : Fl} (h : Ex1 C n φ lo xs st f lo1 st1) (hs : ∀ x pv, lo2.lookup x = some pv → lo1.lookup x = some pv) : Ex1 C n φ lo xs st f lo2 st1 := fun A s ρ env hA H F =>
 noE (h A s ρ env hA H F) fun fl s1 ⟨ρ1, H1, G1, F1, R1⟩ => ⟨ρ1, H1, G1, F1.sub hs, R1⟩
theorem Ex1.asg {t value : Expr} {pos : Pos} {p : PV} (h1 : Ev C n φ lo value st p st1) (h2 : As C n φ lo t p st1 lo1 st2)
  (hs : ∀ l env, swapsWithSole [t] value l env = pure false := by intro _ _; rfl) (hw : ∀ env, swappedStores [t] value env = pure none := by intro _; rfl)
  (hj : ∀ env, (assignEach [t] env).map (·.2) = [PySem.assign t env] := by intro _; rfl) :
  Ex1 C n φ lo (.Assign [t] value pos) st .next lo1 st2 := fun A s ρ env hA H F => by
 refine wpAny_Assign_stores (noE (h1 A s ρ env hA H F) fun v s1 ⟨ρ1, H1, G1, R1⟩ => ?_) (hs _ _) (hw _)
 rw [hj]
 exact noE (h2 A s1 ρ1 env v hA H1 (F.go0 G1) R1) fun _ s2 ⟨ρ2, H2, G2, F2⟩ => ⟨ρ2, H2, G1.nil.trans G2, F2, .next⟩
theorem Ex1.asg2 {t u value : Expr} {pos : Pos} {p : PV} (h1 : Ev C n φ lo value st p st1) (h2 : As C n φ lo t p st1 lo1 st2) (h3 : As C n φ lo1 u p st2 lo2 st3)
  (hw : ∀ env, swappedStores [t, u] value env = pure none := by intro _; rfl)
  (hj : ∀ env, (assignEach [t, u] env).map (·.2) = [PySem.assign t env, PySem.assign u env] := by intro _; rfl) :
  Ex1 C n φ lo (.Assign [t, u] value pos) st .next lo2 st3 := fun A s ρ env hA H F => by
 refine wpAny_Assign_two (noE (h1 A s ρ env hA H F) fun v s1 ⟨ρ1, H1, G1, R1⟩ => ?_) (hj _) (hw _)
 refine noE (h2 A s1 ρ1 env v hA H1 (F.go0 G1) R1) fun _ s2 ⟨ρ2, H2, G2, F2⟩ => ?_
 exact noE (h3 A s2 ρ2 env v hA H2 F2 (Rep.go G2 (F.go0 G1).notSeq R1)) fun _ s3 ⟨ρ3, H3, G3, F3⟩ => ⟨ρ3, H3, (G1.nil.trans G2).trans G3, F3, .next⟩
theorem Ex1.aug {x : Str} {p2 pos : Pos} {op : Operator} {value : Expr} {p q r : PV} (hx : lo.lookup x = some p) (hk : φ.names.lookup x = some .local) (h2 : Ev C n φ lo value st q st1) (h3 : Op2 C n (inplaceOp op) p q st1 r st2) :
  Ex1 C n φ lo (.AugAssign (.Name x p2) op value pos) st .next ((x, r) :: lo) st2 := fun A s ρ env hA H F => by
 obtain ⟨m, hn, hm⟩ := F.ns
 obtain ⟨v, hv, R⟩ := hm x p hx hk
 refine wpAny_AugAssign_Name (wpAny_loadName_local (by rw [F.scope]; exact F.kind) (by unfold Env.kindOf; rw [F.scope]; exact hk) hn hv ?_)
 exact noE (h2 A s ρ env hA H F) fun b s2 ⟨ρ2, H2, G2, R2⟩ =>
  noE (h3 A s2 ρ2 v b hA H2 (R.go0 G2) R2) fun c s3 ⟨ρ3, H3, G3, R3⟩ =>
   noE (storeJ H3 (F.go0 (G2.trans G3)) R3 (.inl hk)) fun _ s4 ⟨ρ4, H4, G4, F4⟩ => ⟨ρ4, H4, (G2.trans G3).nil.trans G4, F4, .next⟩
theorem Ex1.expr {e : Expr} {pos : Pos} {p : PV} (h1 : Ev C n φ lo e st p st1) (hs : ∀ l env, swapsWith e none l env = pure false := by intro _ _; rfl) : Ex1 C n φ lo (.Expr e pos) st .next lo st1 := fun A s ρ env hA H F =>
 wpAny_Expr_any (noE (h1 A s ρ env hA H F) fun v s1 ⟨ρ1, H1, G1, R1⟩ => ⟨ρ1, H1, G1.nil, F.go0 G1, .next⟩) (by unfold interactive; rw [F.scope, F.kind]; rfl) (hs _ _)
theorem Ex1.ret {e : Expr} {pos : Pos} {p : PV} (h1 : Ev C n φ lo e st p st1) : Ex1 C n φ lo (.Return (some e) pos) st (.ret p) lo st1 := fun A s ρ env hA H F =>
 wpAny_Return_some (noE (h1 A s ρ env hA H F) fun v s1 ⟨ρ1, H1, G1, R1⟩ => ⟨ρ1, H1, G1.nil, F.go0 G1, .ret _ _ R1⟩)
theorem Ex1.brk {pos : Pos} : Ex1 C n φ lo (.Break pos) st .brk lo st := fun A s ρ env hA H F => wpAny_Break ⟨ρ, H, Go.refl _ _ _, F, .brk⟩
theorem Ex1.cont {pos : Pos} : Ex1 C n φ lo (.Continue pos) st .cont lo st := fun A s ρ env hA H F => wpAny_Continue ⟨ρ, H, Go.refl _ _ _, F, .cont⟩
theorem Ex1.ite {t : Expr} {b o : List Stmt} {pos : Pos} {c : Bool} {f : Fl} (h : Tr C n φ lo t st c st1) (h2 : Ex C n φ lo (if c then b else o) st1 f lo1 st2) : Ex1 C n φ lo (.If t b o pos) st f lo1 st2 := fun A s ρ env hA H F =>
 wpAny_If (noE (h A s ρ env hA H F) fun c' s1 ⟨ρ1, H1, G1, e⟩ => by
  subst e
  have := h2 A s1 ρ1 env hA H1 (F.go0 G1)
  cases c' <;> exact noE this fun fl s2 ⟨ρ2, H2, G2, F2, R2⟩ => ⟨ρ2, H2, G1.nil.trans G2, F2, R2⟩)
noncomputable def Wh (C : Cx) (n : Nat) (φ : Scope) (lo : Loc) (t : Expr) (b : List Stmt) (st : Sto) (f : Fl) (lo' : Loc) (st' : Sto) : Prop :=
 ∀ A s ρ env, Lv n A → Hp C ρ st s → FrAt C φ lo ρ s.heap env → codeAny (model C.prog C.w) A (.whileLoop t b [] env) (fun r s' => match r with | .ok fl => PostF C φ env ρ s lo' st' f fl s' | .error _ => False) s
theorem noE' {α : Type} {M : Model} {A : Around} {t : Sem α} {Q : α → Shared → Prop} {E : Value → Shared → Prop} {s : Shared} (h : wpAny M A t Q NoE s) : wpAny M A t Q E s := noE h fun _ _ q => q
theorem codeAny_turn {t : Expr} {b : List Stmt} {env : Env} {A : Around} {s : Shared} {R : Result → Shared → Prop} {prog : Program} {w : World}
  (turn : wpAny (model prog w) A (isTrue t env (eval t env)) (fun c s₂ =>
    if c then wpAny (model prog w) A (execs b env) (fun f s₃ => match f with
      | .next | .cont => codeAny (model prog w) A (.whileLoop t b [] env) R s₃
      | .brk => R (.ok .next) s₃
      | .ret v => R (.ok (.ret v)) s₃) NoE s₂
    else R (.ok .next) s₂) NoE s) : codeAny (model prog w) A (.whileLoop t b [] env) R s := by
 refine codeAny_of_tree ?_
 show wpAny _ A ((whileTurn t b [] env).onRaise (fun x => do noteFrame x env; theTreesLotGoes x)) _ _ s
 refine wpAny_noted ?_
 simp only [whileTurn]
 refine wpAny_bind (noE turn fun c s₂ h₂ => ?_)
 cases c with
 | false => exact wpAny_bind (wpAny_execs_nil (wpAny_pure h₂))
 | true =>
  simp only [if_true] at h₂ ⊢
  refine wpAny_bind (noE h₂ fun f s₃ h₃ => ?_)
  cases f with
  | next => exact wpAny_pure ⟨rfl, h₃⟩
  | cont => exact wpAny_pure ⟨rfl, h₃⟩
  | brk => exact wpAny_pure h₃
  | ret v => exact wpAny_pure h₃
theorem Wh.done {t : Expr} {b : List Stmt} (h : Tr C n φ lo t st false st1) : Wh C n φ lo t b st .next lo st1 := fun A s ρ env hA H F =>
 codeAny_turn (noE (h A s ρ env hA H F) fun c s1 ⟨ρ1, H1, G1, e⟩ => by subst e; rw [if_neg (by decide)]; exact ⟨ρ1, H1, G1.nil, F.go0 G1, .next⟩)
theorem Wh.turn {t : Expr} {b : List Stmt} {f : Fl} (h : Tr C n φ lo t st true st1) (hb : Ex C n φ lo b st1 .next lo1 st2 ∨ Ex C n φ lo b st1 .cont lo1 st2) (hr : Wh C n φ lo1 t b st2 f lo2 st3) : Wh C n φ lo t b st f lo2 st3 := fun A s ρ env hA H F =>
 codeAny_turn (noE (h A s ρ env hA H F) fun c s1 ⟨ρ1, H1, G1, e⟩ => by
  subst e; rw [if_pos rfl]
  have key : ∀ f0, (f0 = Fl.next ∨ f0 = Fl.cont) → Ex C n φ lo b st1 f0 lo1 st2 → wpAny (model C.prog C.w) A (execs b env) (fun g s₃ => match g with
      | .next | .cont => codeAny (model C.prog C.w) A (.whileLoop t b [] env) (fun r s' => match r with | .ok fl => PostF C φ env ρ s lo2 st3 f fl s' | .error _ => False) s₃
      | .brk => PostF C φ env ρ s lo2 st3 f .next s₃
      | .ret v => PostF C φ env ρ s lo2 st3 f (.ret v) s₃) NoE s1 := fun f0 hf hb =>
   noE (hb A s1 ρ1 env hA H1 (F.go0 G1)) fun fl s2 ⟨ρ2, H2, G2, F2, R2⟩ => by
    have more : codeAny (model C.prog C.w) A (.whileLoop t b [] env) (fun r s' => match r with | .ok fl => PostF C φ env ρ s lo2 st3 f fl s' | .error _ => False) s2 :=
     codeAny_mono (hr A s2 ρ2 env hA H2 F2) fun r s3 h3 => by
      cases r with
      | error e => exact h3
      | ok fl => obtain ⟨ρ3, H3, G3, F3, R3⟩ := h3; exact ⟨ρ3, H3, (G1.nil.trans G2).trans G3, F3, R3⟩
    rcases hf with rfl | rfl <;> cases R2 <;> exact more
  rcases hb with hb | hb
  ·exact key _ (.inl rfl) hb
  ·exact key _ (.inr rfl) hb)
theorem Wh.brk {t : Expr} {b : List Stmt} (h : Tr C n φ lo t st true st1) (hb : Ex C n φ lo b st1 .brk lo1 st2) : Wh C n φ lo t b st .next lo1 st2 := fun A s ρ env hA H F =>
 codeAny_turn (noE (h A s ρ env hA H F) fun c s1 ⟨ρ1, H1, G1, e⟩ => by
  subst e; rw [if_pos rfl]
  exact noE (hb A s1 ρ1 env hA H1 (F.go0 G1)) fun fl s2 ⟨ρ2, H2, G2, F2, R2⟩ => by cases R2; exact ⟨ρ2, H2, G1.nil.trans G2, F2, .next⟩)
theorem Ex1.while {t : Expr} {b : List Stmt} {pos : Pos} {f : Fl} (h : Wh C n φ lo t b st f lo1 st1) : Ex1 C n φ lo (.While t b [] pos) st f lo1 st1 := fun A s ρ env hA H F =>
 wpAny_While (codeAny_mono (h A s ρ env hA H F) fun r s1 h1 => by
  cases r with
  | ok fl => exact h1
  | error e => exact h1.elim)
end
end
section
theorem runs_size {M : Model} {Γ : Ctx} {p : Pos} {t : Sem Fin} {fs : List Frame} {s s' : Shared} {e : End} (h : Runs M Γ p t fs s e s') : s.heap.objs.size ≤ s'.heap.objs.size := by
 induction h <;> (try simp only [Shared.setGen, Heap.size_push, Heap.size_after_update] at *) <;> omega
theorem wakes_size {M : Model} {Γ : Ctx} {p : Pos} {g : Nat} {r : Resume} {s s' : Shared} {res : GenResult} (h : Wakes M Γ p g r s res s') : s.heap.objs.size ≤ s'.heap.objs.size := by
 unfold Wakes at h
 split at h
 ·exact h.elim
 ·split at h
  ·obtain ⟨e₁, s₁, hr, _, _, rfl⟩ := h; exact (runs_size hr : (s.setGen g .running).heap.objs.size ≤ s₁.heap.objs.size)
  ·rw [h.2]; exact Nat.le_refl _
  ·rw [h.2]; exact Nat.le_refl _
 ·obtain ⟨e₁, s₁, hr, _, _, rfl⟩ := h; exact (runs_size hr : (s.setGen g .running).heap.objs.size ≤ s₁.heap.objs.size)
 ·rw [h.2]; exact Nat.le_refl _
 ·rw [h.2]; exact Nat.le_refl _
theorem wp_size {α : Type} (M : Model) (Γ : Ctx) (n : Nat) (t : Sem α) : ∀ (Q : α → Pos → Shared → Prop) (E : Value → Pos → Shared → Prop) (p : Pos) (s : Shared), n ≤ s.heap.objs.size → Sem.wp M Γ t Q E p s →
  Sem.wp M Γ t (fun a p' s' => n ≤ s'.heap.objs.size ∧ Q a p' s') (fun e p' s' => n ≤ s'.heap.objs.size ∧ E e p' s') p s := by
 induction t with
 | pure a => intro Q E p s hn h; exact ⟨hn, h⟩
 | raise e => intro Q E p s hn h; exact ⟨hn, h⟩
 | unsupported _ => intro Q E p s _ h; exact h
 | finish _ => intro Q E p s _ h; exact h
 | rule _ k ih => intro Q E p s hn h; exact ih () Q E p s hn h
 | «at» p' k ih => intro Q E p s hn h; exact ih () Q E p' s hn h
 | load a _ k ih => intro Q E p s hn h; obtain ⟨o, ho, h⟩ := h; exact ⟨o, ho, ih o Q E p s hn h⟩
 | update a _ f k ih => intro Q E p s hn h; exact ⟨h.1, ih () Q E p _ (by rw [Heap.size_after_update]; exact hn) h.2⟩
 | loadIfAlive a k ih => intro Q E p s hn h; exact ih _ Q E p s hn h
 | point _ k ih => intro Q E p s hn h; exact ih () Q E p s hn h
 | register _ _ => intro Q E p s _ h; exact h
 | alloc o k ih => intro Q E p s hn h; exact ih _ Q E p _ (by rw [Heap.size_push]; omega) h
 | fresh k ih => intro Q E p s hn h; exact ih _ Q E p { s with toks := s.toks + 1 } hn h
 | ask k ih => intro Q E p s hn h; exact ih _ Q E p s hn h
 | choose src m k ih => intro Q E p s hn h; exact ⟨h.1, ih _ Q E p { s with drawn := s.drawn.bump src } hn h.2⟩
 | os q _ k ih => intro Q E p s hn h; exact ih _ Q E p { s with os := (Os.step s.os q).1 } hn h
 | call c hd _ _ k ih => intro Q E p s hn h; obtain ⟨r, s', hr, h⟩ := h; exact ⟨r, s', hr, ih r Q E p s' (Nat.le_trans hn (runs_size hr)) h⟩
 | handled own k ih => intro Q E p s hn h; exact ih _ Q E p s hn h
 | genState g k ih => intro Q E p s hn h; obtain ⟨st, hs, h⟩ := h; exact ⟨st, hs, ih _ Q E p s hn h⟩
 | newGen c k ih => intro Q E p s hn h; exact ih _ Q E p { s with gens := s.gens.push (.fresh c) } hn h
 | resume g r _ k ih => intro Q E p s hn h; obtain ⟨res, s', hw, h⟩ := h; exact ⟨res, s', hw, ih res Q E p s' (Nat.le_trans hn (wakes_size hw)) h⟩
 | yield _ _ _ _ => intro Q E p s _ h; exact h
 | stack k ih => intro Q E p s hn h; exact ih _ Q E p s hn h
 | fork _ _ => intro Q E p s _ h; exact h
 | thread k ih => intro Q E p s hn h; exact ih _ Q E p s hn h
 | await _ _ _ _ _ => intro Q E p s _ h; exact h
theorem wpAny_size {α : Type} {M : Model} {A : Around} {s : Shared} {t : Sem α} {Q : α → Shared → Prop} {E : Value → Shared → Prop}
  (h : wpAny M A t (fun a s' => s.heap.objs.size ≤ s'.heap.objs.size → Q a s') (fun e s' => s.heap.objs.size ≤ s'.heap.objs.size → E e s') s) : wpAny M A t Q E s :=
 fun Γ p hΓ => Sem.wp_mono M Γ t (fun a _ s' h' => h'.2 h'.1) (fun a _ s' h' => h'.2 h'.1) p s (wp_size M Γ _ t _ _ p s (Nat.le_refl _) (h Γ p hΓ))
end
section
noncomputable abbrev ItR := Nat → Sto → Option PV → Prop
noncomputable def ownedIts : List String := ["enumerate", "zip", "dict_itemiterator", "dict_reverseitemiterator", "odict_iterator", "itertools.zip_longest", "itertools.pairwise"]
structure ItOk (C : Cx) (n : Nat) (I : Addr) (P : Nat → List Addr → Heap → Prop) (It : ItR) : Prop where
 next : ∀ A s ρ st k r, Lv n A → Hp C ρ st s → I ∉ ρ → C.S0.heap.objs.size ≤ I → P k ρ s.heap → It k st r →
  wpAny (model C.prog C.w) A (pyNext (.ref I)) (fun v s' => Hp C ρ st s' ∧ Go [I] ρ s.heap ρ s'.heap ∧
   match r with
   | some p => ∃ u, v = some u ∧ Rep s'.heap ρ p u ∧ P (k + 1) ρ s'.heap
   | none => v = none) NoE s
 go : ∀ k ρ h ρ' h', P k ρ h → (∀ (i : Nat) a, ρ[i]? = some a → ρ'[i]? = some a) → (∀ o, h.get? I = some o → h'.get? I = some o) → P k ρ' h'
 cls : ∀ k ρ h, P k ρ h → ∃ o T, h.get? I = some o ∧ o.cls = .type T ∧ ownedIts.contains T = false ∧ ¬ Fz o
 self : ∀ A s ρ k (Q : Value → Shared → Prop) E, P k ρ s.heap → Q (.ref I) s → wpAny (model C.prog C.w) A (pyIter (.ref I)) Q E s
noncomputable def Itr (C : Cx) (n : Nat) (p : PV) (st : Sto) (It : ItR) (st' : Sto) : Prop :=
 ∀ A s ρ v, Lv n A → Hp C ρ st s → Rep s.heap ρ p v → wpAny (model C.prog C.w) A (pyIter v) (fun it s' => ∃ ρ' I P, it = .ref I ∧ Hp C ρ' st' s' ∧ Go [] ρ s.heap ρ' s'.heap ∧ ItOk C n I P It ∧ P 0 ρ' s'.heap ∧ I ∉ ρ' ∧ s.heap.objs.size ≤ I) NoE s
section
variable {C : Cx} {n : Nat} {φ : Scope} {lo lo1 lo2 lo3 : Loc} {st st1 st2 st3 : Sto} {It : ItR} {k : Nat}
noncomputable def PostI (C : Cx) (φ : Scope) (env : Env) (I : Addr) (ρ : List Addr) (s : Shared) (lo' : Loc) (st' : Sto) (f : Fl) : Result → Shared → Prop :=
 fun r s' => ∃ v, r = .ok v ∧ ∃ ρ', Hp C ρ' st' s' ∧ Go (I :: frW env) ρ s.heap ρ' s'.heap ∧ FrAt C φ lo' ρ' s'.heap env ∧ RepFl s'.heap ρ' f v
noncomputable def Fo (C : Cx) (n : Nat) (φ : Scope) (lo : Loc) (t : Expr) (b : List Stmt) (It : ItR) (k : Nat) (st : Sto) (f : Fl) (lo' : Loc) (st' : Sto) : Prop :=
 ∀ A s ρ env I P, Lv n A → Hp C ρ st s → FrAt C φ lo ρ s.heap env → ItOk C n I P It → P k ρ s.heap → I ∉ ρ → C.S0.heap.objs.size ≤ I → I ∉ frW env →
  codeAny (model C.prog C.w) A (.forLoop t (.ref I) b [] env) (PostI C φ env I ρ s lo' st' f) s
theorem ownGo {A : Around} {s : Shared} {t : Expr} {I : Addr} {v : Value} {o : Obj} {T : String} {Q : Unit → Shared → Prop} {M : Model} {E : Value → Shared → Prop}
  (ho : s.heap.get? I = some o) (hc : o.cls = .type T) (hT : ownedIts.contains T = false) (h : Q () s) : wpAny M A (letOwnedTupleGo t (.ref I) v) Q E s := by
 have key : wpAny M A (do
   let (.ref r, .ref a) := (Value.ref I, v) | (return : Sem Unit)
   let o ← load r
   match o.cls, o.data with
   | .type n, .fields vs =>
    if ownedIts.contains n && vs[0]? == some (rawInt a) then
     rule "for.unpacks-the-owned-tuple"
     updateField r 0 .none
   | _, _ => pure ()) Q E s := by
  cases v with
  | ref a =>
   refine wpAny_bind (wpAny_load ho ?_)
   rw [hc]
   cases hd : o.data with
   | fields vs =>
    simp only [hT, Bool.false_and, Bool.false_eq_true, if_false]
    exact wpAny_pure h
   | _ => exact wpAny_pure h
  | _ => exact wpAny_pure h
 cases t <;> first | exact key | exact wpAny_pure h
theorem forTurnJ {t : Expr} {b : List Stmt} {env : Env} {A : Around} {s : Shared} {R : Result → Shared → Prop} {prog : Program} {w : World} {I : Addr}
  (turn : wpAny (model prog w) A (pyNext (.ref I)) (fun r s₁ => match r with
   | none => R (.ok .next) s₁
   | some v => wpAny (model prog w) A (letOwnedTupleGo t (.ref I) v) (fun _ s₁ => wpAny (model prog w) A (PySem.assign t env v) (fun _ s₂ => wpAny (model prog w) A (execs b env) (fun f s₃ => match f with
     | .next | .cont => codeAny (model prog w) A (.forLoop t (.ref I) b [] env) R s₃
     | .brk => R (.ok .next) s₃
     | .ret v => R (.ok (.ret v)) s₃) NoE s₂) NoE s₁) NoE s₁) NoE s) : codeAny (model prog w) A (.forLoop t (.ref I) b [] env) R s := by
 refine codeAny_of_tree ?_
 show wpAny _ A ((forTurn t (.ref I) b [] env).onRaise (fun x => do noteFrame x env; theTreesLotGoes x)) _ _ s
 refine wpAny_noted ?_
 simp only [forTurn]
 refine wpAny_bind (wpAny_standAt (wpAny_bind (wpAny_onRaise (noE turn fun r s₁ h₁ => ?_))))
 cases r with
 | none => exact wpAny_pure ⟨rfl, codeAny_block (wpAny_execs_nil h₁)⟩
 | some v =>
  refine wpAny_bind (noE h₁ fun _ s₁ h₁ => wpAny_bind (noE h₁ fun _ s₂ h₂ => wpAny_bind (noE h₂ fun f s₃ h₃ => ?_)))
  cases f with
  | next => exact wpAny_pure ⟨rfl, h₃⟩
  | cont => exact wpAny_pure ⟨rfl, h₃⟩
  | brk => exact wpAny_pure h₃
  | ret v => exact wpAny_pure h₃
theorem notSeq_one {s : Shared} {ρ : List Addr} {I : Addr} {P : Nat → List Addr → Heap → Prop} (io : ItOk C n I P It) (hp : P k ρ s.heap) : ∀ a ∈ [I], NotSeq s.heap a := fun a m => by
 simp at m; subst m
 obtain ⟨o, T, ho, _, _, hd⟩ := io.cls _ _ _ hp
 intro o' e; rw [ho] at e; cases e; exact hd
theorem FrAt.goI {ρ ρ' : List Addr} {h h' : Heap} {env : Env} {I : Addr} (F : FrAt C φ lo ρ h env) (x : Go [I] ρ h ρ' h') (hI : I ∉ frW env) (hw : ∀ a ∈ [I], NotSeq h a) : FrAt C φ lo ρ' h' env where
 scope := F.scope
 kind := F.kind
 glob := F.glob
 blt := F.blt
 fr := fun a m => by
  obtain ⟨h1, h2, o, e, r⟩ := F.fr a m
  exact ⟨x.nin h1 (lt_size_of e), h2, o, x.keep _ _ h1 (by simp; rintro rfl; exact hI m) e, r⟩
 ns := by
  obtain ⟨m, ⟨o, es, ep, ho, r⟩, e⟩ := F.ns
  exact ⟨m, ⟨o, es, ep, x.keep _ _ (F.fr _ List.mem_cons_self).1 (by simp; intro q; exact hI (q ▸ List.mem_cons_self)) ho, r⟩, fun y pv e1 e2 => let ⟨v, a, b⟩ := e y pv e1 e2; ⟨v, a, Rep.go x hw b⟩⟩
 cells := fun y hy => by
  obtain ⟨c, h1, h2, v, ⟨o, ho, hd⟩, r⟩ := F.cells y hy
  exact ⟨c, h1, h2, v, ⟨o, x.keep _ _ (F.fr _ (F.cellIn h1)).1 (by simp; intro q; exact hI (q ▸ F.cellIn h1)) ho, hd⟩, fun pv e => let ⟨u, a, b⟩ := r pv e; ⟨u, a, Rep.go x hw b⟩⟩
 inj := F.inj
theorem Fo.done {t : Expr} {b : List Stmt} (h : It k st none) : Fo C n φ lo t b It k st .next lo st := fun A s ρ env I P hA H F io hp hI hg hf =>
 forTurnJ (noE (io.next A s ρ st k _ hA H hI hg hp h) fun v s1 ⟨H1, G1, e⟩ => by
  subst e
  exact ⟨_, rfl, ρ, H1, G1.weaken fun a m => .inl (by simp at m; subst m; exact List.mem_cons_self), F.goI G1 hf (notSeq_one io hp), .next⟩)
theorem Go.cons {I : Addr} {W ρ ρ' : List Addr} {h h' : Heap} (G : Go W ρ h ρ' h') : Go (I :: W) ρ h ρ' h' := G.weaken fun a m => .inl (List.mem_cons_of_mem _ m)
theorem Fo.turnG {t : Expr} {b : List Stmt} {p : PV} {f g : Fl} (h : It k st (some p)) (ha : As C n φ lo t p st lo1 st1) (hb : Ex C n φ lo1 b st1 g lo2 st2)
  (hr : match g with | .next | .cont => Fo C n φ lo2 t b It (k + 1) st2 f lo3 st3 | .brk => f = .next ∧ lo3 = lo2 ∧ st3 = st2 | .ret q => f = .ret q ∧ lo3 = lo2 ∧ st3 = st2) : Fo C n φ lo t b It k st f lo3 st3 := fun A s ρ env I P hA H F io hp hI hg hf => by
 refine forTurnJ (noE (io.next A s ρ st k _ hA H hI hg hp h) fun v s1 ⟨H1, G1, u, e, R1, hp1⟩ => ?_)
 subst e
 have nI := notSeq_one io hp
 have F1 := F.goI G1 hf nI
 obtain ⟨o, T, ho, hc, hT, _⟩ := io.cls _ _ _ hp1
 refine ownGo ho hc hT (noE (ha A s1 ρ env u hA H1 F1 R1) fun _ s2 ⟨ρ2, H2, G2, F2⟩ => ?_)
 have hp2 : P (k + 1) ρ2 s2.heap := io.go _ _ _ _ _ hp1 (fun i a e => G2.idx e) fun o e => G2.keep _ _ hI hf e
 have hI2 : I ∉ ρ2 := G2.nin hI (lt_size_of ho)
 refine noE (hb A s2 ρ2 env hA H2 F2) fun fl s3 ⟨ρ3, H3, G3, F3, R3⟩ => ?_
 obtain ⟨o2, T2, ho2, _⟩ := io.cls _ _ _ hp2
 have hp3 : P (k + 1) ρ3 s3.heap := io.go _ _ _ _ _ hp2 (fun i a e => G3.idx e) fun o e => G3.keep _ _ hI2 hf e
 have G : Go (I :: frW env) ρ s.heap ρ3 s3.heap := ((G1.weaken fun a m => .inl (by simp at m; subst m; exact List.mem_cons_self)).trans G2.cons).trans G3.cons
 have more : Fo C n φ lo2 t b It (k + 1) st2 f lo3 st3 → codeAny (model C.prog C.w) A (.forLoop t (.ref I) b [] env) (PostI C φ env I ρ s lo3 st3 f) s3 := fun hr =>
  codeAny_mono (hr A s3 ρ3 env I P hA H3 F3 io hp3 (G3.nin hI2 (lt_size_of ho2)) hg hf) fun r s4 ⟨v, e, ρ4, H4, G4, F4, R4⟩ => ⟨v, e, ρ4, H4, G.trans G4, F4, R4⟩
 cases R3 with
 | next => exact more hr
 | cont => exact more hr
 | brk => obtain ⟨rfl, rfl, rfl⟩ := hr; exact ⟨_, rfl, ρ3, H3, G, F3, .next⟩
 | ret q w r => obtain ⟨rfl, rfl, rfl⟩ := hr; exact ⟨_, rfl, ρ3, H3, G, F3, .ret _ _ r⟩
theorem Fo.turn {t : Expr} {b : List Stmt} {p : PV} {f : Fl} (h : It k st (some p)) (ha : As C n φ lo t p st lo1 st1) (hb : Ex C n φ lo1 b st1 .next lo2 st2)
  (hr : Fo C n φ lo2 t b It (k + 1) st2 f lo3 st3) : Fo C n φ lo t b It k st f lo3 st3 := Fo.turnG h ha hb hr
theorem Fo.ret {t : Expr} {b : List Stmt} {p q : PV} (h : It k st (some p)) (ha : As C n φ lo t p st lo1 st1) (hb : Ex C n φ lo1 b st1 (.ret q) lo2 st2) : Fo C n φ lo t b It k st (.ret q) lo2 st2 :=
 Fo.turnG h ha hb ⟨rfl, rfl, rfl⟩
theorem Fo.sub {t : Expr} {b : List Stmt} {f : Fl} (h : Fo C n φ lo t b It k st f lo1 st1) (hs : ∀ x pv, lo2.lookup x = some pv → lo1.lookup x = some pv) : Fo C n φ lo t b It k st f lo2 st1 := fun A s ρ env I P hA H F io hp hI hg hf =>
 codeAny_mono (h A s ρ env I P hA H F io hp hI hg hf) fun r s1 ⟨v, e, ρ1, H1, G1, F1, R1⟩ => ⟨v, e, ρ1, H1, G1, F1.sub hs, R1⟩
theorem Fo.pre {t : Expr} {b : List Stmt} {f : Fl} (h : Fo C n φ lo t b It k st f lo1 st1) (hs : ∀ x pv, lo.lookup x = some pv → lo2.lookup x = some pv) : Fo C n φ lo2 t b It k st f lo1 st1 := fun A s ρ env I P hA H F io hp hI hg hf =>
 h A s ρ env I P hA H (F.sub hs) io hp hI hg hf
theorem Ex1.for {t iter : Expr} {b : List Stmt} {pos : Pos} {p : PV} {f : Fl} (h1 : Ev C n φ lo iter st p st1) (h2 : Itr C n p st1 It st2) (h3 : Fo C n φ lo t b It 0 st2 f lo1 st3)
  (hs : ∀ env x, foldedSetIterable iter env x = pure x := by intro _ _; rfl) : Ex1 C n φ lo (.For t iter b [] pos) st f lo1 st3 := fun A s ρ env hA H F =>
 wpAny_For (noE (h1 A s ρ env hA H F) fun v s1 hx => by
  obtain ⟨ρ1, H1, G1, R1⟩ := hx
  refine noE (h2 A s1 ρ1 v hA H1 R1) fun it s2 hx => ?_
  obtain ⟨ρ2, I, P, rfl, H2, G2, io, hp, hI, hn⟩ := hx
  have G := G1.trans G2
  have F2 := F.go0 G
  have hge : s.heap.objs.size ≤ I := Nat.le_trans G1.size hn
  have hf : I ∉ frW env := fun m => Nat.lt_irrefl _ (Nat.lt_of_lt_of_le (F.fr I m).2.2.lt hge)
  refine codeAny_mono (h3 A s2 ρ2 env I P hA H2 F2 io hp hI (Nat.le_trans H.ge hge) hf) fun r s3 hx => ?_
  obtain ⟨fl, rfl, ρ3, H3, G3, F3, R3⟩ := hx
  refine ⟨ρ3, H3, ?_, F3, R3⟩
  refine Go.weaken (W := I :: frW env) ((G.nil).trans G3) fun a m => ?_
  rcases List.mem_cons.mp m with q | q
  ·exact .inr (q ▸ hge)
  ·exact .inl q) (hs env)
end
noncomputable def ListIt (i : Nat) : ItR := fun k st r => ∃ xs, st[i]? = some (.list xs) ∧ r = xs[k]?
noncomputable def RangeIt (a c : Int) (m : Nat) : ItR := fun k _ r => r = if k < m then some (.int (a + k * c)) else none
noncomputable def StrIt (x : Str) : ItR := fun k _ r => r = (x.cps[k]?).map fun c => .str ⟨#[c]⟩
section
variable {C : Cx} {n : Nat} {st : Sto}
theorem hp_iter {ρ : List Addr} {s : Shared} {I : Addr} {h' : Heap} {t' : Nat} (H : Hp C ρ st s) (hI : I ∉ ρ) (hg : C.S0.heap.objs.size ≤ I) (hn : NotSeq s.heap I) (he : Heap.ExtBut I s.heap h')
  (hz : s.heap.objs.size ≤ h'.objs.size) : Hp C ρ st { s with heap := h', toks := t' } ∧ Go [I] ρ s.heap ρ h' := by
 have G : Go [I] ρ s.heap ρ h' := ⟨hz, ⟨[], by simp, by simp⟩, fun a o _ n e => he a o (by simpa using n) e⟩
 have nw : ∀ a ∈ [I], NotSeq s.heap a := fun a m => by simp at m; subst m; exact hn
 refine ⟨⟨fun a o e => he a o (fun q => ?_) (H.old a o e), Nat.le_trans H.ge hz, H.new, fun a m => Nat.lt_of_lt_of_le (H.lt a m) hz, H.nodup, H.len,
  fun j b ob' e1 e2 => (H.obs j b ob' e1 e2).imp (fun p v r => Rep.go G nw r) (fun _ _ e => e) (fun o e => he b o (fun q => hI (q ▸ List.mem_of_getElem? e1)) e), H.gens, H.os⟩, G⟩
 subst q; exact Nat.lt_irrefl _ (Nat.lt_of_lt_of_le (lt_size_of e) hg)
theorem Itr.list {i : Nat} {xs : List PV} (hi : st[i]? = some (.list xs)) : Itr C n (.ref i) st (ListIt i) st := fun A s ρ v hA H R => by
 (replace R := R.inv; obtain ⟨a, rfl, ha⟩ := R)
 obtain ⟨b, hb, ob⟩ := H.idx' hi
 rw [ha] at hb; cases hb
 obtain ⟨vs, m, ho, rl⟩ := ob
 have hl : s.heap.IsList a vs.toArray := ⟨_, ho, rfl, m, rfl⟩
 refine wpAny_pyIter_list hl ?_
 obtain ⟨H1, G1⟩ := H.push { cls := .type "list_iterator", data := .fields #[.ref a, .int 0 0] } s.toks
 refine ⟨ρ, s.heap.objs.size, fun k ρ' h => ∃ l, ρ'[i]? = some l ∧ h.IsListIter s.heap.objs.size l k, rfl, H1, G1, ?_, ⟨a, ha, _, Heap.get?_push_size _ rfl, rfl, rfl⟩, fun q => Nat.lt_irrefl _ (H.lt _ q), Nat.le_refl _⟩
 generalize s.heap.objs.size = I
 refine ⟨?_, ?_, ?_, ?_⟩
 ·rintro A s ρ st k r hA H hI hg ⟨l, hl, hit⟩ ⟨xs, hx, rfl⟩
  obtain ⟨b, hb, ob⟩ := H.idx' hx
  rw [hl] at hb; cases hb
  obtain ⟨vs, m, ho, rl⟩ := ob
  have hL : s.heap.IsList l vs.toArray := ⟨_, ho, rfl, m, rfl⟩
  have hn : NotSeq s.heap I := by obtain ⟨o, e1, e2, e3⟩ := hit; intro o' e; rw [e1] at e; cases e; exact notFz_it e2 e3
  cases hk : xs[k]? with
  | some p =>
   obtain ⟨u, hu, ru⟩ := rl.get hk
   refine wpAny_pyNext_list_item hit hL (by simpa using hu) fun h' hit' hs => ?_
   obtain ⟨H', G'⟩ := H.other s.toks hI hg hn hs
   exact ⟨H', G', u, rfl, Rep.go G' (fun a m => by simp at m; subst m; exact hn) ru, l, hl, hit'⟩
  | none =>
   have : vs[k]? = none := by
    cases e : vs[k]? with
    | none => rfl
    | some u => obtain ⟨p, hp, _⟩ := rl.get' e; rw [hk] at hp; cases hp
   refine wpAny_size (wpAny_pyNext_list_end hA.1 hit hL (by simpa using this) fun h' he hz => ?_)
   obtain ⟨H', G'⟩ := hp_iter (t' := s.toks) H hI hg hn he hz
   exact ⟨H', G', rfl⟩
 ·rintro k ρ h ρ' h' ⟨l, hl, o, ho, r⟩ hi hk
  exact ⟨l, hi _ _ hl, o, hk _ ho, r⟩
 ·rintro k ρ h ⟨l, hl, o, ho, hc, hd⟩
  exact ⟨o, _, ho, hc, by decide, notFz_it hc hd⟩
 ·rintro A s ρ k Q E ⟨l, hl, hit⟩ hQ
  exact wpAny_pyIter_listiter hit hQ
theorem itok_range {I : Addr} (a c : Int) (m : Nat) : ItOk C n I (fun k _ h => IsRangeIter h I (a + (k : Int) * c) ((m : Int) - (k : Int)) c) (RangeIt a c m) := by
 refine ⟨?_, ?_, ?_, ?_⟩
 ·rintro A s ρ st k r hA H hI hg hit rfl
  have hn : NotSeq s.heap I := by intro o' e; rw [hit] at e; cases e; exact notFz_it rfl rfl
  by_cases hk : k < m
  ·rw [if_pos hk]
   refine wpAny_pyNext_range_item hit (by omega) fun h' hit' hs => ?_
   obtain ⟨H', G'⟩ := H.other (s.toks + 1) hI hg hn hs
   refine ⟨H', G', _, rfl, .int _ _, ?_⟩
   have e1 : a + ((k + 1 : Nat) : Int) * c = a + (k : Int) * c + c := by
    rw [Int.natCast_add, Int.add_mul]; simp; omega
   have e2 : (m : Int) - ((k + 1 : Nat) : Int) = (m : Int) - (k : Int) - 1 := by omega
   show IsRangeIter h' I (a + ((k + 1 : Nat) : Int) * c) ((m : Int) - ((k + 1 : Nat) : Int)) c
   rw [e1, e2]; exact hit'
  ·rw [if_neg hk]
   refine wpAny_size (wpAny_pyNext_range_end hA.1 hit (by omega) fun h' he hz => ?_)
   obtain ⟨H', G'⟩ := hp_iter (t' := s.toks) H hI hg hn he hz
   exact ⟨H', G', rfl⟩
 ·intro k ρ h ρ' h' e _ hk
  exact hk _ e
 ·intro k ρ h e
  exact ⟨_, _, e, rfl, by decide, notFz_it rfl rfl⟩
 ·intro A s ρ k Q E hit hQ
  exact wpAny_pyIter_rangeiter hit hQ
theorem Itr.str {x : Str} (ha : x.cps.all (· < 128) = true) : Itr C n (.str x) st (StrIt x) st := fun A s ρ v hA H R => by
 (replace R := R.inv; obtain ⟨t, rfl⟩ := R)
 refine wpAny_pyIter_ascii ha ?_
 obtain ⟨H1, G1⟩ := H.push { cls := .type "str_ascii_iterator", data := .fields #[.str x t, .int 0 0] } s.toks
 refine ⟨ρ, s.heap.objs.size, fun k ρ' h => h.IsStrIter s.heap.objs.size "str_ascii_iterator" x t k, rfl, H1, G1, ?_, ⟨_, Heap.get?_push_size _ rfl, rfl, rfl⟩, fun q => Nat.lt_irrefl _ (H.lt _ q), Nat.le_refl _⟩
 generalize s.heap.objs.size = I
 refine ⟨?_, ?_, ?_, ?_⟩
 ·rintro A s ρ st k r hA H hI hg hit rfl
  have hn : NotSeq s.heap I := by obtain ⟨o, e1, e2, e3⟩ := hit; intro o' e; rw [e1] at e; cases e; exact notFz_it e2 e3
  cases hk : x.cps[k]? with
  | some c =>
   refine wpAny_pyNext_ascii_item hit hk fun h' hit' hs => ?_
   obtain ⟨H', G'⟩ := H.other (s.toks + 1) hI hg hn hs
   exact ⟨H', G', _, rfl, .str _ _, hit'⟩
  | none =>
   refine wpAny_size (wpAny_pyNext_ascii_end hA.1 hit hk fun h' he hz => ?_)
   obtain ⟨H', G'⟩ := hp_iter (t' := s.toks) H hI hg hn he hz
   exact ⟨H', G', rfl⟩
 ·rintro k ρ h ρ' h' ⟨o, ho, r⟩ _ hk
  exact ⟨o, hk _ ho, r⟩
 ·rintro k ρ h ⟨o, ho, hc, hd⟩
  exact ⟨o, _, ho, hc, by decide, notFz_it hc hd⟩
 ·rintro A s ρ k Q E hit hQ
  exact wpAny_pyIter_striter_ascii hit hQ
end
end
section
section
variable {C : Cx} {n : Nat} {φ : Scope} {lo lo1 lo2 lo3 : Loc} {st st1 st2 st3 : Sto} {It : ItR} {k : Nat}
noncomputable def ItrE (C : Cx) (n : Nat) (φ : Scope) (lo : Loc) (e : Expr) (st : Sto) (It : ItR) (st' : Sto) : Prop :=
 ∀ A s ρ env, Lv n A → Hp C ρ st s → FrAt C φ lo ρ s.heap env → wpAny (model C.prog C.w) A (eval e env) (fun x s1 => wpAny (model C.prog C.w) A (pyIter x) (fun it s' =>
  ∃ ρ' I P, it = .ref I ∧ Hp C ρ' st' s' ∧ Go [] ρ s.heap ρ' s'.heap ∧ ItOk C n I P It ∧ P 0 ρ' s'.heap ∧ I ∉ ρ' ∧ s.heap.objs.size ≤ I) NoE s1) NoE s
theorem ItrE.of {e : Expr} {p : PV} (h1 : Ev C n φ lo e st p st1) (h2 : Itr C n p st1 It st2) : ItrE C n φ lo e st It st2 := fun A s ρ env hA H F =>
 noE (h1 A s ρ env hA H F) fun v s1 ⟨ρ1, H1, G1, R1⟩ => noE (h2 A s1 ρ1 v hA H1 R1) fun it s2 ⟨ρ2, I, P, e, H2, G2, io, hp, hI, hn⟩ => ⟨ρ2, I, P, e, H2, G1.trans G2, io, hp, hI, Nat.le_trans G1.size hn⟩
theorem Ex1.forE {t iter : Expr} {b : List Stmt} {pos : Pos} {f : Fl} (h1 : ItrE C n φ lo iter st It st2) (h3 : Fo C n φ lo t b It 0 st2 f lo1 st3)
  (hs : ∀ env x, foldedSetIterable iter env x = pure x := by intro _ _; rfl) : Ex1 C n φ lo (.For t iter b [] pos) st f lo1 st3 := fun A s ρ env hA H F =>
 wpAny_For (noE (h1 A s ρ env hA H F) fun v s1 h => noE h fun it s2 ⟨ρ2, I, P, e, H2, G, io, hp, hI, hge⟩ => by
  subst e
  have F2 := F.go0 G
  have hf : I ∉ frW env := fun m => Nat.lt_irrefl _ (Nat.lt_of_lt_of_le (F.fr I m).2.2.lt hge)
  refine codeAny_mono (h3 A s2 ρ2 env I P hA H2 F2 io hp hI (Nat.le_trans H.ge hge) hf) fun r s3 ⟨fl, e, ρ3, H3, G3, F3, R3⟩ => ?_
  subst e
  refine ⟨ρ3, H3, ?_, F3, R3⟩
  refine Go.weaken (W := I :: frW env) ((G.nil).trans G3) fun a m => ?_
  rcases List.mem_cons.mp m with q | q
  ·exact .inr (q ▸ hge)
  ·exact .inl q) (hs env)
theorem evalArgsJ {f : Value} {args : List (Bool × Sem Value)} {A : Around} {s : Shared} {M : Model} {Q : Args → Shared → Prop} {E : Value → Shared → Prop} (hp : args.any (·.1) = false)
  (h : wpAny M A (spliced args) (fun vs s' => Q ⟨vs, []⟩ s') E s) : wpAny M A (evalArgs f true args []) Q E s := by
 cases args with
 | nil =>
  unfold evalArgs
  show wpAny M A (spliced [] >>= _) Q E s
  refine wpAny_bind (wpAny_mono h (fun vs s' h' => ?_) fun _ _ x => x)
  refine wpAny_bind (wpAny_pure (wpAny_holding ?_))
  exact wpAny_bind (wpAny_pure (wpAny_bind (wpAny_pure (wpAny_pure h'))))
 | cons a r =>
  obtain ⟨b, x⟩ := a
  simp only [List.any_cons, Bool.or_eq_false_iff] at hp
  obtain ⟨rfl, _⟩ := hp
  exact Calls.evalArgs_plain h
theorem callEval {func : Expr} {args : List Expr} {pos : Pos} {env : Env} {A : Around} {s : Shared} {M : Model} {Q : Value → Shared → Prop} {E : Value → Shared → Prop}
  (h : wpAny M A (eval func env) (fun f s1 => wpAny M A (callWith pos f [] (backTo pos (starEach args env)) []) Q E s1) E s)
  (he : eval (.Call func args [] pos) env = (do callWith pos (← eval func env) [] (backTo pos (starEach args env)) (backToKw pos (keywordEach [] env))) := by rfl) : wpAny M A (eval (.Call func args [] pos) env) Q E s := by
 rw [he]; exact wpAny_bind h
theorem Ev.callf {func : Expr} {args : List Expr} {pos : Pos} {f : Addr} {o : Obj} {fd : FuncData} {ps : List PV} {r : PV} (h1 : Ev C n φ lo func st (.sta (.ref f)) st1) (h2 : EvL C n φ lo args st1 ps st2)
  (ho : C.S0.heap.get? f = some o) (hd : o.data = .func fd) (h3 : Cl C n (.ref f) ps st2 r st3)
  (hp : ∀ env, (backTo pos (starEach args env)).any (·.1) = false := by intro _; rfl)
  (he : ∀ env, eval (.Call func args [] pos) env = (do callWith pos (← eval func env) [] (backTo pos (starEach args env)) (backToKw pos (keywordEach [] env))) := by intro _; rfl) :
  Ev C n φ lo (.Call func args [] pos) st r st3 := fun A s ρ env hA H F =>
 callEval (noE (h1 A s ρ env hA H F) fun v s1 ⟨ρ1, H1, G1, R1⟩ => by
  (replace R1 := R1.inv; obtain ⟨_, rfl⟩ := R1)
  refine Calls.callWith_function (o := o) (fd := fd) (evalArgsJ (hp env) (noE (h2 pos A s1 ρ1 env hA H1 (F.go0 G1)) fun vs s2 ⟨ρ2, H2, G2, R2⟩ => ⟨⟨H2.old _ _ ho, hd⟩, ?_⟩))
  exact noE (h3 A s2 ρ2 vs hA H2 R2) fun v s3 h => h.more (G1.trans G2)) (he env)
theorem Ev.callb {func : Expr} {args : List Expr} {pos : Pos} {id : String} {ps : List PV} {r : PV} (h1 : Ev C n φ lo func st (.sta (.builtin id)) st1) (h2 : EvL C n φ lo args st1 ps st2)
  (h3 : Cl C n (.builtin id) ps st2 r st3)
  (hp : ∀ env, (backTo pos (starEach args env)).any (·.1) = false := by intro _; rfl)
  (he : ∀ env, eval (.Call func args [] pos) env = (do callWith pos (← eval func env) [] (backTo pos (starEach args env)) (backToKw pos (keywordEach [] env))) := by intro _; rfl) :
  Ev C n φ lo (.Call func args [] pos) st r st3 := fun A s ρ env hA H F =>
 callEval (noE (h1 A s ρ env hA H F) fun v s1 ⟨ρ1, H1, G1, R1⟩ => by
  (replace R1 := R1.inv; obtain ⟨_, rfl⟩ := R1)
  refine Calls.callWith_builtin (hp env) (evalArgsJ (hp env) (noE (h2 pos A s1 ρ1 env hA H1 (F.go0 G1)) fun vs s2 ⟨ρ2, H2, G2, R2⟩ => ?_))
  exact noE (h3 A s2 ρ2 vs hA H2 R2) fun v s3 h => h.more (G1.trans G2)) (he env)
theorem Ev.callt {func : Expr} {args : List Expr} {pos : Pos} {T : String} {ps : List PV} {r : PV} (h1 : Ev C n φ lo func st (.sta (.type T)) st1) (h2 : EvL C n φ lo args st1 ps st2)
  (h3 : Cl C n (.type T) ps st2 r st3)
  (hp : ∀ env, (backTo pos (starEach args env)).any (·.1) = false := by intro _; rfl)
  (he : ∀ env, eval (.Call func args [] pos) env = (do callWith pos (← eval func env) [] (backTo pos (starEach args env)) (backToKw pos (keywordEach [] env))) := by intro _; rfl) :
  Ev C n φ lo (.Call func args [] pos) st r st3 := fun A s ρ env hA H F =>
 callEval (noE (h1 A s ρ env hA H F) fun v s1 ⟨ρ1, H1, G1, R1⟩ => by
  (replace R1 := R1.inv; obtain ⟨_, rfl⟩ := R1)
  refine PyProof.Rows.callWith_type (hp env) (evalArgsJ (hp env) (noE (h2 pos A s1 ρ1 env hA H1 (F.go0 G1)) fun vs s2 ⟨ρ2, H2, G2, R2⟩ => ?_))
  exact noE (h3 A s2 ρ2 vs hA H2 R2) fun v s3 h => h.more (G1.trans G2)) (he env)
noncomputable def TyP (C : Cx) (st : Sto) (p : PV) (T : String) : Prop := ∀ ρ s v, Hp C ρ st s → Rep s.heap ρ p v → s.TypeIs v T ∧ ∀ a, v = .ref a → ∃ ob, s.heap.get? a = some ob ∧ ob.dict = none
theorem TyP.str {x : Str} : TyP C st (.str x) "str" := fun ρ s v H R => by (replace R := R.inv; obtain ⟨_, rfl⟩ := R); exact ⟨rfl, fun a e => by cases e⟩
theorem TyP.list {i : Nat} {xs : List PV} (h : st[i]? = some (.list xs)) : TyP C st (.ref i) "list" := fun ρ s v H R => by
 (replace R := R.inv; obtain ⟨a, rfl, ha⟩ := R)
 obtain ⟨b, hb, vs, m, ho, _⟩ := H.idx' h
 rw [ha] at hb; cases hb
 exact ⟨⟨_, ho, rfl⟩, fun a' e => by cases e; exact ⟨_, ho, rfl⟩⟩
theorem Ev.meth {o : Expr} {name : Str} {apos pos : Pos} {args : List Expr} {T id : String} {p r : PV} {ps : List PV} (h1 : Ev C n φ lo o st p st1) (hT : TyP C st1 p T) (h2 : EvL C n φ lo args st1 ps st2)
  (h3 : Cl C n (.builtin id) (p :: ps) st2 r st3) (pa : PlainAttrs T) (slot : Slot T name id) (hty : typeOf (.builtin id) = pure (.type "method_descriptor"))
  (hbase : ∀ env, attributeBase o name env (eval o env) = eval o env := by intro _; rfl)
  (hfew : ∀ env, ((backTo pos (starEach args env)).all (fun x => !x.1) && (backToKw pos (keywordEach [] env)).all (fun x => x.1.isSome)
   && decide (args.length + ([] : List Keyword).length + (if ([] : List Keyword).isEmpty then 0 else 1) < 30)) = true := by intro _; rfl)
  (hline : (apos.endLine == pos.line) = true := by rfl)
  (hp : ∀ env, (backTo pos (starEach args env)).any (·.1) = false := by intro _; rfl) : Ev C n φ lo (.Call (.Attribute o name apos) args [] pos) st r st3 := fun A s ρ env hA H F =>
 wpAny_Call_method (hbase env) (hfew env) hline pa slot hty (noE (h1 A s ρ env hA H F) fun v s1 ⟨ρ1, H1, G1, R1⟩ => by
  obtain ⟨t1, t2⟩ := hT ρ1 s1 v H1 R1
  refine ⟨t1, t2, Calls.callWith_builtin (hp env) (evalArgsJ (hp env) (noE (h2 pos A s1 ρ1 env hA H1 (F.go0 G1)) fun vs s2 ⟨ρ2, H2, G2, R2⟩ => ?_))⟩
  exact noE (h3 A s2 ρ2 (v :: vs) hA H2 (.cons _ _ _ _ (R1.go0 G2) R2)) fun v s3 h => h.more (G1.trans G2))
theorem cells_some : ∀ (names : List (Str × NameKind)) (k : Nat) (acc : List (Str × Addr)) (x : Str), (names.lookup x = some .cell ∨ (acc.lookup x).isSome = true) → ((cellsFrom k names acc).lookup x).isSome = true
 | [], k, acc, x, h => by
  rcases h with h | h
  ·cases h
  ·exact h
 | (y, kind) :: r, k, acc, x, h => by
  unfold cellsFrom
  split
  ·rename_i hk
   refine cells_some r (k + 1) ((y, k) :: acc) x ?_
   rw [List.lookup_cons]
   cases hb : x == y with
   | true => exact .inr rfl
   | false =>
    rcases h with h | h
    ·rw [List.lookup_cons, hb] at h; exact .inl h
    ·exact .inr h
  ·rename_i hk
   refine cells_some r k acc x ?_
   rcases h with h | h
   ·rw [List.lookup_cons] at h
    cases hb : x == y with
    | true => rw [hb] at h; cases h; exact absurd rfl hk
    | false => rw [hb] at h; exact .inl h
   ·exact .inr h
theorem bindL_not {kd : Str → Option NameKind} {x : Str} : ∀ {names : List Str} {vs : List Value} {m : Str → Option Value}, x ∉ names → bindL kd (names.zip vs) m x = m x
 | [], vs, m, _ => by simp [bindL]
 | y :: r, [], m, _ => by simp [bindL]
 | y :: r, v :: vs, m, h => by
  simp only [List.zip_cons_cons, bindL]
  rw [bindL_not (fun q => h (List.mem_cons_of_mem _ q))]
  have hne : x ≠ y := fun q => h (q ▸ List.mem_cons_self)
  split <;> simp [hne]
theorem bindC_not {kd : Str → Option NameKind} {x : Str} : ∀ {names : List Str} {vs : List Value} {m : Str → Option Value}, x ∉ names → bindC kd (names.zip vs) m x = m x
 | [], vs, m, _ => by simp [bindC]
 | y :: r, [], m, _ => by simp [bindC]
 | y :: r, v :: vs, m, h => by
  simp only [List.zip_cons_cons, bindC]
  rw [bindC_not (fun q => h (List.mem_cons_of_mem _ q))]
  have hne : x ≠ y := fun q => h (q ▸ List.mem_cons_self)
  split <;> simp [hne]
theorem binds_rep {kd : Str → Option NameKind} {h : Heap} {ρ : List Addr} {x : Str} {pv : PV} {names : List Str} : ∀ {ps : List PV} {vs : List Value} {m c : Str → Option Value}, names.Nodup → RepL h ρ ps vs → (names.zip ps).lookup x = some pv →
  (kd x = some .local → ∃ v, bindL kd (names.zip vs) m x = some v ∧ Rep h ρ pv v) ∧ (kd x ≠ some .local → ∃ v, bindC kd (names.zip vs) c x = some v ∧ Rep h ρ pv v) := by
 induction names with
 | nil => intro ps vs m c _ _ e; cases e
 | cons y r ih =>
  intro ps vs m c nd R e
  cases ps with
  | nil => cases e
  | cons p ps =>
   obtain ⟨v, vs, rfl, r1, r2⟩ := R.inv
   rw [List.zip_cons_cons, List.lookup_cons] at e
   obtain ⟨n1, n2⟩ := List.nodup_cons.mp nd
   simp only [List.zip_cons_cons, bindL, bindC]
   cases hb : x == y with
   | true =>
    rw [hb] at e; cases e
    have : x = y := by simpa using hb
    subst this
    refine ⟨fun hk => ⟨v, ?_, r1⟩, fun hk => ⟨v, ?_, r1⟩⟩
    ·rw [bindL_not n1, if_pos hk]; simp
    ·rw [bindC_not n1, if_neg hk]; simp
   | false =>
    rw [hb] at e
    exact ih n2 r2 e
theorem lookup_self {α : Type} : ∀ {l : List (Str × α)} {x : Str} {c : α}, (l.map (·.1)).Nodup → (x, c) ∈ l → l.lookup x = some c
 | (y, d) :: r, x, c, nd, hm => by
  obtain ⟨n1, n2⟩ := List.nodup_cons.mp nd
  rw [List.lookup_cons]
  rcases List.mem_cons.mp hm with q | q
  ·cases q; simp
  ·have : (x == y) = false := by
    simp only [beq_eq_false_iff_ne]; rintro rfl
    exact n1 (List.mem_map.mpr ⟨_, q, rfl⟩)
   rw [this]; exact lookup_self n2 q
theorem cells_keys : ∀ (names : List (Str × NameKind)) (k : Nat) (acc : List (Str × Addr)), (names.map (·.1)).Nodup → (acc.map (·.1)).Nodup → (∀ x ∈ acc, x.1 ∉ names.map (·.1)) → ((cellsFrom k names acc).map (·.1)).Nodup
 | [], k, acc, _, h, _ => h
 | (y, kind) :: r, k, acc, nd, h, hd => by
  obtain ⟨n1, n2⟩ := List.nodup_cons.mp nd
  unfold cellsFrom
  split
  ·refine cells_keys r (k + 1) _ n2 (List.nodup_cons.mpr ⟨fun q => ?_, h⟩) fun x hx => ?_
   ·obtain ⟨x, hx, e⟩ := List.mem_map.mp q
    have := hd x hx
    simp only [List.map_cons, List.mem_cons, not_or] at this
    exact this.1 e
   ·rcases List.mem_cons.mp hx with rfl | hx
    ·exact n1
    ·have := hd x hx
     simp only [List.map_cons, List.mem_cons, not_or] at this
     exact this.2
  ·refine cells_keys r k acc n2 h fun x hx => ?_
   have := hd x hx
   simp only [List.map_cons, List.mem_cons, not_or] at this
   exact this.2
noncomputable def retOf : Fl → PV
 | .ret q => q
 | _ => .none
theorem Cl.fn {f : Addr} {o : Obj} {fd : FuncData} {body : List Stmt} {names : List Str} {ps : List PV} {fl : Fl} {p : PV}
  (ho : C.S0.heap.get? f = some o) (hd : o.data = .func fd) (hbody : fd.body = .stmts body) (hclo : fd.closure = []) (hcd : C.S0.heap.CodeRec fd.code fd.qualname) (hgl : fd.globals = mainGlobals) (hbl : fd.builtins = builtinsNs)
  (hbind : ∀ vs : List Value, vs.length = ps.length → bindArgs fd ⟨vs, []⟩ = pure (names.zip vs)) (hnd : names.Nodup)
  (hkind : ∀ x ∈ names, fd.scope.names.lookup x = some .local ∨ fd.scope.names.lookup x = some .cell)
  (hb : Ex C n fd.scope (names.zip ps) body st fl lo1 st1) (hf : p = retOf fl)
  (hkeys : (fd.scope.names.map (·.1)).Nodup)
  (hco : fd.scope.isCoroutine = false := by rfl) (hgen : fd.scope.isGenerator = false := by rfl) (hk : fd.scope.kind = .function := by rfl) : Cl C (n + 1) (.ref f) ps st p st1 := fun A s ρ vs hA H R => by
 refine wpAny_call (codeAny_mono (R := fun r s' => ∃ v, r = .ok (.ret v) ∧ Post C ρ s st1 p v s') ?_ fun r s' ⟨v, e, h⟩ => by subst e; exact h)
 refine codeAny_call_cells hA.depth (H.old _ _ ho) hd H.lim (hcd.keeps H.old) hbody (hbind vs R.length) hclo (fun x hx => ?_) (fun s1 X => ?_) hco hgen hk
 ·have hm : x.1 ∈ names := (List.of_mem_zip hx).1
  rcases hkind x.1 hm with q | q
  ·exact .inl q
  ·exact .inr ⟨q, cells_some _ _ _ _ (.inl q)⟩
 ·obtain ⟨h', t', e, hkp⟩ := X.done
  subst e
  have hz : s.heap.objs.size ≤ h'.objs.size := Nat.le_of_lt (by
   have := X.toInCall.ns.lt
   show s.heap.objs.size < h'.objs.size
   exact this)
  obtain ⟨H1, G1⟩ := H.grow (t' := t') hkp hz
  have R1 := R.go0 G1
  have L_nin : s.heap.objs.size ∉ ρ := fun q => Nat.lt_irrefl _ (H.lt _ q)
  have cnin : ∀ x c, (cellsFrom (s.heap.objs.size + 1) fd.scope.names []).lookup x = some c → c ∉ ρ ∧ s.heap.objs.size < c := fun x c e =>
   have hlt := X.above x c (mem_of_lookup e)
   ⟨fun q => Nat.lt_irrefl _ (Nat.lt_trans hlt (H.lt _ q)), hlt⟩
  have F : FrAt C fd.scope (names.zip ps) ρ h' (callEnvC fd s.heap.objs.size f) := by
   refine ⟨rfl, hk, hgl, hbl, ?_, ⟨_, X.toInCall.ns, fun x pv e1 e2 => (binds_rep (c := fun _ => none) hnd R1 e1).1 e2⟩, fun x hx => ?_, ?_⟩
   ·intro a ha
    rcases List.mem_cons.mp ha with rfl | ha
    ·exact ⟨L_nin, H.ge, ns_isFr X.toInCall.ns⟩
    ·obtain ⟨⟨x, c⟩, hm, rfl⟩ := List.mem_map.mp ha
     have hlt := X.above x c hm
     refine ⟨fun q => Nat.lt_irrefl _ (Nat.lt_trans hlt (H.lt _ q)), Nat.le_trans H.ge (Nat.le_of_lt hlt), ?_⟩
     have hc' := lookup_self (cells_keys fd.scope.names (s.heap.objs.size + 1) [] hkeys List.nodup_nil (by simp)) hm
     obtain ⟨o, ho, hd⟩ := X.cell x c hc'
     exact ⟨o, ho, notFz_cell hd⟩
   ·obtain ⟨c, hc⟩ := Option.isSome_iff_exists.mp (cells_some fd.scope.names (s.heap.objs.size + 1) [] x (.inl hx))
    obtain ⟨c1, c2⟩ := cnin x c hc
    refine ⟨c, hc, Ne.symm (Nat.ne_of_lt c2), _, X.cell x c hc, fun pv e1 => ?_⟩
    obtain ⟨v, a, b⟩ := (binds_rep (kd := (callEnvC fd s.heap.objs.size f).kindOf) (m := fun _ => none) (c := fun _ => none) hnd R1 e1).2 (by
     show fd.scope.names.lookup x ≠ _; rw [hx]; intro q; cases q)
    exact ⟨v, a, b⟩
   ·intro x y c _ _ e1 e2
    exact name_of_addr X.apart (mem_of_lookup e1) (mem_of_lookup e2)
  refine noE (hb (A.deeper _) _ ρ _ hA.deeper H1 F) fun flw s2 ⟨ρ2, H2, G2, F2, R2⟩ => ⟨_, rfl, ρ2, H2, ?_, ?_⟩
  ·refine Go.weaken (W := frW (callEnvC fd s.heap.objs.size f)) (G1.nil.trans G2) fun a ha => .inr ?_
   rcases List.mem_cons.mp ha with rfl | ha
   ·exact Nat.le_refl _
   ·obtain ⟨⟨x, c⟩, hm, rfl⟩ := List.mem_map.mp ha
    exact Nat.le_of_lt (X.above x c hm)
  ·subst hf
   cases R2 with
   | next => exact .none
   | brk => exact .none
   | cont => exact .none
   | ret q v r => exact r
end
end
section
section
variable {C : Cx} {n : Nat} {φ : Scope} {lo lo1 lo2 lo3 : Loc} {st st1 st2 st3 : Sto}
theorem O.add {a b : Int} : Op2 C n (binaryOp .Add) (.int a) (.int b) st (.int (a + b)) st := fun A s ρ x y hA H R R' => by (replace R := R.inv; obtain ⟨_, rfl⟩ := R); (replace R' := R'.inv; obtain ⟨_, rfl⟩ := R'); exact P.add_int (Post.tok H (.int _ _))
theorem O.sub {a b : Int} : Op2 C n (binaryOp .Sub) (.int a) (.int b) st (.int (a - b)) st := fun A s ρ x y hA H R R' => by (replace R := R.inv; obtain ⟨_, rfl⟩ := R); (replace R' := R'.inv; obtain ⟨_, rfl⟩ := R'); exact P.sub_int (Post.tok H (.int _ _))
theorem O.mul {a b : Int} (ha : a.natAbs < 2 ^ 64) (hb : b.natAbs < 2 ^ 64) : Op2 C n (binaryOp .Mult) (.int a) (.int b) st (.int (a * b)) st := fun A s ρ x y hA H R R' => by
 (replace R := R.inv; obtain ⟨_, rfl⟩ := R); (replace R' := R'.inv; obtain ⟨_, rfl⟩ := R'); exact P.mul_int (Post.tok H (.int _ _)) (by mul_fits)
theorem O.rshift1 {a : Int} (h0 : 0 ≤ a) : Op2 C n (binaryOp .RShift) (.int a) (.int 1) st (.int (a / 2)) st := fun A s ρ x y hA H R R' => by (replace R := R.inv; obtain ⟨_, rfl⟩ := R); (replace R' := R'.inv; obtain ⟨_, rfl⟩ := R'); exact wpAny_rshift1_int h0 (Post.tok H (.int _ _))
theorem O.floordiv {a b : Int} (hb : b ≠ 0) (hs : b.natAbs < 1000) : Op2 C n (binaryOp .FloorDiv) (.int a) (.int b) st (.int (a.fdiv b)) st := fun A s ρ x y hA H R R' => by
 (replace R := R.inv; obtain ⟨_, rfl⟩ := R); (replace R' := R'.inv; obtain ⟨_, rfl⟩ := R'); exact PyProof.Rows.floordiv_int hb (Post.tok H (.int _ _)) (Or.inl (PyProof.noPylong_small (by omega)))
theorem O.mod {a b : Int} (hb : b ≠ 0) : Op2 C n (binaryOp .Mod) (.int a) (.int b) st (.int (a.fmod b)) st := fun A s ρ x y hA H R R' => by (replace R := R.inv; obtain ⟨_, rfl⟩ := R); (replace R' := R'.inv; obtain ⟨_, rfl⟩ := R'); exact PyProof.Rows.mod_int' hb (Post.tok H (.int _ _))
theorem O.pow {a b : Int} (h0 : 0 ≤ b) (h1 : b ≤ 1000000) (ha : a.natAbs < 2 ^ 64) : Op2 C n (binaryOp .Pow) (.int a) (.int b) st (.int (a ^ b.toNat)) st := fun A s ρ x y hA H R R' => by
 (replace R := R.inv; obtain ⟨_, rfl⟩ := R); (replace R' := R'.inv; obtain ⟨_, rfl⟩ := R'); exact PyProof.Rows.pow_int_small h0 h1 ha (Post.tok H (.int _ _))
theorem O.xor {a b : Int} : Op2 C n (binaryOp .BitXor) (.int a) (.int b) st (.int (Builtin.bitXor a b)) st := fun A s ρ x y hA H R R' => by (replace R := R.inv; obtain ⟨_, rfl⟩ := R); (replace R' := R'.inv; obtain ⟨_, rfl⟩ := R'); exact PyProof.Rows.xor_int (Post.tok H (.int _ _))
theorem O.iadd {a b : Int} : Op2 C n (inplaceOp .Add) (.int a) (.int b) st (.int (a + b)) st := fun A s ρ x y hA H R R' => by (replace R := R.inv; obtain ⟨_, rfl⟩ := R); (replace R' := R'.inv; obtain ⟨_, rfl⟩ := R'); exact P.iadd_int (Post.tok H (.int _ _))
theorem O.isub {a b : Int} : Op2 C n (inplaceOp .Sub) (.int a) (.int b) st (.int (a - b)) st := fun A s ρ x y hA H R R' => by (replace R := R.inv; obtain ⟨_, rfl⟩ := R); (replace R' := R'.inv; obtain ⟨_, rfl⟩ := R'); exact P.isub_int (Post.tok H (.int _ _))
theorem O.neg {a : Int} : Op1 C n (unaryOp .USub) (.int a) st (.int (-a)) st := fun A s ρ x hA H R => by (replace R := R.inv; obtain ⟨_, rfl⟩ := R); exact P.neg_int (Post.tok H (.int _ _))
theorem O.lt {a b : Int} : Op2 C n (compareOp .Lt) (.int a) (.int b) st (.bool (decide (a < b))) st := fun A s ρ x y hA H R R' => by (replace R := R.inv; obtain ⟨_, rfl⟩ := R); (replace R' := R'.inv; obtain ⟨_, rfl⟩ := R'); exact P.lt_int (Post.here H (.bool _))
theorem O.gt {a b : Int} : Op2 C n (compareOp .Gt) (.int a) (.int b) st (.bool (decide (a > b))) st := fun A s ρ x y hA H R R' => by (replace R := R.inv; obtain ⟨_, rfl⟩ := R); (replace R' := R'.inv; obtain ⟨_, rfl⟩ := R'); exact P.gt_int (Post.here H (.bool _))
theorem O.le {a b : Int} : Op2 C n (compareOp .LtE) (.int a) (.int b) st (.bool (decide (a ≤ b))) st := fun A s ρ x y hA H R R' => by (replace R := R.inv; obtain ⟨_, rfl⟩ := R); (replace R' := R'.inv; obtain ⟨_, rfl⟩ := R'); exact P.le_int (Post.here H (.bool _))
theorem O.eq {a b : Int} : Op2 C n (compareOp .Eq) (.int a) (.int b) st (.bool (a == b)) st := fun A s ρ x y hA H R R' => by (replace R := R.inv; obtain ⟨_, rfl⟩ := R); (replace R' := R'.inv; obtain ⟨_, rfl⟩ := R'); exact P.eq_int (Post.here H (.bool _))
theorem O.ne {a b : Int} : Op2 C n (compareOp .NotEq) (.int a) (.int b) st (.bool (a != b)) st := fun A s ρ x y hA H R R' => by (replace R := R.inv; obtain ⟨_, rfl⟩ := R); (replace R' := R'.inv; obtain ⟨_, rfl⟩ := R'); exact P.ne_int (Post.here H (.bool _))
theorem O.isNone {p : PV} (hp : p ≠ .none) (hs : ∀ v, p ≠ .sta v) : Op2 C n (compareOp .Is) p .none st (.bool false) st := fun A s ρ x y hA H R R' => by
 (replace R' := R'.inv; obtain ⟨_, rfl⟩ := R')
 refine is_none ?_
 have : (x == Value.none) = false := by cases R <;> first | rfl | exact absurd rfl hp | exact absurd rfl (hs _)
 rw [this]; exact Post.here H (.bool _)
theorem O.isNone' : Op2 C n (compareOp .Is) .none .none st (.bool true) st := fun A s ρ x y hA H R R' => by
 (replace R := R.inv; obtain ⟨_, rfl⟩ := R); (replace R' := R'.inv; obtain ⟨_, rfl⟩ := R'); exact is_none (Post.here H (.bool _))
theorem O.isNotNone' : Op2 C n (compareOp .IsNot) .none .none st (.bool false) st := fun A s ρ x y hA H R R' => by
 (replace R := R.inv; obtain ⟨_, rfl⟩ := R); (replace R' := R'.inv; obtain ⟨_, rfl⟩ := R'); exact isNot_none (Post.here H (.bool _))
theorem str_beq (x y : Str) : (x.cps.toList == y.cps.toList) = (x == y) := by
 rcases x with ⟨⟨x⟩⟩; rcases y with ⟨⟨y⟩⟩
 by_cases h : x = y
 ·subst h; simp
 ·have h1 : (x == y) = false := by simpa using h
  have h2 : ((⟨⟨x⟩⟩ : Str) == ⟨⟨y⟩⟩) = false := by simpa using h
  rw [h2]; exact h1
theorem O.eqs {x y : Str} : Op2 C n (compareOp .Eq) (.str x) (.str y) st (.bool (x == y)) st := fun A s ρ a b hA H R R' => by
 (replace R := R.inv; obtain ⟨_, rfl⟩ := R); (replace R' := R'.inv; obtain ⟨_, rfl⟩ := R'); exact P.eq_str (by rw [str_beq]; exact Post.here H (.bool _))
theorem O.nes {x y : Str} : Op2 C n (compareOp .NotEq) (.str x) (.str y) st (.bool (x != y)) st := fun A s ρ a b hA H R R' => by
 (replace R := R.inv; obtain ⟨_, rfl⟩ := R); (replace R' := R'.inv; obtain ⟨_, rfl⟩ := R'); exact P.ne_str (by rw [show (x.cps.toList != y.cps.toList) = (x != y) by simp only [bne, str_beq]]; exact Post.here H (.bool _))
theorem T.bool {b : Bool} : Truth C n (.bool b) st b := fun A s ρ x hA H R => by (replace R := R.inv; obtain ⟨_, rfl⟩ := R); exact wpAny_truthy_bool (PostB.here H)
theorem T.int {a : Int} : Truth C n (.int a) st (a != 0) := fun A s ρ x hA H R => by (replace R := R.inv; obtain ⟨_, rfl⟩ := R); exact P.truthy_int (PostB.here H)
theorem T.none : Truth C n .none st false := fun A s ρ x hA H R => by (replace R := R.inv; obtain ⟨_, rfl⟩ := R); exact truthy_none (PostB.here H)
theorem T.str {x : Str} (hx : x.length < 2 ^ 62) : Truth C n (.str x) st (x.length != 0) := fun A s ρ a hA H R => by
 (replace R := R.inv; obtain ⟨_, rfl⟩ := R)
 refine P.truthy_str (by omega) ?_
 have : ((x.length : Int) != 0) = (x.length != 0) := by
  rw [Bool.eq_iff_iff]; simp
 rw [this]; exact PostB.tok H
theorem T.list {i : Nat} {xs : List PV} (h : st[i]? = some (.list xs)) (hz : xs.length ≤ 2 ^ 24) : Truth C n (.ref i) st (!xs.isEmpty) := fun A s ρ a hA H R => by
 (replace R := R.inv; obtain ⟨a, rfl, ha⟩ := R)
 obtain ⟨b, hb, vs, m, ho, rl⟩ := H.idx' h
 rw [ha] at hb; cases hb
 have hl := rl.length
 refine wpAny_truthy_list ⟨_, ho, rfl, m, rfl⟩ (by simp; omega) ?_
 have : (!vs.toArray.isEmpty) = !xs.isEmpty := by
  cases vs <;> cases xs <;> simp_all
 rw [this]; exact PostB.tok H
theorem isList_of {ρ : List Addr} {s : Shared} {i : Nat} {a : Addr} {xs : List PV} (H : Hp C ρ st s) (ha : ρ[i]? = some a) (h : st[i]? = some (.list xs)) :
  ∃ vs m, s.heap.get? a = some (listO vs m) ∧ RepL s.heap ρ xs vs ∧ s.heap.IsList a vs.toArray ∧ vs.length = xs.length := by
 obtain ⟨b, hb, vs, m, ho, rl⟩ := H.idx' h
 rw [ha] at hb; cases hb
 exact ⟨vs, m, ho, rl, ⟨_, ho, rfl, m, rfl⟩, rl.length⟩
theorem C.len_list {i : Nat} {xs : List PV} (h : st[i]? = some (.list xs)) (hz : xs.length ≤ 2 ^ 24) : Cl C n (.builtin "len") [.ref i] st (.int xs.length) st := fun A s ρ vs hA H R => by
 (replace R := R.inv; obtain ⟨v, _, rfl, R1, R2⟩ := R)
 (replace R2 := R2.inv; obtain ⟨_, rfl⟩ := R2)
 (replace R1 := R1.inv; obtain ⟨a, rfl, ha⟩ := R1)
 obtain ⟨ws, m, ho, rl, hL, hlen⟩ := isList_of H ha h
 refine Calls.call_len_list hL (by simp; omega) ?_
 have : ((ws.toArray.size : Nat) : Int) = (xs.length : Int) := by simp [hlen]
 rw [this]; exact Post.tok H (.int _ _)
noncomputable def at? (xs : List PV) (k : Int) : Option PV := if 0 ≤ k then xs[k.toNat]? else if -(xs.length : Int) ≤ k then xs[(k + xs.length).toNat]? else none
theorem O.getItem {i : Nat} {xs : List PV} {k : Int} {p : PV} (h : st[i]? = some (.list xs)) (hz : xs.length ≤ 2 ^ 24) (hk : at? xs k = some p) : Op2 C n PySem.getItem (.ref i) (.int k) st p st := fun A s ρ a b hA H R R' => by
 (replace R := R.inv; obtain ⟨a, rfl, ha⟩ := R)
 (replace R' := R'.inv; obtain ⟨t, rfl⟩ := R')
 obtain ⟨ws, m, ho, rl, hL, hlen⟩ := isList_of H ha h
 unfold at? at hk
 by_cases h0 : 0 ≤ k
 ·rw [if_pos h0] at hk
  obtain ⟨v, hv, rv⟩ := rl.get hk
  have hlt := (List.getElem?_eq_some_iff.mp hk).1
  exact wpAny_getItem_list hL h0 (by omega) (by simpa using hv) (Post.here H rv)
 ·rw [if_neg h0] at hk
  by_cases h1 : -(xs.length : Int) ≤ k
  ·rw [if_pos h1] at hk
   obtain ⟨v, hv, rv⟩ := rl.get hk
   exact wpAny_getItem_list_neg hL (by omega) (by simp; omega) (by omega) (by simpa [hlen] using hv) (Post.here H rv)
  ·rw [if_neg h1] at hk; cases hk
theorem O.sub_list {value slice : Expr} {i : Nat} {xs : List PV} {k : Int} {p : PV} (h : st[i]? = some (.list xs)) (hz : xs.length ≤ 2 ^ 24) (hk : at? xs k = some p)
  (hs : ∀ a u, subscripted slice false (.ref a) (.int k u) = operate [.ref a, .int k u] (PySem.getItem (.ref a) (.int k u)) := by intro _ _; with_unfolding_all rfl) :
  Op2 C n (subscriptTail value slice) (.ref i) (.int k) st p st := fun A s ρ a b hA H R R' => by
 have h1 := O.getItem (C := C) (n := n) h hz hk A s ρ a b hA H R R'
 (replace R := R.inv; obtain ⟨a, rfl, ha⟩ := R)
 (replace R' := R'.inv; obtain ⟨t, rfl⟩ := R')
 obtain ⟨ws, m, ho, rl, hL, hlen⟩ := isList_of H ha h
 exact tail_any hL.typeIs slot_list_getitem.lookup h1 (hs _ _)
theorem O.sub_tup {value slice : Expr} {xs : List PV} {k : Int} {p : PV} (h0 : 0 ≤ k) (hk : xs[k.toNat]? = some p) (hz : xs.length ≤ 2 ^ 24)
  (hs : ∀ a u, subscripted slice false (.ref a) (.int k u) = operate [.ref a, .int k u] (PySem.getItem (.ref a) (.int k u)) := by intro _ _; with_unfolding_all rfl) :
  Op2 C n (subscriptTail value slice) (.tup xs) (.int k) st p st := fun A s ρ a b hA H R R' => by
 (replace R := R.inv; obtain ⟨a, vs, rfl, na, ho, rl⟩ := R)
 (replace R' := R'.inv; obtain ⟨t, rfl⟩ := R')
 obtain ⟨v, hv, rv⟩ := rl.get hk
 have hlt := (List.getElem?_eq_some_iff.mp hk).1
 have hj : seqIndex? k vs.toArray.size = some k.toNat := by
  unfold seqIndex?
  simp [rl.length]; omega
 exact item_tupleT ⟨_, ho, rfl, 0, rfl⟩ (by omega) (by omega) hj (by simpa using hv) (Post.here H rv) (hs _ _)
theorem setItemX {prog : Program} {w : World} {A : Around} {E : Value → Shared → Prop} {s : Shared} {l : Addr} {vs : List Value} {m : Nat} {k : Int} {t : Tok} {v : Value} {Q : Unit → Shared → Prop}
  (ho : s.heap.get? l = some (listO vs m)) (h0 : 0 ≤ k) (hk : k < vs.length) (hfit : k < 2 ^ 63)
  (hQ : ∀ m', (s.heap.update l (Obj.mapSeq (·.setIfInBounds k.toNat v))).get? l = some (listO (vs.set k.toNat v) m') → Q () { s with heap := s.heap.update l (Obj.mapSeq (·.setIfInBounds k.toNat v)) }) :
  wpAny (model prog w) A (setItem (.ref l) (.int k t) v) Q E s := by
 have hT : s.TypeIs (.ref l) "list" := ⟨_, ho, rfl⟩
 have hfits := fitsIndex_of h0 hfit
 clear hfit
 unfold PySem.setItem
 try with_reducible refine wpAny_holding ?_
 first | refine wpAny_bind (wpAny_pure ?_) | skip
 refine wpAny_bind (wpAny_sequenceKey hT (by decide) ?_)
 refine wpAny_bind (wpAny_callSpecial?_slot (name := Str.ofString "__setitem__") hT slot_list_setitem (wpAny_call_entry slot_list_setitem hT entry_list_setitem ?_ (args_list_setitem _ _ _)))
 show wpAny _ _ (Builtin.List.listSubscript? (.int k t) >>= _) _ _ s
 refine wpAny_bind (wpAny_listSubscript_int hfits ?_)
 obtain ⟨j, rfl⟩ := Int.eq_ofNat_of_zero_le h0
 have hj : j < vs.length := by omega
 have hx : vs.toArray[j]? = some vs[j] := by simp [hj]
 show wpAny _ _ ((seqItemAt l j >>= fun r => pure (r.map (j, ·))) >>= _) _ _ s
 refine wpAny_bind (wpAny_bind (wpAny_seqItemAt ho rfl (wpAny_pure ?_)))
 rw [hx]
 show wpAny _ _ (setSeqItemAt l j v >>= _) _ _ s
 have hfin := Heap.get?_update_self (Obj.mapSeq (·.setIfInBounds j v)) ho rfl
 have e : Obj.mapSeq (·.setIfInBounds j v) (listO vs m) = listO (vs.set j v) m := by
  show ({ cls := .type "list", dict := none, data := .seq (vs.toArray.setIfInBounds j v) (if (vs.toArray.setIfInBounds j v).size == vs.toArray.size then m else m + 1), slots := #[] } : Obj) = _
  simp
 rw [e] at hfin
 refine wpAny_bind (wpAny_setSeqItemAt ho rfl ?_)
 first
  | exact wpAny_bind (wpAny_pure (wpAny_pure ⟨.none, rfl, wpAny_pure (hQ m hfin)⟩))
  | exact wpAny_pure ⟨.none, rfl, wpAny_pure (hQ m hfin)⟩
theorem O.setItem {i : Nat} {xs : List PV} {k : Nat} {p : PV} (h : st[i]? = some (.list xs)) (hz : xs.length ≤ 2 ^ 24) (hk : k < xs.length) : Op3 C n (.ref i) (.int (k : Int)) p st (st.set i (.list (xs.set k p))) := fun A s ρ a b c hA H R R' R'' => by
 (replace R := R.inv; obtain ⟨a, rfl, ha⟩ := R)
 (replace R' := R'.inv; obtain ⟨t, rfl⟩ := R')
 obtain ⟨ws, m, ho, rl, hL, hlen⟩ := isList_of H ha h
 refine setItemX ho (by omega) (by omega) (by omega) fun m' hm' => ?_
 obtain ⟨H', G'⟩ := H.upd (ob := .list (xs.set k p)) s.toks ha (Heap.SameBut.update ..) fun G => ⟨_, m', hm', (rl.set k R'').go0 G⟩
 exact ⟨ρ, H', G'⟩
theorem mapSeq_listO (vs : List Value) (m : Nat) (f : Array Value → Array Value) (ws : List Value) (e : f vs.toArray = ws.toArray) : ∃ m', Obj.mapSeq f (listO vs m) = listO ws m' := by
 refine ⟨if ws.toArray.size == vs.toArray.size then m else m + 1, ?_⟩
 show ({ cls := .type "list", dict := none, data := .seq (f vs.toArray) (if (f vs.toArray).size == vs.toArray.size then m else m + 1), slots := #[] } : Obj) = _
 rw [e]
theorem updList {ρ : List Addr} {s : Shared} {i : Nat} {a : Addr} {vs : List Value} {m t : Nat} {f : Array Value → Array Value} {ws : List Value} {ys : List PV} (H : Hp C ρ st s) (ha : ρ[i]? = some a)
  (ho : s.heap.get? a = some (listO vs m)) (e : f vs.toArray = ws.toArray) (R : RepL s.heap ρ ys ws) :
  Hp C ρ (st.set i (.list ys)) { s with heap := s.heap.update a (Obj.mapSeq f), toks := t } ∧ Go [] ρ s.heap ρ (s.heap.update a (Obj.mapSeq f)) := by
 obtain ⟨m', hm⟩ := mapSeq_listO vs m f ws e
 exact H.upd (ob := .list ys) t ha (Heap.SameBut.update ..) fun G => ⟨ws, m', (Heap.get?_update_self _ ho (by rw [hm]; rfl)).trans (by rw [hm]), R.go0 G⟩
theorem C.append {i : Nat} {xs : List PV} {p : PV} (h : st[i]? = some (.list xs)) (hz : xs.length ≤ 2 ^ 20) : Cl C n (.builtin "list.append") [.ref i, p] st .none (st.set i (.list (xs ++ [p]))) := fun A s ρ vs hA H R => by
 (replace R := R.inv; obtain ⟨v, _, rfl, R1, R2⟩ := R)
 (replace R2 := R2.inv; obtain ⟨u, _, rfl, R2, R3⟩ := R2)
 (replace R3 := R3.inv; first | obtain rfl := R3 | obtain ⟨_, rfl⟩ := R3)
 (replace R1 := R1.inv; obtain ⟨a, rfl, ha⟩ := R1)
 obtain ⟨ws, m, ho, rl, hL, hlen⟩ := isList_of H ha h
 refine call_meets F.slot_list_append ⟨_, ho, rfl⟩ F.entry_list_append (F.args_list_append_2 _ _) (list_append a ws.toArray m u (by simp [sizeLine_eq]; omega)) ⟨ho, ?_⟩
 obtain ⟨H', G'⟩ := updList (t := s.toks) (f := fun x => x.push u) (ws := ws ++ [u]) H ha ho (by simp) (rl.append (.one R2))
 exact ⟨ρ, H', G', .none⟩
theorem C.pop {i : Nat} {xs : List PV} {p : PV} (h : st[i]? = some (.list (xs ++ [p]))) (hz : xs.length ≤ 2 ^ 20) : Cl C n (.builtin "list.pop") [.ref i] st p (st.set i (.list xs)) := fun A s ρ vs hA H R => by
 (replace R := R.inv; obtain ⟨v, _, rfl, R1, R2⟩ := R)
 (replace R2 := R2.inv; obtain ⟨_, rfl⟩ := R2)
 (replace R1 := R1.inv; obtain ⟨a, rfl, ha⟩ := R1)
 obtain ⟨ws, m, ho, rl, hL, hlen⟩ := isList_of H ha h
 simp only [List.length_append, List.length_cons, List.length_nil] at hlen
 obtain ⟨y, hy, ry⟩ := rl.get (i := xs.length) (p := p) (by simp)
 have hsz : ws.toArray.size - 1 = xs.length := by simp [hlen]
 refine call_meets F.slot_list_pop ⟨_, ho, rfl⟩ F.entry_list_pop (F.args_list_pop_1 _) (MeetsSeq.list_pop_last a ws.toArray m y (by rw [hsz]; simpa using hy) (by simp [sizeLine_eq]; omega)) ⟨ho, ?_⟩
 obtain ⟨H', G'⟩ := updList (t := s.toks) (f := fun x => x.eraseIdxIfInBounds (ws.toArray.size - 1)) (ws := ws.take xs.length) (ys := xs) H ha ho (by
  rw [hsz]
  have : xs.length < ws.toArray.size := by simp; omega
  rw [Array.eraseIdxIfInBounds, dif_pos this]
  apply Array.toList_inj.mp
  rw [Array.toList_eraseIdx]
  simp only [List.eraseIdx_eq_take_drop_succ]
  rw [List.drop_eq_nil_of_le (by omega)]; simp) (by simpa using rl.take xs.length)
 exact ⟨ρ, H', G', ry.go0 G'⟩
end
end
section
noncomputable abbrev pw : Program := PySem.Challenge.pw_pg0295_01
noncomputable def stAt (i : Nat) : Stmt := pw.main.body.getD i (.Pass default)
noncomputable def dE : Expr := .Constant .none 0 default
noncomputable def dS : Scope := { kind := .module, names := [], isGenerator := false, isCoroutine := false, more := [] }
noncomputable def stX : Stmt → Expr × Expr × List Stmt × List Stmt × Scope × Arguments
 | .FunctionDef _ a b _ _ _ s _ _ _ => (dE, dE, b, [], s, a)
 | .ClassDef _ _ _ b _ _ _ _ _ _ _ => (dE, dE, b, [], dS, default)
 | .For t i b _ _ => (t, i, b, [], dS, default)
 | .While t b _ _ => (t, dE, b, [], dS, default)
 | .If t b o _ => (t, dE, b, o, dS, default)
 | .Assign _ v _ => (v, dE, [], [], dS, default)
 | .Expr e _ => (e, dE, [], [], dS, default)
 | .Return v _ => (v.getD dE, dE, [], [], dS, default)
 | _ => (dE, dE, [], [], dS, default)
noncomputable def bodyOf (s : Stmt) : List Stmt := (stX s).2.2.1
noncomputable def scopeOf (s : Stmt) : Scope := (stX s).2.2.2.2.1
noncomputable def argsOf (s : Stmt) : Arguments := (stX s).2.2.2.2.2
namespace hd
noncomputable def hdSt (k : Nat) : Stmt := (bodyOf (stAt 17)).getD k (.Pass default)
noncomputable abbrev tv (s : String) (n : Nat) : Value := .str (Str.ofString s) n
noncomputable abbrev de (P : Params) (s : String) (n : Nat) (v : Value) : DictEntry := ⟨PyData.keyHash P (Str.ofString s), tv s n, v⟩
noncomputable abbrev er (P : Params) (s : String) (n a : Nat) : DictEntry := de P s n (.ref a)
noncomputable abbrev tup (vs : Array Value) : Obj := .mk (.type "tuple") none (.seq vs 0) #[]
noncomputable abbrev fo (s : Stmt) (n q : String) (df m : Value) (c : Nat) : Obj :=
 .mk (.type "function") none (.func (.mk (Str.ofString n) (Str.ofString q) (argsOf s) (.stmts (bodyOf s)) (scopeOf s) 3 [] df .none .none m none (.ref c) .none 0)) #[]
noncomputable abbrev co (n q : String) (a : Nat) (l c k y : Int) (r0 r1 : Nat) (v1 v2 : Value) (r3 d : Nat) : Obj :=
 .mk (.type "code") none (.fields #[tv n a, tv q (a + 1), tv "/claim/cut.py" (a + 2), .int l 0, .int c 0, .int k 0, .int y 0, .int 3 0, .ref r0, .bool true, .int 276 0, .ref r1, .none, v1, v2, .ref r3, .int d 0, .int l 0, tv "/claim/cut.py" (d + 1)]) #[]
noncomputable abbrev m0 : Value := tv "cpy313.heapq" 289
noncomputable abbrev m1 : Value := tv "cpy313.traceback" 342
noncomputable abbrev m2 : Value := tv "cpy313.wsgiref.headers" 378
noncomputable abbrev m3 : Value := tv "law_pg0295_01" 596
noncomputable def heap_39 (P : Params) : Frag :=
  [(3, (Obj.mk (Value.type "dict") none (Data.dict #[(de P "__name__" 165 (tv "law_pg0295_01" 596)), (de P "__doc__" 166 .none), (de P "__package__" 167 .none), (de P "__loader__" 168 (Value.builtin "__main__.__loader__#opaque")), (de P "__spec__" 169 .none), er P "__annotations__" 170 6, er P "__builtins__" 171 4, (de P "__file__" 173 (tv "/claim/cut.py" 172)), (de P "__cached__" 174 .none), er P "_sre" 275 12, er P "_wall" 288 38, er P "heappush" 298 45, er P "heappop" 307 52, er P "heapify" 316 59, er P "_siftdown" 328 66, er P "_siftup" 341 73, (de P "_MAX_STRING_SIZE" 345 (.int 40 344)), (de P "_MOVE_COST" 347 (.int 2 346)), (de P "_CASE_COST" 349 (.int 1 348)), er P "_substitution_cost" 357 80, er P "_levenshtein_distance" 377 87, er P "_name_disallowed_re" 405 92, er P "_value_disallowed_re" 439 97, er P "Headers" 595 220, er P "_law_words" 603 229, er P "_law_side" 611 236, er P "_law_due" 622 243, er P "_law_ties" 633 250, er P "_law_by_name" 643 257, er P "_law_threes" 654 264, er P "_law_turn" 662 271, er P "_law_reduced" 668 276, er P "_law_sums" 674 281, er P "_law_parts" 680 286, er P "law" 686 291] 35) #[])),
  (44, co "heappush" "heappush" 291 6 2 0 0 39 40 (.ref 41) (.ref 42) 43 296),
  (45, fo (stAt 3) "heappush" "heappush" Value.none m0 44),
  (51, co "heappop" "heappop" 299 9 1 0 0 46 47 (.ref 48) (.ref 49) 50 305),
  (52, fo (stAt 4) "heappop" "heappop" Value.none m0 51),
  (58, co "heapify" "heapify" 308 17 1 0 0 53 54 (.ref 55) (.ref 56) 57 314),
  (59, fo (stAt 5) "heapify" "heapify" Value.none m0 58),
  (65, co "_siftdown" "_siftdown" 317 21 3 0 0 60 61 (.ref 62) (.ref 63) 64 326),
  (66, fo (stAt 6) "_siftdown" "_siftdown" Value.none m0 65),
  (72, co "_siftup" "_siftup" 329 32 2 0 0 67 68 (.ref 69) (.ref 70) 71 339),
  (73, fo (stAt 7) "_siftup" "_siftup" Value.none m0 72),
  (79, co "_substitution_cost" "_substitution_cost" 350 50 2 0 0 74 75 (.ref 76) (.ref 77) 78 355),
  (80, fo (stAt 12) "_substitution_cost" "_substitution_cost" Value.none m1 79),
  (86, co "_levenshtein_distance" "_levenshtein_distance" 358 56 3 0 0 81 82 (.ref 83) (.ref 84) 85 375),
  (87, fo (stAt 13) "_levenshtein_distance" "_levenshtein_distance" Value.none m1 86),
  (91, tup #[(.int 14 0), (.int 10 0), (.int 4 0), (.int 1 0), (.int 1 0), (.int 22 0), (.int 0 0), (.int 31 0), (.int 16 0), (.int 127 0), (.int 0 0), (.int 13 0), (.int 7 0), (.int 22 0), (.int 0 0), (.int 31 0), (.int 16 0), (.int 127 0), (.int 0 0), (.int 1 0)]),
  (92, (Obj.mk (Value.type "re.Pattern") none (Data.fields #[(tv "[\\x00-\\x1F\\x7F]" 381), (.int 32 404), (.int 0 0), .none, .none, (.ref 91), (.int 0 0)]) #[])),
  (96, tup #[(.int 14 0), (.int 14 0), (.int 4 0), (.int 1 0), (.int 1 0), (.int 9 0), (.int 4294966783 0), (.int 0 0), (.int 0 0), (.int 2147483648 0), (.int 0 0), (.int 0 0), (.int 0 0), (.int 0 0), (.int 0 0), (.int 13 0), (.int 11 0), (.int 9 0), (.int 4294966783 0), (.int 0 0), (.int 0 0), (.int 2147483648 0), (.int 0 0), (.int 0 0), (.int 0 0), (.int 0 0), (.int 0 0), (.int 1 0)]),
  (97, (Obj.mk (Value.type "re.Pattern") none (Data.fields #[(tv "[\\x00-\\x08\\x0A-\\x1F\\x7F]" 407), (.int 32 438), (.int 0 0), .none, .none, (.ref 96), (.int 0 0)]) #[])),
  (105, tup #[.none]),
  (111, co "__init__" "Headers.__init__" 452 99 2 0 0 106 107 (.ref 108) (.ref 109) 110 459),
  (112, fo (hdSt 0) "__init__" "Headers.__init__" (Value.ref 105) m2 111),
  (118, co "_convert_string_type" "Headers._convert_string_type" 462 109 2 0 1 113 114 (.ref 115) (.ref 116) 117 469),
  (119, fo (hdSt 1) "_convert_string_type" "Headers._convert_string_type" Value.none m2 118),
  (132, co "__setitem__" "Headers.__setitem__" 479 120 3 0 0 127 128 (.ref 129) (.ref 130) 131 485),
  (133, fo (hdSt 3) "__setitem__" "Headers.__setitem__" Value.none m2 132),
  (137, co "__delitem__" "Headers.__delitem__" 488 124 2 0 0 134 135 .none .none 136 491),
  (138, fo (hdSt 4) "__delitem__" "Headers.__delitem__" Value.none m2 137),
  (160, tup #[.none]),
  (166, co "get" "Headers.get" 518 137 3 0 0 161 162 (.ref 163) (.ref 164) 165 526),
  (167, fo (hdSt 8) "get" "Headers.get" (Value.ref 160) m2 166),
  (183, co "items" "Headers.items" 541 150 1 0 0 178 179 (.ref 180) (.ref 181) 182 545),
  (184, fo (hdSt 11) "items" "Headers.items" Value.none m2 183),
  (219, (Obj.mk (Value.type "dict") none (Data.dict #[(de P "__module__" 447 (tv "cpy313.wsgiref.headers" 378)), (de P "__firstlineno__" 451 (.int 97 450)), er P "__init__" 461 112, er P "_convert_string_type" 471 119, er P "__len__" 478 126, er P "__setitem__" 487 133, er P "__delitem__" 493 138, er P "__getitem__" 501 145, er P "__contains__" 509 152, er P "get_all" 517 159, er P "get" 528 167, er P "keys" 534 172, er P "values" 540 177, er P "items" 547 184, er P "__repr__" 554 191, er P "__str__" 560 196, er P "__bytes__" 567 203, er P "setdefault" 576 210, er P "add_header" 586 217, er P "__static_attributes__" 588 218, er P "__dict__" 590 221, er P "__weakref__" 592 222, (de P "__doc__" 593 .none)] 4) #[])),
  (220, (Obj.mk (Value.type "type") none (Data.cls (ClassData.mk (Str.ofString "Headers") [(Value.type "object")] [(.ref 220), (Value.type "object")] 219 (Str.ofString "Headers") Bool.true [] [] Bool.false none Bool.false)) #[none, none, (some (tv "Headers" 440)), (some (tv "Headers" 448)), (some (Value.builtin "object.__new__")), (some (Value.bool Bool.true))])),
  (228, co "_law_words" "_law_words" 598 168 2 0 0 225 226 .none .none 227 601),
  (229, fo (stAt 19) "_law_words" "_law_words" Value.none m3 228),
  (235, co "_law_side" "_law_side" 604 175 2 0 0 230 231 (.ref 232) (.ref 233) 234 609),
  (236, fo (stAt 20) "_law_side" "_law_side" Value.none m3 235),
  (242, co "_law_due" "_law_due" 612 179 2 0 0 237 238 (.ref 239) (.ref 240) 241 620),
  (243, fo (stAt 21) "_law_due" "_law_due" Value.none m3 242),
  (249, co "_law_ties" "_law_ties" 623 187 1 0 0 244 245 (.ref 246) (.ref 247) 248 631),
  (250, fo (stAt 22) "_law_ties" "_law_ties" Value.none m3 249),
  (256, co "_law_by_name" "_law_by_name" 634 196 2 0 0 251 252 (.ref 253) (.ref 254) 255 641),
  (257, fo (stAt 23) "_law_by_name" "_law_by_name" Value.none m3 256),
  (263, co "_law_threes" "_law_threes" 644 201 1 0 0 258 259 (.ref 260) (.ref 261) 262 652),
  (264, fo (stAt 24) "_law_threes" "_law_threes" Value.none m3 263),
  (270, co "_law_turn" "_law_turn" 655 208 2 0 0 265 266 (.ref 267) (.ref 268) 269 660),
  (271, fo (stAt 25) "_law_turn" "_law_turn" Value.none m3 270),
  (275, co "_law_reduced" "_law_reduced" 663 214 2 0 0 272 273 .none .none 274 666),
  (276, fo (stAt 26) "_law_reduced" "_law_reduced" Value.none m3 275),
  (280, co "_law_sums" "_law_sums" 669 236 1 0 0 277 278 .none .none 279 672),
  (281, fo (stAt 27) "_law_sums" "_law_sums" Value.none m3 280),
  (285, co "_law_parts" "_law_parts" 675 242 3 0 0 282 283 .none .none 284 678),
  (286, fo (stAt 28) "_law_parts" "_law_parts" Value.none m3 285),
  (290, co "law" "law" 681 250 1 0 0 287 288 .none .none 289 684),
  (291, fo (stAt 29) "law" "law" Value.none m3 290)]
noncomputable def view_39 : Program := { pw with main := { pw.main with body := [0, 1, 3, 4, 5, 6, 7, 9, 10, 11, 12, 13, 15, 16, 17, 19, 20, 21, 22, 23, 24, 25, 26, 27, 28, 29].map stAt } }
noncomputable abbrev hk : Hook := kHook heap_39 [3, 44, 45, 51, 52, 58, 59, 65, 66, 72, 73, 79, 80, 86, 87, 91, 92, 96, 97, 105, 111, 112, 118, 119, 132, 133, 137, 138, 160, 166, 167, 183, 184, 219, 220, 228, 229, 235, 236, 242, 243, 249, 250, 256, 257, 263, 264, 270, 271, 275, 276, 280, 281, 285, 286, 290, 291] (fun _ => by kernel_rfl)
theorem left : LeftO PySem.Challenge.rw_pg0295_01.row.prog view_39 [Str.ofString "_name_disallowed_re", Str.ofString "_value_disallowed_re"] (fun s => xlAt view_39 [] s && recOk PySem.Challenge.rw_pg0295_01.row.records s) hk.obs hk.val 3164 := fun w => by
 unfold openEnds fencedOpening topFrom
 rw [Fast.te10274390034422433532, Fast.te14082659384304107361, Fast.te4187177175401517315, Fast.te14364793385576792824]
 kernel_rfl
end hd
end
section
def wkN (k : String) : Lean.Name := match k.splitOn "." with
 | ["T", x] => ("Lean.Parser.Tactic." ++ x).toName
 | ["E", x] => ("Lean.Parser.Term." ++ x).toName
 | _ => k.toName
def wkS (st : List (String × Array Lean.Syntax)) (t : String) : List (String × Array Lean.Syntax) :=
 let up (x : Lean.Syntax) : List (String × Array Lean.Syntax) → List (String × Array Lean.Syntax)
  | (k, as) :: r => (k, as.push x) :: r
  | [] => []
 let nd (k : String) (as : Array Lean.Syntax) : Lean.Syntax := Lean.mkNode (wkN k) as
 let r := (t.drop 1).toString
 match t.front, st with
 | '(', _ | '[', _ => (r, #[]) :: st
 | ')', (k, as) :: st => up (nd k as) st
 | ']', (_, as) :: st => up (nd "T.tacticSeq" #[nd "T.tacticSeq1Indented" #[nd "null" as]]) st
 | '\'', _ => up (Lean.mkAtom r) st
 | '#', _ => up (nd "PyProof.Rows.tacticWalk_at_" #[Lean.mkAtom "walk_at", Lean.Syntax.mkStrLit r]) st
 | '~', _ => up (nd "E.hole" #[Lean.mkAtom "_"]) st
 | '?', _ => up (nd "E.syntheticHole" #[Lean.mkAtom "?", Lean.mkAtom "_"]) st
 | _, _ => if t.isEmpty then st else up (Lean.mkIdent t.toName) st
def wkT (x : String) : String := match x with
 | "r" => "(T.tacticRfl 'rfl )"
 | "d" => "(T.decide 'decide (T.optConfig (null ) ) )"
 | "o" => "(T.omega 'omega (T.optConfig (null ) ) )"
 | "a" => "(T.assumption 'assumption )"
 | "ao" => "(T.first 'first (null (group '| [ (T.assumption 'assumption ) ] ) (group '| [ (T.omega 'omega (T.optConfig (null ) ) ) ] ) ) )"
 | "i" => "(T.paren '( [ (T.intro 'intro (null ~ ) ) '; (T.tacticRfl 'rfl ) ] ') )"
 | "j" => "(T.paren '( [ (T.intro 'intro (null ~ ~ ) ) '; (T.tacticRfl 'rfl ) ] ') )"
 | "u" => "(T.withUnfoldingAll 'with_unfolding_all [ (T.tacticRfl 'rfl ) ] )"
 | "v" => "(T.paren '( [ (T.intro 'intro (null ~ ~ ) ) '; (T.withUnfoldingAll 'with_unfolding_all [ (T.tacticRfl 'rfl ) ] ) ] ') )"
 | "z" => "(T.simp 'simp (T.optConfig (null ) ) (null ) (null ) (null '[ (null (T.simpLemma (null ) (null ) sizeLine_eq ) ) '] ) (null ) )"
 | "K" => "(T.exact 'exact (E.app _root_.Mine.Px.K (null (E.byTactic 'by [ (T.assumption 'assumption ) ] ) ~ ~ rfl ) ) )"
 | "S" => "(T.paren '( [ (T.intro 'intro (null ~ ~ ) ) '; (T.exact 'exact (E.app _root_.Mine.Rep.sta (null ~ ) ) ) ] ') )"
 | "n" => "(T.first 'first (null (group '| [ (T.exact 'exact (E.app (E.dotIdent '. inl ) (null rfl ) ) ) ] ) (group '| [ (T.exact 'exact (E.app (E.dotIdent '. inr ) (null rfl ) ) ) ] ) ) )"
 | "h" => "(T.paren '( [ (T.intro 'intro (null h ) ) '; (T.cases 'cases (null (T.elimTarget (null ) h ) ) (null ) (null ) ) ] ') )"
 | "ne" => "(T.refine 'refine (E.app _root_.Mine.gs_ne (null ?_ ?_ ) ) )"
 | "ex" => "(T.refine 'refine (E.app _root_.Mine.SExt.gt (null (E.byTactic 'by [ (T.assumption 'assumption ) ] ) ?_ ) ) )"
 | x => "#" ++ x
def wkR (t : String) : String := "(T.withReducible 'with_reducible [ " ++ t ++ " ] )"
def wkA (l : String) : String := match l.splitOn " " with
 | [] => ""
 | h :: ts =>
  let y := (h.drop 1).toString
  let x := if y.startsWith "C." then "_root_.Mine." ++ y else y
  let t := match h.front with
   | '=' => wkR ("(T.exact 'exact " ++ x ++ " )")
   | '+' => "(T.exact 'exact (E.app " ++ x ++ " (null (E.byTactic 'by [ (T.assumption 'assumption ) ] ) ) ) )"
   | '-' => wkR ("(T.apply 'apply " ++ x ++ " )")
   | '*' => "(T.apply 'apply " ++ x ++ " )"
   | '/' => "(T.refine 'refine (E.app " ++ x ++ " (null ?_ ) ) )"
   | _ => wkT y
  ts.foldl (fun t u => "(T.paren '( [ " ++ t ++ " '; (Lean.cdot (Lean.cdotTk '· ) [ " ++ wkT u ++ " ] ) ] ') )") t
def wkG (d : String) : String := "(T.first 'first (null " ++ String.join ((d.splitOn "|").map fun l => "(group '| [ " ++ wkA l ++ " ] ) ") ++ ") )"
def wkTab (s : String) : String := match s with
 | "gt" => wkG "!a|*gl|/gs_self gt|/ga gt|!ne ao gt|!ex gt"
 | "side" => wkG "!a|!r|!d|!o|!gt"
 | "op" => wkR (wkG "=O.add|=O.sub|=O.lt|=O.gt|=O.le|=O.eq|=O.ne|=O.iadd|=O.isub|=O.neg|=O.eqs|=O.nes|=O.xor|*O.sub_list gt o a v|*O.sub_tup side side side v|!a")
 | "glob" => wkR (wkG "+g_heappush|+g_heappop|+g_heapify|+g_siftdown|+g_siftup|+g_MAX|+g_MOVE|+g_CASE|+g_sub|+g_lev|+g_nre|+g_vre|+g_Headers|+g_words|+g_side|+g_due|+g_ties|+g_byname|+g_threes|+g_turn|+g_reduced|+g_sums|+g_parts")
 | "blt" => wkR (wkG "+b_len|+b_range|+b_reversed|+b_list|+b_min|+b_max|+b_sum|+b_sorted|+b_set|+b_type|+b_str")
 | "evl" => wkG "=EvL.nil|-EvL.cons ev evl i"
 | "ev" => wkG "=Ev.cint|=Ev.cstr|=Ev.cbool|=Ev.cnone|-Ev.loc r r d|-Ev.cell r r d|-Ev.globI glob r d|-Ev.glob glob S r d|-Ev.blt2 blt r d|-Ev.bin ev ev op|-Ev.un ev op|-Ev.sub ev ev op|-Ev.cmp ev ev op u|-Ev.tup evl z|-Ev.list evl z|!call"
 | "cl" => wkG "!ra|-C.len_list gt ao|-C.append gt ao|-C.pop gt ao|!cl2"
 | "ra" => wkR (wkT "a")
 | "cl2" => wkR (wkG "=C.range1|=C.min2|*C.sum_list gt")
 | "typ" => wkG "=TyP.str|-TyP.list gt"
 | "call" => wkG ("-Ev.callf ev evl K r cl i i|-Ev.callb ev evl cl i i|-Ev.callt ev evl cl i i" ++ String.join (["append", "pop", "lower", "upper", "split", "join", "index", "remove"].map fun m => "|-Ev.meth_" ++ m ++ " ev typ evl cl i i r i"))
 | "truth" => wkR (wkG "=T.bool|=T.int|=T.none|!a")
 | "tr" => wkG "-Tr.cmp ev ev op u|-Tr.not tr|=Tr.and_nil|=Tr.or_nil"
 | "as" => wkG "-As.name n|-As.sub ev ev m"
 | "m" => wkG "!ra|-O.setItem gt o o"
 | "st" => wkG "-Ex1.asg ev as j i i|-Ex1.expr ev j|-Ex1.ret ev|=Ex1.cont|=Ex1.brk"
 | "exs" => "(T.tacticRepeat_ 'repeat [ " ++ wkG "*Ex.cons st|*Ex.stop st h|=Ex.nil" ++ " ] )"
 | _ => ""
def wkM (s : String) : Lean.Syntax := match ((wkTab s).splitOn " ").foldl wkS [("", #[])] with
 | (_, as) :: _ => as.getD 0 .missing
 | [] => .missing
noncomputable def sAt (b : List Stmt) (i : Nat) : Stmt := b.getD i (.Pass default)
noncomputable def tOf (s : Stmt) : Expr := (stX s).1
noncomputable def bOf (s : Stmt) : List Stmt := (stX s).2.2.1
noncomputable def oOf (s : Stmt) : List Stmt := (stX s).2.2.2.1
structure Px (C : Cx) : Prop where
 K : (hd.heap_39 C.w.params).In C.S0.heap
 mb : ∀ x : Str, x ≠ "__name__" → C.mb x = bootBuiltins x
noncomputable def globEs (P : Params) : Array DictEntry := match (hd.heap_39 P).lookup 3 with
 | some ⟨_, _, .dict es _, _⟩ => es
 | _ => #[]
theorem Px.glob {C : Cx} (px : Px C) (x : Str) : C.mg x = nsFind (globEs C.w.params) x := by
 obtain ⟨o, es, ep, ho, hd, _, hm⟩ := C.g
 have h := px.K 3 _ rfl
 rw [show mainGlobals = 3 from rfl] at ho
 rw [h] at ho
 cases ho
 rw [← hm x, ← (Data.dict.inj hd).1]; rfl
theorem Px.builtin {C : Cx} (px : Px C) {x : Str} {v : Option Value} (hn : (x == ("__name__" : Str)) = false) (h : bootBuiltins x = v) : C.mb x = v := by
 rw [px.mb x (by simpa using hn)]; exact h
noncomputable def SubL : Loc → Loc → Prop
 | [], _ => True
 | (x, p) :: l, m => m.lookup x = some p ∧ SubL l m
theorem SubL.ok : ∀ {l m : Loc}, SubL l m → ∀ x pv, l.lookup x = some pv → m.lookup x = some pv
 | [], m, _, x, pv, e => by simp at e
 | (y, p) :: l, m, ⟨h1, h2⟩, x, pv, e => by
  rw [List.lookup_cons] at e
  cases hb : x == y with
  | true => rw [hb] at e; cases e; rw [show x = y by simpa using hb]; exact h1
  | false => rw [hb] at e; exact h2.ok x pv e
section
variable {C : Cx} {n : Nat} {φ : Scope} {lo lo1 lo2 lo3 : Loc} {st st1 st2 st3 : Sto}
theorem Wh.sub {t : Expr} {b : List Stmt} {f : Fl} (h : Wh C n φ lo t b st f lo1 st1) (hs : SubL lo2 lo1) : Wh C n φ lo t b st f lo2 st1 := fun A s ρ env hA H F =>
 codeAny_mono (h A s ρ env hA H F) fun r s1 h1 => by
  cases r with
  | error e => exact h1
  | ok fl => obtain ⟨ρ1, H1, G1, F1, R1⟩ := h1; exact ⟨ρ1, H1, G1, F1.sub hs.ok, R1⟩
theorem Wh.pre {t : Expr} {b : List Stmt} {f : Fl} (h : Wh C n φ lo t b st f lo1 st1) (hs : SubL lo lo2) : Wh C n φ lo2 t b st f lo1 st1 := fun A s ρ env hA H F =>
 h A s ρ env hA H (F.sub hs.ok)
theorem Ex.to {xs : List Stmt} {f : Fl} (h : Ex C n φ lo xs st f lo1 st1) (hs : SubL lo2 lo1) : Ex C n φ lo xs st f lo2 st1 := h.sub hs.ok
end
section
variable {C : Cx}
theorem g_heappush (px : Px C) : C.mg "heappush" = some (.ref 45) := (px.glob _).trans (by kernel_rfl)
theorem g_heappop (px : Px C) : C.mg "heappop" = some (.ref 52) := (px.glob _).trans (by kernel_rfl)
theorem g_heapify (px : Px C) : C.mg "heapify" = some (.ref 59) := (px.glob _).trans (by kernel_rfl)
theorem g_siftdown (px : Px C) : C.mg "_siftdown" = some (.ref 66) := (px.glob _).trans (by kernel_rfl)
theorem g_siftup (px : Px C) : C.mg "_siftup" = some (.ref 73) := (px.glob _).trans (by kernel_rfl)
theorem g_sub (px : Px C) : C.mg "_substitution_cost" = some (.ref 80) := (px.glob _).trans (by kernel_rfl)
theorem g_lev (px : Px C) : C.mg "_levenshtein_distance" = some (.ref 87) := (px.glob _).trans (by kernel_rfl)
theorem g_nre (px : Px C) : C.mg "_name_disallowed_re" = some (.ref 92) := (px.glob _).trans (by kernel_rfl)
theorem g_vre (px : Px C) : C.mg "_value_disallowed_re" = some (.ref 97) := (px.glob _).trans (by kernel_rfl)
theorem g_Headers (px : Px C) : C.mg "Headers" = some (.ref 220) := (px.glob _).trans (by kernel_rfl)
theorem g_words (px : Px C) : C.mg "_law_words" = some (.ref 229) := (px.glob _).trans (by kernel_rfl)
theorem g_side (px : Px C) : C.mg "_law_side" = some (.ref 236) := (px.glob _).trans (by kernel_rfl)
theorem g_due (px : Px C) : C.mg "_law_due" = some (.ref 243) := (px.glob _).trans (by kernel_rfl)
theorem g_ties (px : Px C) : C.mg "_law_ties" = some (.ref 250) := (px.glob _).trans (by kernel_rfl)
theorem g_byname (px : Px C) : C.mg "_law_by_name" = some (.ref 257) := (px.glob _).trans (by kernel_rfl)
theorem g_turn (px : Px C) : C.mg "_law_turn" = some (.ref 271) := (px.glob _).trans (by kernel_rfl)
theorem g_sums (px : Px C) : C.mg "_law_sums" = some (.ref 281) := (px.glob _).trans (by kernel_rfl)
theorem g_law (px : Px C) : C.mg "law" = some (.ref 291) := (px.glob _).trans (by kernel_rfl)
theorem g_MAX (px : Px C) : ∃ t, C.mg "_MAX_STRING_SIZE" = some (.int 40 t) := ⟨_, (px.glob _).trans rfl⟩
theorem g_MOVE (px : Px C) : ∃ t, C.mg "_MOVE_COST" = some (.int 2 t) := ⟨_, (px.glob _).trans rfl⟩
theorem g_CASE (px : Px C) : ∃ t, C.mg "_CASE_COST" = some (.int 1 t) := ⟨_, (px.glob _).trans rfl⟩
theorem b_len (px : Px C) : C.mg "len" = none ∧ C.mb "len" = some (.builtin "len") := ⟨(px.glob _).trans (by kernel_rfl), px.builtin (by decide) (by decide +kernel)⟩
theorem b_range (px : Px C) : C.mg "range" = none ∧ C.mb "range" = some (.type "range") := ⟨(px.glob _).trans (by kernel_rfl), px.builtin (by decide) (by decide +kernel)⟩
theorem b_reversed (px : Px C) : C.mg "reversed" = none ∧ C.mb "reversed" = some (.type "reversed") := ⟨(px.glob _).trans (by kernel_rfl), px.builtin (by decide) (by decide +kernel)⟩
theorem b_list (px : Px C) : C.mg "list" = none ∧ C.mb "list" = some (.type "list") := ⟨(px.glob _).trans (by kernel_rfl), px.builtin (by decide) (by decide +kernel)⟩
theorem b_min (px : Px C) : C.mg "min" = none ∧ C.mb "min" = some (.builtin "min") := ⟨(px.glob _).trans (by kernel_rfl), px.builtin (by decide) (by decide +kernel)⟩
theorem b_max (px : Px C) : C.mg "max" = none ∧ C.mb "max" = some (.builtin "max") := ⟨(px.glob _).trans (by kernel_rfl), px.builtin (by decide) (by decide +kernel)⟩
theorem b_sum (px : Px C) : C.mg "sum" = none ∧ C.mb "sum" = some (.builtin "sum") := ⟨(px.glob _).trans (by kernel_rfl), px.builtin (by decide) (by decide +kernel)⟩
theorem b_sorted (px : Px C) : C.mg "sorted" = none ∧ C.mb "sorted" = some (.builtin "sorted") := ⟨(px.glob _).trans (by kernel_rfl), px.builtin (by decide) (by decide +kernel)⟩
theorem b_set (px : Px C) : C.mg "set" = none ∧ C.mb "set" = some (.type "set") := ⟨(px.glob _).trans (by kernel_rfl), px.builtin (by decide) (by decide +kernel)⟩
theorem b_type (px : Px C) : C.mg "type" = none ∧ C.mb "type" = some (.type "type") := ⟨(px.glob _).trans (by kernel_rfl), px.builtin (by decide) (by decide +kernel)⟩
theorem b_str (px : Px C) : C.mg "str" = none ∧ C.mb "str" = some (.type "str") := ⟨(px.glob _).trans (by kernel_rfl), px.builtin (by decide) (by decide +kernel)⟩
theorem g_threes (px : Px C) : C.mg "_law_threes" = some (.ref 264) := (px.glob _).trans (by kernel_rfl)
theorem g_reduced (px : Px C) : C.mg "_law_reduced" = some (.ref 276) := (px.glob _).trans (by kernel_rfl)
theorem g_parts (px : Px C) : C.mg "_law_parts" = some (.ref 286) := (px.glob _).trans (by kernel_rfl)
variable {n : Nat} {φ : Scope} {lo : Loc} {st : Sto}
theorem Ev.globI {x : Str} {pos : Pos} {i : Int} (hg : ∃ t, C.mg x = some (.int i t)) (hk : φ.names.lookup x = some .globalImplicit) (hd : (x == ("__debug__" : Str)) = false) : Ev C n φ lo (.Name x pos) st (.int i) st := by
 obtain ⟨t, h⟩ := hg
 exact Ev.glob h (fun _ _ => .int _ _) hk hd
theorem Ev.blt2 {x : Str} {pos : Pos} {v : Value} (hg : C.mg x = none ∧ C.mb x = some v) (hk : φ.names.lookup x = some .globalImplicit) (hd : (x == ("__debug__" : Str)) = false) : Ev C n φ lo (.Name x pos) st (.sta v) st := Ev.blt hg.1 hg.2 hk hd
end
section
variable {C : Cx} {n : Nat} {φ : Scope} {lo : Loc} {st st1 st2 st3 : Sto}
theorem gs_self {st : Sto} {i : Nat} {o o' : Ob} (h : st[i]? = some o) : (st.set i o')[i]? = some o' := by
 have := (List.getElem?_eq_some_iff.mp h).1
 simp [this]
theorem gs_ne {st : Sto} {i j : Nat} {o o' : Ob} (hn : i ≠ j) (h : st[j]? = some o) : (st.set i o')[j]? = some o := by
 rw [List.getElem?_set_ne hn]; exact h
theorem ga {st l : Sto} {j : Nat} {o : Ob} (h : st[j]? = some o) : (st ++ l)[j]? = some o := by
 have := (List.getElem?_eq_some_iff.mp h).1
 rw [List.getElem?_append_left this]; exact h
theorem gl {st : Sto} {o : Ob} : (st ++ [o])[st.length]? = some o := by simp
theorem set_same {st : Sto} {i : Nat} {o : Ob} (h : st[i]? = some o) : st.set i o = st := by
 have hil := (List.getElem?_eq_some_iff.mp h).1
 apply List.ext_getElem?
 intro j
 by_cases e : i = j
 ·subst e; rw [h]; simp [hil]
 ·rw [List.getElem?_set_ne e]
theorem at_nat {xs : List PV} {k : Nat} {p : PV} (h : xs[k]? = some p) : at? xs (k : Int) = some p := by
 unfold at?; rw [if_pos (by omega)]; simpa using h
theorem Ev.meth_append {o : Expr} {apos pos : Pos} {args : List Expr} {p r : PV} {ps : List PV} (h1 : Ev C n φ lo o st p st1) (hT : TyP C st1 p "list") (h2 : EvL C n φ lo args st1 ps st2)
  (h3 : Cl C n (.builtin "list.append") (p :: ps) st2 r st3)
  (hbase : ∀ env, attributeBase o "append" env (eval o env) = eval o env)
  (hfew : ∀ env, ((backTo pos (starEach args env)).all (fun x => !x.1) && (backToKw pos (keywordEach [] env)).all (fun x => x.1.isSome)
   && decide (args.length + ([] : List Keyword).length + (if ([] : List Keyword).isEmpty then 0 else 1) < 30)) = true)
  (hline : (apos.endLine == pos.line) = true)
  (hp : ∀ env, (backTo pos (starEach args env)).any (·.1) = false) : Ev C n φ lo (.Call (.Attribute o "append" apos) args [] pos) st r st3 :=
 Ev.meth h1 hT h2 h3 F.plainAttrs_list F.slot_list_append F.type_list_append hbase hfew hline hp
theorem Ev.meth_pop {o : Expr} {apos pos : Pos} {args : List Expr} {p r : PV} {ps : List PV} (h1 : Ev C n φ lo o st p st1) (hT : TyP C st1 p "list") (h2 : EvL C n φ lo args st1 ps st2)
  (h3 : Cl C n (.builtin "list.pop") (p :: ps) st2 r st3)
  (hbase : ∀ env, attributeBase o "pop" env (eval o env) = eval o env)
  (hfew : ∀ env, ((backTo pos (starEach args env)).all (fun x => !x.1) && (backToKw pos (keywordEach [] env)).all (fun x => x.1.isSome)
   && decide (args.length + ([] : List Keyword).length + (if ([] : List Keyword).isEmpty then 0 else 1) < 30)) = true)
  (hline : (apos.endLine == pos.line) = true)
  (hp : ∀ env, (backTo pos (starEach args env)).any (·.1) = false) : Ev C n φ lo (.Call (.Attribute o "pop" apos) args [] pos) st r st3 :=
 Ev.meth h1 hT h2 h3 F.plainAttrs_list F.slot_list_pop F.type_list_pop hbase hfew hline hp
end
end
local macro_rules | `(tactic| walk_at $s:str) => match wkM s.getString with
 | .missing => Lean.Macro.throwUnsupported
 | t => pure t
section
noncomputable abbrev φsd : Scope := scopeOf (stAt 6)
noncomputable def sdF (lt : PV → PV → Bool) (x : PV) (start : Nat) : Nat → Nat → List PV → List PV × Nat
 | 0, pos, xs => (xs, pos)
 | k + 1, pos, xs => if start < pos then
   match xs[(pos - 1) / 2]? with
   | some y => if lt x y then sdF lt x start k ((pos - 1) / 2) (xs.set pos y) else (xs, pos)
   | none => (xs, pos)
  else (xs, pos)
noncomputable def LtOk (C : Cx) (n : Nat) (i : Nat) (S : PV → Prop) (lt : PV → PV → Bool) (st : Sto) : Prop :=
 ∀ p q o, S p → S q → Op2 C n (compareOp .Lt) p q (st.set i o) (.bool (lt p q)) (st.set i o)
noncomputable abbrev Wsd : Stmt := sAt (bodyOf (stAt 6)) 1
theorem sd_loop {C : Cx} {n : Nat} {i : Nat} {a : Nat} {S : PV → Prop} {lt : PV → PV → Bool} {st : Sto} {x : PV} (hlt : LtOk C n i S lt st) (hx : S x) (hi : i < st.length) :
  ∀ (k p : Nat) (xs : List PV), (∀ y ∈ xs, S y) → p ≤ k → p < xs.length → xs.length ≤ 2 ^ 20 →
  Wh C n φsd [("newitem", x), ("heap", .ref i), ("startpos", .int a), ("pos", .int p)] (tOf Wsd) (bOf Wsd) (st.set i (.list xs)) .next
   [("newitem", x), ("heap", .ref i), ("startpos", .int a), ("pos", .int (sdF lt x a (k + 1) p xs).2)] (st.set i (.list (sdF lt x a (k + 1) p xs).1)) := by
 intro k
 induction k with
 | zero =>
  intro p xs hS hp hl hz
  have : p = 0 := by omega
  subst this
  unfold sdF
  rw [if_neg (by omega)]
  apply Wh.done
  apply Tr.cmp
  ·walk_at "ev"
  ·walk_at "ev"
  ·have : decide (((0 : Nat) : Int) > (a : Int)) = false := by simp
   rw [← this]; walk_at "op"
  ·with_unfolding_all rfl
 | succ k ih =>
  intro p xs hS hp hl hz
  have hg : (st.set i (.list xs))[i]? = some (.list xs) := by simp [hi]
  unfold sdF
  by_cases hlt' : a < p
  ·rw [if_pos hlt']
   have hq : (p - 1) / 2 < xs.length := by omega
   have hy : xs[(p - 1) / 2]? = some xs[(p - 1) / 2] := by simp [hq]
   generalize xs[(p - 1) / 2] = y at hy
   have hSy : S y := hS y (List.mem_of_getElem? hy)
   have hat := at_nat hy
   have e1 : ((p : Int) - 1) / 2 = (((p - 1) / 2 : Nat) : Int) := by omega
   have hcmp := hlt x y (.list xs) hx hSy
   have hsh : Op2 C n (binaryOp .RShift) (.int ((p : Int) - 1)) (.int 1) (st.set i (.list xs)) (.int (((p - 1) / 2 : Nat) : Int)) (st.set i (.list xs)) := by
    rw [← e1]; exact O.rshift1 (by omega)
   have ht : Tr C n φsd [("newitem", x), ("heap", .ref i), ("startpos", .int a), ("pos", .int p)] (tOf Wsd) (st.set i (.list xs)) true (st.set i (.list xs)) := by
    apply Tr.cmp
    ·walk_at "ev"
    ·walk_at "ev"
    ·have : decide ((p : Int) > (a : Int)) = true := by simp; omega
     rw [← this]; walk_at "op"
    ·with_unfolding_all rfl
   rw [hy]
   dsimp only
   cases hb : lt x y with
   | false =>
    rw [hb] at hcmp
    simp only [Bool.false_eq_true, if_false]
    refine Wh.sub (lo1 := ("parent", y) :: ("parentpos", .int (((p - 1) / 2 : Nat) : Int)) :: [("newitem", x), ("heap", .ref i), ("startpos", .int a), ("pos", .int p)]) (Wh.brk ht ?_) ?_
    ·apply Ex.cons
     ·walk_at "st"
     walk_at "exs"
     apply Ex.cons
     ·apply Ex1.ite (c := false)
      ·walk_at "tr"
      ·exact Ex.nil
     walk_at "exs"
    ·exact ⟨rfl, rfl, rfl, rfl, trivial⟩
   | true =>
    rw [hb] at hcmp
    simp only [if_true]
    have e2 : (st.set i (.list xs)).set i (.list (xs.set p y)) = st.set i (.list (xs.set p y)) := List.set_set ..
    have hset : Op3 C n (.ref i) (.int (p : Int)) y (st.set i (.list xs)) (st.set i (.list (xs.set p y))) := by
     rw [← e2]; exact O.setItem hg (by omega) hl
    have hrec := ih ((p - 1) / 2) (xs.set p y) (fun z hz => by
     rcases List.mem_or_eq_of_mem_set hz with h | h
     ·exact hS z h
     ·exact h ▸ hSy) (by omega) (by simpa using hq) (by simpa using hz)
    refine Wh.turn ht (.inr ?_) (hrec.pre (lo2 := ("pos", .int (((p - 1) / 2 : Nat) : Int)) :: ("parent", y) :: ("parentpos", .int (((p - 1) / 2 : Nat) : Int)) :: [("newitem", x), ("heap", .ref i), ("startpos", .int a), ("pos", .int p)]) ⟨rfl, rfl, rfl, rfl, trivial⟩)
    apply Ex.cons
    ·walk_at "st"
    walk_at "exs"
    apply Ex.stop
    ·apply Ex1.ite (c := true)
     ·walk_at "tr"
     ·apply Ex.cons
      ·walk_at "st"
      walk_at "exs"
    ·intro h; cases h
  ·rw [if_neg hlt']
   apply Wh.done
   apply Tr.cmp
   ·walk_at "ev"
   ·walk_at "ev"
   ·have : decide ((p : Int) > (a : Int)) = false := by simp; omega
    rw [← this]; walk_at "op"
   ·with_unfolding_all rfl
noncomputable def siftdown (lt : PV → PV → Bool) (xs : List PV) (a p : Nat) : List PV :=
 match xs[p]? with
 | some x => (sdF lt x a (p + 1) p xs).1.set (sdF lt x a (p + 1) p xs).2 x
 | none => xs
theorem sdF_len (lt : PV → PV → Bool) (x : PV) (a : Nat) : ∀ (k p : Nat) (xs : List PV), (sdF lt x a k p xs).1.length = xs.length
 | 0, p, xs => rfl
 | k + 1, p, xs => by
  unfold sdF
  split
  ·split
   ·split
    ·rw [sdF_len]; simp
    ·rfl
   ·rfl
  ·rfl
set_option tactic.hygienic true in
theorem sdF_pos (lt : PV → PV → Bool) (x : PV) (a : Nat) : ∀ (k p : Nat) (xs : List PV), p < xs.length → (sdF lt x a k p xs).2 < xs.length
 | 0, p, xs, h => h
 | k + 1, p, xs, h => by
  unfold sdF
  split
  ·split
   ·rename_i y hy
    split
    ·have := sdF_pos lt x a k ((p - 1) / 2) (xs.set p y) (by simp; omega)
     simpa using this
    ·exact h
   ·exact h
  ·exact h
theorem siftdown_body {C : Cx} {n : Nat} {i : Nat} {a p : Nat} {xs : List PV} {st : Sto} {S : PV → Prop} {lt : PV → PV → Bool} (hlt : LtOk C n i S lt st) (hS : ∀ y ∈ xs, S y) (hi : st[i]? = some (.list xs)) (hz : xs.length ≤ 2 ^ 20) (hp : p < xs.length) :
  ∃ lo', Ex C n φsd [("heap", .ref i), ("startpos", .int a), ("pos", .int p)] (bodyOf (stAt 6)) st .next lo' (st.set i (.list (siftdown lt xs a p))) := by
 have hx : xs[p]? = some xs[p] := by simp [hp]
 have hil := (List.getElem?_eq_some_iff.mp hi).1
 have hst := set_same hi
 unfold siftdown
 rw [hx]
 dsimp only
 generalize xs[p] = x at hx
 have hat := at_nat hx
 have hw := sd_loop (a := a) hlt (hS x (List.mem_of_getElem? hx)) hil p p xs hS (Nat.le_refl _) hp hz
 rw [hst] at hw
 have hl := sdF_len lt x a (p + 1) p xs
 have hq := sdF_pos lt x a (p + 1) p xs hp
 generalize sdF lt x a (p + 1) p xs = r at hw hl hq
 have e2 : (st.set i (.list r.1)).set i (.list (r.1.set r.2 x)) = st.set i (.list (r.1.set r.2 x)) := List.set_set ..
 have hset : Op3 C n (.ref i) (.int (r.2 : Int)) x (st.set i (.list r.1)) (st.set i (.list (r.1.set r.2 x))) := by
  rw [← e2]; exact O.setItem (by simp [hil]) (by omega) (by omega)
 apply Exists.intro
 apply Ex.cons
 ·walk_at "st"
 apply Ex.cons
 ·apply Ex1.while
  exact hw.pre ⟨rfl, rfl, rfl, rfl, trivial⟩
 walk_at "exs"
theorem sp_siftdown {C : Cx} (px : Px C) {n : Nat} {i : Nat} {a p : Nat} {xs : List PV} {st : Sto} {S : PV → Prop} {lt : PV → PV → Bool} (hlt : LtOk C n i S lt st) (hS : ∀ y ∈ xs, S y) (hi : st[i]? = some (.list xs)) (hz : xs.length ≤ 2 ^ 20) (hp : p < xs.length) :
  Cl C (n + 1) (.ref 66) [.ref i, .int a, .int p] st .none (st.set i (.list (siftdown lt xs a p))) := by
 obtain ⟨lo', h⟩ := siftdown_body hlt hS hi hz hp (a := a)
 refine Cl.fn (names := ["heap", "startpos", "pos"]) (body := bodyOf (stAt 6)) (px.K 66 _ rfl) rfl rfl rfl (codeRec_of px.K rfl) rfl rfl ?_ ?_ ?_ h rfl ?_
 ·intro vs hv
  obtain ⟨v1, v2, v3, rfl⟩ := len3 hv
  rfl
 ·decide
 ·decide +kernel
 ·decide
end
section
noncomputable abbrev φsu : Scope := scopeOf (stAt 7)
noncomputable abbrev Wsu : Stmt := sAt (bodyOf (stAt 7)) 4
noncomputable def suC (lt : PV → PV → Bool) (xs : List PV) (c : Nat) : Nat :=
 match xs[c]?, xs[c + 1]? with
 | some y, some z => if lt y z then c else c + 1
 | _, _ => c
noncomputable def suF (lt : PV → PV → Bool) : Nat → Nat → List PV → List PV × Nat
 | 0, pos, xs => (xs, pos)
 | k + 1, pos, xs => if 2 * pos + 1 < xs.length then
   match xs[suC lt xs (2 * pos + 1)]? with
   | some y => suF lt k (suC lt xs (2 * pos + 1)) (xs.set pos y)
   | none => (xs, pos)
  else (xs, pos)
set_option tactic.hygienic true in
theorem suC_lt {lt : PV → PV → Bool} {xs : List PV} {c : Nat} (h : c < xs.length) : suC lt xs c < xs.length := by
 unfold suC
 split
 ·rename_i y z h1 h2
  have := (List.getElem?_eq_some_iff.mp h2).1
  split <;> omega
 ·exact h
theorem suC_ge {lt : PV → PV → Bool} {xs : List PV} {c : Nat} : c ≤ suC lt xs c := by
 unfold suC
 split
 ·split <;> omega
 ·exact Nat.le_refl _
noncomputable def loSu (x : PV) (i : Nat) (e s p c : Int) : Loc := [("newitem", x), ("heap", .ref i), ("endpos", .int e), ("startpos", .int s), ("pos", .int p), ("childpos", .int c)]
theorem su_loop {C : Cx} {n : Nat} {i : Nat} {s : Int} {S : PV → Prop} {lt : PV → PV → Bool} {st : Sto} {x : PV} (hlt : LtOk C n i S lt st) (hi : i < st.length) :
  ∀ (k p : Nat) (xs : List PV), (∀ y ∈ xs, S y) → xs.length ≤ p + k → p < xs.length → xs.length ≤ 2 ^ 20 →
  Wh C n φsu (loSu x i xs.length s p (2 * p + 1)) (tOf Wsu) (bOf Wsu) (st.set i (.list xs)) .next
   (loSu x i xs.length s (suF lt k p xs).2 (2 * (suF lt k p xs).2 + 1)) (st.set i (.list (suF lt k p xs).1)) := by
 intro k
 induction k with
 | zero =>
  intro p xs hS hk hl hz
  omega
 | succ k ih =>
  intro p xs hS hk hl hz
  unfold suF
  have hg : (st.set i (.list xs))[i]? = some (.list xs) := by simp [hi]
  by_cases hc : 2 * p + 1 < xs.length
  ·rw [if_pos hc]
   have hcl := suC_lt (lt := lt) hc
   have hcg := suC_ge (lt := lt) (xs := xs) (c := 2 * p + 1)
   have hy : xs[suC lt xs (2 * p + 1)]? = some xs[suC lt xs (2 * p + 1)] := by simp [hcl]
   generalize xs[suC lt xs (2 * p + 1)] = y at hy
   rw [hy]
   dsimp only
   have hat := at_nat hy
   have ht : Tr C n φsu (loSu x i xs.length s p (2 * p + 1)) (tOf Wsu) (st.set i (.list xs)) true (st.set i (.list xs)) := by
    apply Tr.cmp
    ·walk_at "ev"
    ·walk_at "ev"
    ·have : decide ((2 * (p : Int) + 1) < (xs.length : Int)) = true := by simp; omega
     rw [← this]; walk_at "op"
    ·with_unfolding_all rfl
   have e2 : (st.set i (.list xs)).set i (.list (xs.set p y)) = st.set i (.list (xs.set p y)) := List.set_set ..
   have hset : Op3 C n (.ref i) (.int (p : Int)) y (st.set i (.list xs)) (st.set i (.list (xs.set p y))) := by
    rw [← e2]; exact O.setItem hg (by omega) hl
   have hrec := ih (suC lt xs (2 * p + 1)) (xs.set p y) (fun z hz => by
     rcases List.mem_or_eq_of_mem_set hz with h | h
     ·exact hS z h
     ·exact h ▸ hS y (List.mem_of_getElem? hy)) (by simp; omega) (by simpa using hcl) (by simpa using hz)
   simp only [List.length_set] at hrec
   have hmul : ∀ q : Nat, q < xs.length → Op2 C n (binaryOp .Mult) (.int 2) (.int (q : Int)) (st.set i (.list (xs.set p y))) (.int (2 * (q : Int))) (st.set i (.list (xs.set p y))) := fun q hq => O.mul (by omega) (by omega)
   have hm := hmul _ hcl
   have hb : Ex1 C n φsu (("rightpos", .int (2 * (p : Int) + 1 + 1)) :: loSu x i xs.length s p (2 * p + 1)) (sAt (bOf Wsu) 1) (st.set i (.list xs)) .next (loSu x i xs.length s p (suC lt xs (2 * p + 1))) (st.set i (.list xs)) →
     ∃ lo', Ex C n φsu (loSu x i xs.length s p (2 * p + 1)) (bOf Wsu) (st.set i (.list xs)) .next lo' (st.set i (.list (xs.set p y))) ∧ SubL (loSu x i xs.length s (suC lt xs (2 * p + 1)) (2 * (suC lt xs (2 * p + 1)) + 1)) lo' := by
    intro hif
    refine ⟨("childpos", .int (2 * ((suC lt xs (2 * p + 1) : Nat) : Int) + 1)) :: ("pos", .int ((suC lt xs (2 * p + 1) : Nat) : Int)) :: loSu x i xs.length s p (suC lt xs (2 * p + 1)), ?_, ⟨rfl, rfl, rfl, rfl, rfl, rfl, trivial⟩⟩
    apply Ex.cons
    ·walk_at "st"
    apply Ex.cons
    ·exact hif
    walk_at "exs"
   have hif : Ex1 C n φsu (("rightpos", .int (2 * (p : Int) + 1 + 1)) :: loSu x i xs.length s p (2 * p + 1)) (sAt (bOf Wsu) 1) (st.set i (.list xs)) .next (loSu x i xs.length s p (suC lt xs (2 * p + 1))) (st.set i (.list xs)) := by
    have hy0 : xs[2 * p + 1]? = some xs[2 * p + 1] := by simp [hc]
    by_cases hr : 2 * p + 2 < xs.length
    ·have hz0 : xs[2 * p + 1 + 1]? = some xs[2 * p + 1 + 1] := by simp [hr]
     have hcc : suC lt xs (2 * p + 1) = if lt xs[2 * p + 1] xs[2 * p + 1 + 1] then 2 * p + 1 else 2 * p + 1 + 1 := by
      unfold suC; rw [hy0, hz0]
     generalize xs[2 * p + 1] = u at hy0 hcc
     generalize xs[2 * p + 1 + 1] = v at hz0 hcc
     have hcmp := hlt u v (.list xs) (hS _ (List.mem_of_getElem? hy0)) (hS _ (List.mem_of_getElem? hz0))
     have a1 : at? xs (2 * (p : Int) + 1) = some u := by have := at_nat hy0; simpa using this
     have a2 : at? xs (2 * (p : Int) + 1 + 1) = some v := by have := at_nat hz0; simpa using this
     have t1 : Tr C n φsu (("rightpos", .int (2 * (p : Int) + 1 + 1)) :: loSu x i xs.length s p (2 * p + 1)) (tOf (sAt (bOf Wsu) 1)) (st.set i (.list xs)) (!lt u v) (st.set i (.list xs)) := by
      apply Tr.and_t
      ·apply Tr.cmp
       ·walk_at "ev"
       ·walk_at "ev"
       ·have : decide ((2 * (p : Int) + 1 + 1) < (xs.length : Int)) = true := by simp; omega
        rw [← this]; walk_at "op"
       ·with_unfolding_all rfl
      cases hb : lt u v with
      | true =>
       rw [hb] at hcmp
       apply Tr.and_f
       exact Tr.not (by walk_at "tr") (b := true)
      | false =>
       rw [hb] at hcmp
       apply Tr.and_t
       ·exact Tr.not (by walk_at "tr") (b := false)
       ·exact Tr.and_nil
     cases hb : lt u v with
     | true =>
      rw [hb] at t1 hcc
      simp only [if_true] at hcc
      rw [hcc]
      have := Ex1.ite (lo1 := ("rightpos", .int (2 * (p : Int) + 1 + 1)) :: loSu x i xs.length s p (2 * p + 1)) (b := bOf (sAt (bOf Wsu) 1)) (o := []) (pos := ⟨39, 8, 40, 31⟩) t1 (f := .next) (by exact Ex.nil)
      exact (this.sub (lo2 := loSu x i xs.length s p (2 * (p : Int) + 1)) (SubL.ok ⟨rfl, rfl, rfl, rfl, rfl, rfl, trivial⟩))
     | false =>
      rw [hb] at t1 hcc
      simp only [Bool.false_eq_true, if_false] at hcc
      rw [hcc]
      have := Ex1.ite (lo1 := ("childpos", .int (2 * (p : Int) + 1 + 1)) :: ("rightpos", .int (2 * (p : Int) + 1 + 1)) :: loSu x i xs.length s p (2 * p + 1)) (b := bOf (sAt (bOf Wsu) 1)) (o := []) (pos := ⟨39, 8, 40, 31⟩) t1 (f := .next) (by
       apply Ex.cons
       ·walk_at "st"
       walk_at "exs")
      exact (this.sub (lo2 := loSu x i xs.length s p ((2 * p + 1 + 1 : Nat) : Int)) (SubL.ok ⟨rfl, rfl, rfl, rfl, rfl, rfl, trivial⟩))
    ·have hcc : suC lt xs (2 * p + 1) = 2 * p + 1 := by
      unfold suC
      have : xs[2 * p + 1 + 1]? = none := by simp; omega
      rw [this]
      cases xs[2 * p + 1]? <;> rfl
     rw [hcc]
     have t1 : Tr C n φsu (("rightpos", .int (2 * (p : Int) + 1 + 1)) :: loSu x i xs.length s p (2 * p + 1)) (tOf (sAt (bOf Wsu) 1)) (st.set i (.list xs)) false (st.set i (.list xs)) := by
      apply Tr.and_f
      apply Tr.cmp
      ·walk_at "ev"
      ·walk_at "ev"
      ·have : decide ((2 * (p : Int) + 1 + 1) < (xs.length : Int)) = false := by simp; omega
       rw [← this]; walk_at "op"
      ·with_unfolding_all rfl
     have := Ex1.ite (lo1 := ("rightpos", .int (2 * (p : Int) + 1 + 1)) :: loSu x i xs.length s p (2 * p + 1)) (b := bOf (sAt (bOf Wsu) 1)) (o := []) (pos := ⟨39, 8, 40, 31⟩) t1 (f := .next) (by exact Ex.nil)
     exact (this.sub (lo2 := loSu x i xs.length s p (2 * (p : Int) + 1)) (SubL.ok ⟨rfl, rfl, rfl, rfl, rfl, rfl, trivial⟩))
   obtain ⟨lo', h1, h2⟩ := hb hif
   exact Wh.turn ht (.inl h1) (hrec.pre h2)
  ·rw [if_neg hc]
   apply Wh.done
   apply Tr.cmp
   ·walk_at "ev"
   ·walk_at "ev"
   ·have : decide ((2 * (p : Int) + 1) < (xs.length : Int)) = false := by simp; omega
    rw [← this]; walk_at "op"
   ·with_unfolding_all rfl
noncomputable def siftup (lt : PV → PV → Bool) (xs : List PV) (p : Nat) : List PV :=
 match xs[p]? with
 | some x => siftdown lt ((suF lt xs.length p xs).1.set (suF lt xs.length p xs).2 x) p (suF lt xs.length p xs).2
 | none => xs
theorem suF_len (lt : PV → PV → Bool) : ∀ (k p : Nat) (xs : List PV), (suF lt k p xs).1.length = xs.length
 | 0, p, xs => rfl
 | k + 1, p, xs => by
  unfold suF
  split
  ·split
   ·rw [suF_len]; simp
   ·rfl
  ·rfl
set_option tactic.hygienic true in
theorem suF_pos (lt : PV → PV → Bool) : ∀ (k p : Nat) (xs : List PV), p < xs.length → (suF lt k p xs).2 < xs.length
 | 0, p, xs, h => h
 | k + 1, p, xs, h => by
  unfold suF
  split
  ·rename_i hc
   split
   ·rename_i y hy
    have := suF_pos lt k (suC lt xs (2 * p + 1)) (xs.set p y) (by simpa using suC_lt hc)
    simpa using this
   ·exact h
  ·exact h
set_option tactic.hygienic true in
theorem suF_mem (lt : PV → PV → Bool) (S : PV → Prop) : ∀ (k p : Nat) (xs : List PV), (∀ y ∈ xs, S y) → ∀ y ∈ (suF lt k p xs).1, S y
 | 0, p, xs, h => h
 | k + 1, p, xs, h => by
  unfold suF
  split
  ·split
   ·rename_i y hy
    refine suF_mem lt S k _ _ fun z hz => ?_
    rcases List.mem_or_eq_of_mem_set hz with q | q
    ·exact h z q
    ·exact q ▸ h y (List.mem_of_getElem? hy)
   ·exact h
  ·exact h
theorem LtOk.set {C : Cx} {n : Nat} {i : Nat} {S : PV → Prop} {lt : PV → PV → Bool} {st : Sto} {o : Ob} (h : LtOk C n i S lt st) : LtOk C n i S lt (st.set i o) := fun p q o' hp hq => by
 rw [List.set_set]; exact h p q o' hp hq
theorem LtOk.mono {C : Cx} {n m : Nat} {i : Nat} {S : PV → Prop} {lt : PV → PV → Bool} {st : Sto} (h : LtOk C m i S lt st) (hm : m ≤ n) : LtOk C n i S lt st := fun p q o' hp hq A s ρ a b hA =>
 h p q o' hp hq A s ρ a b (hA.down hm)
theorem siftup_body {C : Cx} (px : Px C) {n : Nat} {i : Nat} {p : Nat} {xs : List PV} {st : Sto} {S : PV → Prop} {lt : PV → PV → Bool} (hlt : LtOk C n i S lt st) (hS : ∀ y ∈ xs, S y) (hi : st[i]? = some (.list xs)) (hz : xs.length ≤ 2 ^ 20) (hp : p < xs.length) :
  ∃ lo', Ex C (n + 1) φsu [("heap", .ref i), ("pos", .int p)] (bodyOf (stAt 7)) st .next lo' (st.set i (.list (siftup lt xs p))) := by
 have hx : xs[p]? = some xs[p] := by simp [hp]
 have hil := (List.getElem?_eq_some_iff.mp hi).1
 unfold siftup
 rw [hx]
 dsimp only
 generalize xs[p] = x at hx
 have hSx := hS x (List.mem_of_getElem? hx)
 have hat := at_nat hx
 have hw := su_loop (C := C) (n := n + 1) (s := p) (x := x) (hlt.mono (Nat.le_succ n)) hil xs.length p xs hS (by omega) hp hz
 rw [set_same hi] at hw
 have hl := suF_len lt xs.length p xs
 have hq := suF_pos lt xs.length p xs hp
 have hm := suF_mem lt S xs.length p xs hS
 generalize suF lt xs.length p xs = r at hw hl hq hm
 have e2 : (st.set i (.list r.1)).set i (.list (r.1.set r.2 x)) = st.set i (.list (r.1.set r.2 x)) := List.set_set ..
 have hset : Op3 C (n + 1) (.ref i) (.int (r.2 : Int)) x (st.set i (.list r.1)) (st.set i (.list (r.1.set r.2 x))) := by
  rw [← e2]; exact O.setItem (by simp [hil]) (by omega) (by omega)
 have hsd := sp_siftdown px (a := p) (hlt.set (o := .list (r.1.set r.2 x))) (xs := r.1.set r.2 x) (p := r.2) (fun y hy => by
  rcases List.mem_or_eq_of_mem_set hy with q | q
  ·exact hm y q
  ·exact q ▸ hSx) (by simp [hil]) (by simp; omega) (by simp; omega)
 rw [List.set_set] at hsd
 have hmul : Op2 C (n + 1) (binaryOp .Mult) (.int 2) (.int (p : Int)) st (.int (2 * (p : Int))) st := O.mul (by omega) (by omega)
 apply Exists.intro
 apply Ex.cons
 ·walk_at "st"
 apply Ex.cons
 ·walk_at "st"
 apply Ex.cons
 ·walk_at "st"
 apply Ex.cons
 ·walk_at "st"
 apply Ex.cons
 ·apply Ex1.while
  exact hw.pre ⟨rfl, rfl, rfl, rfl, rfl, rfl, trivial⟩
 apply Ex.cons
 ·walk_at "st"
 walk_at "exs"
theorem sp_siftup {C : Cx} (px : Px C) {n : Nat} {i : Nat} {p : Nat} {xs : List PV} {st : Sto} {S : PV → Prop} {lt : PV → PV → Bool} (hlt : LtOk C n i S lt st) (hS : ∀ y ∈ xs, S y) (hi : st[i]? = some (.list xs)) (hz : xs.length ≤ 2 ^ 20) (hp : p < xs.length) :
  Cl C (n + 2) (.ref 73) [.ref i, .int p] st .none (st.set i (.list (siftup lt xs p))) := by
 obtain ⟨lo', h⟩ := siftup_body px hlt hS hi hz hp
 refine Cl.fn (names := ["heap", "pos"]) (body := bodyOf (stAt 7)) (px.K 73 _ rfl) rfl rfl rfl (codeRec_of px.K rfl) rfl rfl ?_ ?_ ?_ h rfl ?_
 ·intro vs hv
  obtain ⟨v1, v2, rfl⟩ := len2 hv
  rfl
 ·decide
 ·decide +kernel
 ·decide
end
section
section
variable {C : Cx} {n : Nat} {φ : Scope} {lo lo1 lo2 lo3 : Loc} {st st1 st2 st3 : Sto} {ρ : List Addr} {s : Shared}
theorem Hp.adopt (H : Hp C ρ st s) {h' : Heap} {a : Addr} {ob : Ob} (t' : Nat) (hk : ∀ b o, s.heap.get? b = some o → h'.get? b = some o) (hz : s.heap.objs.size ≤ h'.objs.size) (ha : s.heap.objs.size ≤ a)
  (hob : Go [] ρ s.heap (ρ ++ [a]) h' → ObAt C h' (ρ ++ [a]) a ob) :
  Hp C (ρ ++ [a]) (st ++ [ob]) { s with heap := h', toks := t' } ∧ Go [] ρ s.heap (ρ ++ [a]) h' := by
 have G : Go [] ρ s.heap (ρ ++ [a]) h' := ⟨hz, ⟨[a], rfl, fun b m => by simp at m; subst m; exact ha⟩, fun b o _ _ e => hk b o e⟩
 have hlt := (hob G).lt
 refine ⟨⟨fun b o e => hk b o (H.old b o e), Nat.le_trans H.ge hz, fun b m => ?_, fun b m => ?_, ?_, by simp [H.len], fun i b ob' e1 e2 => ?_, H.gens, H.os⟩, G⟩
 ·rcases List.mem_append.mp m with q | q
  ·exact H.new b q
  ·simp at q; subst q; exact Nat.le_trans H.ge ha
 ·rcases List.mem_append.mp m with q | q
  ·exact Nat.lt_of_lt_of_le (H.lt b q) hz
  ·simp at q; subst q; exact hlt
 ·rw [List.nodup_append]
  refine ⟨H.nodup, by simp, fun b m b' m' => ?_⟩
  simp at m'; subst m'
  exact Nat.ne_of_lt (Nat.lt_of_lt_of_le (H.lt b m) ha)
 ·rcases getElem?_snoc e1 with q | ⟨q, rfl⟩
  ·rcases getElem?_snoc e2 with q' | ⟨q', _⟩
   ·exact (H.obs i b ob' q q').imp (fun p v r => r.go0 G) (fun _ _ e => G.idx e) (hk b)
   ·have := (List.getElem?_eq_some_iff.mp q).1; rw [H.len] at this; omega
  ·rcases getElem?_snoc e2 with q' | ⟨_, rfl⟩
   ·have := (List.getElem?_eq_some_iff.mp q').1; rw [← H.len] at this; omega
   ·exact hob G
theorem adoptP (H : Hp C ρ st s) {h' : Heap} {a : Addr} {ob : Ob} (t' : Nat) (hk : ∀ b o, s.heap.get? b = some o → h'.get? b = some o) (hz : s.heap.objs.size ≤ h'.objs.size) (ha : s.heap.objs.size ≤ a)
  (hob : Go [] ρ s.heap (ρ ++ [a]) h' → ObAt C h' (ρ ++ [a]) a ob) : Post C ρ s (st ++ [ob]) (.ref st.length) (.ref a) { s with heap := h', toks := t' } := by
 obtain ⟨H', G⟩ := H.adopt t' hk hz ha hob
 exact ⟨_, H', G, .ref _ _ (by rw [← H.len]; simp)⟩
theorem C.range1 {b : Int} : Cl C n (.type "range") [.int b] st (.rng 0 b 1) st := fun A s ρ vs hA H R => by
 (replace R := R.inv; obtain ⟨v, _, rfl, R1, R2⟩ := R)
 (replace R2 := R2.inv; obtain ⟨_, rfl⟩ := R2)
 (replace R1 := R1.inv; obtain ⟨_, rfl⟩ := R1)
 refine call_range_1 ?_
 obtain ⟨H1, G1⟩ := H.push (rngO 0 b 1 s.toks ‹_› (s.toks + 1)) (s.toks + 1 + 1)
 exact ⟨ρ, H1, G1, .rng _ _ _ _ _ _ _ (fun q => Nat.lt_irrefl _ (H.lt _ q)) (Heap.get?_push_size _ rfl)⟩
theorem rangeSize_nat {a b : Int} : Builtin.Range.rangeSize a b 1 = ((b - a).toNat : Int) := by
 rw [rangeSize_one]; split <;> omega
theorem Itr.rng {a b : Int} (h1 : -(2 ^ 62) ≤ a) (h2 : a < 2 ^ 62) (h3 : -(2 ^ 62) ≤ b) (h4 : b < 2 ^ 62) : Itr C n (.rng a b 1) st (RangeIt a 1 (b - a).toNat) st := fun A s ρ v hA H R => by
 (replace R := R.inv; obtain ⟨x, t, u, v, rfl, nx, hx⟩ := R)
 refine wpAny_pyIter_range hx (small_one h1 h2 h3 h4) ?_
 rw [rangeSize_nat]
 obtain ⟨H1, G1⟩ := H.push { cls := .type "range_iterator", data := .fields #[rawInt a, rawInt ((b - a).toNat : Int), rawInt 1] } s.toks
 have io := itok_range (C := C) (n := n) (I := s.heap.objs.size) a 1 (b - a).toNat
 refine ⟨ρ, s.heap.objs.size, _, rfl, H1, G1, io, ?_, fun q => Nat.lt_irrefl _ (H.lt _ q), Nat.le_refl _⟩
 show IsRangeIter _ _ _ _ _
 have e1 : a + ((0 : Nat) : Int) * 1 = a := by simp
 have e2 : (((b - a).toNat : Nat) : Int) - ((0 : Nat) : Int) = ((b - a).toNat : Int) := by simp
 rw [e1, e2]
 exact Heap.get?_push_size _ rfl
theorem C.list_range {a b : Int} (h1 : -(2 ^ 62) ≤ a) (h2 : a < 2 ^ 62) (h3 : -(2 ^ 62) ≤ b) (h4 : b < 2 ^ 62) (hs : b - a ≤ 2 ^ 20) :
  Cl C n (.type "list") [.rng a b 1] st (.ref st.length) (st ++ [.list ((List.range (b - a).toNat).map fun (k : Nat) => PV.int (a + (k : Int)))]) := fun A s ρ vs hA H R => by
 (replace R := R.inv; obtain ⟨v, _, rfl, R1, R2⟩ := R)
 (replace R2 := R2.inv; obtain ⟨_, rfl⟩ := R2)
 (replace R1 := R1.inv; obtain ⟨x, t, u, v, rfl, nx, hx⟩ := R1)
 refine wpAny_size (call_list_range hA.1 hx (small_one h1 h2 h3 h4) rangeSize_nat (by omega) fun h' tk acc c' hk hL hI hz => ?_)
 refine adoptP H tk hk hz (Nat.le_refl _) fun G => ⟨acc.toList, c', by simpa using hL, ?_⟩
 have len : ∀ {P : Nat → Value → Prop} {acc : Array Value} {m : Nat}, ItemsOf P acc m → acc.size = m := fun x => x.1
 have key : ∀ (l : List Value) (a : Int), (∀ (i : Nat) v, l[i]? = some v → ∃ t, v = .int (a + (i : Int) * 1) t) → RepL h' (ρ ++ [s.heap.objs.size]) ((List.range l.length).map fun (k : Nat) => PV.int (a + (k : Int))) l := by
  intro l
  induction l with
  | nil => intro a _; exact .nil
  | cons v l ih =>
   intro a hv
   rw [List.length_cons, List.range_succ_eq_map, List.map_cons, List.map_map]
   obtain ⟨t, e⟩ := hv 0 v rfl
   refine .cons _ _ _ _ ?_ ?_
   ·rw [e]; simpa using Rep.int (a + 0) t
   ·have := ih (a + 1) (fun i v e => by
     obtain ⟨t, e'⟩ := hv (i + 1) v (by simpa using e)
     exact ⟨t, by rw [e']; congr 1; simp; omega⟩)
    have e2 : ((fun k : Nat => PV.int (a + (k : Int))) ∘ Nat.succ) = fun k : Nat => PV.int (a + 1 + (k : Int)) := by
     funext k; simp; omega
    rw [e2]; exact this
 have hz := len hI
 have := key acc.toList a (fun i v e => by
  have := hI.2 i v (by simpa using e)
  simpa using this)
 rw [Array.length_toList, hz] at this
 exact this
end
end
section
section
variable {prog : Program} {w : World} {A : Around} {E : Value → Shared → Prop} {s : Shared}
theorem sub_ri_reversed : isSubtype (.type "range_iterator") (.type "reversed") = pure false := by rw [isSubtype_type]; kernel_rfl
theorem call_range_reversed {r : Addr} {b : Int} {t u v : Tok} {Q : Value → Shared → Prop} (hr : IsRange s.heap r 0 b 1 t u v) (h0 : 0 ≤ b) (hb : b < 2 ^ 60)
  (h : Q (.ref s.heap.objs.size) { s with heap := s.heap.push { cls := .type "range_iterator", data := .fields #[rawInt (b - 1), rawInt b, rawInt (-1)] } }) : wpAny (model prog w) A (call (.builtin "range.__reversed__") [.ref r]) Q E s := by
 have hT : s.TypeIs (.ref r) "range" := ⟨_, hr, rfl⟩
 refine wpAny_call_entry F.slot_range_reversed hT F.entry_range_reversed ?_ (F.args_range_reversed_1 _)
 unfold Builtin.«range.__reversed__»
 refine wpAny_bind (wpAny_of_eq (a := Value.ref r) rfl ?_)
 have hs : Builtin.Range.rangeSize 0 b 1 = b := by rw [rangeSize_one]; split <;> omega
 refine wpAny_bind (m := Builtin.Range.rangeFields (.ref r)) (wpAny_mono (Q := fun x s' => x = (0, b, 1) ∧ s' = s) (E := E) ?_ (fun x s' hx => ?_) fun _ _ h => h)
 ·unfold Builtin.Range.rangeFields
  repeat (first | exact ⟨rfl, rfl⟩ | refine wpAny_bind (wpAny_field hr rfl rfl ?_) | exact wpAny_pure ⟨rfl, rfl⟩ | (refine wpAny_bind ?_) | wp_step)
 ·obtain ⟨rfl, rfl⟩ := hx
  dsimp only
  rw [hs]
  have hf : ∀ x : Int, -(2 ^ 62) < x → x < 2 ^ 62 → Builtin.Range.rangeFitsLong x = true := fun x h1 h2 => by
   unfold Builtin.Range.rangeFitsLong
   simp only [Bool.and_eq_true, decide_eq_true_eq]
   omega
  rw [hf 0 (by decide) (by decide), hf b (by omega) (by omega), hf 1 (by decide) (by decide), hf (-1) (by decide) (by decide), hf (0 - 1) (by decide) (by decide)]
  have e : (0 : Int) + (b - 1) * 1 = b - 1 := by omega
  rw [e]
  show wpAny _ _ (newFields "range_iterator" _ >>= _) _ _ _
  unfold newFields
  exact wpAny_bind (wpAny_newObj_type (wpAny_pure ⟨_, rfl, h⟩))
theorem code_reversed_new_range {r : Addr} {b : Int} {t u v : Tok} {Q₁ : Value → Shared → Prop} (hr : IsRange s.heap r 0 b 1 t u v) (h0 : 0 ≤ b) (hb : b < 2 ^ 60)
  (h : Q₁ (.ref s.heap.objs.size) { s with heap := s.heap.push { cls := .type "range_iterator", data := .fields #[rawInt (b - 1), rawInt b, rawInt (-1)] } }) :
  codeAny (model prog w) A (.call (.builtin "reversed.__new__") ⟨[.type "reversed", .ref r], []⟩) (wants Q₁ E) s := by
 have hT : s.TypeIs (.ref r) "range" := ⟨_, hr, rfl⟩
 refine codeAny_of_tree ?_
 show wpAny _ A.in1 (do checkBuiltinCall "reversed.__new__" ⟨[.type "reversed", .ref r], []⟩; again (.builtin "reversed.__new__" ⟨[.type "reversed", .ref r], []⟩)) _ _ s
 refine wpAny_bind (wpAny_of_eq (F.newCall_reversed_1 _) (wpAny_pure ⟨plainId_quiet F.plain_reversed_new _, codeAny_builtin F.entry_reversed_new ?_⟩))
 rw [Around.under_plainId F.plain_reversed_new _]
 unfold Builtin.«reversed.__new__»
 refine wpAny_bind (wpAny_of_eq (newClass_reversed _) ?_)
 try dsimp only
 refine wpAny_bind (wpAny_of_eq (a := ()) (by first | rfl | kernel_rfl) ?_)
 refine wpAny_bind (wpAny_of_eq (a := ()) (by first | rfl | kernel_rfl) ?_)
 try dsimp only
 refine wpAny_bind (wpAny_specialOf hT F.slot_range_reversed.lookup ?_)
 try dsimp only
 refine wpAny_bind (wpAny_of_eq (F.slot_range_reversed.bind _) ?_)
 try dsimp only
 first
 | rw [if_neg (show ¬ ((Value.builtin "range.__reversed__" == Value.none) = true) from Bool.false_ne_true)]
 | (show wpAny _ _ (if (Value.builtin "range.__reversed__" == Value.none) = true then _ else _) _ _ _; rw [if_neg (show ¬ ((Value.builtin "range.__reversed__" == Value.none) = true) from Bool.false_ne_true)])
 refine wpAny_bind (wpAny_rule ?_)
 refine wpAny_bind (m := runValue (.call (.builtin "range.__reversed__") ⟨[.ref r], []⟩)) (show wpAny _ _ (call (.builtin "range.__reversed__") [.ref r]) _ _ _ from call_range_reversed hr h0 hb ?_)
 first
 | exact wpAny_pure h
 | exact wpAny_bind (wpAny_pure (wpAny_pure h))
theorem call_reversed_range {r : Addr} {b : Int} {t u v : Tok} {Q : Value → Shared → Prop} (hr : IsRange s.heap r 0 b 1 t u v) (h0 : 0 ≤ b) (hb : b < 2 ^ 60)
  (h : Q (.ref s.heap.objs.size) { s with heap := s.heap.push { cls := .type "range_iterator", data := .fields #[rawInt (b - 1), rawInt b, rawInt (-1)] } }) : wpAny (model prog w) A (call (.type "reversed") [.ref r]) Q E s := by
 refine callType_other (U := "range_iterator") (Q₁ := fun obj s₁ => obj = .ref s.heap.objs.size ∧ s₁ = { s with heap := s.heap.push { cls := .type "range_iterator", data := .fields #[rawInt (b - 1), rawInt b, rawInt (-1)] } }) (by decide +kernel) F.create_reversed ⟨_, _, F.mro_reversed⟩ F.made_reversed sub_ri_reversed (F.typeCall_reversed_1 _) (code_reversed_new_range hr h0 hb ⟨rfl, rfl⟩) ?_
 rintro obj s₁ ⟨rfl, rfl⟩
 exact ⟨⟨_, Heap.get?_push_size _ rfl, rfl⟩, h⟩
end
section
variable {C : Cx} {n : Nat} {φ : Scope} {lo lo1 lo2 lo3 : Loc} {st st1 st2 st3 : Sto}
theorem ItrE.rev {func e : Expr} {pos : Pos} {m : Nat} (h1 : Ev C n φ lo func st (.sta (.type "reversed")) st1) (h2 : Ev C n φ lo e st1 (.rng 0 m 1) st2) (hm : m < 2 ^ 60)
  (hv : ∀ env, starEach [e] env = [(false, eval e env)] := by intro _; rfl)
  (hp : ∀ env, (backTo pos (starEach [e] env)).any (·.1) = false := by intro _; rfl)
  (he : ∀ env, eval (.Call func [e] [] pos) env = (do callWith pos (← eval func env) [] (backTo pos (starEach [e] env)) (backToKw pos (keywordEach [] env))) := by intro _; rfl) :
  ItrE C n φ lo (.Call func [e] [] pos) st (RangeIt ((m : Int) - 1) (-1) m) st2 := fun A s ρ env hA H F =>
 callEval (noE (h1 A s ρ env hA H F) fun v s1 ⟨ρ1, H1, G1, R1⟩ => by
  (replace R1 := R1.inv; obtain ⟨_, rfl⟩ := R1)
  have hl : EvL C n φ lo [e] st1 [.rng 0 m 1] st2 := EvL.cons h2 EvL.nil (fun env => by rw [hv]; rfl)
  refine PyProof.Rows.callWith_type (hp env) (evalArgsJ (hp env) (noE (hl pos A s1 ρ1 env hA H1 (F.go0 G1)) fun vs s2 ⟨ρ2, H2, G2, R2⟩ => ?_))
  (replace R2 := R2.inv; obtain ⟨v, _, rfl, R1, R3⟩ := R2)
  (replace R3 := R3.inv; obtain ⟨_, rfl⟩ := R3)
  (replace R1 := R1.inv; obtain ⟨x, t, u, v, rfl, nx, hx⟩ := R1)
  refine call_reversed_range (b := m) hx (by omega) (by omega) ?_
  have hit : IsRangeIter (s2.heap.push { cls := .type "range_iterator", data := .fields #[rawInt ((m : Int) - 1), rawInt m, rawInt (-1)] }) s2.heap.objs.size ((m : Int) - 1) m (-1) := Heap.get?_push_size _ rfl
  refine wpAny_pyIter_rangeiter hit ?_
  obtain ⟨H3, G3⟩ := H2.push { cls := .type "range_iterator", data := .fields #[rawInt ((m : Int) - 1), rawInt m, rawInt (-1)] } s2.toks
  have io := itok_range (C := C) (n := n) (I := s2.heap.objs.size) ((m : Int) - 1) (-1) m
  refine ⟨ρ2, s2.heap.objs.size, _, rfl, H3, (G1.trans G2).trans G3, io, ?_, fun q => Nat.lt_irrefl _ (H2.lt _ q), (G1.trans G2).size⟩
  show IsRangeIter _ _ _ _ _
  have e1 : (m : Int) - 1 + ((0 : Nat) : Int) * (-1) = (m : Int) - 1 := by simp
  have e2 : (m : Int) - ((0 : Nat) : Int) = (m : Int) := by simp
  rw [e1, e2]
  exact hit) (he env)
end
end
section
noncomputable def fT (s : Stmt) : Expr := (stX s).1
noncomputable def fI (s : Stmt) : Expr := (stX s).2.1
noncomputable abbrev φhp : Scope := scopeOf (stAt 3)
noncomputable abbrev φpo : Scope := scopeOf (stAt 4)
noncomputable abbrev φhy : Scope := scopeOf (stAt 5)
noncomputable def hpush (lt : PV → PV → Bool) (xs : List PV) (x : PV) : List PV := siftdown lt (xs ++ [x]) 0 xs.length
theorem sp_heappush {C : Cx} (px : Px C) {n : Nat} {i : Nat} {xs : List PV} {x : PV} {st : Sto} {S : PV → Prop} {lt : PV → PV → Bool} (hlt : LtOk C n i S lt st) (hS : ∀ y ∈ xs, S y) (hx : S x) (hi : st[i]? = some (.list xs)) (hz : xs.length < 2 ^ 20) :
  Cl C (n + 2) (.ref 45) [.ref i, x] st .none (st.set i (.list (hpush lt xs x))) := by
 have hil := (List.getElem?_eq_some_iff.mp hi).1
 have hg : (st.set i (.list (xs ++ [x])))[i]? = some (.list (xs ++ [x])) := by simp [hil]
 have hlen : (xs ++ [x]).length ≤ 2 ^ 20 := by simp; omega
 have hsd := sp_siftdown px (a := 0) (p := xs.length) (hlt.set (o := .list (xs ++ [x]))) (xs := xs ++ [x]) (fun y hy => by
  rcases List.mem_append.mp hy with q | q
  ·exact hS y q
  ·simp at q; exact q ▸ hx) hg hlen (by simp)
 rw [List.set_set] at hsd
 have e : ((xs.length : Nat) : Int) = ((xs ++ [x]).length : Int) - 1 := by simp
 rw [e] at hsd
 have hb : ∃ lo', Ex C (n + 1) φhp [("heap", .ref i), ("item", x)] (bodyOf (stAt 3)) st .next lo' (st.set i (.list (hpush lt xs x))) := by
  unfold hpush
  have hsd' : Cl C (n + 1) (.ref 66) [.ref i, .int 0, .int (((xs ++ [x]).length : Int) - 1)] (st.set i (.list (xs ++ [x]))) .none (st.set i (.list (siftdown lt (xs ++ [x]) 0 xs.length))) := by simpa using hsd
  apply Exists.intro
  apply Ex.cons
  ·walk_at "st"
  apply Ex.cons
  ·walk_at "st"
  walk_at "exs"
 obtain ⟨lo', h⟩ := hb
 refine Cl.fn (names := ["heap", "item"]) (body := bodyOf (stAt 3)) (px.K 45 _ rfl) rfl rfl rfl (codeRec_of px.K rfl) rfl rfl ?_ ?_ ?_ h rfl ?_
 ·intro vs hv
  obtain ⟨v1, v2, rfl⟩ := len2 hv
  rfl
 ·decide
 ·decide +kernel
 ·decide
noncomputable def hpop (lt : PV → PV → Bool) : List PV → PV → List PV × PV
 | [], x => ([], x)
 | y :: ys, x => (siftup lt (x :: ys) 0, y)
theorem sp_heappop {C : Cx} (px : Px C) {n : Nat} {i : Nat} {xs : List PV} {x : PV} {st : Sto} {S : PV → Prop} {lt : PV → PV → Bool} (hlt : LtOk C n i S lt st) (hS : ∀ y ∈ xs, S y) (hx : S x) (hi : st[i]? = some (.list (xs ++ [x]))) (hz : xs.length < 2 ^ 20) :
  Cl C (n + 3) (.ref 52) [.ref i] st (hpop lt xs x).2 (st.set i (.list (hpop lt xs x).1)) := by
 have hil := (List.getElem?_eq_some_iff.mp hi).1
 have hg : (st.set i (.list xs))[i]? = some (.list xs) := by simp [hil]
 have hz' : xs.length ≤ 2 ^ 20 := by omega
 have ht : Truth C (n + 2) (.ref i) (st.set i (.list xs)) (!xs.isEmpty) := T.list hg (by omega)
 have hb : ∃ lo' fl, Ex C (n + 2) φpo [("heap", .ref i)] (bodyOf (stAt 4)) st fl lo' (st.set i (.list (hpop lt xs x).1)) ∧ (hpop lt xs x).2 = retOf fl := by
  cases xs with
  | nil =>
   have ht' : Truth C (n + 2) (.ref i) (st.set i (.list [])) false := ht
   have hi' : st[i]? = some (.list ([] ++ [x])) := hi
   unfold hpop
   apply Exists.intro
   apply Exists.intro
   dsimp only
   refine ⟨?_, ?_⟩
   apply Ex.cons
   ·walk_at "st"
   apply Ex.cons
   ·apply Ex1.ite (c := false)
    ·exact Tr.val (by walk_at "ev") ht'
    ·exact Ex.nil
   walk_at "exs"
   rfl
  | cons y ys =>
   have ht' : Truth C (n + 2) (.ref i) (st.set i (.list (y :: ys))) true := ht
   have hat : at? (y :: ys) 0 = some y := rfl
   have hset : Op3 C (n + 2) (.ref i) (.int 0) x (st.set i (.list (y :: ys))) (st.set i (.list (x :: ys))) := by
    have := O.setItem (C := C) (n := n + 2) (k := 0) (p := x) hg (by simp at hz ⊢; omega) (by simp)
    rw [List.set_set] at this
    exact this
   have hg2 : (st.set i (.list (x :: ys)))[i]? = some (.list (x :: ys)) := by simp [hil]
   have hsu := sp_siftup px (p := 0) (hlt.set (o := .list (x :: ys))) (xs := x :: ys) (fun z hz => by
    rcases List.mem_cons.mp hz with q | q
    ·exact q ▸ hx
    ·exact hS z (List.mem_cons_of_mem _ q)) hg2 (by simp at hz ⊢; omega) (by simp)
   rw [List.set_set] at hsu
   have hsu' : Cl C (n + 2) (.ref 73) [.ref i, .int 0] (st.set i (.list (x :: ys))) .none (st.set i (.list (siftup lt (x :: ys) 0))) := hsu
   unfold hpop
   apply Exists.intro
   apply Exists.intro
   dsimp only
   refine ⟨?_, ?_⟩
   apply Ex.cons
   ·walk_at "st"
   apply Ex.stop
   ·apply Ex1.ite (c := true)
    ·exact Tr.val (by walk_at "ev") ht'
    ·apply Ex.cons
     ·walk_at "st"
     apply Ex.cons
     ·walk_at "st"
     apply Ex.cons
     ·walk_at "st"
     walk_at "exs"
   ·intro h; cases h
   rfl
 obtain ⟨lo', fl, h, hr⟩ := hb
 refine Cl.fn (names := ["heap"]) (body := bodyOf (stAt 4)) (px.K 52 _ rfl) rfl rfl rfl (codeRec_of px.K rfl) rfl rfl ?_ ?_ ?_ h hr ?_
 ·intro vs hv
  obtain ⟨v1, rfl⟩ := len1 hv
  rfl
 ·decide
 ·decide +kernel
 ·decide
section
variable {C : Cx} {n : Nat} {φ : Scope} {t : Expr} {b : List Stmt} {It : ItR}
noncomputable def StepI (C : Cx) (n : Nat) (φ : Scope) (t : Expr) (b : List Stmt) (It : ItR) (Inv : Nat → Loc → Sto → Prop) (k : Nat) (lo : Loc) (st : Sto) : Prop :=
 ∃ p lo1 st1 lo2 st2, It k st (some p) ∧ As C n φ lo t p st lo1 st1 ∧ Ex C n φ lo1 b st1 .next lo2 st2 ∧ ∃ lo3, SubL lo3 lo2 ∧ Inv (k + 1) lo3 st2
theorem StepI.mk {Inv : Nat → Loc → Sto → Prop} {k : Nat} {p : PV} {st st1 st2 : Sto} {lo lo1 lo2 lo3 : Loc} (h5 : Inv (k + 1) lo3 st2) (h1 : It k st (some p)) (h2 : As C n φ lo t p st lo1 st1) (h3 : Ex C n φ lo1 b st1 .next lo2 st2) (h4 : SubL lo3 lo2) :
  StepI C n φ t b It Inv k lo st := ⟨p, lo1, st1, lo2, st2, h1, h2, h3, lo3, h4, h5⟩
theorem Fo.inv (Inv : Nat → Loc → Sto → Prop) (m : Nat) (step : ∀ k lo st, k < m → Inv k lo st → StepI C n φ t b It Inv k lo st)
  (stop : ∀ lo st, Inv m lo st → It m st none) : ∀ (d k : Nat) lo st, k + d = m → Inv k lo st → ∃ lo' st', Inv m lo' st' ∧ Fo C n φ lo t b It k st .next lo' st'
 | 0, k, lo, st, hk, hi => by
  have : k = m := by omega
  subst this
  exact ⟨lo, st, hi, Fo.done (stop lo st hi)⟩
 | d + 1, k, lo, st, hk, hi => by
  obtain ⟨p, lo1, st1, lo2, st2, h1, h2, h3, lo3, h4, h5⟩ := step k lo st (by omega) hi
  obtain ⟨lo', st', h6, h7⟩ := Fo.inv Inv m step stop d (k + 1) lo3 st2 (by omega) h5
  exact ⟨lo', st', h6, Fo.turn h1 h2 (h3.to h4) h7⟩
theorem Fo.inv0 (Inv : Nat → Loc → Sto → Prop) (m : Nat) {lo : Loc} {st : Sto} (h0 : Inv 0 lo st)
  (step : ∀ k lo st, k < m → Inv k lo st → StepI C n φ t b It Inv k lo st)
  (stop : ∀ lo st, Inv m lo st → It m st none) : ∃ lo' st', Inv m lo' st' ∧ Fo C n φ lo t b It 0 st .next lo' st' :=
 Fo.inv Inv m step stop m 0 lo st (by omega) h0
end
noncomputable def hfyF (lt : PV → PV → Bool) : Nat → List PV → List PV
 | 0, xs => xs
 | k + 1, xs => hfyF lt k (siftup lt xs k)
noncomputable def hfy (lt : PV → PV → Bool) (xs : List PV) : List PV := hfyF lt (xs.length / 2) xs
theorem siftdown_len (lt : PV → PV → Bool) (xs : List PV) (a p : Nat) : (siftdown lt xs a p).length = xs.length := by
 unfold siftdown
 split
 ·simp [sdF_len]
 ·rfl
theorem siftup_len (lt : PV → PV → Bool) (xs : List PV) (p : Nat) : (siftup lt xs p).length = xs.length := by
 unfold siftup
 split
 ·rw [siftdown_len]; simp [suF_len]
 ·rfl
set_option tactic.hygienic true in
theorem sdF_mem (lt : PV → PV → Bool) (S : PV → Prop) (x : PV) (a : Nat) : ∀ (k p : Nat) (xs : List PV), (∀ y ∈ xs, S y) → ∀ y ∈ (sdF lt x a k p xs).1, S y
 | 0, p, xs, h => h
 | k + 1, p, xs, h => by
  unfold sdF
  split
  ·split
   ·rename_i y hy
    split
    ·refine sdF_mem lt S x a k _ _ fun z hz => ?_
     rcases List.mem_or_eq_of_mem_set hz with q | q
     ·exact h z q
     ·exact q ▸ h y (List.mem_of_getElem? hy)
    ·exact h
   ·exact h
  ·exact h
set_option tactic.hygienic true in
theorem siftdown_mem (lt : PV → PV → Bool) (S : PV → Prop) (xs : List PV) (a p : Nat) (h : ∀ y ∈ xs, S y) : ∀ y ∈ siftdown lt xs a p, S y := by
 unfold siftdown
 split
 ·rename_i x hx
  intro y hy
  rcases List.mem_or_eq_of_mem_set hy with q | q
  ·exact sdF_mem lt S x a _ _ _ h y q
  ·exact q ▸ h x (List.mem_of_getElem? hx)
 ·exact h
set_option tactic.hygienic true in
theorem siftup_mem (lt : PV → PV → Bool) (S : PV → Prop) (xs : List PV) (p : Nat) (h : ∀ y ∈ xs, S y) : ∀ y ∈ siftup lt xs p, S y := by
 unfold siftup
 split
 ·rename_i x hx
  refine siftdown_mem lt S _ _ _ fun y hy => ?_
  rcases List.mem_or_eq_of_mem_set hy with q | q
  ·exact suF_mem lt S _ _ _ h y q
  ·exact q ▸ h x (List.mem_of_getElem? hx)
 ·exact h
theorem sp_heapify {C : Cx} (px : Px C) {n : Nat} {i : Nat} {xs : List PV} {st : Sto} {S : PV → Prop} {lt : PV → PV → Bool} (hlt : LtOk C n i S lt st) (hS : ∀ y ∈ xs, S y) (hi : st[i]? = some (.list xs)) (hz : xs.length < 2 ^ 20) :
  Cl C (n + 3) (.ref 59) [.ref i] st .none (st.set i (.list (hfy lt xs))) := by
 have hil := (List.getElem?_eq_some_iff.mp hi).1
 have hz' : xs.length ≤ 2 ^ 24 := by omega
 have hz'' : xs.length ≤ 2 ^ 20 := by omega
 have hb : ∃ lo', Ex C (n + 2) φhy [("x", .ref i)] (bodyOf (stAt 5)) st .next lo' (st.set i (.list (hfy lt xs))) := by
  have hdiv : Op2 C (n + 2) (binaryOp .FloorDiv) (.int (xs.length : Nat)) (.int 2) st (.int ((xs.length / 2 : Nat) : Int)) st := by
   have := O.floordiv (C := C) (n := n + 2) (st := st) (a := (xs.length : Int)) (b := 2) (by decide) (by decide)
   rw [show Int.fdiv (xs.length : Int) 2 = ((xs.length / 2 : Nat) : Int) by rw [Int.fdiv_eq_ediv_of_nonneg _ (by decide)]; omega] at this
   exact this
  have hit : ItrE C (n + 2) φhy (("n", .int (xs.length : Nat)) :: [("x", .ref i)]) (fI (sAt (bodyOf (stAt 5)) 1)) st (RangeIt (((xs.length / 2 : Nat) : Int) - 1) (-1) (xs.length / 2)) st := by
   apply ItrE.rev
   ·walk_at "ev"
   ·apply Ev.callt
    ·walk_at "ev"
    ·walk_at "evl"
    ·exact _root_.Mine.C.range1
    ·intro _; rfl
    ·intro _; rfl
   ·omega
   ·intro _; rfl
   ·intro _; rfl
   ·intro _; rfl
  obtain ⟨lo', st', ⟨elo, ys, est, ey, el, eS⟩, hf⟩ := Fo.inv0 (C := C) (n := n + 2) (φ := φhy) (t := fT (sAt (bodyOf (stAt 5)) 1)) (b := bOf (sAt (bodyOf (stAt 5)) 1)) (It := RangeIt (((xs.length / 2 : Nat) : Int) - 1) (-1) (xs.length / 2))
   (fun k lo s => lo = ([("x", .ref i)] : Loc) ∧ ∃ ys, s = st.set i (.list ys) ∧ hfyF lt (xs.length / 2 - k) ys = hfy lt xs ∧ ys.length = xs.length ∧ ∀ y ∈ ys, S y) (xs.length / 2) (lo := ([("x", .ref i)] : Loc)) (st := st)
   ⟨rfl, xs, (set_same hi).symm, rfl, rfl, hS⟩
   (fun k lo s hk ⟨elo, ys, est, ey, el, eS⟩ => by
    subst elo est
    have hsu := sp_siftup px (n := n) (p := xs.length / 2 - 1 - k) (hlt.set (o := .list ys)) eS (by simp [hil]) (by omega) (by omega)
    rw [List.set_set] at hsu
    have e : ((xs.length / 2 : Nat) : Int) - 1 + (k : Int) * (-1) = ((xs.length / 2 - 1 - k : Nat) : Int) := by omega
    apply StepI.mk (p := .int (((xs.length / 2 - 1 - k : Nat) : Int))) (lo3 := [("x", .ref i)]) (st2 := st.set i (.list (siftup lt ys (xs.length / 2 - 1 - k))))
    ·refine ⟨rfl, siftup lt ys (xs.length / 2 - 1 - k), rfl, ?_, ?_, ?_⟩
     ·rw [← ey, show xs.length / 2 - k = (xs.length / 2 - 1 - k) + 1 by omega, show xs.length / 2 - (k + 1) = xs.length / 2 - 1 - k by omega]; rfl
     ·rw [siftup_len, el]
     ·exact siftup_mem lt S _ _ eS
    ·rw [← e]; unfold RangeIt; rw [if_pos hk]
    ·exact As.name (.inl rfl)
    ·apply Ex.cons
     ·walk_at "st"
     walk_at "exs"
    ·exact ⟨rfl, trivial⟩)
   (fun lo s h => by unfold RangeIt; rw [if_neg (Nat.lt_irrefl _)])
  rw [Nat.sub_self] at ey
  have ey' : ys = hfy lt xs := ey
  subst elo est ey'
  apply Exists.intro
  apply Ex.cons
  ·walk_at "st"
  apply Ex.cons
  ·exact Ex1.forE hit (hf.pre (SubL.ok ⟨rfl, trivial⟩)) (by intro _ _; rfl)
  walk_at "exs"
 obtain ⟨lo', h⟩ := hb
 refine Cl.fn (names := ["x"]) (body := bodyOf (stAt 5)) (px.K 59 _ rfl) rfl rfl rfl (codeRec_of px.K rfl) rfl rfl ?_ ?_ ?_ h rfl ?_
 ·intro vs hv
  obtain ⟨v1, rfl⟩ := len1 hv
  rfl
 ·decide
 ·decide +kernel
 ·decide
end
section
noncomputable def compScope (scope φ : Scope) : Scope := { scope with names := scope.names.map fun (n, k) => if (k == .free && φ.kind == .function && φ.names.lookup n == some .cell) then (n, .cell) else (n, k) }
noncomputable def capOk (scope φ : Scope) : Bool := φ.kind == .function && scope.names.all fun x => x.2 != .cell && (x.2 != .free || φ.names.lookup x.1 == some .cell)
noncomputable def cloL (cells : List (Str × Addr)) : List (Str × NameKind) → List (Str × Addr) → List (Str × Addr)
 | [], acc => acc
 | (x, k) :: r, acc => cloL cells r (if k == .free then (x, (cells.lookup x).getD 0) :: acc else acc)
theorem cloL_for {env : Env} : ∀ (names : List (Str × NameKind)) (acc : List (Str × Addr)), (∀ x ∈ names, x.2 = .free → ∃ c, env.cells.lookup x.1 = some c) →
  (do
   let mut cs := acc
   for (name, kind) in names do
    if kind == .free then cs := (name, ← cellOf env name) :: cs
   return cs : Sem (List (Str × Addr))) = pure (cloL env.cells names acc)
 | [], acc, _ => by simp [cloL]
 | (x, k) :: r, acc, h => by
  have ih := fun acc => cloL_for (env := env) r acc fun y hy => h y (List.mem_cons_of_mem _ hy)
  simp only [List.forIn_cons, cloL]
  by_cases hk : k = .free
  ·subst hk
   obtain ⟨c, hc⟩ := h (x, .free) List.mem_cons_self rfl
   have hc' : env.cells.lookup x = some c := hc
   have e1 : cellOf env x = pure c := by unfold cellOf; rw [hc']
   have e2 : (NameKind.free == NameKind.free) = true := rfl
   simp only [e2, if_true, e1, pure_bind, hc', Option.getD_some]
   have := ih ((x, c) :: acc)
   simpa using this
  ·have e2 : (k == NameKind.free) = false := by simpa using hk
   simp only [e2, Bool.false_eq_true, if_false, pure_bind]
   have := ih acc
   simpa using this
theorem cloL_lkp {cells : List (Str × Addr)} {x : Str} {c : Addr} (hc : cells.lookup x = some c) : ∀ (names : List (Str × NameKind)) (acc : List (Str × Addr)), ((x, NameKind.free) ∈ names ∨ acc.lookup x = some c) → (cloL cells names acc).lookup x = some c
 | [], acc, h => by
  rcases h with h | h
  ·cases h
  ·exact h
 | (y, k) :: r, acc, h => by
  unfold cloL
  refine cloL_lkp hc r _ ?_
  by_cases hy : x = y
  ·subst hy
   by_cases hk : k = .free
   ·subst hk
    right
    rw [if_pos (by decide), List.lookup_cons]; simp [hc]
   ·rw [if_neg (by simpa using hk)]
    rcases h with h | h
    ·rcases List.mem_cons.mp h with q | q
     ·cases q; exact absurd rfl hk
     ·exact .inl q
    ·exact .inr h
  ·have hb : (x == y) = false := by simpa using hy
   rcases h with h | h
   ·rcases List.mem_cons.mp h with q | q
    ·cases q; exact absurd rfl hy
    ·exact .inl q
   ·right
    split
    ·rw [List.lookup_cons, hb]; exact h
    ·exact h
theorem lkp_mem {α : Type} : ∀ {l : List (Str × α)} {x : Str} {c : α}, l.lookup x = some c → (x, c) ∈ l
 | [], x, c, e => by simp at e
 | (y, d) :: l, x, c, e => by
  rw [List.lookup_cons] at e
  cases hb : x == y with
  | true => rw [hb] at e; cases e; rw [show x = y by simpa using hb]; exact List.mem_cons_self
  | false => rw [hb] at e; exact List.mem_cons_of_mem _ (lkp_mem e)
theorem cloL_mem {cells : List (Str × Addr)} : ∀ (names : List (Str × NameKind)) (acc : List (Str × Addr)), (∀ x ∈ names, x.2 = .free → ∃ c, cells.lookup x.1 = some c) → ∀ p ∈ cloL cells names acc, p ∈ acc ∨ cells.lookup p.1 = some p.2
 | [], acc, h, p, hp => .inl hp
 | (y, k) :: r, acc, h, p, hp => by
  unfold cloL at hp
  rcases cloL_mem r _ (fun y hy => h y (List.mem_cons_of_mem _ hy)) p hp with q | q
  ·split at q
   ·rename_i hk
    rcases List.mem_cons.mp q with q | q
    ·subst q
     obtain ⟨c, hc⟩ := h (y, k) List.mem_cons_self (by simpa using hk)
     right
     show cells.lookup y = some ((cells.lookup y).getD 0)
     rw [show cells.lookup y = some c from hc]; rfl
    ·exact .inl q
   ·exact .inl q
  ·exact .inr q
section
variable {C : Cx} {n : Nat} {φ φ' : Scope} {lo lo' lo1 lo2 lo3 : Loc} {st st1 st2 st3 : Sto} {It : ItR} {k : Nat}
theorem compScope_cell {scope : Scope} (cap : capOk scope φ = true) {x : Str} (h : (compScope scope φ).names.lookup x = some .cell) : (x, NameKind.free) ∈ scope.names ∧ φ.names.lookup x = some .cell := by
 have hm := lkp_mem h
 obtain ⟨⟨y, k⟩, hy, e⟩ := List.mem_map.mp hm
 unfold capOk at cap
 simp only [Bool.and_eq_true, List.all_eq_true] at cap
 have hc := cap.2 (y, k) hy
 dsimp only at e hc
 split at e
 ·rename_i hcond
  cases e
  simp only [Bool.and_eq_true, beq_iff_eq] at hcond
  obtain ⟨⟨rfl, _⟩, h3⟩ := hcond
  exact ⟨hy, h3⟩
 ·cases e
  simp at hc
theorem compEnv_fr {scope : Scope} {env : Env} {ρ : List Addr} {h h' : Heap} {cl : List (Str × Addr)} {L : Addr} {m : Str → Option Value} (F : FrAt C φ lo ρ h env) (cap : capOk scope φ = true) (hk : scope.kind = .function)
  (hcl : cl = cloL env.cells scope.names []) (hlo : ∀ x pv, lo'.lookup x = some pv → (compScope scope φ).names.lookup x = some .cell ∧ lo.lookup x = some pv)
  (hL : L ∉ ρ) (hge : C.S0.heap.objs.size ≤ L) (hLf : L ∉ frW env) (G : Go [] ρ h ρ h') (ns : h'.Ns L m) : FrAt C (compScope scope φ) lo' ρ h' (compEnvC scope cl L env) := by
 have F' := F.go0 G
 have free : ∀ x ∈ scope.names, x.2 = .free → ∃ c, env.cells.lookup x.1 = some c := fun x hx hf => by
  unfold capOk at cap
  simp only [Bool.and_eq_true, List.all_eq_true] at cap
  have := cap.2 x hx
  rw [hf] at this
  obtain ⟨c, hc, _⟩ := F.cells x.1 (by simpa using this)
  exact ⟨c, hc⟩
 have clin : ∀ {x : Str} {c : Addr}, cl.lookup x = some c → env.cells.lookup x = some c := fun e => by
  subst hcl
  rcases cloL_mem _ _ free _ (lkp_mem e) with q | q
  ·cases q
  ·exact q
 refine ⟨?_, hk, F.glob, F.blt, ?_, ⟨m, ns, fun x pv e1 e2 => ?_⟩, fun x hx => ?_, ?_⟩
 ·show relabel scope env = compScope scope φ
  unfold relabel compScope Env.kindOf
  rw [F.scope]
 ·intro a ha
  rcases List.mem_cons.mp ha with rfl | ha
  ·exact ⟨hL, hge, ns_isFr ns⟩
  ·obtain ⟨⟨x, c⟩, hm, rfl⟩ := List.mem_map.mp ha
   subst hcl
   rcases cloL_mem _ _ free _ hm with q | q
   ·cases q
   ·exact F'.fr _ (F.cellIn q)
 ·rw [(hlo x pv e1).1] at e2; cases e2
 ·obtain ⟨h1, h2⟩ := compScope_cell cap hx
  obtain ⟨c, hc, hne, v, hv, hr⟩ := F'.cells x h2
  have hc' : cl.lookup x = some c := by subst hcl; exact cloL_lkp hc _ _ (.inl h1)
  refine ⟨c, hc', fun q => hLf ?_, v, hv, fun pv e => hr pv (hlo x pv e).2⟩
  have q' : c = L := q
  rw [← q']; exact F.cellIn hc
 ·intro x y c hx hy e1 e2
  exact F.inj x y c (compScope_cell cap hx).2 (compScope_cell cap hy).2 (clin e1) (clin e2)
noncomputable abbrev testsM (ifs : List Expr) (env : Env) : Sem Bool := forIn ifs true fun c r => if r = true then do let ok ← isTrue c env (eval c env); pure (ForInStep.yield ok) else pure (ForInStep.yield r)
noncomputable def TrL (C : Cx) (n : Nat) (φ : Scope) (lo : Loc) (ifs : List Expr) (st : Sto) (b : Bool) (st' : Sto) : Prop :=
 ∀ A s ρ env, Lv n A → Hp C ρ st s → FrAt C φ lo ρ s.heap env → wpAny (model C.prog C.w) A (testsM ifs env) (PostB C ρ s st' b) NoE s
theorem TrL.nil : TrL C n φ lo [] st true st := fun A s ρ env hA H F => wpAny_tests_nil (PostB.here H)
theorem TrL.one {c : Expr} {b : Bool} (h : Tr C n φ lo c st b st1) : TrL C n φ lo [c] st b st1 := fun A s ρ env hA H F => wpAny_tests_one (h A s ρ env hA H F)
theorem coTurnJ {elt t iter : Expr} {ifs : List Expr} {scope : Scope} {pos : Pos} {acc : Value} {env : Env} {A : Around} {s : Shared} {R : Result → Shared → Prop} {prog : Program} {w : World} {I : Addr}
  (turn : wpAny (model prog w) A (pyNext (.ref I)) (fun r s₁ => match r with
   | none => R (.ok .next) s₁
   | some v => wpAny (model prog w) A (letOwnedTupleGo t (.ref I) v) (fun _ s₁ => wpAny (model prog w) A (PySem.assign t env v) (fun _ s₂ => wpAny (model prog w) A (testsM ifs env) (fun ok s₃ =>
      if ok = true then wpAny (model prog w) A (eval elt env) (fun x s₄ =>
       wpAny (model prog w) A (call (.builtin "list.append") [acc, x]) (fun _ s₅ => codeAny (model prog w) A (.compLoop (.ListComp elt [⟨t, iter, ifs, 0⟩] scope pos) 0 (.ref I) acc env) R s₅) NoE s₄) NoE s₃
      else codeAny (model prog w) A (.compLoop (.ListComp elt [⟨t, iter, ifs, 0⟩] scope pos) 0 (.ref I) acc env) R s₃) NoE s₂) NoE s₁) NoE s₁) NoE s) :
  codeAny (model prog w) A (.compLoop (.ListComp elt [⟨t, iter, ifs, 0⟩] scope pos) 0 (.ref I) acc env) R s := by
 refine codeAny_of_tree ?_
 show wpAny _ A ((compTurn (.ListComp elt [⟨t, iter, ifs, 0⟩] scope pos) 0 (.ref I) acc env).onRaise (fun x => do noteFrame x env; theTreesLotGoes x)) _ _ s
 refine wpAny_noted ?_
 rw [compTurn_list]
 refine wpAny_bind (wpAny_standAt (wpAny_bind (noE turn fun r s₁ h₁ => ?_)))
 cases r with
 | none => exact wpAny_pure h₁
 | some v =>
  refine wpAny_bind (noE h₁ fun _ s₁ h₁ => wpAny_bind (noE h₁ fun _ s₂ h₂ => wpAny_bind (noE h₂ fun ok s₃ h₃ => ?_)))
  cases ok with
  | false => exact wpAny_pure ⟨rfl, h₃⟩
  | true =>
   exact wpAny_bind (wpAny_bind (noE h₃ fun x s₄ h₄ => wpAny_bind (noE h₄ fun _ s₅ h₅ => wpAny_pure (wpAny_pure ⟨rfl, h₅⟩))))
end
end
section
section
variable {C : Cx} {n : Nat} {φ φ' : Scope} {lo lo' lo1 lo2 lo3 : Loc} {st st1 st2 st3 : Sto} {It : ItR} {k : Nat}
noncomputable abbrev PostUL (C : Cx) (φ : Scope) (env : Env) (ρ : List Addr) (s : Shared) (lo' : Loc) (st' : Sto) : Unit → Shared → Prop :=
 fun _ s' => ∃ ρ', Hp C ρ' st' s' ∧ Go [env.locals] ρ s.heap ρ' s'.heap ∧ FrAt C φ lo' ρ' s'.heap env
theorem storeL {A : Around} {s : Shared} {ρ : List Addr} {env : Env} {x : Str} {p : PV} {v : Value} {M : Model} (H : Hp C ρ st s) (F : FrAt C φ lo ρ s.heap env) (R : Rep s.heap ρ p v)
  (hk : φ.names.lookup x = some .local) : wpAny M A (storeName env x v) (PostUL C φ env ρ s ((x, p) :: lo) st) NoE s := by
 obtain ⟨m, hn, hm⟩ := F.ns
 refine wpAny_storeName_local (m := m) (by unfold Env.kindOf; rw [F.scope]; exact hk) hn (fun h' hn' hs => ?_) (by rw [F.scope, F.kind]; rfl)
 obtain ⟨h1, h2, h3⟩ := F.fr env.locals List.mem_cons_self
 obtain ⟨H', G⟩ := H.other (s.toks + 1) h1 h2 h3.notSeq hs
 have nw : ∀ a ∈ [env.locals], NotSeq s.heap a := fun a m => by simp at m; subst m; exact h3.notSeq
 refine ⟨ρ, H', G, { F with fr := ?_, ns := ?_, cells := ?_ }⟩
 ·intro a ha
  obtain ⟨q1, q2, q3⟩ := F.fr a ha
  refine ⟨q1, q2, ?_⟩
  by_cases e : a = env.locals
  ·subst e; exact ns_isFr hn'
  ·obtain ⟨o, ho, r⟩ := q3
   exact ⟨o, (hs.2 a e).trans ho, r⟩
 ·refine ⟨_, hn', fun y pv e1 e2 => ?_⟩
  by_cases e : y = x
  ·subst e
   rw [lookup_cons_self] at e1; cases e1
   exact ⟨v, by simp, Rep.go G nw R⟩
  ·rw [lookup_cons_ne e] at e1
   obtain ⟨u, a, b⟩ := hm y pv e1 e2
   exact ⟨u, by simp [e, a], Rep.go G nw b⟩
 ·intro y hy
  have e : y ≠ x := fun q => by subst q; rw [hk] at hy; cases hy
  obtain ⟨c, c1, c2, u, ⟨o, ho, hd⟩, r⟩ := F.cells y hy
  exact ⟨c, c1, c2, u, ⟨o, (hs.2 c c2).trans ho, hd⟩, fun pv e1 => by
   rw [lookup_cons_ne e] at e1
   obtain ⟨w, a, b⟩ := r pv e1
   exact ⟨w, a, Rep.go G nw b⟩⟩
noncomputable def AsL (C : Cx) (n : Nat) (φ : Scope) (lo : Loc) (t : Expr) (p : PV) (st : Sto) (lo' : Loc) (st' : Sto) : Prop :=
 ∀ A s ρ env v, Lv n A → Hp C ρ st s → FrAt C φ lo ρ s.heap env → Rep s.heap ρ p v → wpAny (model C.prog C.w) A (assign t env v) (PostUL C φ env ρ s lo' st') NoE s
theorem AsL.as {t : Expr} {p : PV} (h : AsL C n φ lo t p st lo1 st1) : As C n φ lo t p st lo1 st1 := fun A s ρ env v hA H F R =>
 noE (h A s ρ env v hA H F R) fun _ s1 ⟨ρ1, H1, G1, F1⟩ => ⟨ρ1, H1, G1.weaken fun a m => .inl (by simp at m; subst m; exact List.mem_cons_self), F1⟩
theorem AsL.name {x : Str} {pos : Pos} {p : PV} (hk : φ.names.lookup x = some .local) : AsL C n φ lo (.Name x pos) p st ((x, p) :: lo) st := fun A s ρ env v hA H F R =>
 wpAny_assign_Name (storeL H F R hk)
noncomputable def AoL (C : Cx) (n : Nat) (φ : Scope) (lo : Loc) (es : List Expr) (ps : List PV) (st : Sto) (lo' : Loc) : Prop :=
 ∀ A s ρ env vs, Lv n A → Hp C ρ st s → FrAt C φ lo ρ s.heap env → RepL s.heap ρ ps vs → wpAny (model C.prog C.w) A (assignInOrder ((assignEach es env).map (·.2)) vs) (PostUL C φ env ρ s lo' st) NoE s
theorem AoL.nil : AoL C n φ lo [] [] st lo := fun A s ρ env vs hA H F R => by
 (replace R := R.inv; obtain ⟨_, rfl⟩ := R)
 exact assignInOrder_nil ⟨ρ, H, Go.refl _ _ _, F⟩
theorem AoL.cons {x : Str} {pos : Pos} {es : List Expr} {p : PV} {ps : List PV} (hk : φ.names.lookup x = some .local) (h : AoL C n φ ((x, p) :: lo) es ps st lo1) : AoL C n φ lo (.Name x pos :: es) (p :: ps) st lo1 := fun A s ρ env vs hA H F R => by
 (replace R := R.inv; obtain ⟨v, ws, rfl, R1, R2⟩ := R)
 show wpAny _ _ (assignInOrder (assign (.Name x pos) env :: (assignEach es env).map (·.2)) (v :: ws)) _ _ _
 refine assignInOrder_cons (wpAny_assign_Name (noE (storeL H F R1 hk) fun _ s1 ⟨ρ1, H1, G1, F1⟩ => ?_))
 have nw : ∀ a ∈ [env.locals], NotSeq s.heap a := fun a m => by simp at m; subst m; exact (F.fr _ List.mem_cons_self).2.2.notSeq
 exact noE (h A s1 ρ1 env ws hA H1 F1 (RepL.go G1 nw R2)) fun _ s2 ⟨ρ2, H2, G2, F2⟩ => ⟨ρ2, H2, G1.trans G2, F2⟩
theorem AsL.tup {es : List Expr} {ps : List PV} {c} {pos : Pos} (h : AoL C n φ lo es ps st lo1) (hn : ∀ env, (assignEach es env).length = ps.length := by intro _; rfl)
  (hstar : ∀ env, (assignEach es env).findIdx? (·.1) = none := by intro _; rfl) : AsL C n φ lo (.Tuple es c pos) (.tup ps) st lo1 st := fun A s ρ env v hA H F R => by
 (replace R := R.inv; obtain ⟨a, vs, rfl, hn', ho, rl⟩ := R)
 have hl := rl.length
 have ht : IsTup s.heap a vs.toArray := ⟨_, ho, rfl, 0, rfl⟩
 rw [assign_Tuple]
 refine wpAny_bind (wpAny_standAt ?_)
 unfold unpack
 rw [show (assignEach es env).length = vs.toArray.size by rw [hn, ← hl]; simp, hstar env]
 refine wpAny_bind (wpAny_holding (wpAny_size (unpackItems_tuple hA.1 ht fun h' he hz => ?_)))
 have hk : ∀ b o, s.heap.get? b = some o → h'.get? b = some o := fun b o e => he b o (Nat.ne_of_lt (Heap.lt_size e)) e
 obtain ⟨H1, G1⟩ := H.grow (t' := s.toks) hk hz
 exact noE (h A _ ρ env vs hA H1 (F.go0 G1) (rl.go0 G1)) fun _ s2 ⟨ρ2, H2, G2, F2⟩ => ⟨ρ2, H2, G1.nil.trans G2, F2⟩
noncomputable def Co (C : Cx) (n : Nat) (φ : Scope) (lo : Loc) (elt t : Expr) (ifs : List Expr) (j : Nat) (It : ItR) (k : Nat) (st : Sto) (st' : Sto) : Prop :=
 ∀ A s ρ env I P D iter scope pos, Lv n A → Hp C ρ st s → FrAt C φ lo ρ s.heap env → ItOk C n I P It → P k ρ s.heap → I ∉ ρ → C.S0.heap.objs.size ≤ I → I ∉ frW env → ρ[j]? = some D →
  codeAny (model C.prog C.w) A (.compLoop (.ListComp elt [⟨t, iter, ifs, 0⟩] scope pos) 0 (.ref I) (.ref D) env) (fun r s' => ∃ v, r = .ok v ∧ ∃ ρ' m, Hp C ρ' st' s' ∧ Go [I, env.locals] ρ s.heap ρ' s'.heap ∧ s'.heap.Ns env.locals m) s
theorem Co.done {elt t : Expr} {ifs : List Expr} {j : Nat} (h : It k st none) : Co C n φ lo elt t ifs j It k st st := fun A s ρ env I P D iter scope pos hA H F io hp hI hg hf hD =>
 coTurnJ (noE (io.next A s ρ st k _ hA H hI hg hp h) fun v s1 ⟨H1, G1, e⟩ => by
  subst e
  obtain ⟨m, hm, _⟩ := (F.goI G1 hf (notSeq_one io hp)).ns
  exact ⟨_, rfl, ρ, m, H1, G1.weaken fun a m => .inl (by simp at m; subst m; exact List.mem_cons_self), hm⟩)
theorem Co.turn {elt t : Expr} {ifs : List Expr} {j : Nat} {p : PV} {b : Bool} {st' : Sto} (h : It k st (some p)) (ha : AsL C n φ lo t p st lo1 st1) (ht : TrL C n φ lo1 ifs st1 b st2)
  (hr : match b with
   | false => Co C n φ lo1 elt t ifs j It (k + 1) st2 st'
   | true => ∃ q st3 ys, Ev C n φ lo1 elt st2 q st3 ∧ st3[j]? = some (.list ys) ∧ ys.length ≤ 2 ^ 20 ∧ Co C n φ lo1 elt t ifs j It (k + 1) (st3.set j (.list (ys ++ [q]))) st') : Co C n φ lo elt t ifs j It k st st' :=
 fun A s ρ env I P D iter scope pos hA H F io hp hI hg hf hD => by
 refine coTurnJ (noE (io.next A s ρ st k _ hA H hI hg hp h) fun v s1 ⟨H1, G1, u, e, R1, hp1⟩ => ?_)
 subst e
 have nI := notSeq_one io hp
 have F1 := F.goI G1 hf nI
 obtain ⟨o, T, ho, hc, hT, _⟩ := io.cls _ _ _ hp1
 refine ownGo ho hc hT (noE (ha A s1 ρ env u hA H1 F1 R1) fun _ s2 ⟨ρ2, H2, G2, F2⟩ => ?_)
 have hf' : I ∉ [env.locals] := fun m => hf (by simp at m; subst m; exact List.mem_cons_self)
 have hp2 : P (k + 1) ρ2 s2.heap := io.go _ _ _ _ _ hp1 (fun i a e => G2.idx e) fun o e => G2.keep _ _ hI hf' e
 have hI2 : I ∉ ρ2 := G2.nin hI (lt_size_of ho)
 obtain ⟨o2, T2, ho2, _⟩ := io.cls _ _ _ hp2
 have G12 : Go [I, env.locals] ρ s.heap ρ2 s2.heap := (G1.weaken fun a m => .inl (by simp at m; subst m; exact List.mem_cons_self)).trans G2.cons
 refine noE (ht A s2 ρ2 env hA H2 F2) fun ok s3 ⟨ρ3, H3, G3, e⟩ => ?_
 subst e
 have hp3 : P (k + 1) ρ3 s3.heap := io.go _ _ _ _ _ hp2 (fun i a e => G3.idx e) fun o e => G3.keep _ _ hI2 (by simp) e
 have hI3 : I ∉ ρ3 := G3.nin hI2 (lt_size_of ho2)
 obtain ⟨o3, T3, ho3, _⟩ := io.cls _ _ _ hp3
 have F3 := F2.go0 G3
 have G13 := G12.trans G3.nil
 cases ok with
 | false =>
  rw [if_neg (by decide)]
  exact codeAny_mono (hr A s3 ρ3 env I P D iter scope pos hA H3 F3 io hp3 hI3 hg hf (G13.idx hD)) fun r s4 ⟨v, e, ρ4, m, H4, G4, F4⟩ => ⟨v, e, ρ4, m, H4, G13.trans G4, F4⟩
 | true =>
  rw [if_pos rfl]
  obtain ⟨q, st3, ys, he, hj, hz, hr⟩ := hr
  refine noE (he A s3 ρ3 env hA H3 F3) fun x s4 ⟨ρ4, H4, G4, R4⟩ => ?_
  have hp4 : P (k + 1) ρ4 s4.heap := io.go _ _ _ _ _ hp3 (fun i a e => G4.idx e) fun o e => G4.keep _ _ hI3 (by simp) e
  have hI4 : I ∉ ρ4 := G4.nin hI3 (lt_size_of ho3)
  obtain ⟨o4, T4, ho4, _⟩ := io.cls _ _ _ hp4
  have G14 := G13.trans G4.nil
  have hD4 := G14.idx hD
  refine noE (_root_.Mine.C.append (C := C) (n := n) (p := q) hj hz A s4 ρ4 [.ref D, x] hA H4 (.cons _ _ _ _ (.ref _ _ hD4) (.one R4))) fun _ s5 ⟨ρ5, H5, G5, _⟩ => ?_
  have hp5 : P (k + 1) ρ5 s5.heap := io.go _ _ _ _ _ hp4 (fun i a e => G5.idx e) fun o e => G5.keep _ _ hI4 (by simp) e
  have hI5 : I ∉ ρ5 := G5.nin hI4 (lt_size_of ho4)
  have G15 := G14.trans G5.nil
  exact codeAny_mono (hr A s5 ρ5 env I P D iter scope pos hA H5 ((F3.go0 G4).go0 G5) io hp5 hI5 hg hf (G15.idx hD)) fun r s6 ⟨v, e, ρ6, m, H6, G6, F6⟩ => ⟨v, e, ρ6, m, H6, G15.trans G6, F6⟩
theorem Co.pre {elt t : Expr} {ifs : List Expr} {j : Nat} {st' : Sto} (h : Co C n φ lo elt t ifs j It k st st') (hs : ∀ x pv, lo.lookup x = some pv → lo2.lookup x = some pv) : Co C n φ lo2 elt t ifs j It k st st' :=
 fun A s ρ env I P D iter scope pos hA H F io hp hI hg hf hD => h A s ρ env I P D iter scope pos hA H (F.sub hs) io hp hI hg hf hD
end
end
section
section
variable {C : Cx} {n : Nat} {φ φ' : Scope} {lo lo' lo1 lo2 lo3 : Loc} {st st1 st2 st3 : Sto} {It : ItR} {k : Nat}
noncomputable def CapL (φ' : Scope) (lo : Loc) : Loc → Prop
 | [] => True
 | (x, p) :: r => φ'.names.lookup x = some .cell ∧ lo.lookup x = some p ∧ CapL φ' lo r
theorem CapL.ok : ∀ {l : Loc}, CapL φ' lo l → ∀ x pv, l.lookup x = some pv → φ'.names.lookup x = some .cell ∧ lo.lookup x = some pv
 | [], _, x, pv, e => by simp at e
 | (y, p) :: l, ⟨h1, h2, h3⟩, x, pv, e => by
  rw [List.lookup_cons] at e
  cases hb : x == y with
  | true => rw [hb] at e; cases e; rw [show x = y by simpa using hb]; exact ⟨h1, h2⟩
  | false => rw [hb] at e; exact h3.ok x pv e
theorem compBlock {elt t iter : Expr} {ifs : List Expr} {scope : Scope} {pos : Pos} {A : Around} {s₂ : Shared} {ρ : List Addr} {env : Env} {I : Addr} {P : Nat → List Addr → Heap → Prop} {RR : Value → Addr → Result → Shared → Prop} {E : Value → Shared → Prop}
  (hA : Lv n A) (H : Hp C ρ st s₂) (F : FrAt C φ lo ρ s₂.heap env) (io : ItOk C n I P It) (hp : P 0 ρ s₂.heap) (hI : I ∉ ρ) (hg : C.S0.heap.objs.size ≤ I) (hf : I ∉ frW env) (cap : capOk scope φ = true) (hk : scope.kind = .function)
  (hlo : CapL (compScope scope φ) lo lo') (hc : Co C n (compScope scope φ) lo' elt t ifs st.length It 0 (st ++ [.list []]) st3)
  (hRR : ∀ D L s' ρ' m v, ρ'[st.length]? = some D → Hp C ρ' st3 s' → Go [I] ρ s₂.heap ρ' s'.heap → s'.heap.Ns L m → L ∉ ρ' → C.S0.heap.objs.size ≤ L → s₂.heap.objs.size ≤ L → RR (.ref D) L (.ok v) s') :
  wpAny (model C.prog C.w) A (newList []) (fun acc s₃ => wpAny (model C.prog C.w) A (newFunctionEnv scope env.globals (cloL env.cells scope.names []) [] env.qual none .none (some env)) (fun cenv s₄ =>
   codeAny (model C.prog C.w) A (.compStart (.ListComp elt [⟨t, iter, ifs, 0⟩] scope pos) 0 (.ref I) acc { cenv with scope := relabel scope env }) (RR acc cenv.locals) s₄) E s₃) E s₂ := by
 have hcell : ∀ y ∈ scope.names, y.2 ≠ .cell := fun y hy q => by
  unfold capOk at cap
  simp only [Bool.and_eq_true, List.all_eq_true] at cap
  have := cap.2 y hy
  rw [q] at this
  simp at this
 refine wpAny_newObj_type (wpAny_newFunctionEnv hcell (by intro y hy; simp at hy) (fun h₁ hns₁ hsb₁ => ?_) hk)
 dsimp only at hns₁ hsb₁ ⊢
 obtain ⟨H1, G1⟩ := H.alloc (o := listO [] 0) (ob := .list []) s₂.toks (fun h' G e => ⟨[], 0, e, .nil⟩)
 generalize hD : s₂.heap.objs.size = D at *
 have e0 : s₂.heap.push { cls := .type "list", dict := none, data := .seq ([] : List Value).toArray } = s₂.heap.push (listO [] 0) := rfl
 rw [e0] at hns₁ hsb₁ ⊢
 generalize hH2 : s₂.heap.push (listO [] 0) = H2 at hns₁ hsb₁ H1 G1 ⊢
 have hL1 : D < H2.objs.size := by rw [← hH2, Heap.size_push, hD]; omega
 have hpush : ∀ a o, H2.get? a = some o → (H2.push { cls := .type (if (some env).isSome then "dict" else "frame"), data := .dict #[] }).get? a = some o := fun a o e => Heap.get?_push_of_some _ e
 have hk1 : ∀ a o, H2.get? a = some o → h₁.get? a = some o := fun a o e => (hsb₁.2 a (Nat.ne_of_lt (Heap.lt_size e))).trans (hpush a o e)
 have hz1 : H2.objs.size ≤ h₁.objs.size := Nat.le_of_lt hns₁.lt
 have H1' : Hp C (ρ ++ [D]) (st ++ [.list []]) { s₂ with heap := H2, toks := s₂.toks } := H1
 obtain ⟨H3, G3⟩ := H1'.grow (t' := s₂.toks + ([] : List (Str × Value)).length) hk1 hz1
 have hLn : H2.objs.size ∉ ρ ++ [D] := fun q => Nat.lt_irrefl _ (H1'.lt _ q)
 have G13 : Go [] ρ s₂.heap (ρ ++ [D]) h₁ := G1.trans G3
 have hLf : H2.objs.size ∉ frW env := fun q => by
  have h1 := (F.fr _ q).2.2.lt
  rw [hD] at h1
  exact Nat.lt_irrefl _ (Nat.lt_trans h1 hL1)
 have F1 : FrAt C φ lo (ρ ++ [D]) H2 env := F.go0 G1
 have G3' : Go [] (ρ ++ [D]) H2 (ρ ++ [D]) h₁ := G3
 have F3 := compEnv_fr (cl := cloL env.cells scope.names []) (lo' := lo') F1 cap hk rfl hlo.ok hLn (by rw [← hD] at hL1; exact Nat.le_trans H.ge (Nat.le_of_lt hL1)) hLf G3' hns₁
 have hIlt : ∃ o T, s₂.heap.get? I = some o ∧ o.cls = .type T ∧ ownedIts.contains T = false ∧ ¬ Fz o := io.cls _ _ _ hp
 obtain ⟨oI, TI, hoI, _⟩ := hIlt
 have hI3 : I ∉ ρ ++ [D] := G1.nin hI (lt_size_of hoI)
 have hIL : I ≠ H2.objs.size := fun q => by
  have := lt_size_of hoI
  rw [q, hD] at this
  exact Nat.lt_irrefl _ (Nat.lt_trans this hL1)
 have hp3 : P 0 (ρ ++ [D]) h₁ := io.go _ _ _ _ _ hp (fun i a e => G13.idx e) fun o e => G13.keep _ _ hI (by simp) e
 have hIf : I ∉ frW (compEnvC scope (cloL env.cells scope.names []) H2.objs.size env) := fun q => by
  rcases List.mem_cons.mp q with q | q
  ·exact hIL q
  ·obtain ⟨⟨x, c⟩, hm, rfl⟩ := List.mem_map.mp q
   have free : ∀ x ∈ scope.names, x.2 = .free → ∃ c, env.cells.lookup x.1 = some c := fun x hx hf => by
    unfold capOk at cap
    simp only [Bool.and_eq_true, List.all_eq_true] at cap
    have := cap.2 x hx
    rw [hf] at this
    obtain ⟨c, hc, _⟩ := F.cells x.1 (by simpa using this)
    exact ⟨c, hc⟩
   rcases cloL_mem _ _ free _ hm with q | q
   ·cases q
   ·exact hf (F.cellIn q)
 have hDi : (ρ ++ [D])[st.length]? = some D := by rw [← H.len]; simp
 have body : ∀ s₄ : Shared, s₄ = { s₂ with heap := h₁, toks := s₂.toks + ([] : List (Str × Value)).length } →
   codeAny (model C.prog C.w) A (.compLoop (.ListComp elt [⟨t, iter, ifs, 0⟩] scope pos) 0 (.ref I) (.ref D) (compEnvC scope (cloL env.cells scope.names []) H2.objs.size env)) (RR (.ref D) H2.objs.size) s₄ := by
  rintro s₄ rfl
  refine codeAny_mono (hc A _ (ρ ++ [D]) _ I P D iter scope pos hA H3 F3 io hp3 hI3 hg hIf hDi) fun r s5 ⟨v, e, ρ5, m5, H5, G5, N5⟩ => ?_
  subst e
  have hLlt : H2.objs.size < h₁.objs.size := hns₁.lt
  refine hRR D H2.objs.size s5 ρ5 m5 v (G5.idx hDi) H5 ?_ N5 (G5.nin hLn hLlt) (Nat.le_trans H.ge (by rw [hD]; exact Nat.le_of_lt hL1)) (Nat.le_of_lt hL1)
  refine Go.weaken (W := [I, H2.objs.size]) (G13.nil.trans G5) fun a m => ?_
  simp only [List.mem_cons, List.not_mem_nil, or_false] at m
  rcases m with rfl | rfl
  ·exact .inl (by simp)
  ·exact .inr (by rw [hD]; exact Nat.le_of_lt hL1)
 exact codeAny_compStart_list (body _ rfl) (io.self A _ (ρ ++ [D]) 0 _ _ hp3 (body _ rfl))
theorem Ev.compJ {elt t iter : Expr} {ifs : List Expr} {scope : Scope} {pos : Pos} (h1 : ItrE C n φ lo iter st It st2) (hlo : CapL (compScope scope φ) lo lo') (hc : Co C n (compScope scope φ) lo' elt t ifs st2.length It 0 (st2 ++ [.list []]) st3)
  (cap : capOk scope φ = true) (hk : scope.kind = .function) (hnames : ∀ y ∈ scope.names, y.2 = .local → scope.names.lookup y.1 = some .local)
  (hs : ∀ env x, foldedSetIterable iter env x = pure x := by intro _ _; rfl) : Ev C n φ lo (.ListComp elt [⟨t, iter, ifs, 0⟩] scope pos) st (.ref st2.length) st3 := fun A s ρ env hA H F => by
 rw [eval_ListComp]
 have free : ∀ x ∈ scope.names, x.2 = .free → ∃ c, env.cells.lookup x.1 = some c := fun x hx hf => by
  unfold capOk at cap
  simp only [Bool.and_eq_true, List.all_eq_true] at cap
  have := cap.2 x hx
  rw [hf] at this
  obtain ⟨c, hc, _⟩ := F.cells x.1 (by simpa using this)
  exact ⟨c, hc⟩
 refine wpAny_comprehension_free (use := none) rfl (hs env) (cloL_for scope.names [] free) hk hnames (noE (h1 A s ρ env hA H F) fun v s1 h => noE h fun it s2 ⟨ρ2, I, P, e, H2, G2, io, hp, hI, hge⟩ => ?_)
 subst e
 have hf : I ∉ frW env := fun m => Nat.lt_irrefl _ (Nat.lt_of_lt_of_le (F.fr I m).2.2.lt hge)
 refine compBlock hA H2 (F.go0 G2) io hp hI (Nat.le_trans H.ge hge) hf cap hk hlo hc fun D L s' ρ' m v hD H3 G3 hN hL hL0 hLs => ?_
 refine ⟨m, hN, fun h' hs' => ?_⟩
 obtain ⟨H4, G4⟩ := H3.other (L := L) s'.toks hL hL0 (ns_isFr hN).notSeq hs'
 refine ⟨ρ', H4, ?_, .ref _ _ hD⟩
 refine Go.weaken (W := [I, L]) (((G2.nil (W := [I, L])).trans (G3.weaken fun a m => .inl (by simp at m; subst m; simp))).trans (G4.weaken fun a m => .inl (by simp at m; subst m; simp))) fun a m => ?_
 simp only [List.mem_cons, List.not_mem_nil, or_false] at m
 rcases m with rfl | rfl
 ·exact .inr hge
 ·exact .inr (Nat.le_trans G2.size hLs)
theorem Ex1.asgComp {y : Str} {py spos : Pos} {elt t iter : Expr} {ifs : List Expr} {scope : Scope} {pos : Pos} (h1 : ItrE C n φ lo iter st It st2) (hlo : CapL (compScope scope φ) lo lo') (hc : Co C n (compScope scope φ) lo' elt t ifs st2.length It 0 (st2 ++ [.list []]) st3)
  (hy : φ.names.lookup y = some .local)
  (cap : capOk scope φ = true) (hk : scope.kind = .function) (hnames : ∀ y ∈ scope.names, y.2 = .local → scope.names.lookup y.1 = some .local)
  (hsw : ∀ env, env.scope = φ → swapsWith (.ListComp elt [⟨t, iter, ifs, 0⟩] scope pos) (some (.Name y py)) spos.line env = pure true)
  (hs : ∀ env x, foldedSetIterable iter env x = pure x := by intro _ _; rfl) : Ex1 C n φ lo (.Assign [.Name y py] (.ListComp elt [⟨t, iter, ifs, 0⟩] scope pos) spos) st .next ((y, .ref st2.length) :: lo) st3 := fun A s ρ env hA H F => by
 rw [exec_Assign_Name_used _ _ _ _ (hsw env F.scope)]
 have free : ∀ x ∈ scope.names, x.2 = .free → ∃ c, env.cells.lookup x.1 = some c := fun x hx hf => by
  unfold capOk at cap
  simp only [Bool.and_eq_true, List.all_eq_true] at cap
  have := cap.2 x hx
  rw [hf] at this
  obtain ⟨c, hc, _⟩ := F.cells x.1 (by simpa using this)
  exact ⟨c, hc⟩
 refine wpAny_bind (wpAny_standAt (wpAny_bind ?_))
 show wpAny _ A (do let _ ← comprehension (.ListComp elt [⟨t, iter, ifs, 0⟩] scope pos) scope env _ (newList []) false (eval iter env) (some (assign (.Name y py) env))) _ _ s
 refine wpAny_bind (wpAny_mono (wpAny_comprehension_free (use := some (assign (.Name y py) env)) (Q := fun _ s' => PostF C φ env ρ s ((y, .ref st2.length) :: lo) st3 .next .next s') rfl (hs env) (cloL_for scope.names [] free) hk hnames
  (noE (h1 A s ρ env hA H F) fun v s1 h => noE h fun it s2 ⟨ρ2, I, P, e, H2, G2, io, hp, hI, hge⟩ => ?_)) (fun _ s' hq => wpAny_pure (wpAny_pure hq)) fun _ _ e => e)
 subst e
 have hf : I ∉ frW env := fun m => Nat.lt_irrefl _ (Nat.lt_of_lt_of_le (F.fr I m).2.2.lt hge)
 have F2 := F.go0 G2
 refine compBlock hA H2 F2 io hp hI (Nat.le_trans H.ge hge) hf cap hk hlo hc fun D L s' ρ' m v hD H3 G3 hN hL hL0 hLs => ?_
 show wpAny _ A (assign (.Name y py) env (.ref D)) _ _ _
 have nI : ∀ a ∈ [I], NotSeq s2.heap a := notSeq_one io hp
 have F3 := F2.goI G3 hf nI
 refine noE' (noE (AsL.name (C := C) (n := n) hy A s' ρ' env (.ref D) hA H3 F3 (.ref _ _ hD)) fun _ s3 ⟨ρ3, H4, G4, F4⟩ => ?_)
 have hLe : L ≠ env.locals := fun q => by
  have := F2.lt
  rw [← q] at this
  exact Nat.lt_irrefl _ (Nat.lt_of_lt_of_le this hLs)
 have hLs' : L < s'.heap.objs.size := hN.lt
 have hL3 : L ∉ ρ3 := G4.nin hL hLs'
 have hN3 : s3.heap.Ns L m := by
  obtain ⟨o, es, ep, ho, r⟩ := hN
  exact ⟨o, es, ep, G4.keep _ _ hL (by simpa using hLe) ho, r⟩
 refine ⟨m, hN3, fun h' hs' => ?_⟩
 obtain ⟨H5, G5⟩ := H4.other (L := L) s3.toks hL3 hL0 (ns_isFr hN3).notSeq hs'
 have hLf : L ∉ frW env := fun q => by
  have := (F2.fr L q).2.2.lt
  exact Nat.lt_irrefl _ (Nat.lt_of_lt_of_le this hLs)
 have F5 := F4.goI G5 hLf (fun a m => by simp at m; subst m; exact (ns_isFr hN3).notSeq)
 refine ⟨ρ3, H5, ?_, F5, .next⟩
 refine Go.weaken (W := I :: L :: frW env) ((((G2.nil (W := I :: L :: frW env)).trans (G3.weaken fun a m => .inl (by simp at m; subst m; simp))).trans (G4.weaken fun a m => .inl (by simp at m; subst m; simp))).trans (G5.weaken fun a m => .inl (by simp at m; subst m; simp))) fun a m => ?_
 rcases List.mem_cons.mp m with rfl | m
 ·exact .inr hge
 ·rcases List.mem_cons.mp m with rfl | m
  ·exact .inr (Nat.le_trans G2.size hLs)
  ·exact .inl m
end
end
section
noncomputable def SExt (st st' : Sto) : Prop := ∀ (i : Nat) o, st[i]? = some o → st'[i]? = some o
theorem SExt.refl (st : Sto) : SExt st st := fun _ _ e => e
theorem SExt.trans {a b c : Sto} (x : SExt a b) (y : SExt b c) : SExt a c := fun i o e => y i o (x i o e)
theorem SExt.app (a l : Sto) : SExt a (a ++ l) := fun i o e => ga e
theorem SExt.gt {a b : Sto} {i : Nat} {o : Ob} (x : SExt a b) (e : a[i]? = some o) : b[i]? = some o := x i o e
theorem SExt.len {a b : Sto} (x : SExt a b) : a.length ≤ b.length := by
 rcases Nat.lt_or_ge b.length a.length with h | h
 ·have := x b.length a[b.length] (by simp [h])
  have := (List.getElem?_eq_some_iff.mp this).1
  omega
 ·exact h
theorem SExt.setNew {a b : Sto} {j : Nat} {o : Ob} (x : SExt a b) (h : a.length ≤ j) : SExt a (b.set j o) := fun i o' e => by
 have := (List.getElem?_eq_some_iff.mp e).1
 rw [List.getElem?_set_ne (by omega)]; exact x i o' e
section
variable {C : Cx} {n : Nat} {φ φ' : Scope} {lo lo' lo1 lo2 lo3 : Loc} {st st0 st1 st2 st3 : Sto} {It : ItR} {k : Nat}
noncomputable def StepC (C : Cx) (n : Nat) (φ : Scope) (lo : Loc) (elt t : Expr) (ifs : List Expr) (S : Sto) (p : PV) (r : Option PV) : Prop :=
 ∃ lo1, AsL C n φ lo t p S lo1 S ∧ SubL lo lo1 ∧ match r with
  | none => ∃ S', SExt S S' ∧ TrL C n φ lo1 ifs S false S'
  | some q => ∃ S1 S2, SExt S S1 ∧ SExt S1 S2 ∧ TrL C n φ lo1 ifs S true S1 ∧ Ev C n φ lo1 elt S1 q S2
theorem StepC.some {elt t : Expr} {ifs : List Expr} {S S1 S2 : Sto} {p q : PV} (h1 : AsL C n φ lo t p S lo1 S) (h2 : SubL lo lo1) (h3 : TrL C n φ lo1 ifs S true S1) (h4 : Ev C n φ lo1 elt S1 q S2) (e1 : SExt S S1 := by exact SExt.refl _) (e2 : SExt S1 S2 := by exact SExt.refl _) :
  StepC C n φ lo elt t ifs S p (some q) := ⟨lo1, h1, h2, S1, S2, e1, e2, h3, h4⟩
theorem StepC.none {elt t : Expr} {ifs : List Expr} {S S1 : Sto} {p : PV} (h1 : AsL C n φ lo t p S lo1 S) (h2 : SubL lo lo1) (h3 : TrL C n φ lo1 ifs S false S1) (e1 : SExt S S1 := by exact SExt.refl _) :
  StepC C n φ lo elt t ifs S p none := ⟨lo1, h1, h2, S1, e1, h3⟩
theorem Co.all {elt t : Expr} {ifs : List Expr} {ps : List PV} {f : PV → Option PV} (hit : ∀ k S, SExt st0 S → It k S ps[k]?)
  (hf : ∀ p ∈ ps, ∀ S, SExt st0 S → StepC C n φ lo elt t ifs S p (f p)) (hz : ps.length ≤ 2 ^ 20) :
  ∀ (d k : Nat) (ys : List PV) (S : Sto), k + d = ps.length → ys.length ≤ k → SExt st0 S → S[st0.length]? = some (.list ys) →
   ∃ S', SExt st0 S' ∧ S'[st0.length]? = some (.list (ys ++ (ps.drop k).filterMap f)) ∧ Co C n φ lo elt t ifs st0.length It k S S'
 | 0, k, ys, S, hk, hl, hS, hj => by
  refine ⟨S, hS, by rw [hj, List.drop_eq_nil_of_le (by omega), List.filterMap_nil, List.append_nil], Co.done ?_⟩
  have := hit k S hS
  rwa [List.getElem?_eq_none (by omega)] at this
 | d + 1, k, ys, S, hk, hl, hS, hj => by
  have hlt : k < ps.length := by omega
  have hp : ps[k]? = some ps[k] := by simp [hlt]
  have hd : ps.drop k = ps[k] :: ps.drop (k + 1) := List.drop_eq_getElem_cons hlt
  have hI := hit k S hS
  rw [hp] at hI
  have hm : ps[k] ∈ ps := List.getElem_mem hlt
  rw [hd]
  generalize ps[k] = p at *
  obtain ⟨lo1, a1, a2, a3⟩ := hf p hm S hS
  cases hfp : f p with
  | none =>
   rw [hfp] at a3
   obtain ⟨S1, e1, t1⟩ := a3
   obtain ⟨S', b1, b2, b3⟩ := Co.all hit hf hz d (k + 1) ys S1 (by omega) (by omega) (hS.trans e1) (e1 _ _ hj)
   refine ⟨S', b1, ?_, Co.turn (b := false) hI a1 t1 (b3.pre a2.ok)⟩
   rw [b2, List.filterMap_cons, hfp]
  | some q =>
   rw [hfp] at a3
   obtain ⟨S1, S2, e1, e2, t1, v1⟩ := a3
   have hj2 : S2[st0.length]? = some (.list ys) := e2 _ _ (e1 _ _ hj)
   obtain ⟨S', b1, b2, b3⟩ := Co.all hit hf hz d (k + 1) (ys ++ [q]) (S2.set st0.length (.list (ys ++ [q]))) (by omega) (by simp; omega) (((hS.trans e1).trans e2).setNew (Nat.le_refl _)) (gs_self hj2)
   refine ⟨S', b1, ?_, Co.turn (b := true) hI a1 t1 ⟨q, S2, ys, v1, hj2, by omega, b3.pre a2.ok⟩⟩
   rw [b2, List.filterMap_cons, hfp]; simp
structure CompSide (C : Cx) (φ : Scope) (lo lo' : Loc) (iter : Expr) (scope : Scope) : Prop where
 hlo : CapL (compScope scope φ) lo lo'
 cap : capOk scope φ = true
 hk : scope.kind = .function
 hnames : ∀ y ∈ scope.names, y.2 = .local → scope.names.lookup y.1 = some .local
 hs : ∀ env x, foldedSetIterable iter env x = pure x
theorem Ev.comp {elt t iter : Expr} {ifs : List Expr} {scope : Scope} {pos : Pos} {ps : List PV} (f : PV → Option PV) (h1 : ItrE C n φ lo iter st It st2) (side : CompSide C φ lo lo' iter scope) (hit : ∀ k S, SExt st2 S → It k S ps[k]?)
  (hf : ∀ p ∈ ps, ∀ S, SExt st2 S → StepC C n (compScope scope φ) lo' elt t ifs S p (f p)) (hz : ps.length ≤ 2 ^ 20) :
  ∃ st3, SExt st2 st3 ∧ st3[st2.length]? = some (.list (ps.filterMap f)) ∧ Ev C n φ lo (.ListComp elt [⟨t, iter, ifs, 0⟩] scope pos) st (.ref st2.length) st3 := by
 obtain ⟨S, b1, b2, b3⟩ := Co.all (st0 := st2) hit hf hz ps.length 0 [] (st2 ++ [.list []]) (by omega) (Nat.le_refl _) (SExt.app _ _) gl
 exact ⟨S, b1, by simpa using b2, Ev.compJ h1 side.hlo b3 side.cap side.hk side.hnames side.hs⟩
theorem Ex1.comp {y : Str} {py spos : Pos} {elt t iter : Expr} {ifs : List Expr} {scope : Scope} {pos : Pos} {ps : List PV} (f : PV → Option PV) (h1 : ItrE C n φ lo iter st It st2) (side : CompSide C φ lo lo' iter scope) (hit : ∀ k S, SExt st2 S → It k S ps[k]?)
  (hf : ∀ p ∈ ps, ∀ S, SExt st2 S → StepC C n (compScope scope φ) lo' elt t ifs S p (f p)) (hz : ps.length ≤ 2 ^ 20) (hy : φ.names.lookup y = some .local)
  (hsw : ∀ env, env.scope = φ → swapsWith (.ListComp elt [⟨t, iter, ifs, 0⟩] scope pos) (some (.Name y py)) spos.line env = pure true) :
  ∃ st3, SExt st2 st3 ∧ st3[st2.length]? = some (.list (ps.filterMap f)) ∧ Ex1 C n φ lo (.Assign [.Name y py] (.ListComp elt [⟨t, iter, ifs, 0⟩] scope pos) spos) st .next ((y, .ref st2.length) :: lo) st3 := by
 obtain ⟨S, b1, b2, b3⟩ := Co.all (st0 := st2) hit hf hz ps.length 0 [] (st2 ++ [.list []]) (by omega) (Nat.le_refl _) (SExt.app _ _) gl
 exact ⟨S, b1, by simpa using b2, Ex1.asgComp h1 side.hlo b3 hy side.cap side.hk side.hnames hsw side.hs⟩
theorem listIt_ext {i : Nat} {xs : List PV} (h : st[i]? = some (.list xs)) : ∀ k S, SExt st S → ListIt i k S xs[k]? := fun k S e => ⟨xs, e _ _ h, rfl⟩
theorem rangeIt_ext {m : Nat} : ∀ k S, SExt st S → RangeIt 0 1 m k S ((List.range m).map fun (k : Nat) => PV.int (k : Int))[k]? := fun k S e => by
 unfold RangeIt
 by_cases h : k < m
 ·rw [if_pos h]; simp [h]
 ·rw [if_neg h]; simp [h]
end
end
section
section
variable {C : Cx} {n : Nat} {φ φ' : Scope} {lo lo' lo1 lo2 lo3 : Loc} {st st0 st1 st2 st3 : Sto} {k : Nat}
theorem O.adds {x y : Str} (hz : x.length + y.length ≤ sizeLine) : Op2 C n (binaryOp .Add) (.str x) (.str y) st (.str (x ++ y)) st := fun A s ρ a b hA H R R' => by
 (replace R := R.inv; obtain ⟨t, rfl⟩ := R)
 (replace R' := R'.inv; obtain ⟨u, rfl⟩ := R')
 refine P.add_str ?_
 have hl : (x ++ y).length = x.length + y.length := by
  show (x.cps ++ y.cps).size = x.cps.size + y.cps.size
  simp
 by_cases h1 : x.length = 0
 ·rw [if_pos (by simpa using h1)]
  have e : x ++ y = y := by
   show (⟨x.cps ++ y.cps⟩ : Str) = y
   have : x.cps = #[] := Array.eq_empty_of_size_eq_zero h1
   rw [this]; simp
  rw [e]; exact Post.here H (.str _ _)
 ·rw [if_neg (by simpa using h1)]
  by_cases h2 : y.length = 0
  ·rw [if_pos (by simpa using h2)]
   have e : x ++ y = x := by
    show (⟨x.cps ++ y.cps⟩ : Str) = x
    have : y.cps = #[] := Array.eq_empty_of_size_eq_zero h2
    rw [this]; simp
   rw [e]; exact Post.here H (.str _ _)
  ·rw [if_neg (by simpa using h2)]
   exact ⟨by rw [hl]; exact hz, Post.tok H (.str _ _)⟩
theorem O.getItem_str {x : Str} {i : Int} {c : Nat} (hr : (decide (i < -(2 ^ 63 : Int)) || decide (i ≥ 2 ^ 63)) = false) (hc : (seqIndex? i x.length).bind (x.cps[·]?) = some c) : Op2 C n PySem.getItem (.str x) (.int i) st (.str ⟨#[c]⟩) st := fun A s ρ a b hA H R R' => by
 (replace R := R.inv; obtain ⟨_, rfl⟩ := R); (replace R' := R'.inv; obtain ⟨_, rfl⟩ := R'); exact P.getItem_str hr hc (Post.tok H (.str _ _))
theorem O.sub_str {value slice : Expr} {x : Str} {i : Int} {c : Nat} (hr : (decide (i < -(2 ^ 63 : Int)) || decide (i ≥ 2 ^ 63)) = false) (hc : (seqIndex? i x.length).bind (x.cps[·]?) = some c)
  (hs : ∀ t u, subscripted slice false (.str x t) (.int i u) = operate [.str x t, .int i u] (PySem.getItem (.str x t) (.int i u)) := by intro _ _; with_unfolding_all rfl) :
  Op2 C n (subscriptTail value slice) (.str x) (.int i) st (.str ⟨#[c]⟩) st := fun A s ρ a b hA H R R' => by
 have h1 := O.getItem_str (C := C) (n := n) (st := st) hr hc A s ρ a b hA H R R'
 (replace R := R.inv; obtain ⟨t, rfl⟩ := R)
 (replace R' := R'.inv; obtain ⟨u, rfl⟩ := R')
 exact tail_any (typeIs_str _ _ _) F.slot_str_getitem.lookup h1 (hs _ _)
noncomputable def EvO (C : Cx) (n : Nat) (φ : Scope) (lo : Loc) (e : Option Expr) (st : Sto) (p : PV) (st' : Sto) : Prop := match e with
 | none => p = .none ∧ st' = st
 | some e => Ev C n φ lo e st p st'
theorem EvO.none : EvO C n φ lo none st .none st := ⟨rfl, rfl⟩
theorem EvO.some {e : Expr} {p : PV} (h : Ev C n φ lo e st p st1) : EvO C n φ lo (some e) st p st1 := h
theorem EvO.run {e : Option Expr} {p : PV} (h : EvO C n φ lo e st p st1) : ∀ A s ρ env, Lv n A → Hp C ρ st s → FrAt C φ lo ρ s.heap env → wpAny (model C.prog C.w) A (evalPart e env) (Post C ρ s st1 p) NoE s := fun A s ρ env hA H F => by
 cases e with
 | none => obtain ⟨rfl, rfl⟩ := h; exact wpAny_pure (Post.here H .none)
 | some e => exact h A s ρ env hA H F
inductive PartP : PV → Option Int → Prop
 | none : PartP .none none
 | int (i) : PartP (.int i) (some i)
theorem subSlice {M : Model} {A : Around} {E : Value → Shared → Prop} {s : Shared} {env : Env} {value : Expr} {lower upper : Option Expr} {p pos : Pos} {T id : String} {Q : Value → Shared → Prop} (hM : M = model C.prog C.w)
  (hl : typeLookup (.type T) "__getitem__" = pure (some (.builtin id)))
  (h : wpAny M A (eval value env) (fun o s₁ => wpAny M A (eval (.Slice lower upper none p) env) (fun i s₂ => s₂.TypeIs o T ∧ wpAny M A (getItem o i) Q E s₂) E s₁) E s) :
  wpAny M A (eval (.Subscript value (.Slice lower upper none p) pos) env) Q E s := by
 subst hM
 rw [eval_Subscript]
 refine wpAny_bind (wpAny_mono h (fun o s₁ h₁ => wpAny_bind (wpAny_holding (wpAny_mono h₁ (fun i s₂ h₂ => wpAny_bind (wpAny_standAt ?_)) fun _ _ x => x)))
  fun _ _ x => x)
 have fin : wpAny (model C.prog C.w) A (operate [i, o] (getItem o i)) (fun r s₃ => wpAny (model C.prog C.w) A (letTemporaryGo value o r >>= fun _ => pure r) Q E s₃) E s₂ :=
  wpAny_operating (wpAny_mono h₂.2 (fun r s₃ h₃ => wpAny_bind (wpAny_letTemporaryGo (wpAny_pure h₃))) fun _ _ x => x)
 first
  | (refine wpAny_bind ?_; rw [getitemInPython_of_ne h₂.1.not_modules]; refine wpAny_bind (wpAny_specialOf h₂.1 hl ?_); first | exact wpAny_pure (wpAny_bind fin) | exact wpAny_bind (wpAny_pure (wpAny_bind fin)) | exact wpAny_bind fin)
  | (refine wpAny_bind (wpAny_specialOf h₂.1 hl ?_); first | exact wpAny_bind (wpAny_pure (wpAny_bind fin)) | exact wpAny_bind fin)
theorem Ev.slice_str {value : Expr} {lower upper : Option Expr} {sp pos : Pos} {x : Str} {p q : PV} {l u : Option Int} (h1 : Ev C n φ lo value st (.str x) st1) (h2 : EvO C n φ lo lower st1 p st2) (h3 : EvO C n φ lo upper st2 q st3)
  (hp : PartP p l) (hq : PartP q u) (hz : x.length ≤ sizeLine) : Ev C n φ lo (.Subscript value (.Slice lower upper none sp) pos) st (.str (Txt.slice x l u)) st3 := fun A s ρ env hA H F =>
 subSlice rfl _root_.PySem.F.slot_str_getitem.lookup (noE (h1 A s ρ env hA H F) fun a s1 ⟨ρ1, H1, G1, R1⟩ => wpAny_Slice (noE (h2.run A s1 ρ1 env hA H1 (F.go0 G1)) fun b s2 ⟨ρ2, H2, G2, R2⟩ =>
  noE (h3.run A s2 ρ2 env hA H2 (F.go0 (G1.trans G2))) fun c s3 ⟨ρ3, H3, G3, R3⟩ => wpAny_pure (by
   (replace R1 := R1.inv; obtain ⟨t, rfl⟩ := R1)
   have R2' := R2.go0 G3
   refine ⟨typeIs_str _ _ _, ?_⟩
   have key : ∀ lt ut : Option (Int × Tok), b = partValue lt → c = partValue ut → lt.map (·.1) = l → ut.map (·.1) = u → wpAny (model C.prog C.w) A (getItem (.str x t) (.ref s3.heap.objs.size)) (Post C ρ s st3 (.str (Txt.slice x l u))) NoE
     { s3 with heap := s3.heap.push { cls := .type "slice", data := .fields #[b, c, .none] } } := by
    rintro lt ut rfl rfl rfl rfl
    refine wpAny_getItem_str_slice (l := lt) (u := ut) (st := none) ⟨_, Heap.get?_push_size _ rfl, rfl, rfl⟩ rfl ?_
    refine post_val_or_str ⟨Nat.le_trans (Txt.slice_le x _ _) hz, fun t' k => ?_⟩
    obtain ⟨H4, G4⟩ := H3.push { cls := .type "slice", data := .fields #[partValue lt, partValue ut, .none] } k
    exact ⟨ρ3, H4, ((G1.trans G2).trans G3).trans G4, .str _ _⟩
   cases hp with
   | none =>
    (replace R2' := R2'.inv; obtain ⟨_, rfl⟩ := R2')
    cases hq with
    | none => (replace R3 := R3.inv; obtain ⟨_, rfl⟩ := R3); exact key none none rfl rfl rfl rfl
    | int j => cases R3 with | int _ v => exact key none (some (j, v)) rfl rfl rfl rfl
   | int i =>
    (replace R2' := R2'.inv; obtain ⟨w, rfl⟩ := R2')
    cases hq with
    | none => (replace R3 := R3.inv; obtain ⟨_, rfl⟩ := R3); exact key (some (i, w)) none rfl rfl rfl rfl
    | int j => cases R3 with | int _ v => exact key (some (i, w)) (some (j, v)) rfl rfl rfl rfl)))
theorem Ev.slice_from {value e : Expr} {sp pos : Pos} {i k : Nat} {xs : List PV} (h1 : Ev C n φ lo value st (.ref i) st1) (h2 : Ev C n φ lo e st1 (.int (k : Int)) st2) (hi : st2[i]? = some (.list xs))
  (hz : xs.length ≤ 2 ^ 20) : Ev C n φ lo (.Subscript value (.Slice (some e) none none sp) pos) st (.ref st2.length) (st2 ++ [.list (xs.drop k)]) := fun A s ρ env hA H F =>
 subSlice rfl list_getitem_lookup (noE (h1 A s ρ env hA H F) fun a s1 ⟨ρ1, H1, G1, R1⟩ => wpAny_Slice (noE (h2 A s1 ρ1 env hA H1 (F.go0 G1)) fun b s2 ⟨ρ2, H2, G2, R2⟩ =>
  wpAny_pure (wpAny_pure (by
   have R1' := R1.go0 G2
   (replace R1' := R1'.inv; obtain ⟨l, rfl, hl⟩ := R1')
   (replace R2 := R2.inv; obtain ⟨t, rfl⟩ := R2)
   obtain ⟨ws, m, ho, rl, hL, hlen⟩ := isList_of H2 hl hi
   refine ⟨(hL.push _).typeIs, ?_⟩
   refine wpAny_getItem_list_slice (hL.push _) (Heap.IsSliceOf.new ..) (.int _ _) .none .none (by simp) ?_ (by simp [sizeLine_eq]; omega)
   rw [slicePick_from']
   obtain ⟨H3, G3⟩ := H2.push { cls := .type "slice", data := .fields #[.int (k : Int) t, .none, .none] } s2.toks
   exact newListJ (A := A) H3 ((G1.trans G2).trans G3) (by simpa using (rl.drop k).go0 G3) _))))
theorem Ev.slice_all {value : Expr} {sp pos : Pos} {i : Nat} {xs : List PV} (h1 : Ev C n φ lo value st (.ref i) st1) (hi : st1[i]? = some (.list xs))
  (hz : xs.length ≤ 2 ^ 20) : Ev C n φ lo (.Subscript value (.Slice none none none sp) pos) st (.ref st1.length) (st1 ++ [.list xs]) := fun A s ρ env hA H F =>
 subSlice rfl list_getitem_lookup (noE (h1 A s ρ env hA H F) fun a s1 ⟨ρ1, H1, G1, R1⟩ => wpAny_Slice (wpAny_pure (wpAny_pure (wpAny_pure (by
   (replace R1 := R1.inv; obtain ⟨l, rfl, hl⟩ := R1)
   obtain ⟨ws, m, ho, rl, hL, hlen⟩ := isList_of H1 hl hi
   refine ⟨(hL.push _).typeIs, ?_⟩
   refine wpAny_getItem_list_slice (hL.push _) (Heap.IsSliceOf.new ..) .none .none .none (by simp) ?_ (by simp [sizeLine_eq]; omega)
   rw [slicePick_all]
   obtain ⟨H3, G3⟩ := H1.push { cls := .type "slice", data := .fields #[.none, .none, .none] } s1.toks
   exact newListJ (A := A) H3 (G1.trans G3) (rl.go0 G3) _)))))
theorem C.lower {x : Str} (hf : Builtin.Str.tooLong (Txt.lower x).length = false) : Cl C n (.builtin "str.lower") [.str x] st (.str (Txt.lower x)) st := fun A s ρ vs hA H R => by
 (replace R := R.inv; obtain ⟨v, _, rfl, R1, R2⟩ := R)
 (replace R2 := R2.inv; obtain ⟨_, rfl⟩ := R2)
 (replace R1 := R1.inv; obtain ⟨t, rfl⟩ := R1)
 exact call_gives F.slot_str_lower (typeIs_str _ _ _) F.entry_str_lower (F.args_str_lower_1 _) (gives_str_lower x t hf) ⟨fit_le hf, Post.tok H (.str _ _)⟩
theorem C.upper {x : Str} (hf : Builtin.Str.tooLong (Txt.upper x).length = false) : Cl C n (.builtin "str.upper") [.str x] st (.str (Txt.upper x)) st := fun A s ρ vs hA H R => by
 (replace R := R.inv; obtain ⟨v, _, rfl, R1, R2⟩ := R)
 (replace R2 := R2.inv; obtain ⟨_, rfl⟩ := R2)
 (replace R1 := R1.inv; obtain ⟨t, rfl⟩ := R1)
 exact call_gives F.slot_str_upper (typeIs_str _ _ _) F.entry_str_upper (F.args_str_upper_1 _) (gives_str_upper x t hf) ⟨fit_le hf, Post.tok H (.str _ _)⟩
theorem C.index {x y : Str} {i : Nat} {rest : List Nat} (h : Builtin.Str.occurrences x y 0 x.length 1 = i :: rest) : Cl C n (.builtin "str.index") [.str x, .str y] st (.int (i : Int)) st := fun A s ρ vs hA H R => by
 (replace R := R.inv; obtain ⟨v, _, rfl, R1, R2⟩ := R)
 (replace R2 := R2.inv; obtain ⟨u, _, rfl, R2, R3⟩ := R2)
 (replace R3 := R3.inv; first | obtain rfl := R3 | obtain ⟨_, rfl⟩ := R3)
 (replace R1 := R1.inv; obtain ⟨t, rfl⟩ := R1)
 (replace R2 := R2.inv; obtain ⟨t', rfl⟩ := R2)
 exact call_gives F.slot_str_index (typeIs_str _ _ _) F.entry_str_index (F.args_str_index_2 _ _) (gives_str_index x y t t' i rest h) (Post.tok H (.int _ _))
theorem C.len_str {x : Str} (hz : x.length < 2 ^ 62) : Cl C n (.builtin "len") [.str x] st (.int (x.length : Int)) st := fun A s ρ vs hA H R => by
 (replace R := R.inv; obtain ⟨v, _, rfl, R1, R2⟩ := R)
 (replace R2 := R2.inv; obtain ⟨_, rfl⟩ := R2)
 (replace R1 := R1.inv; obtain ⟨t, rfl⟩ := R1)
 exact P.len_str (by omega) (Post.tok H (.int _ _))
theorem repl_strs' {ρ : List Addr} {h : Heap} : ∀ {xs : List Str} {vs : List Value}, RepL h ρ (xs.map .str) vs → ∃ l : List (Str × Tok), vs = strValues l ∧ l.map (·.1) = xs
 | [], _, .nil => ⟨[], rfl, rfl⟩
 | x :: xs, _, .cons _ v _ vs R1 R2 => by
  (replace R1 := R1.inv; obtain ⟨t, rfl⟩ := R1)
  obtain ⟨l, rfl, rfl⟩ := repl_strs' R2
  exact ⟨(x, t) :: l, rfl, rfl⟩
theorem repl_strsFrom {ρ : List Addr} {h : Heap} : ∀ (t : Nat) (l : List Str), RepL h ρ (l.map .str) (strsFrom t l)
 | _, [] => .nil
 | t, x :: l => .cons _ _ _ _ (.str _ _) (repl_strsFrom (t + 1) l)
theorem C.split {x : Str} (hx : x.length ≤ 2 ^ 20) (hn : (Builtin.Str.spaceWords x (x.length + 1)).length ≤ 2 ^ 20) : Cl C n (.builtin "str.split") [.str x] st (.ref st.length) (st ++ [.list ((_root_.PySem.wordsOf x).map .str)]) := fun A s ρ vs hA H R => by
 (replace R := R.inv; obtain ⟨v, _, rfl, R1, R2⟩ := R)
 (replace R2 := R2.inv; obtain ⟨_, rfl⟩ := R2)
 (replace R1 := R1.inv; obtain ⟨t, rfl⟩ := R1)
 refine call_meets F.slot_str_split (typeIs_str _ _ _) F.entry_str_split (F.args_str_split_1 _) (meets_str_split_space x t (by rw [sizeLine_eq]; omega) (by rw [sizeLine_eq]; omega)) ?_
 by_cases hc : (Builtin.Str.spaceWords x (x.length + 1) == [(0, x.length)]) = true
 ·rw [if_pos hc]
  have e : _root_.PySem.wordsOf x = [x] := by
   unfold _root_.PySem.wordsOf
   rw [show Builtin.Str.spaceWords x (x.length + 1) = [(0, x.length)] by simpa using hc]
   show [Builtin.Str.strSub x 0 x.length] = [x]
   congr 1
   show (⟨x.cps.extract 0 x.cps.size⟩ : Str) = x
   simp
  rw [e]
  exact newListJ (A := A) H (Go.refl _ _ _) (.one (.str x t)) s.toks
 ·rw [if_neg hc]
  exact newListJ (A := A) H (Go.refl _ _ _) (repl_strsFrom s.toks (_root_.PySem.wordsOf x)) _
theorem C.join {sep : Str} {i : Nat} {l : List Str} (hi : st[i]? = some (.list (l.map .str))) (hl : Builtin.Str.tooLong (l.toArray.foldl (· + ·.length + sep.length) 0) = false) (hz : (Builtin.Str.glued sep l).length ≤ sizeLine) :
  Cl C n (.builtin "str.join") [.str sep, .ref i] st (.str (Builtin.Str.glued sep l)) st := fun A s ρ vs hA H R => by
 (replace R := R.inv; obtain ⟨v, _, rfl, R1, R2⟩ := R)
 (replace R2 := R2.inv; obtain ⟨u, _, rfl, R2, R3⟩ := R2)
 (replace R3 := R3.inv; first | obtain rfl := R3 | obtain ⟨_, rfl⟩ := R3)
 (replace R1 := R1.inv; obtain ⟨t, rfl⟩ := R1)
 (replace R2 := R2.inv; obtain ⟨a, rfl, ha⟩ := R2)
 obtain ⟨ws, m, ho, rl, hL, hlen⟩ := isList_of H ha hi
 obtain ⟨l', rfl, rfl⟩ := repl_strs' rl
 refine call_meets F.slot_str_join (typeIs_str _ _ _) F.entry_str_join (F.args_str_join_2 _ _) (meets_str_join_list sep t a l' hl) ⟨hL, ?_⟩
 have gen : (Made.str (Builtin.Str.glued sep (l'.map (·.1)))).post (Post C ρ s st (.str (Builtin.Str.glued sep (l'.map (·.1))))) s := ⟨hz, Post.tok H (.str _ _)⟩
 cases l' with
 | nil => exact gen
 | cons p r =>
  cases r with
  | nil => exact Post.here (ρ := ρ) H (.str p.1 p.2)
  | cons b r => exact gen
end
end
section
noncomputable def lexLt : List Int → List Int → Bool
 | [], [] => false
 | [], _ :: _ => true
 | _ :: _, [] => false
 | a :: as, b :: bs => if a == b then lexLt as bs else decide (a < b)
noncomputable def strLt (x y : Str) : Bool := decide (x.cps.toList < y.cps.toList)
noncomputable def tupLt (a : Int) (x : Str) (b : Int) (y : Str) : Bool := if a == b then (if x == y then false else strLt x y) else decide (a < b)
theorem intsAt : ∀ {vs : List Value} {ns : List Int}, IntsAre vs ns → ∀ i : Nat, (∃ a t, vs[i]? = some (.int a t) ∧ ns[i]? = some a) ∨ (vs[i]? = none ∧ ns[i]? = none)
 | _, _, .nil, i => .inr ⟨rfl, rfl⟩
 | _, _, .cons n t h, 0 => .inl ⟨n, t, rfl, rfl⟩
 | _, _, .cons n t h, i + 1 => intsAt h i
theorem lexLt_drop {xs ys : List Int} {i : Nat} : lexLt (xs.drop i) (ys.drop i) = match xs[i]?, ys[i]? with
  | none, none => false
  | none, some _ => true
  | some _, none => false
  | some a, some b => if a == b then lexLt (xs.drop (i + 1)) (ys.drop (i + 1)) else decide (a < b) := by
 have key : ∀ zs : List Int, (zs[i]? = none ∧ zs.drop i = []) ∨ ∃ a, zs[i]? = some a ∧ zs.drop i = a :: zs.drop (i + 1) := fun zs => by
  rcases Nat.lt_or_ge i zs.length with h | h
  ·exact .inr ⟨zs[i], by simp [h], List.drop_eq_getElem_cons h⟩
  ·exact .inl ⟨List.getElem?_eq_none h, List.drop_eq_nil_of_le h⟩
 rcases key xs with ⟨e1, e2⟩ | ⟨a, e1, e2⟩ <;> rcases key ys with ⟨f1, f2⟩ | ⟨b, f1, f2⟩ <;> rw [e1, e2, f1, f2] <;> simp only [lexLt]
end
section
open PySem.SeqAt
open AutoSeq1 (wpAny_loadPart')
open MeetsSeq MeetsSeq2 MeetsSeq3 SeqRoads2
theorem lt_loop (l b : Addr) (items items2 : Array Value) (n n2 : Nat) (dd dd2 : Option Addr) (sl sl2 : Array (Option Value)) (xs ys : List Int) (hx : PyProof.Rows.IntsAre items.toList xs) (hy : PyProof.Rows.IntsAre items2.toList ys) (k : Nat) :
  ∀ i : Nat, items.size - i = k → i ≤ items.size → i ≤ items2.size → Meets (Builtin.«list.__eq__.loop» ⟨[.ref l, .ref b, rawInt i, rawInt 0], []⟩)
   (fun A R s => s.heap.get? l = some { cls := .type "list", dict := dd, data := .seq items n, slots := sl } ∧ s.heap.get? b = some { cls := .type "list", dict := dd2, data := .seq items2 n2, slots := sl2 } ∧
    R (.ok (.ret (.bool (Mine.lexLt (xs.drop i) (ys.drop i))))) s) := by
 induction k with
 | zero =>
  intro i hk hi1' hi2' prog w A R s h
  obtain ⟨hp, g, d, tk, os⟩ := s; obtain ⟨hl, hb, h⟩ := h
  wp_walk using wpAny_loadPart' hl, wpAny_loadPart' hb
  have hi1 : items[((i : Nat) : Int).toNat]? = none := by simp; omega
  rw [hi1]
  wp_walk using wpAny_loadPart' hl, wpAny_loadPart' hb
  have hxl := hx.length
  have hyl := hy.length
  simp only [Array.length_toList] at hxl hyl
  have e1 : xs[i]? = none := by simp; omega
  rw [Mine.lexLt_drop, e1] at h
  show R (.ok (.ret (.bool (decide (items.size < items2.size))))) _
  cases e2 : ys[i]? with
  | none =>
   rw [e2] at h
   have : ¬ (items.size < items2.size) := by
    have := List.getElem?_eq_none_iff.mp e2
    omega
   simpa [this] using h
  | some b =>
   rw [e2] at h
   have : items.size < items2.size := by
    have := (List.getElem?_eq_some_iff.mp e2).1
    omega
   simpa [this] using h
 | succ k ih =>
  intro i hk hi1' hi2' prog w A R s h
  obtain ⟨hp, g, d, tk, os⟩ := s; obtain ⟨hl, hb, h⟩ := h
  wp_walk using wpAny_loadPart' hl, wpAny_loadPart' hb
  have hxl := hx.length
  have hyl := hy.length
  simp only [Array.length_toList] at hxl hyl
  have hlt : i < items.size := by omega
  obtain ⟨a, t, ea, fa⟩ : ∃ a t, items.toList[i]? = some (.int a t) ∧ xs[i]? = some a := by
   rcases Mine.intsAt hx i with h | h
   ·exact h
   ·have := List.getElem?_eq_none_iff.mp h.1
    simp at this; omega
  have hi1 : items[((i : Nat) : Int).toNat]? = some (.int a t) := by simpa using ea
  have hc : ((i : Int) + 1) = ((i + 1 : Nat) : Int) := by push_cast; rfl
  rw [Mine.lexLt_drop, fa] at h
  rcases Mine.intsAt hy i with ⟨b', u, eb, fb⟩ | ⟨eb, fb⟩
  ·have hi2 : items2[((i : Nat) : Int).toNat]? = some (.int b' u) := by simpa using eb
   rw [fb] at h
   rw [hi1, hi2]
   refine wpAny_bind ((EqGives.int a b' t u).at A.in1 _ prog w _ _ ?_)
   cases hb' : a == b' with
   | true =>
    simp only [hb', if_true] at h
    wp_walk
    rw [hc]
    exact ⟨plainId_quiet plain_eq_loop _, codeAny_builtin entry_eq_loop (by
     rw [Around.under_plainId plain_eq_loop _]
     exact ih (i + 1) (by omega) (by omega) (by have := (List.getElem?_eq_some_iff.mp fb).1; omega) prog w A R _ ⟨hl, hb, h⟩)⟩
   | false =>
    simp only [hb', Bool.false_eq_true, if_false] at h
    wp_walk using wpAny_loadPart' hl, wpAny_loadPart' hb
    rw [hi1, hi2]
    refine wpAny_bind (m := richCompare .Lt (.int a t) (.int b' u)) (P.lt_int (wpAny_pure h))
  ·have hi2 : items2[((i : Nat) : Int).toNat]? = none := by simpa using eb
   rw [fb] at h
   rw [hi1, hi2]
   wp_walk using wpAny_loadPart' hl, wpAny_loadPart' hb
   show R (.ok (.ret (.bool (decide (items.size < items2.size))))) _
   have : ¬ (items.size < items2.size) := by
    have := List.getElem?_eq_none_iff.mp fb
    omega
   simpa [this] using h
theorem list_ltAt (l b : Addr) (items items2 : Array Value) (n n2 : Nat) (dd dd2 : Option Addr) (sl sl2 : Array (Option Value)) (xs ys : List Int) (hx : PyProof.Rows.IntsAre items.toList xs) (hy : PyProof.Rows.IntsAre items2.toList ys) :
  Meets (Builtin.«list.__lt__» ⟨[.ref l, .ref b], []⟩)
   (fun A R s => s.heap.get? l = some { cls := .type "list", dict := dd, data := .seq items n, slots := sl } ∧ s.heap.get? b = some { cls := .type "list", dict := dd2, data := .seq items2 n2, slots := sl2 } ∧
    R (.ok (.ret (.bool (Mine.lexLt xs ys)))) s) := by
 intro prog w A R s h
 obtain ⟨hp, g, d, tk, os⟩ := s; obtain ⟨hl, hb, h⟩ := h
 have f3 := AutoSeq1.sub_list_list
 wp_walk using wpAny_loadPart' hl, wpAny_loadPart' hb
 exact ⟨plainId_quiet plain_eq_loop _, codeAny_builtin entry_eq_loop (by
  rw [Around.under_plainId plain_eq_loop _]
  exact lt_loop l b items items2 n n2 dd dd2 sl sl2 xs ys hx hy _ 0 rfl (by omega) (by omega) prog w A R _ ⟨hl, hb, by simpa using h⟩)⟩
theorem tuple_ltAt (l b : Addr) (a1 b1 : Int) (x y : Str) (t1 t2 u1 u2 : Tok) (n n2 : Nat) (dd dd2 : Option Addr) (sl sl2 : Array (Option Value)) :
  Meets (Builtin.«tuple.__lt__» ⟨[.ref l, .ref b], []⟩)
   (fun A R s => s.heap.get? l = some { cls := .type "tuple", dict := dd, data := .seq #[.int a1 t1, .str x u1] n, slots := sl } ∧ s.heap.get? b = some { cls := .type "tuple", dict := dd2, data := .seq #[.int b1 t2, .str y u2] n2, slots := sl2 } ∧
    R (.ok (.ret (.bool (Mine.tupLt a1 x b1 y)))) s) :=
 .of_wp fun prog w A R s h => by
  obtain ⟨hp, g, d, tk, os⟩ := s; obtain ⟨hl, hb, h⟩ := h
  have f2 := AutoSeq1.sub_tuple_tuple
  unfold Mine.tupLt at h
  wp_walk using wpAny_loadPart' hl, wpAny_loadPart' hb
  refine (EqGives.int a1 b1 t1 t2).at A.in1 _ prog w _ _ ?_
  cases hab : a1 == b1 with
  | false =>
   simp only [hab, Bool.false_eq_true, if_false] at h
   show wpAny (model prog w) A.in1 (rule _ >>= fun _ => richCompare .Lt (.int a1 t1) (.int b1 t2) >>= fun v => PySem.ret v >>= fun r => pure (ForInStep.done (some r, ()))) _ _ _
   refine wpAny_bind (wpAny_rule (wpAny_bind (m := richCompare .Lt (.int a1 t1) (.int b1 t2)) (P.lt_int ?_)))
   wp_walk
   exact ⟨_, rfl, h⟩
  | true =>
   simp only [hab, if_true] at h
   refine wpAny_pure ?_
   refine wpAny_bind (wpAny_bind (m := eqBool (.str x u1) (.str y u2)) ((EqAt.str_str x u1 y u2) prog w _ _ ?_))
   cases hxy : x == y with
   | true =>
    simp only [hxy, if_true] at h
    refine wpAny_pure ?_
    exact wpAny_pure (wpAny_pure ⟨_, rfl, h⟩)
   | false =>
    simp only [hxy, Bool.false_eq_true, if_false] at h
    show wpAny (model prog w) A.in1 (rule _ >>= fun _ => richCompare .Lt (.str x u1) (.str y u2) >>= fun v => PySem.ret v >>= fun r => pure (ForInStep.done (some r, ()))) _ _ _
    refine wpAny_bind (wpAny_rule (wpAny_bind (m := richCompare .Lt (.str x u1) (.str y u2)) (P.lt_str ?_)))
    wp_walk
    exact ⟨_, rfl, h⟩
end
section
section
variable {C : Cx} {n : Nat} {φ φ' : Scope} {lo lo' lo1 lo2 lo3 : Loc} {st st0 st1 st2 st3 : Sto} {k : Nat}
theorem repl_ints {ρ : List Addr} {h : Heap} : ∀ {xs : List Int} {vs : List Value}, RepL h ρ (xs.map .int) vs → IntsAre vs xs
 | [], _, .nil => .nil
 | x :: xs, _, .cons _ v _ vs R1 R2 => by
  (replace R1 := R1.inv; obtain ⟨t, rfl⟩ := R1)
  exact .cons _ _ (repl_ints R2)
theorem O.lt_tup {a b : Int} {x y : Str} : Op2 C n (compareOp .Lt) (.tup [.int a, .str x]) (.tup [.int b, .str y]) st (.bool (tupLt a x b y)) st := fun A s ρ u v hA H R R' => by
 (replace R := R.inv; obtain ⟨l, vs, rfl, nl, ho, rl⟩ := R)
 (replace R' := R'.inv; obtain ⟨l', ws, rfl, nl', ho', rl'⟩ := R')
 (replace rl := rl.inv; obtain ⟨v1, _, rfl, r1, r2⟩ := rl)
 (replace r2 := r2.inv; obtain ⟨v2, _, rfl, r2, r3⟩ := r2)
 (replace r3 := r3.inv; first | obtain rfl := r3 | obtain ⟨_, rfl⟩ := r3)
 (replace r1 := r1.inv; obtain ⟨t1, rfl⟩ := r1)
 (replace r2 := r2.inv; obtain ⟨u1, rfl⟩ := r2)
 (replace rl' := rl'.inv; obtain ⟨w1, _, rfl, r1, r2⟩ := rl')
 (replace r2 := r2.inv; obtain ⟨w2, _, rfl, r2, r3⟩ := r2)
 (replace r3 := r3.inv; first | obtain rfl := r3 | obtain ⟨_, rfl⟩ := r3)
 (replace r1 := r1.inv; obtain ⟨t2, rfl⟩ := r1)
 (replace r2 := r2.inv; obtain ⟨u2, rfl⟩ := r2)
 exact richCompare_meets_room (op := .Lt) ⟨_, ho, rfl⟩ ⟨_, ho', rfl⟩ F.slot_tuple_lt F.entry_tuple_lt (F.args_tuple_lt_2 _ _) (_root_.Mine.tuple_ltAt l l' a b x y t1 t2 u1 u2 0 0 none none #[] #[])
  ⟨ho, ho', show Value.bool _ ≠ Value.notImplemented ∧ Post C ρ s st _ _ s from ⟨(fun x => nomatch x), Post.here H (.bool _)⟩⟩ hA.units
theorem O.lt_list {i j : Nat} {xs ys : List Int} (hi : st[i]? = some (.list (xs.map .int))) (hj : st[j]? = some (.list (ys.map .int))) : Op2 C n (compareOp .Lt) (.ref i) (.ref j) st (.bool (lexLt xs ys)) st := fun A s ρ u v hA H R R' => by
 (replace R := R.inv; obtain ⟨l, rfl, hl⟩ := R)
 (replace R' := R'.inv; obtain ⟨l', rfl, hl'⟩ := R')
 obtain ⟨vs, m, ho, rl, hL, hlen⟩ := isList_of H hl hi
 obtain ⟨ws, m', ho', rl', hL', hlen'⟩ := isList_of H hl' hj
 exact richCompare_meets_room (op := .Lt) ⟨_, ho, rfl⟩ ⟨_, ho', rfl⟩ F.slot_list_lt F.entry_list_lt (F.args_list_lt_2 _ _) (_root_.Mine.list_ltAt l l' vs.toArray ws.toArray m m' none none #[] #[] xs ys (by simpa using repl_ints rl) (by simpa using repl_ints rl'))
  ⟨ho, ho', show Value.bool _ ≠ Value.notImplemented ∧ Post C ρ s st _ _ s from ⟨(fun x => nomatch x), Post.here H (.bool _)⟩⟩ hA.units
noncomputable def EqP (C : Cx) (n : Nat) (st : Sto) (p q : PV) (b : Bool) : Prop := ∀ A s ρ x y, Lv n A → Hp C ρ st s → Rep s.heap ρ p x → Rep s.heap ρ q y → SeqAt.EqAt A.in1 s x y b
theorem cLine_in1 {A : Around} (hA : Lv n A) : A.in1.units < cLine := by have := hA.2.2; show A.units + 1 < 9900; omega
theorem EqP.int {a b : Int} : EqP C n st (.int a) (.int b) (a == b) := fun A s ρ x y hA H R R' => by
 (replace R := R.inv; first | obtain rfl := R | obtain ⟨_, rfl⟩ := R); (replace R' := R'.inv; first | obtain rfl := R' | obtain ⟨_, rfl⟩ := R'); exact SeqAt.EqAt.int_int _ _ _ _
theorem EqP.str {a b : Str} : EqP C n st (.str a) (.str b) (a == b) := fun A s ρ x y hA H R R' => by
 (replace R := R.inv; first | obtain rfl := R | obtain ⟨_, rfl⟩ := R); (replace R' := R'.inv; first | obtain rfl := R' | obtain ⟨_, rfl⟩ := R'); exact SeqAt.EqAt.str_str _ _ _ _
theorem EqP.bool {a b : Bool} : EqP C n st (.bool a) (.bool b) (a == b) := fun A s ρ x y hA H R R' => by
 (replace R := R.inv; first | obtain rfl := R | obtain ⟨_, rfl⟩ := R); (replace R' := R'.inv; first | obtain rfl := R' | obtain ⟨_, rfl⟩ := R'); exact SeqAt.EqAt.bool_bool _ _
theorem EqP.tup {a b : Int} {x y : Str} : EqP C n st (.tup [.int a, .str x]) (.tup [.int b, .str y]) (a == b && x == y) := fun A s ρ u v hA H R R' => by
 (replace R := R.inv; obtain ⟨l, vs, rfl, nl, ho, rl⟩ := R)
 (replace R' := R'.inv; obtain ⟨l', ws, rfl, nl', ho', rl'⟩ := R')
 (replace rl := rl.inv; obtain ⟨v1, _, rfl, r1, r2⟩ := rl)
 (replace r2 := r2.inv; obtain ⟨v2, _, rfl, r2, r3⟩ := r2)
 (replace r3 := r3.inv; first | obtain rfl := r3 | obtain ⟨_, rfl⟩ := r3)
 (replace r1 := r1.inv; obtain ⟨t1, rfl⟩ := r1)
 (replace r2 := r2.inv; obtain ⟨u1, rfl⟩ := r2)
 (replace rl' := rl'.inv; obtain ⟨w1, _, rfl, r1, r2⟩ := rl')
 (replace r2 := r2.inv; obtain ⟨w2, _, rfl, r2, r3⟩ := r2)
 (replace r3 := r3.inv; first | obtain rfl := r3 | obtain ⟨_, rfl⟩ := r3)
 (replace r1 := r1.inv; obtain ⟨t2, rfl⟩ := r1)
 (replace r2 := r2.inv; obtain ⟨u2, rfl⟩ := r2)
 by_cases e : l = l'
 ·subst e
  rw [ho] at ho'
  have : [Value.int a t1, .str x u1].toArray = [Value.int b t2, .str y u2].toArray := by
   simp only [Option.some.injEq, Obj.mk.injEq, Data.seq.injEq] at ho'
   exact ho'.2.2.1.1
  have this := congrArg Array.toList this
  simp only [List.cons.injEq, Value.int.injEq, Value.str.injEq] at this
  obtain ⟨⟨rfl, rfl⟩, ⟨rfl, rfl⟩, _⟩ := this
  simpa using SeqAt.EqAt.same (A := A.in1) (s := s) (.ref l)
 ·have := SeqAt.RcAt.tuples (A := A.in1) (s := s) (l := l) (b := l') (items := #[.int a t1, .str x u1]) (items2 := #[.int b t2, .str y u2]) (e := fun j => if j = 0 then a == b else x == y) ⟨_, ho, rfl, 0, rfl⟩ ⟨_, ho', rfl, 0, rfl⟩ (cLine_in1 hA) (fun j h1 h2 => by
   match j, h1 with
   | 0, _ => exact SeqAt.EqAt.int_int _ _ _ _
   | 1, _ => exact SeqAt.EqAt.str_str _ _ _ _)
  have e2 : ((List.range (min (#[Value.int a t1, .str x u1]).size (#[Value.int b t2, .str y u2]).size)).all (fun j => if j = 0 then a == b else x == y) && (#[Value.int a t1, .str x u1]).size == (#[Value.int b t2, .str y u2]).size) = (a == b && x == y) := by
   show ((List.range 2).all _ && true) = _
   simp [List.range_succ]
  rw [e2] at this
  exact SeqAt.EqAt.of_refs e this
theorem O.ne_nil {i j : Nat} {xs : List PV} (hi : st[i]? = some (.list xs)) (hj : st[j]? = some (.list [])) : Op2 C n (compareOp .NotEq) (.ref i) (.ref j) st (.bool (!xs.isEmpty)) st := fun A s ρ u v hA H R R' => by
 (replace R := R.inv; obtain ⟨l, rfl, hl⟩ := R)
 (replace R' := R'.inv; obtain ⟨l', rfl, hl'⟩ := R')
 obtain ⟨vs, m, ho, rl, hL, hlen⟩ := isList_of H hl hi
 obtain ⟨ws, m', ho', rl', hL', hlen'⟩ := isList_of H hl' hj
 have hw : ws = [] := List.eq_nil_of_length_eq_zero hlen'
 subst hw
 cases xs with
 | nil =>
  have hv : vs = [] := List.eq_nil_of_length_eq_zero hlen
  subst hv
  exact SeqAt.RcNeAt.lists (e := fun _ => true) hL hL' rfl hA.units (fun j h1 h2 => absurd h1 (by simp)) _ _ _ _ (Post.here H (.bool _))
 | cons x xs =>
  exact SeqAt.RcNeAt.lists_lengths hL hL' (by simp [hlen]) hA.units _ _ _ _ (Post.here H (.bool _))
theorem O.ne_same {i j : Nat} {xs ys : List PV} (hi : st[i]? = some (.list xs)) (hj : st[j]? = some (.list ys)) (hl : xs.length = ys.length) (he : ∀ (k : Nat) p q, xs[k]? = some p → ys[k]? = some q → EqP C n st p q true) :
  Op2 C n (compareOp .NotEq) (.ref i) (.ref j) st (.bool false) st := fun A s ρ u v hA H R R' => by
 (replace R := R.inv; obtain ⟨l, rfl, hl⟩ := R)
 (replace R' := R'.inv; obtain ⟨l', rfl, hl'⟩ := R')
 obtain ⟨vs, m, ho, rl, hL, hlen⟩ := isList_of H hl hi
 obtain ⟨ws, m', ho', rl', hL', hlen'⟩ := isList_of H hl' hj
 have := SeqAt.RcNeAt.lists (A := A) (s := s) (e := fun _ => true) hL hL' (by simp [hlen, hlen', *]) hA.units (fun k h1 h2 => by
  obtain ⟨p, hp, rp⟩ := rl.get' (i := k) (v := vs.toArray[k]) (by simp)
  obtain ⟨q, hq, rq⟩ := rl'.get' (i := k) (v := ws.toArray[k]) (by simp)
  exact he k p q hp hq A s ρ _ _ hA H rp rq)
 have e2 : (!(List.range vs.toArray.size).all fun _ => true) = false := by simp
 rw [e2] at this
 exact this _ _ _ _ (Post.here H (.bool _))
theorem ints_any {vs : List Value} {ns : List Int} (h : IntsAre vs ns) (a : Int) : (vs.toArray.any fun v => match v with | .int b _ => b == a | _ => false) = ns.contains a := by
 induction h with
 | nil => simp
 | cons n t h ih =>
  rw [show ∀ (v : Value) (l : List Value), (v :: l).toArray.any (fun v => match v with | .int b _ => b == a | _ => false) = ((match v with | .int b _ => b == a | _ => false) || l.toArray.any fun v => match v with | .int b _ => b == a | _ => false) by intro v l; simp, ih]
  simp only [List.contains_cons]
  rw [show (n == a) = (a == n) from Bool.beq_comm ..]
theorem ints_mem {vs : List Value} {ns : List Int} (h : IntsAre vs ns) : ∀ y ∈ vs.toArray, ∃ b t, y = .int b t := by
 intro y hy
 have hy : y ∈ vs := by simpa using hy
 induction h with
 | nil => cases hy
 | cons n t h ih =>
  rcases List.mem_cons.mp hy with rfl | q
  ·exact ⟨_, _, rfl⟩
  ·exact ih (by simpa using q) q
theorem O.in_ints {i : Nat} {a : Int} {xs : List Int} (hi : st[i]? = some (.list (xs.map .int))) : Op2 C n (compareOp .In) (.int a) (.ref i) st (.bool (xs.contains a)) st := fun A s ρ u v hA H R R' => by
 (replace R := R.inv; obtain ⟨t, rfl⟩ := R)
 (replace R' := R'.inv; obtain ⟨l, rfl, hl⟩ := R')
 obtain ⟨vs, m, ho, rl, hL, hlen⟩ := isList_of H hl hi
 have hI := repl_ints rl
 refine SeqAt.in_listAt (fun v => match v with | .int b _ => b == a | _ => false) hL (fun y hy => ?_) ?_
 ·obtain ⟨b, u, rfl⟩ := ints_mem hI y hy
  exact SeqAt.EqAt.int_int _ _ _ _
 ·rw [ints_any hI]; exact Post.here H (.bool _)
theorem O.notIn_ints {i : Nat} {a : Int} {xs : List Int} (hi : st[i]? = some (.list (xs.map .int))) : Op2 C n (compareOp .NotIn) (.int a) (.ref i) st (.bool (!xs.contains a)) st := fun A s ρ u v hA H R R' => by
 (replace R := R.inv; obtain ⟨t, rfl⟩ := R)
 (replace R' := R'.inv; obtain ⟨l, rfl, hl⟩ := R')
 obtain ⟨vs, m, ho, rl, hL, hlen⟩ := isList_of H hl hi
 have hI := repl_ints rl
 refine SeqAt.notIn_listAt (fun v => match v with | .int b _ => b == a | _ => false) hL (fun y hy => ?_) ?_
 ·obtain ⟨b, u, rfl⟩ := ints_mem hI y hy
  exact SeqAt.EqAt.int_int _ _ _ _
 ·rw [ints_any hI]; exact Post.here H (.bool _)
theorem O.add_list {i j : Nat} {xs ys : List PV} (hi : st[i]? = some (.list xs)) (hj : st[j]? = some (.list ys)) (hz : xs.length + ys.length ≤ 2 ^ 20) : Op2 C n (binaryOp .Add) (.ref i) (.ref j) st (.ref st.length) (st ++ [.list (xs ++ ys)]) := fun A s ρ u v hA H R R' => by
 (replace R := R.inv; obtain ⟨l, rfl, hl⟩ := R)
 (replace R' := R'.inv; obtain ⟨l', rfl, hl'⟩ := R')
 obtain ⟨vs, m, ho, rl, hL, hlen⟩ := isList_of H hl hi
 obtain ⟨ws, m', ho', rl', hL', hlen'⟩ := isList_of H hl' hj
 refine P.add_list ho ho' ?_ (by simp [sizeLine_eq]; omega)
 have e : vs.toArray ++ ws.toArray = (vs ++ ws).toArray := by simp
 rw [e]
 exact newListJ (A := A) H (Go.refl _ _ _) (rl.append rl') s.toks
theorem map_eraseIdx' {α β : Type} (f : α → β) : ∀ (l : List α) (k : Nat), (l.map f).eraseIdx k = (l.eraseIdx k).map f
 | [], k => rfl
 | x :: l, 0 => rfl
 | x :: l, k + 1 => by simp [map_eraseIdx' f l k]
theorem C.remove {i k : Nat} {a : Int} {xs : List Int} (hi : st[i]? = some (.list (xs.map .int))) (hz : xs.length ≤ 2 ^ 20) (hk : xs[k]? = some a) (hno : ∀ m < k, xs[m]? ≠ some a) :
  Cl C n (.builtin "list.remove") [.ref i, .int a] st .none (st.set i (.list ((xs.eraseIdx k).map .int))) := fun A s ρ vs hA H R => by
 (replace R := R.inv; obtain ⟨v, _, rfl, R1, R2⟩ := R)
 (replace R2 := R2.inv; obtain ⟨u, _, rfl, R2, R3⟩ := R2)
 (replace R3 := R3.inv; first | obtain rfl := R3 | obtain ⟨_, rfl⟩ := R3)
 (replace R1 := R1.inv; obtain ⟨l, rfl, hl⟩ := R1)
 (replace R2 := R2.inv; obtain ⟨t, rfl⟩ := R2)
 obtain ⟨ws, m, ho, rl, hL, hlen⟩ := isList_of H hl hi
 have hI := repl_ints rl
 have hkl := (List.getElem?_eq_some_iff.mp hk).1
 have hwl := hI.length
 have at_ : ∀ j (h : j < ws.toArray.size), ∃ b u, ws.toArray[j] = .int b u ∧ xs[j]? = some b := fun j h => by
  rcases intsAt hI j with ⟨b, u, e1, e2⟩ | ⟨e1, _⟩
  ·refine ⟨b, u, ?_, e2⟩
   have h' : j < ws.length := by simpa using h
   rw [List.getElem?_eq_getElem h'] at e1
   simpa using e1
  ·have := List.getElem?_eq_none_iff.mp e1
   simp at h; omega
 have hj : k < ws.toArray.size := by simp; omega
 refine call_meets F.slot_list_remove ⟨_, ho, rfl⟩ F.entry_list_remove (F.args_list_remove_2 _ _) (MeetsSeq.list_remove l ws.toArray m (.int a t) (fun v => match v with | .int b _ => b == a | _ => false) (fun y hy => ?_) k hj ?_ ?_ (by simp [sizeLine_eq]; omega)) ⟨ho, ?_⟩
 ·obtain ⟨b, u, rfl⟩ := ints_mem hI y hy
  exact MeetsSeq.EqGives.int _ _ _ _
 ·obtain ⟨b, u, e1, e2⟩ := at_ k hj
  rw [e1]
  rw [hk] at e2; cases e2
  simp
 ·intro j hjl hjk
  obtain ⟨b, u, e1, e2⟩ := at_ j hjl
  rw [e1]
  have := hno j hjk
  rw [e2] at this
  simpa using this
 ·have R' : RepL s.heap ρ ((xs.eraseIdx k).map .int) (ws.eraseIdx k) := by
   have := rl.eraseIdx k
   rwa [show (xs.map PV.int).eraseIdx k = (xs.eraseIdx k).map .int from map_eraseIdx' _ _ _] at this
  obtain ⟨H', G'⟩ := updList (t := s.toks) (f := fun x => x.eraseIdxIfInBounds k) (ws := ws.eraseIdx k) H hl ho (by
   have : k < ws.length := by simpa using hj
   simp [Array.eraseIdxIfInBounds, this]) R'
  exact ⟨ρ, H', G', .none⟩
end
end
section
section
variable {C : Cx} {n : Nat} {φ φ' : Scope} {lo lo' lo1 lo2 lo3 : Loc} {st st0 st1 st2 st3 : Sto} {k : Nat}
theorem postGrow {A : Around} {M : Model} {t : Sem Value} {s : Shared} {ρ : List Addr} {p : PV} (H : Hp C ρ st s)
  (h : wpAny M A t (fun v s' => ∃ h' tk, s' = { s with heap := h', toks := tk } ∧ (∀ b o, s.heap.get? b = some o → h'.get? b = some o) ∧ Rep h' ρ p v) NoE s) : wpAny M A t (Post C ρ s st p) NoE s :=
 wpAny_size (wpAny_mono h (fun v s' ⟨h', tk, e, hk, r⟩ hz => by
  subst e
  obtain ⟨H', G'⟩ := H.grow (t' := tk) hk hz
  exact ⟨ρ, H', G', r⟩) fun _ _ x => x.elim)
theorem C.min2 {a b : Int} : Cl C n (.builtin "min") [.int a, .int b] st (.int (min a b)) st := fun A s ρ vs hA H R => by
 (replace R := R.inv; obtain ⟨v, _, rfl, R1, R2⟩ := R)
 (replace R2 := R2.inv; obtain ⟨u, _, rfl, R2, R3⟩ := R2)
 (replace R3 := R3.inv; first | obtain rfl := R3 | obtain ⟨_, rfl⟩ := R3)
 (replace R1 := R1.inv; obtain ⟨t, rfl⟩ := R1)
 (replace R2 := R2.inv; obtain ⟨u, rfl⟩ := R2)
 refine postGrow H (min_two_ints hA.1 fun h' tk hk => ⟨h', tk, rfl, hk, ?_⟩)
 by_cases c : b < a
 ·simp only [if_pos c]
  rw [show min a b = b by omega]; exact .int _ _
 ·simp only [if_neg c]
  rw [show min a b = a by omega]; exact .int _ _
theorem C.min_list {i : Nat} {xs : List Int} {M : Int} (hi : st[i]? = some (.list (xs.map .int))) (hM : M ∈ xs) (hle : ∀ x ∈ xs, M ≤ x) : Cl C n (.builtin "min") [.ref i] st (.int M) st := fun A s ρ vs hA H R => by
 (replace R := R.inv; obtain ⟨v, _, rfl, R1, R2⟩ := R)
 (replace R2 := R2.inv; first | obtain rfl := R2 | obtain ⟨_, rfl⟩ := R2)
 (replace R1 := R1.inv; obtain ⟨a, rfl, ha⟩ := R1)
 obtain ⟨ws, m, ho, rl, hL, hlen⟩ := isList_of H ha hi
 have hI := repl_ints rl
 obtain ⟨ys, e⟩ := hI.allInts.items
 have hns : xs = ys.toList.map (·.1) := by rw [← hI.numsOf, ← nums_intItems, ← e]
 have hsz : 0 < ys.size := by
  have h3 := List.length_pos_of_mem hM
  rw [hns, List.length_map, Array.length_toList] at h3; exact h3
 rw [e] at hL
 refine postGrow H (min_intList hA.1 hL hsz fun v h' tk hv hk => ⟨h', tk, rfl, hk, ?_⟩)
 obtain ⟨t, rfl⟩ := intItems_at hv
 obtain ⟨h1, h2⟩ := argBest_lt (numAt ys) (ys.size - 1)
 have e2 : numAt ys (argBest (fun j i => decide (numAt ys j < numAt ys i)) (ys.size - 1)) = M := by
  apply Int.le_antisymm
  ·rw [hns] at hM
   obtain ⟨j, hj, hj2⟩ := mem_getD hM
   rw [List.length_map, Array.length_toList] at hj
   rw [← numAt_eq] at hj2
   rw [← hj2]; exact h2 j (by omega)
  ·apply hle
   rw [hns, numAt_eq]; exact getD_mem (by rw [List.length_map, Array.length_toList]; omega)
 rw [e2]
 exact .int _ _
theorem C.max_list {i : Nat} {xs : List Int} {M : Int} (hi : st[i]? = some (.list (xs.map .int))) (hM : M ∈ xs) (hle : ∀ x ∈ xs, x ≤ M) : Cl C n (.builtin "max") [.ref i] st (.int M) st := fun A s ρ vs hA H R => by
 (replace R := R.inv; obtain ⟨v, _, rfl, R1, R2⟩ := R)
 (replace R2 := R2.inv; first | obtain rfl := R2 | obtain ⟨_, rfl⟩ := R2)
 (replace R1 := R1.inv; obtain ⟨a, rfl, ha⟩ := R1)
 obtain ⟨ws, m, ho, rl, hL, hlen⟩ := isList_of H ha hi
 have hI := repl_ints rl
 obtain ⟨ys, e⟩ := hI.allInts.items
 have hns : xs = ys.toList.map (·.1) := by rw [← hI.numsOf, ← nums_intItems, ← e]
 have hsz : 0 < ys.size := by
  have h3 := List.length_pos_of_mem hM
  rw [hns, List.length_map, Array.length_toList] at h3; exact h3
 rw [e] at hL
 refine postGrow H (max_intList hA.1 hL hsz fun v h' tk hv hk => ⟨h', tk, rfl, hk, ?_⟩)
 obtain ⟨t, rfl⟩ := intItems_at hv
 obtain ⟨h1, h2⟩ := argBest_gt (numAt ys) (ys.size - 1)
 have e2 : numAt ys (argBest (fun j i => decide (numAt ys j > numAt ys i)) (ys.size - 1)) = M := by
  apply Int.le_antisymm
  ·apply hle
   rw [hns, numAt_eq]; exact getD_mem (by rw [List.length_map, Array.length_toList]; omega)
  ·rw [hns] at hM
   obtain ⟨j, hj, hj2⟩ := mem_getD hM
   rw [List.length_map, Array.length_toList] at hj
   rw [← numAt_eq] at hj2
   rw [← hj2]; exact h2 j (by omega)
 rw [e2]
 exact .int _ _
theorem C.sum_list {i : Nat} {xs : List Int} (hi : st[i]? = some (.list (xs.map .int))) : Cl C n (.builtin "sum") [.ref i] st (.int xs.sum) st := fun A s ρ vs hA H R => by
 (replace R := R.inv; obtain ⟨v, _, rfl, R1, R2⟩ := R)
 (replace R2 := R2.inv; first | obtain rfl := R2 | obtain ⟨_, rfl⟩ := R2)
 (replace R1 := R1.inv; obtain ⟨a, rfl, ha⟩ := R1)
 obtain ⟨ws, m, ho, rl, hL, hlen⟩ := isList_of H ha hi
 have hI := repl_ints rl
 obtain ⟨ys, e⟩ := hI.allInts.items
 have hns : xs = ys.toList.map (·.1) := by rw [← hI.numsOf, ← nums_intItems, ← e]
 rw [e] at hL
 refine postGrow H (sum_intListG hA.1 hL fun h' tk t' hk => ⟨h', tk, rfl, hk, ?_⟩)
 rw [preSum_eq, List.take_of_length_le (by simp), ← hns]
 exact .int _ _
theorem Ev.dict0 {pos : Pos} : Ev C n φ lo (.Dict [] [] pos) st (.ref st.length) (st ++ [.dict []]) := fun A s ρ env hA H F =>
 wpAny_Dict_empty (by
  obtain ⟨H', G'⟩ := H.alloc (o := { cls := .type "dict", data := .dict #[] }) (ob := .dict []) s.toks (fun h' G e => ⟨[], by
   obtain ⟨o, es, ep, ho, r⟩ := Heap.DictOf.new (knd := strKind C.prog C.w) s.heap
   rw [Heap.get?_push_size _ rfl] at ho; cases ho
   exact ⟨_, es, ep, e, r⟩, rfl, .nil⟩)
  exact ⟨_, H', G', .ref _ _ (by rw [← H.len]; simp)⟩)
theorem isStr_of {x : Str} {t : Tok} : (strKind C.prog C.w).is x (.str x t) = true := by
 show Value.isStrOf x (.str x t) = true
 unfold Value.isStrOf
 simp [Value.isStr]
theorem keys_len {m : List (Str × PV)} {kvs : List (Str × Value)} (h : kvs.map (·.1) = m.map (·.1)) : kvs.length = m.length := by simpa using congrArg List.length h
theorem O.setDict {i : Nat} {m : List (Str × PV)} {x : Str} {p : PV} (hi : st[i]? = some (.dict m)) (hx : x ∉ m.map (·.1)) (hz : m.length ≤ 2 ^ 20) : Op3 C n (.ref i) (.str x) p st (st.set i (.dict (m ++ [(x, p)]))) := fun A s ρ a b c hA H R R' R'' => by
 (replace R := R.inv; obtain ⟨a, rfl, ha⟩ := R)
 (replace R' := R'.inv; obtain ⟨t, rfl⟩ := R')
 obtain ⟨d, hd, kvs, hm, hk, rl⟩ := H.idx' hi
 rw [ha] at hd; cases hd
 have hl := keys_len hk
 refine wpAny_setItem_pairs (knd := strKind C.prog C.w) (k := x) isStr_of hm (fun h' hm' hs' => ?_) (by rw [hl, sizeLine_eq]; omega)
 have hst : stored kvs x c = kvs ++ [(x, c)] := by
  unfold stored
  rw [if_neg]
  intro h
  rw [List.any_eq_true] at h
  obtain ⟨kv, h1, h2⟩ := h
  apply hx
  rw [← hk]
  exact List.mem_map.mpr ⟨kv, h1, by simpa using h2⟩
 rw [hst] at hm'
 obtain ⟨H', G'⟩ := H.upd (ob := .dict (m ++ [(x, p)])) (s.toks + 1) ha hs' fun G => ⟨kvs ++ [(x, c)], hm', by simp [hk], by
  simp only [List.map_append, List.map_cons, List.map_nil]
  exact (rl.append (.one R'')).go0 G⟩
 exact ⟨ρ, H', G'⟩
theorem lkp_kvs {h : Heap} {ρ : List Addr} : ∀ {m : List (Str × PV)} {kvs : List (Str × Value)}, kvs.map (·.1) = m.map (·.1) → RepL h ρ (m.map (·.2)) (kvs.map (·.2)) → ∀ {x : Str} {p : PV}, m.lookup x = some p → ∃ v, valueAt kvs x = some v ∧ Rep h ρ p v
 | [], kvs, hk, rl, x, p, e => by simp at e
 | (y, q) :: m, [], hk, rl, x, p, e => by simp at hk
 | (y, q) :: m, (z, u) :: kvs, hk, rl, x, p, e => by
  simp only [List.map_cons, List.cons.injEq] at hk
  obtain ⟨rfl, hk⟩ := hk
  cases rl with | cons _ _ _ _ r1 r2 => ?_
  rw [List.lookup_cons] at e
  unfold valueAt
  by_cases hb : x = z
  ·subst hb
   simp at e; subst e
   exact ⟨u, by simp, r1⟩
  ·rw [show (x == z) = false by simpa using hb] at e
   obtain ⟨v, e1, e2⟩ := lkp_kvs hk r2 e
   refine ⟨v, ?_, e2⟩
   unfold valueAt at e1
   rw [List.find?_cons_of_neg (by simpa using fun q => hb q.symm)]
   exact e1
theorem O.getDict {i : Nat} {m : List (Str × PV)} {x : Str} {p : PV} (hi : st[i]? = some (.dict m)) (hx : m.lookup x = some p) : Op2 C n PySem.getItem (.ref i) (.str x) st p st := fun A s ρ a b hA H R R' => by
 (replace R := R.inv; obtain ⟨a, rfl, ha⟩ := R)
 (replace R' := R'.inv; obtain ⟨t, rfl⟩ := R')
 obtain ⟨d, hd, kvs, hm, hk, rl⟩ := H.idx' hi
 rw [ha] at hd; cases hd
 obtain ⟨v, hv, rv⟩ := lkp_kvs hk rl hx
 exact wpAny_getItem_of (knd := strKind C.prog C.w) (k := x) isStr_of hm.mapOf hv (Post.tok H rv)
theorem O.sub_dict {value slice : Expr} {i : Nat} {m : List (Str × PV)} {x : Str} {p : PV} (hi : st[i]? = some (.dict m)) (hx : m.lookup x = some p)
  (hs : ∀ a u, subscripted slice false (.ref a) (.str x u) = operate [.ref a, .str x u] (PySem.getItem (.ref a) (.str x u)) := by intro _ _; with_unfolding_all rfl) :
  Op2 C n (subscriptTail value slice) (.ref i) (.str x) st p st := fun A s ρ a b hA H R R' => by
 have h1 := O.getDict (C := C) (n := n) hi hx A s ρ a b hA H R R'
 (replace R := R.inv; obtain ⟨a, rfl, ha⟩ := R)
 (replace R' := R'.inv; obtain ⟨t, rfl⟩ := R')
 obtain ⟨d, hd, kvs, hm, hk, rl⟩ := H.idx' hi
 rw [ha] at hd; cases hd
 exact tail_any hm.typeIs slot_dict_getitem.lookup h1 (hs _ _)
end
end
section
section
variable {C : Cx} {n : Nat} {φ : Scope} {lo : Loc} {st st1 st2 st3 : Sto}
theorem Ev.meth_lower {o : Expr} {apos pos : Pos} {args : List Expr} {p r : PV} {ps : List PV} (h1 : Ev C n φ lo o st p st1) (hT : TyP C st1 p "str") (h2 : EvL C n φ lo args st1 ps st2)
  (h3 : Cl C n (.builtin "str.lower") (p :: ps) st2 r st3)
  (hbase : ∀ env, attributeBase o "lower" env (eval o env) = eval o env)
  (hfew : ∀ env, ((backTo pos (starEach args env)).all (fun x => !x.1) && (backToKw pos (keywordEach [] env)).all (fun x => x.1.isSome)
   && decide (args.length + ([] : List Keyword).length + (if ([] : List Keyword).isEmpty then 0 else 1) < 30)) = true)
  (hline : (apos.endLine == pos.line) = true)
  (hp : ∀ env, (backTo pos (starEach args env)).any (·.1) = false) : Ev C n φ lo (.Call (.Attribute o "lower" apos) args [] pos) st r st3 :=
 Ev.meth h1 hT h2 h3 F.plainAttrs_str F.slot_str_lower F.type_str_lower hbase hfew hline hp
theorem Ev.meth_upper {o : Expr} {apos pos : Pos} {args : List Expr} {p r : PV} {ps : List PV} (h1 : Ev C n φ lo o st p st1) (hT : TyP C st1 p "str") (h2 : EvL C n φ lo args st1 ps st2)
  (h3 : Cl C n (.builtin "str.upper") (p :: ps) st2 r st3)
  (hbase : ∀ env, attributeBase o "upper" env (eval o env) = eval o env)
  (hfew : ∀ env, ((backTo pos (starEach args env)).all (fun x => !x.1) && (backToKw pos (keywordEach [] env)).all (fun x => x.1.isSome)
   && decide (args.length + ([] : List Keyword).length + (if ([] : List Keyword).isEmpty then 0 else 1) < 30)) = true)
  (hline : (apos.endLine == pos.line) = true)
  (hp : ∀ env, (backTo pos (starEach args env)).any (·.1) = false) : Ev C n φ lo (.Call (.Attribute o "upper" apos) args [] pos) st r st3 :=
 Ev.meth h1 hT h2 h3 F.plainAttrs_str F.slot_str_upper F.type_str_upper hbase hfew hline hp
theorem Ev.meth_split {o : Expr} {apos pos : Pos} {args : List Expr} {p r : PV} {ps : List PV} (h1 : Ev C n φ lo o st p st1) (hT : TyP C st1 p "str") (h2 : EvL C n φ lo args st1 ps st2)
  (h3 : Cl C n (.builtin "str.split") (p :: ps) st2 r st3)
  (hbase : ∀ env, attributeBase o "split" env (eval o env) = eval o env)
  (hfew : ∀ env, ((backTo pos (starEach args env)).all (fun x => !x.1) && (backToKw pos (keywordEach [] env)).all (fun x => x.1.isSome)
   && decide (args.length + ([] : List Keyword).length + (if ([] : List Keyword).isEmpty then 0 else 1) < 30)) = true)
  (hline : (apos.endLine == pos.line) = true)
  (hp : ∀ env, (backTo pos (starEach args env)).any (·.1) = false) : Ev C n φ lo (.Call (.Attribute o "split" apos) args [] pos) st r st3 :=
 Ev.meth h1 hT h2 h3 F.plainAttrs_str F.slot_str_split F.type_str_split hbase hfew hline hp
theorem Ev.meth_join {o : Expr} {apos pos : Pos} {args : List Expr} {p r : PV} {ps : List PV} (h1 : Ev C n φ lo o st p st1) (hT : TyP C st1 p "str") (h2 : EvL C n φ lo args st1 ps st2)
  (h3 : Cl C n (.builtin "str.join") (p :: ps) st2 r st3)
  (hbase : ∀ env, attributeBase o "join" env (eval o env) = eval o env)
  (hfew : ∀ env, ((backTo pos (starEach args env)).all (fun x => !x.1) && (backToKw pos (keywordEach [] env)).all (fun x => x.1.isSome)
   && decide (args.length + ([] : List Keyword).length + (if ([] : List Keyword).isEmpty then 0 else 1) < 30)) = true)
  (hline : (apos.endLine == pos.line) = true)
  (hp : ∀ env, (backTo pos (starEach args env)).any (·.1) = false) : Ev C n φ lo (.Call (.Attribute o "join" apos) args [] pos) st r st3 :=
 Ev.meth h1 hT h2 h3 F.plainAttrs_str F.slot_str_join F.type_str_join hbase hfew hline hp
theorem Ev.meth_index {o : Expr} {apos pos : Pos} {args : List Expr} {p r : PV} {ps : List PV} (h1 : Ev C n φ lo o st p st1) (hT : TyP C st1 p "str") (h2 : EvL C n φ lo args st1 ps st2)
  (h3 : Cl C n (.builtin "str.index") (p :: ps) st2 r st3)
  (hbase : ∀ env, attributeBase o "index" env (eval o env) = eval o env)
  (hfew : ∀ env, ((backTo pos (starEach args env)).all (fun x => !x.1) && (backToKw pos (keywordEach [] env)).all (fun x => x.1.isSome)
   && decide (args.length + ([] : List Keyword).length + (if ([] : List Keyword).isEmpty then 0 else 1) < 30)) = true)
  (hline : (apos.endLine == pos.line) = true)
  (hp : ∀ env, (backTo pos (starEach args env)).any (·.1) = false) : Ev C n φ lo (.Call (.Attribute o "index" apos) args [] pos) st r st3 :=
 Ev.meth h1 hT h2 h3 F.plainAttrs_str F.slot_str_index F.type_str_index hbase hfew hline hp
theorem Ev.meth_remove {o : Expr} {apos pos : Pos} {args : List Expr} {p r : PV} {ps : List PV} (h1 : Ev C n φ lo o st p st1) (hT : TyP C st1 p "list") (h2 : EvL C n φ lo args st1 ps st2)
  (h3 : Cl C n (.builtin "list.remove") (p :: ps) st2 r st3)
  (hbase : ∀ env, attributeBase o "remove" env (eval o env) = eval o env)
  (hfew : ∀ env, ((backTo pos (starEach args env)).all (fun x => !x.1) && (backToKw pos (keywordEach [] env)).all (fun x => x.1.isSome)
   && decide (args.length + ([] : List Keyword).length + (if ([] : List Keyword).isEmpty then 0 else 1) < 30)) = true)
  (hline : (apos.endLine == pos.line) = true)
  (hp : ∀ env, (backTo pos (starEach args env)).any (·.1) = false) : Ev C n φ lo (.Call (.Attribute o "remove" apos) args [] pos) st r st3 :=
 Ev.meth h1 hT h2 h3 F.plainAttrs_list F.slot_list_remove F.type_list_remove hbase hfew hline hp
theorem Ev.if_t {t b o : Expr} {pos} {p : PV} (h : Tr C n φ lo t st true st1) (h2 : Ev C n φ lo b st1 p st2) : Ev C n φ lo (.IfExp t b o pos) st p st2 := Ev.ifexp h h2
theorem Ev.if_f {t b o : Expr} {pos} {p : PV} (h : Tr C n φ lo t st false st1) (h2 : Ev C n φ lo o st1 p st2) : Ev C n φ lo (.IfExp t b o pos) st p st2 := Ev.ifexp h h2
theorem Ex1.if_t {t : Expr} {b o : List Stmt} {pos : Pos} {f : Fl} {lo1 : Loc} (h : Tr C n φ lo t st true st1) (h2 : Ex C n φ lo b st1 f lo1 st2) : Ex1 C n φ lo (.If t b o pos) st f lo1 st2 := Ex1.ite (c := true) h h2
theorem Ex1.if_f {t : Expr} {b o : List Stmt} {pos : Pos} {f : Fl} {lo1 : Loc} (h : Tr C n φ lo t st false st1) (h2 : Ex C n φ lo o st1 f lo1 st2) : Ex1 C n φ lo (.If t b o pos) st f lo1 st2 := Ex1.ite (c := false) h h2
end
end
section
noncomputable def sideP (x y : Str) : Int := if x == y then 0 else if Txt.lower x == Txt.lower y then 1 else 2
theorem sp_side {C : Cx} (px : Px C) {n : Nat} {x y : Str} {st : Sto} (hx : Builtin.Str.tooLong (Txt.lower x).length = false) (hy : Builtin.Str.tooLong (Txt.lower y).length = false) :
  Cl C (n + 1) (.ref 236) [.str x, .str y] st (.int (sideP x y)) st := by
 have hlx : Cl C n (.builtin "str.lower") [.str x] st (.str (Txt.lower x)) st := _root_.Mine.C.lower hx
 have hly : Cl C n (.builtin "str.lower") [.str y] st (.str (Txt.lower y)) st := _root_.Mine.C.lower hy
 have e1 : Op2 C n (compareOp .Eq) (.str x) (.str y) st (.bool (x == y)) st := O.eqs
 have e2 : Op2 C n (compareOp .Eq) (.str (Txt.lower x)) (.str (Txt.lower y)) st (.bool (Txt.lower x == Txt.lower y)) st := O.eqs
 have h : ∃ lo', Ex C n (scopeOf (stAt 20)) [("one", .str x), ("other", .str y)] (bodyOf (stAt 20)) st (.ret (.int (sideP x y))) lo' st := by
  cases h1 : x == y with
  | true =>
   rw [show sideP x y = 0 by unfold sideP; rw [h1]; rfl]
   rw [h1] at e1
   apply Exists.intro
   apply Ex.stop
   ·apply Ex1.if_t
    ·walk_at "tr"
    ·apply Ex.stop
     ·walk_at "st"
     ·intro h; cases h
   ·intro h; cases h
  | false =>
   rw [h1] at e1
   cases h2 : Txt.lower x == Txt.lower y with
   | true =>
    rw [show sideP x y = 1 by unfold sideP; rw [h1, h2]; rfl]
    rw [h2] at e2
    apply Exists.intro
    apply Ex.cons
    ·apply Ex1.if_f
     ·walk_at "tr"
     ·exact Ex.nil
    apply Ex.stop
    ·apply Ex1.ret
     apply Ev.if_t
     ·walk_at "tr"
     ·walk_at "ev"
    ·intro h; cases h
   | false =>
    rw [show sideP x y = 2 by unfold sideP; rw [h1, h2]; rfl]
    rw [h2] at e2
    apply Exists.intro
    apply Ex.cons
    ·apply Ex1.if_f
     ·walk_at "tr"
     ·exact Ex.nil
    apply Ex.stop
    ·apply Ex1.ret
     apply Ev.if_f
     ·walk_at "tr"
     ·walk_at "ev"
    ·intro h; cases h
 obtain ⟨lo', h⟩ := h
 refine Cl.fn (names := ["one", "other"]) (body := bodyOf (stAt 20)) (px.K 236 _ rfl) rfl rfl rfl (codeRec_of px.K rfl) rfl rfl ?_ ?_ ?_ h rfl ?_
 ·intro vs hv
  obtain ⟨v1, v2, rfl⟩ := len2 hv
  rfl
 ·decide
 ·decide +kernel
 ·decide
theorem sp_sub {C : Cx} (px : Px C) {n : Nat} {x y : Str} {st : Sto} (hx : Builtin.Str.tooLong (Txt.lower x).length = false) (hy : Builtin.Str.tooLong (Txt.lower y).length = false) :
  Cl C (n + 1) (.ref 80) [.str x, .str y] st (.int (sideP x y)) st := by
 have hlx : Cl C n (.builtin "str.lower") [.str x] st (.str (Txt.lower x)) st := _root_.Mine.C.lower hx
 have hly : Cl C n (.builtin "str.lower") [.str y] st (.str (Txt.lower y)) st := _root_.Mine.C.lower hy
 have e1 : Op2 C n (compareOp .Eq) (.str x) (.str y) st (.bool (x == y)) st := O.eqs
 have e2 : Op2 C n (compareOp .Eq) (.str (Txt.lower x)) (.str (Txt.lower y)) st (.bool (Txt.lower x == Txt.lower y)) st := O.eqs
 have h : ∃ lo', Ex C n (scopeOf (stAt 12)) [("ch_a", .str x), ("ch_b", .str y)] (bodyOf (stAt 12)) st (.ret (.int (sideP x y))) lo' st := by
  cases h1 : x == y with
  | true =>
   rw [show sideP x y = 0 by unfold sideP; rw [h1]; rfl]
   rw [h1] at e1
   apply Exists.intro
   apply Ex.stop
   ·apply Ex1.if_t
    ·walk_at "tr"
    ·apply Ex.stop
     ·walk_at "st"
     ·intro h; cases h
   ·intro h; cases h
  | false =>
   rw [h1] at e1
   cases h2 : Txt.lower x == Txt.lower y with
   | true =>
    rw [show sideP x y = 1 by unfold sideP; rw [h1, h2]; rfl]
    rw [h2] at e2
    apply Exists.intro
    apply Ex.cons
    ·apply Ex1.if_f
     ·walk_at "tr"
     ·exact Ex.nil
    apply Ex.stop
    ·apply Ex1.if_t
     ·walk_at "tr"
     ·apply Ex.stop
      ·walk_at "st"
      ·intro h; cases h
    ·intro h; cases h
   | false =>
    rw [show sideP x y = 2 by unfold sideP; rw [h1, h2]; rfl]
    rw [h2] at e2
    apply Exists.intro
    apply Ex.cons
    ·apply Ex1.if_f
     ·walk_at "tr"
     ·exact Ex.nil
    apply Ex.cons
    ·apply Ex1.if_f
     ·walk_at "tr"
     ·exact Ex.nil
    apply Ex.stop
    ·walk_at "st"
    ·intro h; cases h
 obtain ⟨lo', h⟩ := h
 refine Cl.fn (names := ["ch_a", "ch_b"]) (body := bodyOf (stAt 12)) (px.K 80 _ rfl) rfl rfl rfl (codeRec_of px.K rfl) rfl rfl ?_ ?_ ?_ h rfl ?_
 ·intro vs hv
  obtain ⟨v1, v2, rfl⟩ := len2 hv
  rfl
 ·decide
 ·decide +kernel
 ·decide
end
section
section
variable {C : Cx} {n : Nat} {φ φ' : Scope} {lo lo' lo1 lo2 lo3 : Loc} {st st0 st1 st2 st3 : Sto} {k : Nat}
theorem Ex1.swap {t : List Expr} {c} {tpos pos : Pos} {value : Expr} {x y : Str} {p q : PV} (h1 : Ev C n φ lo value st (.tup [p, q]) st1) (hx : φ.names.lookup x = some .local) (hy : φ.names.lookup y = some .local)
  (hw : ∀ env : Env, env.scope = φ → swappedStores [.Tuple t c tpos] value env = pure (some [x, y]))
  (hs : ∀ env : Env, swapsWithSole [.Tuple t c tpos] value pos.line env = pure false := by intro _; rfl) :
  Ex1 C n φ lo (.Assign [.Tuple t c tpos] value pos) st .next ((x, p) :: (y, q) :: lo) st1 := fun A s ρ env hA H F => by
 refine Assign_Tuple_swapped (names := [x, y]) (noE (h1 A s ρ env hA H F) fun v s1 ⟨ρ1, H1, G1, R1⟩ => ?_) (hs env) (hw env F.scope)
 (replace R1 := R1.inv; obtain ⟨a, vs, rfl, hn, ho, rl⟩ := R1)
 have hl := rl.length
 have ht : IsTup s1.heap a vs.toArray := ⟨_, ho, rfl, 0, rfl⟩
 have h2 : [x, y].length = vs.toArray.size := by simp [hl]
 rw [h2]
 refine wpAny_size (unpackItems_tuple hA.1 ht fun h' he hz => ?_)
 have hk : ∀ b o, s1.heap.get? b = some o → h'.get? b = some o := fun b o e => he b o (Nat.ne_of_lt (Heap.lt_size e)) e
 obtain ⟨H2, G2⟩ := H1.grow (t' := s1.toks) hk hz
 have F2 := (F.go0 G1).go0 G2
 have rl2 := rl.go0 G2
 (replace rl2 := rl2.inv; obtain ⟨v1, _, rfl, r1, r2⟩ := rl2)
 (replace r2 := r2.inv; obtain ⟨v2, _, rfl, r2, r3⟩ := r2)
 (replace r3 := r3.inv; first | obtain rfl := r3 | obtain ⟨_, rfl⟩ := r3)
 show wpAny _ _ (assignInOrder [bindName env y, bindName env x] [v2, v1]) _ _ _
 refine assignInOrder_cons (bindName_ (noE (storeL H2 F2 r2 hy) fun _ s3 ⟨ρ3, H3, G3, F3⟩ => ?_))
 have nw : ∀ a ∈ [env.locals], NotSeq h' a := fun a m => by simp at m; subst m; exact (F2.fr _ List.mem_cons_self).2.2.notSeq
 refine assignInOrder_cons (bindName_ (noE (storeL H3 F3 (Rep.go G3 nw r1) hx) fun _ s4 ⟨ρ4, H4, G4, F4⟩ => ?_))
 refine assignInOrder_nil ⟨ρ4, H4, ?_, F4, .next⟩
 exact ((G1.trans G2).nil.trans (G3.weaken fun a m => .inl (by simp at m; subst m; exact List.mem_cons_self))).trans (G4.weaken fun a m => .inl (by simp at m; subst m; exact List.mem_cons_self))
theorem Tr.and_last {x : Expr} {pos} {b : Bool} (h : Tr C n φ lo x st b st1) : Tr C n φ lo (.BoolOp .And [x] pos) st b st1 := by
 cases b with
 | true => exact Tr.and_t h Tr.and_nil
 | false => exact Tr.and_f h
theorem Tr.or_last {x : Expr} {pos} {b : Bool} (h : Tr C n φ lo x st b st1) : Tr C n φ lo (.BoolOp .Or [x] pos) st b st1 := by
 cases b with
 | true => exact Tr.or_t h
 | false => exact Tr.or_f h Tr.or_nil
theorem C.range3 {a b c : Int} (hc : c ≠ 0) (hs : (b - a).natAbs < 1000) (hc2 : c.natAbs < 1000) : Cl C n (.type "range") [.int a, .int b, .int c] st (.rng a b c) st := fun A s ρ vs hA H R => by
 (replace R := R.inv; obtain ⟨v, _, rfl, R1, R2⟩ := R)
 (replace R2 := R2.inv; obtain ⟨u, _, rfl, R2, R3⟩ := R2)
 (replace R3 := R3.inv; obtain ⟨w, _, rfl, R3, R4⟩ := R3)
 (replace R4 := R4.inv; first | obtain rfl := R4 | obtain ⟨_, rfl⟩ := R4)
 (replace R1 := R1.inv; obtain ⟨t, rfl⟩ := R1)
 (replace R2 := R2.inv; obtain ⟨u, rfl⟩ := R2)
 (replace R3 := R3.inv; obtain ⟨w, rfl⟩ := R3)
 refine call_range_3 hc ?_ (Or.inl (PyProof.noPylong_small (by omega)))
 obtain ⟨H1, G1⟩ := H.push (rngO a b c t u w) s.toks
 exact ⟨ρ, H1, G1, .rng _ _ _ _ _ _ _ (fun q => Nat.lt_irrefl _ (H.lt _ q)) (Heap.get?_push_size _ rfl)⟩
theorem C.list_rangeS {a b c : Int} {m : Nat} (hsm : Builtin.Range.small a b c = true) (hm : Builtin.Range.rangeSize a b c = (m : Int)) (hz : m ≤ 2 ^ 20) :
  Cl C n (.type "list") [.rng a b c] st (.ref st.length) (st ++ [.list (((List.range m).map fun (k : Nat) => a + (k : Int) * c).map PV.int)]) := fun A s ρ vs hA H R => by
 (replace R := R.inv; obtain ⟨v, _, rfl, R1, R2⟩ := R)
 (replace R2 := R2.inv; first | obtain rfl := R2 | obtain ⟨_, rfl⟩ := R2)
 (replace R1 := R1.inv; obtain ⟨x, t, u, v, rfl, nx, hx⟩ := R1)
 refine wpAny_size (call_list_range hA.1 hx hsm hm (by omega) fun h' tk acc c' hk hL hI hz => ?_)
 refine adoptP H tk hk hz (Nat.le_refl _) fun G => ⟨acc.toList, c', by simpa using hL, ?_⟩
 have hz : acc.size = m := hI.1
 have key : ∀ (l : List Value) (a : Int), (∀ (i : Nat) v, l[i]? = some v → ∃ t, v = .int (a + (i : Int) * c) t) → RepL h' (ρ ++ [s.heap.objs.size]) (((List.range l.length).map fun (k : Nat) => a + (k : Int) * c).map PV.int) l := by
  intro l
  induction l with
  | nil => intro a _; exact .nil
  | cons v l ih =>
   intro a hv
   rw [List.length_cons, List.range_succ_eq_map, List.map_cons, List.map_map, List.map_cons]
   obtain ⟨t, e⟩ := hv 0 v rfl
   refine .cons _ _ _ _ ?_ ?_
   ·rw [e]; simpa using Rep.int (a + ((0 : Nat) : Int) * c) t
   ·have := ih (a + c) (fun i v e => by
     obtain ⟨t, e'⟩ := hv (i + 1) v (by simpa using e)
     refine ⟨t, ?_⟩
     rw [e']; congr 1
     rw [Int.natCast_add, Int.add_mul]; simp; omega)
    have e2 : ((fun k : Nat => a + (k : Int) * c) ∘ Nat.succ) = fun k : Nat => a + c + (k : Int) * c := by
     funext k
     show a + ((k + 1 : Nat) : Int) * c = _
     rw [Int.natCast_add, Int.add_mul]; simp; omega
    rw [e2]; exact this
 have := key acc.toList a (fun i v e => hI.2 i v (by simpa using e))
 rw [Array.length_toList, hz] at this
 exact this
end
noncomputable def chr (x : Str) (i : Int) : Option Nat := (seqIndex? i x.length).bind (x.cps[·]?)
noncomputable def one (c : Nat) : Str := ⟨#[c]⟩
noncomputable def preF (x y : Str) : Nat → Nat → Option Nat
 | 0, _ => none
 | k + 1, p => if (Txt.slice x (some (p : Int)) none).length == 0 then some p else if (Txt.slice y (some (p : Int)) none).length == 0 then some p else
   match chr x p, chr y p with
   | some c, some d => if one c == one d then preF x y k (p + 1) else some p
   | _, _ => none
noncomputable def upO (p : Int) : Option Int := if p == 0 then none else some p
noncomputable def postF (x y : Str) : Nat → Int → Option Int
 | 0, _ => none
 | k + 1, p => if (Txt.slice x none (upO p)).length == 0 then some p else if (Txt.slice y none (upO p)).length == 0 then some p else
   match chr x (p - 1), chr y (p - 1) with
   | some c, some d => if one c == one d then postF x y k (p - 1) else some p
   | _, _ => none
noncomputable abbrev φlv : Scope := scopeOf (stAt 13)
noncomputable abbrev Wpre : Stmt := sAt (bodyOf (stAt 13)) 2
noncomputable abbrev Wpost : Stmt := sAt (bodyOf (stAt 13)) 6
theorem truthS {C : Cx} {n : Nat} {x : Str} {st : Sto} {b : Bool} (hx : x.length ≤ 1000) (h : (x.length != 0) = b) : Truth C n (.str x) st b := h ▸ T.str (by omega)
theorem chr_op {C : Cx} {n : Nat} {value slice : Expr} {x : Str} {i : Int} {c : Nat} {st : Sto} (h : chr x i = some c) (h1 : -1000 ≤ i) (h2 : i ≤ 1000)
  (hs : ∀ t u, subscripted slice false (.str x t) (.int i u) = operate [.str x t, .int i u] (PySem.getItem (.str x t) (.int i u))) : Op2 C n (subscriptTail value slice) (.str x) (.int i) st (.str (one c)) st :=
 O.sub_str (by simp; omega) h hs
noncomputable def loPre (x y : Str) (p : Int) : Loc := [("pre", .int p), ("a", .str x), ("b", .str y), ("max_cost", .int 99)]
theorem pre_loop {C : Cx} {n : Nat} {x y : Str} {st : Sto} (hx : x.length ≤ 1000) (hy : y.length ≤ 1000) : ∀ (k p q : Nat), preF x y k p = some q → p + k ≤ 900 →
  Wh C n φlv (loPre x y p) (tOf Wpre) (bOf Wpre) st .next (loPre x y q) st
 | 0, p, q, h, _ => by cases h
 | k + 1, p, q, h, hk => by
  unfold preF at h
  have lx := Txt.slice_le x (some (p : Int)) none
  have ly := Txt.slice_le y (some (p : Int)) none
  have zx : x.length ≤ sizeLine := by rw [sizeLine_eq]; omega
  have zy : y.length ≤ sizeLine := by rw [sizeLine_eq]; omega
  by_cases h1 : (Txt.slice x (some (p : Int)) none).length = 0
  ·rw [if_pos (by simpa using h1)] at h; cases h
   exact Wh.done (Tr.and_f (Tr.val (Ev.slice_str (Ev.loc rfl rfl) (EvO.some (Ev.loc rfl rfl)) EvO.none (.int _) .none zx) (truthS (by omega) (by simp [h1]))))
  ·rw [if_neg (by simpa using h1)] at h
   by_cases h2 : (Txt.slice y (some (p : Int)) none).length = 0
   ·rw [if_pos (by simpa using h2)] at h; cases h
    exact Wh.done (Tr.and_t (Tr.val (Ev.slice_str (Ev.loc rfl rfl) (EvO.some (Ev.loc rfl rfl)) EvO.none (.int _) .none zx) (truthS (by omega) (by simp [h1])))
     (Tr.and_f (Tr.val (Ev.slice_str (Ev.loc rfl rfl) (EvO.some (Ev.loc rfl rfl)) EvO.none (.int _) .none zy) (truthS (by omega) (by simp [h2])))))
   ·rw [if_neg (by simpa using h2)] at h
    cases hc : chr x p with
    | none => rw [hc] at h; cases h
    | some c =>
     cases hd : chr y p with
     | none => rw [hc, hd] at h; cases h
     | some d =>
      rw [hc, hd] at h
      simp only at h
      have tt : ∀ b, (one c == one d) = b → Tr C n φlv (loPre x y p) (tOf Wpre) st b st := fun b hb =>
       Tr.and_t (Tr.val (Ev.slice_str (Ev.loc rfl rfl) (EvO.some (Ev.loc rfl rfl)) EvO.none (.int _) .none zx) (truthS (by omega) (by simp [h1])))
        (Tr.and_t (Tr.val (Ev.slice_str (Ev.loc rfl rfl) (EvO.some (Ev.loc rfl rfl)) EvO.none (.int _) .none zy) (truthS (by omega) (by simp [h2]))) (by
         have e1 : Op2 C n (compareOp .Eq) (.str (one c)) (.str (one d)) st (.bool b) st := hb ▸ O.eqs
         exact Tr.and_last (Tr.cmp (Ev.sub (Ev.loc rfl rfl) (Ev.loc rfl rfl) (chr_op hc (by omega) (by omega) (by intro _ _; with_unfolding_all rfl))) (Ev.sub (Ev.loc rfl rfl) (Ev.loc rfl rfl) (chr_op hd (by omega) (by omega) (by intro _ _; with_unfolding_all rfl))) e1)))
      cases hb : one c == one d with
      | false =>
       rw [hb] at h
       simp only [Bool.false_eq_true, if_false] at h; cases h
       exact Wh.done (tt _ hb)
      | true =>
       rw [hb] at h
       simp only [if_true] at h
       have hr := pre_loop (C := C) (n := n) (st := st) hx hy k (p + 1) q h (by omega)
       refine Wh.turn (tt _ hb) (.inl (Ex.one (Ex1.aug rfl rfl Ev.cint O.iadd))) (hr.pre ?_)
       exact ⟨rfl, rfl, rfl, rfl, trivial⟩
noncomputable def loPost (x y : Str) (p : Int) : Loc := [("post", .int p), ("a", .str x), ("b", .str y), ("max_cost", .int 99)]
noncomputable def upV (p : Int) : PV := if p == 0 then .none else .int p
theorem up_part (p : Int) : PartP (upV p) (upO p) := by
 unfold upV upO
 split
 ·exact .none
 ·exact .int p
theorem up_ev {C : Cx} {n : Nat} {lo : Loc} {st : Sto} {p : Int} {pos p1 p2 : Pos} {k} (h : lo.lookup (Str.ofString "post") = some (PV.int p)) : Ev C n φlv lo (.BoolOp .Or [.Name "post" p1, .Constant .none k p2] pos) st (upV p) st := by
 unfold upV
 by_cases hp : p = 0
 ·subst hp
  exact Ev.or_f (Ev.loc h rfl) T.int (Ev.bool1 Ev.cnone)
 ·rw [if_neg (by simpa using hp)]
  exact Ev.or_t (Ev.loc h rfl) (by have := T.int (C := C) (n := n) (a := p) (st := st); rwa [show (p != 0) = true by simpa using hp] at this)
theorem post_loop {C : Cx} {n : Nat} {x y : Str} {st : Sto} (hx : x.length ≤ 1000) (hy : y.length ≤ 1000) : ∀ (k : Nat) (p q : Int), postF x y k p = some q → -900 + k ≤ p → p ≤ 0 →
  Wh C n φlv (loPost x y p) (tOf Wpost) (bOf Wpost) st .next (loPost x y q) st
 | 0, p, q, h, _, _ => by cases h
 | k + 1, p, q, h, hk, hp0 => by
  unfold postF at h
  have lx := Txt.slice_le x none (upO p)
  have ly := Txt.slice_le y none (upO p)
  have zx : x.length ≤ sizeLine := by rw [sizeLine_eq]; omega
  have zy : y.length ≤ sizeLine := by rw [sizeLine_eq]; omega
  by_cases h1 : (Txt.slice x none (upO p)).length = 0
  ·rw [if_pos (by simpa using h1)] at h; cases h
   exact Wh.done (Tr.and_f (Tr.val (Ev.slice_str (Ev.loc rfl rfl) EvO.none (EvO.some (up_ev rfl)) .none (up_part p) zx) (truthS (by omega) (by simp [h1]))))
  ·rw [if_neg (by simpa using h1)] at h
   by_cases h2 : (Txt.slice y none (upO p)).length = 0
   ·rw [if_pos (by simpa using h2)] at h; cases h
    exact Wh.done (Tr.and_t (Tr.val (Ev.slice_str (Ev.loc rfl rfl) EvO.none (EvO.some (up_ev rfl)) .none (up_part p) zx) (truthS (by omega) (by simp [h1])))
     (Tr.and_f (Tr.val (Ev.slice_str (Ev.loc rfl rfl) EvO.none (EvO.some (up_ev rfl)) .none (up_part p) zy) (truthS (by omega) (by simp [h2])))))
   ·rw [if_neg (by simpa using h2)] at h
    cases hc : chr x (p - 1) with
    | none => rw [hc] at h; cases h
    | some c =>
     cases hd : chr y (p - 1) with
     | none => rw [hc, hd] at h; cases h
     | some d =>
      rw [hc, hd] at h
      simp only at h
      have tt : ∀ b, (one c == one d) = b → Tr C n φlv (loPost x y p) (tOf Wpost) st b st := fun b hb =>
       Tr.and_t (Tr.val (Ev.slice_str (Ev.loc rfl rfl) EvO.none (EvO.some (up_ev rfl)) .none (up_part p) zx) (truthS (by omega) (by simp [h1])))
        (Tr.and_t (Tr.val (Ev.slice_str (Ev.loc rfl rfl) EvO.none (EvO.some (up_ev rfl)) .none (up_part p) zy) (truthS (by omega) (by simp [h2]))) (by
         have e1 : Op2 C n (compareOp .Eq) (.str (one c)) (.str (one d)) st (.bool b) st := hb ▸ O.eqs
         exact Tr.and_last (Tr.cmp (Ev.sub (Ev.loc rfl rfl) (Ev.bin (Ev.loc rfl rfl) Ev.cint O.sub) (chr_op hc (by omega) (by omega) (by intro _ _; with_unfolding_all rfl)))
          (Ev.sub (Ev.loc rfl rfl) (Ev.bin (Ev.loc rfl rfl) Ev.cint O.sub) (chr_op hd (by omega) (by omega) (by intro _ _; with_unfolding_all rfl))) e1)))
      cases hb : one c == one d with
      | false =>
       rw [hb] at h
       simp only [Bool.false_eq_true, if_false] at h; cases h
       exact Wh.done (tt _ hb)
      | true =>
       rw [hb] at h
       simp only [if_true] at h
       have hr := post_loop (C := C) (n := n) (st := st) hx hy k (p - 1) q h (by omega) (by omega)
       refine Wh.turn (tt _ hb) (.inl (Ex.one (Ex1.aug rfl rfl Ev.cint O.isub))) (hr.pre ?_)
       exact ⟨rfl, rfl, rfl, rfl, trivial⟩
end
section
noncomputable def dpIn (x bc : Str) : Nat → Nat → Int → Int → Int → List Int → Option (Int × Int × List Int)
 | 0, j, d, res, mn, row => some (res, mn, row)
 | k + 1, j, d, res, mn, row => match chr x j, row[j]? with
  | some c, some r => if Builtin.Str.tooLong (Txt.lower bc).length || Builtin.Str.tooLong (Txt.lower (one c)).length then none else
    dpIn x bc k (j + 1) r (min (min res r + 2) (d + sideP bc (one c))) (if min (min res r + 2) (d + sideP bc (one c)) < mn then min (min res r + 2) (d + sideP bc (one c)) else mn) (row.set j (min (min res r + 2) (d + sideP bc (one c))))
  | _, _ => none
noncomputable abbrev Fout : Stmt := sAt (bodyOf (stAt 13)) 15
noncomputable abbrev Fin_ : Stmt := sAt (bOf Fout) 3
noncomputable def loIn (x y bc : Str) (r : Nat) (d res mn : Int) : Loc := [("distance", .int d), ("result", .int res), ("minimum", .int mn), ("bchar", .str bc), ("row", .ref r), ("a", .str x), ("b", .str y), ("max_cost", .int 99)]
noncomputable def loInE (x y : Str) (r : Nat) (res mn : Int) : Loc := [("result", .int res), ("minimum", .int mn), ("row", .ref r), ("a", .str x), ("b", .str y), ("max_cost", .int 99)]
theorem rangeIt_at {m k : Nat} {S : Sto} (h : k < m) : RangeIt 0 1 m k S (some (.int (k : Int))) := by
 unfold RangeIt; rw [if_pos h]; simp
theorem rangeIt_end {m : Nat} {S : Sto} : RangeIt 0 1 m m S none := by
 unfold RangeIt; rw [if_neg (Nat.lt_irrefl _)]
theorem dpIn_len {x bc : Str} : ∀ (k j : Nat) (d res mn : Int) (row : List Int) (o : Int × Int × List Int), dpIn x bc k j d res mn row = some o → o.2.2.length = row.length
 | 0, j, d, res, mn, row, o, h => by cases h; rfl
 | k + 1, j, d, res, mn, row, o, h => by
  unfold dpIn at h
  split at h
  ·split at h
   ·cases h
   ·have := dpIn_len _ _ _ _ _ _ _ h
    simpa using this
  ·cases h
theorem dp_in {C : Cx} (px : Px C) {n : Nat} {x y bc : Str} {r : Nat} {st : Sto} (hr : r < st.length) (hx : x.length ≤ 500) : ∀ (k j : Nat) (d res mn : Int) (row : List Int) (o : Int × Int × List Int),
  dpIn x bc k j d res mn row = some o → j + k = x.length → row.length ≤ 1000 →
  Fo C (n + 1) φlv (loIn x y bc r d res mn) (fT Fin_) (bOf Fin_) (RangeIt 0 1 x.length) j (st.set r (.list (row.map .int))) .next (loInE x y r o.1 o.2.1) (st.set r (.list (o.2.2.map .int)))
 | 0, j, d, res, mn, row, o, h, hk, hz => by
  cases h
  have : j = x.length := by omega
  subst this
  exact (Fo.done rangeIt_end).sub (SubL.ok ⟨rfl, rfl, rfl, rfl, rfl, rfl, trivial⟩)
 | k + 1, j, d, res, mn, row, o, h, hk, hz => by
  unfold dpIn at h
  cases hc : chr x j with
  | none => rw [hc] at h; cases h
  | some c =>
   cases hrow : row[j]? with
   | none => rw [hc, hrow] at h; cases h
   | some rj =>
    rw [hc, hrow] at h
    simp only at h
    cases ht : (Builtin.Str.tooLong (Txt.lower bc).length || Builtin.Str.tooLong (Txt.lower (one c)).length) with
    | true => rw [ht] at h; simp at h
    | false =>
     rw [ht] at h
     simp only [Bool.false_eq_true, if_false] at h
     obtain ⟨t1, t2⟩ := Bool.or_eq_false_iff.mp ht
     have hsub := sp_sub px (n := n) (x := bc) (y := one c) (st := st.set r (.list (row.map .int))) t1 t2
     generalize hv : min (min res rj + 2) (d + sideP bc (one c)) = v at h
     have hrec := dp_in px (n := n) (y := y) hr hx k (j + 1) rj v (if v < mn then v else mn) (row.set j v) o h (by omega) (by simpa using hz)
     have hg : (st.set r (.list (row.map PV.int)))[r]? = some (.list (row.map PV.int)) := by simp [hr]
     have hat : at? (row.map PV.int) (j : Int) = some (.int rj) := at_nat (by simp [hrow])
     have hz' : (row.map PV.int).length ≤ 2 ^ 24 := by simp; omega
     have hch : Op2 C (n + 1) (subscriptTail (.Name "a" default) (.Name "index" default)) (.str x) (.int (j : Int)) (st.set r (.list (row.map .int))) (.str (one c)) (st.set r (.list (row.map .int))) :=
      chr_op hc (by omega) (by omega) (by intro _ _; with_unfolding_all rfl)
     have hset : Op3 C (n + 1) (.ref r) (.int (j : Int)) (.int v) (st.set r (.list (row.map .int))) (st.set r (.list ((row.set j v).map .int))) := by
      have := O.setItem (C := C) (n := n + 1) (k := j) (p := .int v) hg hz' (by simp; exact (List.getElem?_eq_some_iff.mp hrow).1)
      rw [List.set_set] at this
      rw [show (row.set j v).map PV.int = (row.map PV.int).set j (.int v) by rw [List.map_set]]
      exact this
     have body : ∃ lo', Ex C (n + 1) φlv (("index", .int (j : Int)) :: loIn x y bc r d res mn) (bOf Fin_) (st.set r (.list (row.map .int))) .next lo' (st.set r (.list ((row.set j v).map .int))) ∧ SubL (loIn x y bc r rj v (if v < mn then v else mn)) lo' := by
      have ecmp : Op2 C (n + 1) (compareOp .Lt) (.int v) (.int mn) (st.set r (.list ((row.set j v).map .int))) (.bool (decide (v < mn))) (st.set r (.list ((row.set j v).map .int))) := O.lt
      have em1 : Cl C (n + 1) (.builtin "min") [.int res, .int rj] (st.set r (.list (row.map .int))) (.int (min res rj)) (st.set r (.list (row.map .int))) := _root_.Mine.C.min2
      have em2 : Cl C (n + 1) (.builtin "min") [.int (min res rj + 2), .int (d + sideP bc (one c))] (st.set r (.list (row.map .int))) (.int v) (st.set r (.list (row.map .int))) := hv ▸ _root_.Mine.C.min2
      by_cases hlt : v < mn
      ·rw [if_pos hlt]
       rw [show decide (v < mn) = true by simpa using hlt] at ecmp
       apply Exists.intro
       refine ⟨?_, ?_⟩
       apply Ex.cons
       ·apply Ex1.asg
        ·apply Ev.bin
         ·walk_at "ev"
         ·apply Ev.callf
          ·walk_at "ev"
          ·apply EvL.cons
           ·walk_at "ev"
           ·apply EvL.cons
            ·exact Ev.sub (Ev.loc rfl rfl) (Ev.loc rfl rfl) (chr_op hc (by omega) (by omega) (by intro _ _; with_unfolding_all rfl))
            ·walk_at "evl"
            ·intro _; rfl
           ·intro _; rfl
          ·exact Px.K ‹Px _› _ _ rfl
          ·rfl
          ·exact hsub
          ·intro _; rfl
          ·intro _; rfl
         ·walk_at "op"
        ·walk_at "as"
        ·intro _ _; rfl
        ·intro _; rfl
        ·intro _; rfl
       apply Ex.cons
       ·walk_at "st"
       apply Ex.cons
       ·walk_at "st"
       apply Ex.cons
       ·walk_at "st"
       apply Ex.cons
       ·walk_at "st"
       apply Ex.cons
       ·apply Ex1.if_t
        ·walk_at "tr"
        ·apply Ex.cons
         ·walk_at "st"
         exact Ex.nil
       exact Ex.nil
       exact ⟨rfl, rfl, rfl, rfl, rfl, rfl, rfl, rfl, trivial⟩
      ·rw [if_neg hlt]
       rw [show decide (v < mn) = false by simpa using hlt] at ecmp
       apply Exists.intro
       refine ⟨?_, ?_⟩
       apply Ex.cons
       ·apply Ex1.asg
        ·apply Ev.bin
         ·walk_at "ev"
         ·apply Ev.callf
          ·walk_at "ev"
          ·apply EvL.cons
           ·walk_at "ev"
           ·apply EvL.cons
            ·exact Ev.sub (Ev.loc rfl rfl) (Ev.loc rfl rfl) (chr_op hc (by omega) (by omega) (by intro _ _; with_unfolding_all rfl))
            ·walk_at "evl"
            ·intro _; rfl
           ·intro _; rfl
          ·exact Px.K ‹Px _› _ _ rfl
          ·rfl
          ·exact hsub
          ·intro _; rfl
          ·intro _; rfl
         ·walk_at "op"
        ·walk_at "as"
        ·intro _ _; rfl
        ·intro _; rfl
        ·intro _; rfl
       apply Ex.cons
       ·walk_at "st"
       apply Ex.cons
       ·walk_at "st"
       apply Ex.cons
       ·walk_at "st"
       apply Ex.cons
       ·walk_at "st"
       apply Ex.cons
       ·apply Ex1.if_f
        ·walk_at "tr"
        ·exact Ex.nil
       exact Ex.nil
       exact ⟨rfl, rfl, rfl, rfl, rfl, rfl, rfl, rfl, trivial⟩
     obtain ⟨lo', hb, hs⟩ := body
     exact Fo.turn (rangeIt_at (by omega)) (As.name (.inl rfl)) (hb.to hs) hrec
noncomputable def dpOut (x y : Str) : Nat → Nat → Int → List Int → Option Int
 | 0, bi, res, row => some res
 | k + 1, bi, res, row => match chr y bi with
  | some c => match dpIn x (one c) x.length 0 ((bi : Int) * 2) ((bi : Int) * 2) 9223372036854775807 row with
   | some o => if o.2.1 > 99 then none else dpOut x y k (bi + 1) o.1 o.2.2
   | none => none
  | none => none
noncomputable def loOut (x y : Str) (r : Nat) (res : Int) : Loc := [("result", .int res), ("row", .ref r), ("a", .str x), ("b", .str y), ("max_cost", .int 99)]
theorem dp_out {C : Cx} (px : Px C) {n : Nat} {x y : Str} {r : Nat} {st : Sto} (hr : r < st.length) (hx : x.length ≤ 500) (hy : y.length ≤ 500) : ∀ (k bi : Nat) (res v : Int) (row : List Int),
  dpOut x y k bi res row = some v → bi + k = y.length → row.length ≤ 1000 →
  ∃ row' : List Int, Fo C (n + 1) φlv (loOut x y r res) (fT Fout) (bOf Fout) (RangeIt 0 1 y.length) bi (st.set r (.list (row.map .int))) .next (loOut x y r v) (st.set r (.list (row'.map .int)))
 | 0, bi, res, v, row, h, hk, hz => by
  cases h
  have : bi = y.length := by omega
  subst this
  exact ⟨row, Fo.done rangeIt_end⟩
 | k + 1, bi, res, v, row, h, hk, hz => by
  unfold dpOut at h
  cases hc : chr y bi with
  | none => rw [hc] at h; cases h
  | some c =>
   rw [hc] at h
   simp only at h
   cases ho : dpIn x (one c) x.length 0 ((bi : Int) * 2) ((bi : Int) * 2) 9223372036854775807 row with
   | none => rw [ho] at h; cases h
   | some o =>
    rw [ho] at h
    simp only at h
    by_cases hgt : o.2.1 > 99
    ·rw [if_pos hgt] at h; cases h
    ·rw [if_neg hgt] at h
     have hl := dpIn_len _ _ _ _ _ _ _ ho
     obtain ⟨row', hrec⟩ := dp_out px (n := n) (x := x) (st := st) hr hx hy k (bi + 1) o.1 v o.2.2 h (by omega) (by omega)
     refine ⟨row', ?_⟩
     have hin := dp_in px (n := n) (y := y) (bc := one c) hr hx x.length 0 _ _ _ row o ho (by omega) hz
     have hmul : Op2 C (n + 1) (binaryOp .Mult) (.int (bi : Int)) (.int 2) (st.set r (.list (row.map .int))) (.int ((bi : Int) * 2)) (st.set r (.list (row.map .int))) := O.mul (by omega) (by omega)
     have ecmp : Op2 C (n + 1) (compareOp .Gt) (.int o.2.1) (.int 99) (st.set r (.list (o.2.2.map .int))) (.bool false) (st.set r (.list (o.2.2.map .int))) := by
      have := O.gt (C := C) (n := n + 1) (a := o.2.1) (b := 99) (st := st.set r (.list (o.2.2.map .int)))
      rwa [show decide (o.2.1 > 99) = false by simpa using hgt] at this
     have hlen : Cl C (n + 1) (.builtin "len") [.str x] (st.set r (.list (row.map .int))) (.int (x.length : Int)) (st.set r (.list (row.map .int))) := _root_.Mine.C.len_str (by omega)
     have hit : ItrE C (n + 1) φlv (("minimum", .int 9223372036854775807) :: ("result", .int ((bi : Int) * 2)) :: ("distance", .int ((bi : Int) * 2)) :: ("bchar", .str (one c)) :: ("bindex", .int (bi : Int)) :: loOut x y r res) (fI Fin_) (st.set r (.list (row.map .int))) (RangeIt 0 1 x.length) (st.set r (.list (row.map .int))) := by
      have := ItrE.of (C := C) (n := n + 1) (φ := φlv) (lo := ("minimum", .int 9223372036854775807) :: ("result", .int ((bi : Int) * 2)) :: ("distance", .int ((bi : Int) * 2)) :: ("bchar", .str (one c)) :: ("bindex", .int (bi : Int)) :: loOut x y r res) (e := fI Fin_) (st := st.set r (.list (row.map .int))) (p := .rng 0 (x.length : Int) 1) (st1 := st.set r (.list (row.map .int))) (by
       apply Ev.callt
       ·walk_at "ev"
       ·apply EvL.cons
        ·walk_at "ev"
        ·walk_at "evl"
        ·intro _; rfl
       ·exact _root_.Mine.C.range1
       ·intro _; rfl
       ·intro _; rfl) (Itr.rng (by omega) (by omega) (by omega) (by omega))
      rwa [show ((x.length : Int) - 0).toNat = x.length by omega] at this
     have body : ∃ lo', Ex C (n + 1) φlv (("bindex", .int (bi : Int)) :: loOut x y r res) (bOf Fout) (st.set r (.list (row.map .int))) .next lo' (st.set r (.list (o.2.2.map .int))) ∧ SubL (loOut x y r o.1) lo' := by
      apply Exists.intro
      refine ⟨?_, ?_⟩
      apply Ex.cons
      ·apply Ex1.asg
       ·exact Ev.sub (Ev.loc rfl rfl) (Ev.loc rfl rfl) (chr_op hc (by omega) (by omega) (by intro _ _; with_unfolding_all rfl))
       ·walk_at "as"
       ·intro _ _; rfl
       ·intro _; rfl
       ·intro _; rfl
      apply Ex.cons
      ·apply Ex1.asg2
       ·walk_at "ev"
       ·exact As.name (.inl rfl)
       ·exact As.name (.inl rfl)
       ·intro _; rfl
       ·intro _; rfl
      apply Ex.cons
      ·walk_at "st"
      apply Ex.cons
      ·exact Ex1.forE hit (hin.pre (SubL.ok ⟨rfl, rfl, rfl, rfl, rfl, rfl, rfl, rfl, trivial⟩)) (by intro _ _; rfl)
      apply Ex.cons
      ·apply Ex1.if_f
       ·apply Tr.cmp
        ·walk_at "ev"
        ·walk_at "ev"
        ·exact ecmp
        ·with_unfolding_all rfl
       ·exact Ex.nil
      exact Ex.nil
      exact ⟨rfl, rfl, rfl, rfl, rfl, trivial⟩
     obtain ⟨lo', hb, hs⟩ := body
     exact Fo.turn (rangeIt_at (by omega)) (As.name (.inl rfl)) (hb.to hs) hrec
end
section
noncomputable def rowOf (m : Nat) : List Int := (List.range m).map fun (k : Nat) => (2 : Int) + (k : Int) * 2
theorem range_two (m : Nat) (hm : m ≤ 500) : Builtin.Range.small 2 (2 * ((m : Int) + 1)) 2 = true ∧ Builtin.Range.rangeSize 2 (2 * ((m : Int) + 1)) 2 = (m : Int) := by
 have h : Builtin.Range.rangeSize 2 (2 * ((m : Int) + 1)) 2 = (m : Int) := by
  unfold Builtin.Range.rangeSize
  rw [if_pos (by decide)]
  split
  ·omega
  ·omega
 refine ⟨?_, h⟩
 unfold Builtin.Range.small Builtin.Range.rangeFitsLong
 rw [h]
 have e1 : ∀ z : Int, -(2 ^ 62) < z → z < 2 ^ 62 → (decide (-(2 ^ 63) ≤ z) && decide (z < 2 ^ 63)) = true := fun z h1 h2 => by
  rw [Bool.and_eq_true, decide_eq_true_eq, decide_eq_true_eq]; omega
 rw [e1 2 (by decide) (by decide), e1 (2 * ((m : Int) + 1)) (by omega) (by omega), e1 (m : Int) (by omega) (by omega), if_pos (by decide), e1 (2 * ((m : Int) + 1) + (2 - 1)) (by omega) (by omega)]
 simp
noncomputable def lo2 (x y : Str) : Loc := [("a", .str x), ("b", .str y), ("max_cost", .int 99)]
theorem lev_tail12 {C : Cx} (px : Px C) {n : Nat} {x y : Str} {st : Sto} (hx : x.length ≤ 40) (hy : y.length ≤ 40) {d : Int} (hd : dpOut x y y.length 0 0 (rowOf x.length) = some d) :
  ∃ lo' st', SExt st st' ∧ Ex C (n + 1) φlv (lo2 x y) ((bodyOf (stAt 13)).drop 12) st (.ret (.int d)) lo' st' := by
 have hlx : Cl C (n + 1) (.builtin "len") [.str x] st (.int (x.length : Int)) st := _root_.Mine.C.len_str (by omega)
 have hly : Cl C (n + 1) (.builtin "len") [.str y] st (.int (y.length : Int)) st := _root_.Mine.C.len_str (by omega)
 have hmul : Op2 C (n + 1) (binaryOp .Mult) (.int ((y.length : Int) - (x.length : Int))) (.int 2) st (.int (((y.length : Int) - (x.length : Int)) * 2)) st := O.mul (by omega) (by omega)
 have ecmp : Op2 C (n + 1) (compareOp .Gt) (.int (((y.length : Int) - (x.length : Int)) * 2)) (.int 99) st (.bool false) st := by
  have := O.gt (C := C) (n := n + 1) (a := ((y.length : Int) - (x.length : Int)) * 2) (b := 99) (st := st)
  rwa [show decide (((y.length : Int) - (x.length : Int)) * 2 > 99) = false by simp; omega] at this
 have hmul2 : Op2 C (n + 1) (binaryOp .Mult) (.int 2) (.int ((x.length : Int) + 1)) st (.int (2 * ((x.length : Int) + 1))) st := O.mul (by omega) (by omega)
 have hrng : Cl C (n + 1) (.type "range") [.int 2, .int (2 * ((x.length : Int) + 1)), .int 2] st (.rng 2 (2 * ((x.length : Int) + 1)) 2) st := _root_.Mine.C.range3 (by decide) (by omega) (by decide)
 obtain ⟨r1, r2⟩ := range_two x.length (by omega)
 have hlst : Cl C (n + 1) (.type "list") [.rng 2 (2 * ((x.length : Int) + 1)) 2] st (.ref st.length) (st ++ [.list ((rowOf x.length).map .int)]) := _root_.Mine.C.list_rangeS r1 r2 (by omega)
 obtain ⟨row', hout⟩ := dp_out px (n := n) (st := st ++ [.list ((rowOf x.length).map .int)]) (r := st.length) (by simp) (by omega) (by omega) y.length 0 0 d (rowOf x.length) hd (by omega) (by unfold rowOf; simp; omega)
 rw [set_same gl] at hout
 have hit : ItrE C (n + 1) φlv (("result", .int 0) :: ("row", .ref st.length) :: lo2 x y) (fI Fout) (st ++ [.list ((rowOf x.length).map .int)]) (RangeIt 0 1 y.length) (st ++ [.list ((rowOf x.length).map .int)]) := by
  have hly2 : Cl C (n + 1) (.builtin "len") [.str y] (st ++ [.list ((rowOf x.length).map .int)]) (.int (y.length : Int)) (st ++ [.list ((rowOf x.length).map .int)]) := _root_.Mine.C.len_str (by omega)
  have := ItrE.of (C := C) (n := n + 1) (φ := φlv) (lo := ("result", .int 0) :: ("row", .ref st.length) :: lo2 x y) (e := fI Fout) (st := st ++ [.list ((rowOf x.length).map .int)]) (p := .rng 0 (y.length : Int) 1) (st1 := st ++ [.list ((rowOf x.length).map .int)]) (by
   apply Ev.callt
   ·walk_at "ev"
   ·apply EvL.cons
    ·walk_at "ev"
    ·walk_at "evl"
    ·intro _; rfl
   ·exact _root_.Mine.C.range1
   ·intro _; rfl
   ·intro _; rfl) (Itr.rng (by omega) (by omega) (by omega) (by omega))
  rwa [show ((y.length : Int) - 0).toNat = y.length by omega] at this
 refine ⟨loOut x y st.length d, _, (SExt.app st [.list ((rowOf x.length).map .int)]).trans (b := st ++ [.list ((rowOf x.length).map .int)]) (SExt.refl _) |>.setNew (j := st.length) (o := .list (row'.map .int)) (Nat.le_refl _), ?_⟩
 apply Ex.cons
 ·apply Ex1.if_f
  ·apply Tr.cmp
   ·walk_at "ev"
   ·walk_at "ev"
   ·exact ecmp
   ·with_unfolding_all rfl
  ·exact Ex.nil
 apply Ex.cons
 ·walk_at "st"
 apply Ex.cons
 ·walk_at "st"
 apply Ex.cons
 ·exact Ex1.forE hit (hout.pre (SubL.ok ⟨rfl, rfl, rfl, rfl, rfl, trivial⟩)) (by intro _ _; rfl)
 apply Ex.stop
 ·walk_at "st"
 ·intro h; cases h
noncomputable def levTail (x y : Str) : Option Int :=
 if x.length == 0 || y.length == 0 then some (2 * ((x.length : Int) + (y.length : Int))) else
 if decide (x.length ≤ 40) && decide (y.length ≤ 40) then
  if y.length < x.length then dpOut y x x.length 0 0 (rowOf y.length) else dpOut x y y.length 0 0 (rowOf x.length)
 else none
noncomputable def levP (x y : Str) : Option Int :=
 if x == y then some 0 else match preF x y 10 0 with
  | none => none
  | some p => match postF (Txt.slice x (some (p : Int)) none) (Txt.slice y (some (p : Int)) none) 10 0 with
   | none => none
   | some q => levTail (Txt.slice (Txt.slice x (some (p : Int)) none) none (upO q)) (Txt.slice (Txt.slice y (some (p : Int)) none) none (upO q))
theorem lev_tail9 {C : Cx} (px : Px C) {n : Nat} {x y : Str} {st : Sto} (hx : x.length ≤ 500) (hy : y.length ≤ 500) {d : Int} (hd : levTail x y = some d) :
  ∃ lo' st', SExt st st' ∧ Ex C (n + 1) φlv (lo2 x y) ((bodyOf (stAt 13)).drop 9) st (.ret (.int d)) lo' st' := by
 unfold levTail at hd
 have hlx : Cl C (n + 1) (.builtin "len") [.str x] st (.int (x.length : Int)) st := _root_.Mine.C.len_str (by omega)
 have hly : Cl C (n + 1) (.builtin "len") [.str y] st (.int (y.length : Int)) st := _root_.Mine.C.len_str (by omega)
 by_cases h0 : x.length = 0 ∨ y.length = 0
 ·rw [if_pos (by simpa using h0)] at hd; cases hd
  have hmul : Op2 C (n + 1) (binaryOp .Mult) (.int 2) (.int ((x.length : Int) + (y.length : Int))) st (.int (2 * ((x.length : Int) + (y.length : Int)))) st := O.mul (by omega) (by omega)
  have ht : Tr C (n + 1) φlv (lo2 x y) (tOf (sAt (bodyOf (stAt 13)) 9)) st true st := by
   by_cases hx0 : x.length = 0
   ·exact Tr.or_t (Tr.not (b := false) (Tr.val (Ev.loc rfl rfl) (truthS (by omega) (by simp [hx0]))))
   ·have hy0 : y.length = 0 := h0.resolve_left hx0
    exact Tr.or_f (Tr.not (b := true) (Tr.val (Ev.loc rfl rfl) (truthS (by omega) (by simp [hx0])))) (Tr.or_last (Tr.not (b := false) (Tr.val (Ev.loc rfl rfl) (truthS (by omega) (by simp [hy0])))))
  refine ⟨lo2 x y, st, SExt.refl _, ?_⟩
  apply Ex.stop
  ·apply Ex1.if_t ht
   apply Ex.stop
   ·walk_at "st"
   ·intro h; cases h
  ·intro h; cases h
 ·rw [if_neg (by simpa using h0)] at hd
  have hx0 : x.length ≠ 0 := fun q => h0 (.inl q)
  have hy0 : y.length ≠ 0 := fun q => h0 (.inr q)
  by_cases h40 : x.length ≤ 40 ∧ y.length ≤ 40
  ·rw [if_pos (by simpa using h40)] at hd
   have ht : Tr C (n + 1) φlv (lo2 x y) (tOf (sAt (bodyOf (stAt 13)) 9)) st false st :=
    Tr.or_f (Tr.not (b := true) (Tr.val (Ev.loc rfl rfl) (truthS (by omega) (by simp [hx0])))) (Tr.or_last (Tr.not (b := true) (Tr.val (Ev.loc rfl rfl) (truthS (by omega) (by simp [hy0])))))
   have e1 : Op2 C (n + 1) (compareOp .Gt) (.int (x.length : Int)) (.int 40) st (.bool false) st := by
    have := O.gt (C := C) (n := n + 1) (a := (x.length : Int)) (b := 40) (st := st)
    rwa [show decide ((x.length : Int) > 40) = false by simp; omega] at this
   have e2 : Op2 C (n + 1) (compareOp .Gt) (.int (y.length : Int)) (.int 40) st (.bool false) st := by
    have := O.gt (C := C) (n := n + 1) (a := (y.length : Int)) (b := 40) (st := st)
    rwa [show decide ((y.length : Int) > 40) = false by simp; omega] at this
   have ht2 : Tr C (n + 1) φlv (lo2 x y) (tOf (sAt (bodyOf (stAt 13)) 10)) st false st := by
    apply Tr.or_f
    ·apply Tr.cmp
     ·walk_at "ev"
     ·walk_at "ev"
     ·exact e1
     ·with_unfolding_all rfl
    ·apply Tr.or_last
     apply Tr.cmp
     ·walk_at "ev"
     ·walk_at "ev"
     ·exact e2
     ·with_unfolding_all rfl
   by_cases hlt : y.length < x.length
   ·rw [if_pos hlt] at hd
    obtain ⟨lo', st', hs, htail⟩ := lev_tail12 px (n := n) (st := st) h40.2 h40.1 hd
    have e3 : Op2 C (n + 1) (compareOp .Lt) (.int (y.length : Int)) (.int (x.length : Int)) st (.bool true) st := by
     have := O.lt (C := C) (n := n + 1) (a := (y.length : Int)) (b := (x.length : Int)) (st := st)
     rwa [show decide ((y.length : Int) < (x.length : Int)) = true by simp; omega] at this
    refine ⟨lo', st', hs, ?_⟩
    apply Ex.cons
    ·exact Ex1.if_f ht Ex.nil
    apply Ex.cons
    ·exact Ex1.if_f ht2 Ex.nil
    apply Ex.cons
    ·apply Ex1.if_t
     ·apply Tr.cmp
      ·walk_at "ev"
      ·walk_at "ev"
      ·exact e3
      ·with_unfolding_all rfl
     ·apply Ex.cons
      ·apply Ex1.swap (x := "a") (y := "b")
       ·walk_at "ev"
       ·rfl
       ·rfl
       ·intro env h; unfold swappedStores Env.blockKind Env.kindOf; rw [h]; rfl
      exact Ex.nil
    exact htail.pre (SubL.ok ⟨rfl, rfl, rfl, trivial⟩)
   ·rw [if_neg hlt] at hd
    obtain ⟨lo', st', hs, htail⟩ := lev_tail12 px (n := n) (st := st) h40.1 h40.2 hd
    have e3 : Op2 C (n + 1) (compareOp .Lt) (.int (y.length : Int)) (.int (x.length : Int)) st (.bool false) st := by
     have := O.lt (C := C) (n := n + 1) (a := (y.length : Int)) (b := (x.length : Int)) (st := st)
     rwa [show decide ((y.length : Int) < (x.length : Int)) = false by simp; omega] at this
    refine ⟨lo', st', hs, ?_⟩
    apply Ex.cons
    ·exact Ex1.if_f ht Ex.nil
    apply Ex.cons
    ·exact Ex1.if_f ht2 Ex.nil
    apply Ex.cons
    ·apply Ex1.if_f
     ·apply Tr.cmp
      ·walk_at "ev"
      ·walk_at "ev"
      ·exact e3
      ·with_unfolding_all rfl
     ·exact Ex.nil
    exact htail
  ·rw [if_neg (by simpa using h40)] at hd; cases hd
theorem lev_body {C : Cx} (px : Px C) {n : Nat} {x y : Str} {st : Sto} (hx : x.length ≤ 500) (hy : y.length ≤ 500) {d : Int} (hd : levP x y = some d) :
  ∃ lo' st', SExt st st' ∧ Ex C (n + 1) φlv (lo2 x y) (bodyOf (stAt 13)) st (.ret (.int d)) lo' st' := by
 unfold levP at hd
 cases hxy : x == y with
 | true =>
  rw [hxy] at hd; simp only [if_true] at hd; cases hd
  have e1 : Op2 C (n + 1) (compareOp .Eq) (.str x) (.str y) st (.bool true) st := hxy ▸ O.eqs
  refine ⟨lo2 x y, st, SExt.refl _, ?_⟩
  apply Ex.stop
  ·apply Ex1.if_t
   ·apply Tr.cmp
    ·walk_at "ev"
    ·walk_at "ev"
    ·exact e1
    ·with_unfolding_all rfl
   ·apply Ex.stop
    ·walk_at "st"
    ·intro h; cases h
  ·intro h; cases h
 | false =>
  rw [hxy] at hd; simp only [Bool.false_eq_true, if_false] at hd
  have e1 : Op2 C (n + 1) (compareOp .Eq) (.str x) (.str y) st (.bool false) st := hxy ▸ O.eqs
  cases hp : preF x y 10 0 with
  | none => rw [hp] at hd; cases hd
  | some p =>
   rw [hp] at hd; simp only at hd
   have lx := Txt.slice_le x (some (p : Int)) none
   have ly := Txt.slice_le y (some (p : Int)) none
   have hpre := pre_loop (C := C) (n := n + 1) (st := st) (x := x) (y := y) (by omega) (by omega) 10 0 p hp (by omega)
   generalize hx1 : Txt.slice x (some (p : Int)) none = x1 at *
   generalize hy1 : Txt.slice y (some (p : Int)) none = y1 at *
   cases hq : postF x1 y1 10 0 with
   | none => rw [hq] at hd; cases hd
   | some q =>
    rw [hq] at hd; simp only at hd
    have lx2 := Txt.slice_le x1 none (upO q)
    have ly2 := Txt.slice_le y1 none (upO q)
    have hpost := post_loop (C := C) (n := n + 1) (st := st) (x := x1) (y := y1) (by omega) (by omega) 10 0 q hq (by omega) (by omega)
    have zx : x.length ≤ sizeLine := by rw [sizeLine_eq]; omega
    have zy : y.length ≤ sizeLine := by rw [sizeLine_eq]; omega
    have zx1 : x1.length ≤ sizeLine := by rw [sizeLine_eq]; omega
    have zy1 : y1.length ≤ sizeLine := by rw [sizeLine_eq]; omega
    have ex1 : ∀ {value e : Expr} {sp pos : Pos} {lo : Loc}, Ev C (n + 1) φlv lo value st (.str x) st → Ev C (n + 1) φlv lo e st (.int (p : Int)) st → Ev C (n + 1) φlv lo (.Subscript value (.Slice (some e) none none sp) pos) st (.str x1) st := fun h1 h2 =>
     hx1 ▸ Ev.slice_str h1 (EvO.some h2) EvO.none (.int _) .none zx
    have ey1 : ∀ {value e : Expr} {sp pos : Pos} {lo : Loc}, Ev C (n + 1) φlv lo value st (.str y) st → Ev C (n + 1) φlv lo e st (.int (p : Int)) st → Ev C (n + 1) φlv lo (.Subscript value (.Slice (some e) none none sp) pos) st (.str y1) st := fun h1 h2 =>
     hy1 ▸ Ev.slice_str h1 (EvO.some h2) EvO.none (.int _) .none zy
    obtain ⟨lo', st', hs, htail⟩ := lev_tail9 px (n := n) (st := st) (by omega) (by omega) hd
    refine ⟨lo', st', hs, ?_⟩
    apply Ex.cons
    ·apply Ex1.if_f
     ·apply Tr.cmp
      ·walk_at "ev"
      ·walk_at "ev"
      ·exact e1
      ·with_unfolding_all rfl
     ·exact Ex.nil
    apply Ex.cons
    ·walk_at "st"
    apply Ex.cons
    ·apply Ex1.while
     exact hpre.pre ⟨rfl, rfl, rfl, rfl, trivial⟩
    apply Ex.cons
    ·apply Ex1.asg
     ·exact ex1 (Ev.loc rfl rfl) (Ev.loc rfl rfl)
     ·walk_at "as"
     ·intro _ _; rfl
     ·intro _; rfl
     ·intro _; rfl
    apply Ex.cons
    ·apply Ex1.asg
     ·exact ey1 (Ev.loc rfl rfl) (Ev.loc rfl rfl)
     ·walk_at "as"
     ·intro _ _; rfl
     ·intro _; rfl
     ·intro _; rfl
    apply Ex.cons
    ·walk_at "st"
    apply Ex.cons
    ·apply Ex1.while
     exact hpost.pre ⟨rfl, rfl, rfl, rfl, trivial⟩
    apply Ex.cons
    ·apply Ex1.asg
     ·exact Ev.slice_str (Ev.loc rfl rfl) EvO.none (EvO.some (up_ev rfl)) .none (up_part q) zx1
     ·walk_at "as"
     ·intro _ _; rfl
     ·intro _; rfl
     ·intro _; rfl
    apply Ex.cons
    ·apply Ex1.asg
     ·exact Ev.slice_str (Ev.loc rfl rfl) EvO.none (EvO.some (up_ev rfl)) .none (up_part q) zy1
     ·walk_at "as"
     ·intro _ _; rfl
     ·intro _; rfl
     ·intro _; rfl
    exact htail.pre (SubL.ok ⟨rfl, rfl, rfl, trivial⟩)
theorem sp_lev {C : Cx} (px : Px C) {n : Nat} {x y : Str} {st : Sto} (hx : x.length ≤ 500) (hy : y.length ≤ 500) {d : Int} (hd : levP x y = some d) :
  ∃ st', SExt st st' ∧ Cl C (n + 2) (.ref 87) [.str x, .str y, .int 99] st (.int d) st' := by
 obtain ⟨lo', st', hs, h⟩ := lev_body px (n := n) (st := st) hx hy hd
 refine ⟨st', hs, ?_⟩
 refine Cl.fn (names := ["a", "b", "max_cost"]) (body := bodyOf (stAt 13)) (px.K 87 _ rfl) rfl rfl rfl (codeRec_of px.K rfl) rfl rfl ?_ ?_ ?_ h rfl ?_
 ·intro vs hv
  obtain ⟨v1, v2, v3, rfl⟩ := len3 hv
  rfl
 ·decide
 ·decide +kernel
 ·decide
end
section
noncomputable abbrev φdu : Scope := scopeOf (stAt 21)
noncomputable abbrev F1 : Stmt := sAt (bodyOf (stAt 21)) 1
noncomputable abbrev F2 : Stmt := sAt (bOf F1) 0
structure WOk (x : Str) : Prop where
 len : x.length ≤ 10
 asc : x.cps.all (· < 128) = true
 low : ∀ c ∈ x.cps.toList, Builtin.Str.tooLong (Txt.lower (one c)).length = false
noncomputable def dueF (L : Int) (c d : Nat) : Int := 2 * L - 4 + sideP (one c) (one d)
noncomputable def waysP (x y : Str) : List Int :=
 [2 * ((x ++ y).length : Int)] ++ x.cps.toList.flatMap (fun c => y.cps.toList.map fun d => dueF ((x ++ y).length : Int) c d) ++
  (if x.length == 2 && y.length == 2 then match chr x 0, chr y 0, chr x 1, chr y 1 with
   | some a, some b, some c, some d => [sideP (one a) (one b) + sideP (one c) (one d)]
   | _, _, _, _ => [] else [])
theorem take_snoc {α : Type} {l : List α} {j : Nat} {d : α} (h : l[j]? = some d) : l.take (j + 1) = l.take j ++ [d] := by
 rw [List.take_succ, h]; rfl
theorem cps_len (x : Str) : x.cps.toList.length = x.length := by rw [Array.length_toList]; rfl
theorem append_len (x y : Str) : (x ++ y).length = x.length + y.length := by
 show (x.cps ++ y.cps).size = x.cps.size + y.cps.size
 simp
theorem strIt_at {x : Str} {k : Nat} {S : Sto} {c : Nat} (h : x.cps.toList[k]? = some c) : StrIt x k S (some (.str (one c))) := by
 unfold StrIt
 rw [← Array.getElem?_toList, h]; rfl
theorem strIt_end {x : Str} {S : Sto} : StrIt x x.cps.toList.length S none := by
 unfold StrIt
 rw [← Array.getElem?_toList, List.getElem?_eq_none (Nat.le_refl _)]; rfl
theorem due_in {C : Cx} (px : Px C) {n : Nat} {x y : Str} {w : Nat} {st : Sto} {c : Nat} {acc : List Int} (hw : st[w]? = some (.list (acc.map .int))) (hx : WOk x) (hy : WOk y) (hc : c ∈ x.cps.toList) (ha : acc.length ≤ 1000) :
  Fo C (n + 1) φdu [("first", .str (one c)), ("ways", .ref w), ("one", .str x), ("other", .str y)] (fT F2) (bOf F2) (StrIt y) 0 st .next [("ways", .ref w), ("one", .str x), ("other", .str y)]
   (st.set w (.list ((acc ++ y.cps.toList.map fun d => dueF ((x ++ y).length : Int) c d).map .int))) := by
 have hwl := (List.getElem?_eq_some_iff.mp hw).1
 have hyl : y.cps.toList.length ≤ 10 := by rw [cps_len]; exact hy.len
 obtain ⟨lo', st', ⟨e1, e2⟩, hf⟩ := Fo.inv0 (C := C) (n := n + 1) (φ := φdu) (t := fT F2) (b := bOf F2) (It := StrIt y)
  (fun j lo s => lo = ([("first", .str (one c)), ("ways", .ref w), ("one", .str x), ("other", .str y)] : Loc) ∧ s = st.set w (.list ((acc ++ (y.cps.toList.take j).map fun d => dueF ((x ++ y).length : Int) c d).map .int)))
  y.cps.toList.length (lo := [("first", .str (one c)), ("ways", .ref w), ("one", .str x), ("other", .str y)]) (st := st) ⟨rfl, by simpa using (set_same hw).symm⟩
  (fun j lo s hj ⟨e1, e2⟩ => by
   subst e1 e2
   have hd : y.cps.toList[j]? = some y.cps.toList[j] := List.getElem?_eq_getElem hj
   have hm : y.cps.toList[j] ∈ y.cps.toList := List.getElem_mem hj
   have htk := take_snoc hd
   generalize y.cps.toList[j] = d at hd hm htk
   generalize hA : acc ++ (y.cps.toList.take j).map (fun d => dueF ((x ++ y).length : Int) c d) = A
   have hAl : A.length ≤ 1010 := by rw [← hA]; simp; omega
   have hg : (st.set w (.list (A.map PV.int)))[w]? = some (.list (A.map PV.int)) := by simp [hwl]
   have hside := sp_side px (n := n) (st := st.set w (.list (A.map PV.int))) (hx.low c hc) (hy.low d hm)
   have hadd : Op2 C (n + 1) (binaryOp .Add) (.str x) (.str y) (st.set w (.list (A.map PV.int))) (.str (x ++ y)) (st.set w (.list (A.map PV.int))) := O.adds (by have := hx.len; have := hy.len; rw [sizeLine_eq]; omega)
   have hlen : Cl C (n + 1) (.builtin "len") [.str (x ++ y)] (st.set w (.list (A.map PV.int))) (.int ((x ++ y).length : Int)) (st.set w (.list (A.map PV.int))) := _root_.Mine.C.len_str (by have := hx.len; have := hy.len; rw [append_len]; omega)
   have hmul : Op2 C (n + 1) (binaryOp .Mult) (.int 2) (.int ((x ++ y).length : Int)) (st.set w (.list (A.map PV.int))) (.int (2 * ((x ++ y).length : Int))) (st.set w (.list (A.map PV.int))) := O.mul (by decide) (by have := hx.len; have := hy.len; rw [append_len]; omega)
   have happ : Cl C (n + 1) (.builtin "list.append") [.ref w, .int (2 * ((x ++ y).length : Int) - 4 + sideP (one c) (one d))] (st.set w (.list (A.map PV.int))) .none (st.set w (.list ((A ++ [dueF ((x ++ y).length : Int) c d]).map .int))) := by
    have := _root_.Mine.C.append (C := C) (n := n + 1) (p := .int (2 * ((x ++ y).length : Int) - 4 + sideP (one c) (one d))) hg (by simp; omega)
    rw [List.set_set] at this
    simpa [dueF] using this
   apply StepI.mk (p := .str (one d)) (lo3 := [("first", .str (one c)), ("ways", .ref w), ("one", .str x), ("other", .str y)]) (st2 := st.set w (.list ((A ++ [dueF ((x ++ y).length : Int) c d]).map .int)))
   ·refine ⟨rfl, ?_⟩
    rw [htk, ← hA]; simp
   ·exact strIt_at hd
   ·exact As.name (.inl rfl)
   ·apply Ex.cons
    ·walk_at "st"
    exact Ex.nil
   ·exact ⟨rfl, rfl, rfl, rfl, trivial⟩)
  (fun lo s h => strIt_end)
 subst e1 e2
 rw [List.take_of_length_le (Nat.le_refl _)] at hf
 exact hf.sub (SubL.ok ⟨rfl, rfl, rfl, trivial⟩)
theorem due_out {C : Cx} (px : Px C) {n : Nat} {x y : Str} {w : Nat} {st : Sto} {acc : List Int} (hw : st[w]? = some (.list (acc.map .int))) (hx : WOk x) (hy : WOk y) (ha : acc.length ≤ 100) :
  Fo C (n + 1) φdu [("ways", .ref w), ("one", .str x), ("other", .str y)] (fT F1) (bOf F1) (StrIt x) 0 st .next [("ways", .ref w), ("one", .str x), ("other", .str y)]
   (st.set w (.list ((acc ++ x.cps.toList.flatMap (fun c => y.cps.toList.map fun d => dueF ((x ++ y).length : Int) c d)).map .int))) := by
 have hwl := (List.getElem?_eq_some_iff.mp hw).1
 have hyl : y.cps.toList.length ≤ 10 := by rw [cps_len]; exact hy.len
 have hxl : x.cps.toList.length ≤ 10 := by rw [cps_len]; exact hx.len
 obtain ⟨lo', st', ⟨e1, A, e2, e3, _⟩, hf⟩ := Fo.inv0 (C := C) (n := n + 1) (φ := φdu) (t := fT F1) (b := bOf F1) (It := StrIt x)
  (fun j lo s => lo = ([("ways", .ref w), ("one", .str x), ("other", .str y)] : Loc) ∧ ∃ A : List Int, s = st.set w (.list (A.map .int)) ∧ A = acc ++ (x.cps.toList.take j).flatMap (fun c => y.cps.toList.map fun d => dueF ((x ++ y).length : Int) c d) ∧ A.length ≤ 100 + j * 10)
  x.cps.toList.length (lo := [("ways", .ref w), ("one", .str x), ("other", .str y)]) (st := st) ⟨rfl, acc, (set_same hw).symm, by simp, by omega⟩
  (fun j lo s hj ⟨e1, A, e2, e3, e4⟩ => by
   subst e1 e2
   have hd : x.cps.toList[j]? = some x.cps.toList[j] := List.getElem?_eq_getElem hj
   have hm : x.cps.toList[j] ∈ x.cps.toList := List.getElem_mem hj
   have htk := take_snoc hd
   generalize x.cps.toList[j] = c at hd hm htk
   have hg : (st.set w (.list (A.map PV.int)))[w]? = some (.list (A.map PV.int)) := by simp [hwl]
   have hin := due_in px (n := n) hg hx hy hm (by omega)
   rw [List.set_set] at hin
   have hit : ItrE C (n + 1) φdu (("first", .str (one c)) :: [("ways", .ref w), ("one", .str x), ("other", .str y)]) (fI F2) (st.set w (.list (A.map PV.int))) (StrIt y) (st.set w (.list (A.map PV.int))) :=
    ItrE.of (Ev.loc rfl rfl) (Itr.str hy.asc)
   apply StepI.mk (p := .str (one c)) (lo3 := [("ways", .ref w), ("one", .str x), ("other", .str y)]) (st2 := st.set w (.list ((A ++ y.cps.toList.map fun d => dueF ((x ++ y).length : Int) c d).map .int)))
   ·refine ⟨rfl, _, rfl, ?_, ?_⟩
    ·rw [htk, List.flatMap_append, ← List.append_assoc, ← e3]; simp
    ·rw [List.length_append, List.length_map]; omega
   ·exact strIt_at hd
   ·exact As.name (.inl rfl)
   ·apply Ex.cons
    ·exact Ex1.forE hit hin (by intro _ _; rfl)
    exact Ex.nil
   ·exact ⟨rfl, rfl, rfl, trivial⟩)
  (fun lo s h => strIt_end)
 subst e1 e2
 rw [List.take_of_length_le (Nat.le_refl _)] at e3
 subst e3
 exact hf
theorem chr_mem {x : Str} {i : Int} {c : Nat} (h : chr x i = some c) : c ∈ x.cps.toList := by
 unfold chr at h
 rw [Option.bind_eq_some_iff] at h
 obtain ⟨j, _, h2⟩ := h
 exact List.mem_of_getElem? (i := j) (by rw [Array.getElem?_toList]; exact h2)
theorem sp_due {C : Cx} (px : Px C) {n : Nat} {x y : Str} {st : Sto} (hx : WOk x) (hy : WOk y) (h2 : x.length = 2 → y.length = 2 → ∃ a b c d, chr x 0 = some a ∧ chr y 0 = some b ∧ chr x 1 = some c ∧ chr y 1 = some d)
  {M : Int} (hM : M ∈ waysP x y) (hle : ∀ v ∈ waysP x y, M ≤ v) :
  ∃ st', SExt st st' ∧ Cl C (n + 2) (.ref 243) [.str x, .str y] st (.int M) st' := by
 have hxl := hx.len
 have hyl := hy.len
 have hw0 : (st ++ [.list ([2 * ((x ++ y).length : Int)].map .int)])[st.length]? = some (.list ([2 * ((x ++ y).length : Int)].map .int)) := gl
 have hout := due_out px (n := n) hw0 hx hy (by simp)
 generalize hB : [2 * ((x ++ y).length : Int)] ++ x.cps.toList.flatMap (fun c => y.cps.toList.map fun d => dueF ((x ++ y).length : Int) c d) = B at hout
 have hBl : B.length ≤ 200 := by
  rw [← hB]
  have : ∀ (l : List Nat), l.length ≤ 10 → (l.flatMap (fun c => y.cps.toList.map fun d => dueF ((x ++ y).length : Int) c d)).length ≤ l.length * 10 := by
   intro l
   induction l with
   | nil => intro _; simp
   | cons a l ih =>
    intro h
    have h' : l.length ≤ 10 := by rw [List.length_cons] at h; omega
    have := ih h'
    rw [List.flatMap_cons, List.length_append, List.length_map, cps_len, List.length_cons]; omega
  have := this x.cps.toList (by rw [cps_len]; exact hxl)
  rw [List.length_append]
  rw [cps_len] at this
  simp only [List.length_singleton]; omega
 have hadd : Op2 C (n + 1) (binaryOp .Add) (.str x) (.str y) st (.str (x ++ y)) st := O.adds (by rw [sizeLine_eq]; omega)
 have hlen : Cl C (n + 1) (.builtin "len") [.str (x ++ y)] st (.int ((x ++ y).length : Int)) st := _root_.Mine.C.len_str (by rw [append_len]; omega)
 have hmul : Op2 C (n + 1) (binaryOp .Mult) (.int 2) (.int ((x ++ y).length : Int)) st (.int (2 * ((x ++ y).length : Int))) st := O.mul (by decide) (by rw [append_len]; omega)
 have hset : (st ++ [Ob.list ([2 * ((x ++ y).length : Int)].map PV.int)]).set st.length (.list (B.map .int)) = st ++ [.list (B.map .int)] := by simp
 rw [hset] at hout
 have hg : (st ++ [Ob.list (B.map PV.int)])[st.length]? = some (.list (B.map PV.int)) := gl
 have hlx : Cl C (n + 1) (.builtin "len") [.str x] (st ++ [.list (B.map PV.int)]) (.int (x.length : Int)) (st ++ [.list (B.map PV.int)]) := _root_.Mine.C.len_str (by omega)
 have hly : Cl C (n + 1) (.builtin "len") [.str y] (st ++ [.list (B.map PV.int)]) (.int (y.length : Int)) (st ++ [.list (B.map PV.int)]) := _root_.Mine.C.len_str (by omega)
 have hit : ItrE C (n + 1) φdu (("ways", .ref st.length) :: [("one", .str x), ("other", .str y)]) (fI F1) (st ++ [.list ([2 * ((x ++ y).length : Int)].map .int)]) (StrIt x) (st ++ [.list ([2 * ((x ++ y).length : Int)].map .int)]) :=
  ItrE.of (Ev.loc rfl rfl) (Itr.str hx.asc)
 have fin : ∀ (A : List Int), A = waysP x y → Ex1 C (n + 1) φdu [("ways", .ref st.length), ("one", .str x), ("other", .str y)] (sAt (bodyOf (stAt 21)) 2) (st ++ [.list (B.map .int)]) .next [("ways", .ref st.length), ("one", .str x), ("other", .str y)] (st ++ [.list (A.map .int)]) →
   ∃ lo', Ex C (n + 1) φdu [("one", .str x), ("other", .str y)] (bodyOf (stAt 21)) st (.ret (.int M)) lo' (st ++ [.list (A.map .int)]) := by
  intro A hA h
  subst hA
  have hmin : Cl C (n + 1) (.builtin "min") [.ref st.length] (st ++ [.list ((waysP x y).map PV.int)]) (.int M) (st ++ [.list ((waysP x y).map PV.int)]) := _root_.Mine.C.min_list gl hM hle
  apply Exists.intro
  apply Ex.cons
  ·walk_at "st"
  apply Ex.cons
  ·exact Ex1.forE hit (hout.pre (SubL.ok ⟨rfl, rfl, rfl, trivial⟩)) (by intro _ _; rfl)
  apply Ex.cons
  ·exact h
  apply Ex.stop
  ·walk_at "st"
  ·intro h; cases h
 have body : ∃ lo' st', SExt st st' ∧ Ex C (n + 1) φdu [("one", .str x), ("other", .str y)] (bodyOf (stAt 21)) st (.ret (.int M)) lo' st' := by
  by_cases hx2 : x.length = 2
  ·have e1 : Op2 C (n + 1) (compareOp .Eq) (.int (x.length : Int)) (.int 2) (st ++ [.list (B.map PV.int)]) (.bool true) (st ++ [.list (B.map PV.int)]) := by
    have := O.eq (C := C) (n := n + 1) (a := (x.length : Int)) (b := 2) (st := st ++ [.list (B.map PV.int)])
    rwa [show ((x.length : Int) == 2) = true by rw [hx2]; rfl] at this
   by_cases hy2 : y.length = 2
   ·obtain ⟨a, b, c, d, ha, hb, hc, hd⟩ := h2 hx2 hy2
    have hW : waysP x y = B ++ [sideP (one a) (one b) + sideP (one c) (one d)] := by
     unfold waysP
     rw [if_pos (by simp [hx2, hy2]), ha, hb, hc, hd, ← hB]
    have e2 : Op2 C (n + 1) (compareOp .Eq) (.int (y.length : Int)) (.int 2) (st ++ [.list (B.map PV.int)]) (.bool true) (st ++ [.list (B.map PV.int)]) := by
     have := O.eq (C := C) (n := n + 1) (a := (y.length : Int)) (b := 2) (st := st ++ [.list (B.map PV.int)])
     rwa [show ((y.length : Int) == 2) = true by rw [hy2]; rfl] at this
    have s1 := sp_side px (n := n) (st := st ++ [.list (B.map PV.int)]) (hx.low a (chr_mem ha)) (hy.low b (chr_mem hb))
    have s2 := sp_side px (n := n) (st := st ++ [.list (B.map PV.int)]) (hx.low c (chr_mem hc)) (hy.low d (chr_mem hd))
    have happ : Cl C (n + 1) (.builtin "list.append") [.ref st.length, .int (sideP (one a) (one b) + sideP (one c) (one d))] (st ++ [.list (B.map PV.int)]) .none (st ++ [.list ((waysP x y).map .int)]) := by
     have := _root_.Mine.C.append (C := C) (n := n + 1) (p := .int (sideP (one a) (one b) + sideP (one c) (one d))) hg (by simp; omega)
     rw [hW]
     simpa using this
    obtain ⟨lo', h⟩ := fin (waysP x y) rfl (by
     apply Ex1.if_t
     ·apply Tr.and_t
      ·apply Tr.cmp
       ·walk_at "ev"
       ·walk_at "ev"
       ·exact e1
       ·with_unfolding_all rfl
      ·apply Tr.and_last
       apply Tr.cmp
       ·walk_at "ev"
       ·walk_at "ev"
       ·exact e2
       ·with_unfolding_all rfl
     ·apply Ex.cons
      ·apply Ex1.expr
       ·apply Ev.meth_append
        ·walk_at "ev"
        ·walk_at "typ"
        ·apply EvL.cons
         ·apply Ev.bin
          ·apply Ev.callf
           ·walk_at "ev"
           ·apply EvL.cons
            ·exact Ev.sub (Ev.loc rfl rfl) Ev.cint (chr_op ha (by omega) (by omega) (by intro _ _; with_unfolding_all rfl))
            ·apply EvL.cons
             ·exact Ev.sub (Ev.loc rfl rfl) Ev.cint (chr_op hb (by omega) (by omega) (by intro _ _; with_unfolding_all rfl))
             ·exact EvL.nil
             ·intro _; rfl
            ·intro _; rfl
           ·exact Px.K ‹Px _› _ _ rfl
           ·rfl
           ·exact s1
           ·intro _; rfl
           ·intro _; rfl
          ·apply Ev.callf
           ·walk_at "ev"
           ·apply EvL.cons
            ·exact Ev.sub (Ev.loc rfl rfl) Ev.cint (chr_op hc (by omega) (by omega) (by intro _ _; with_unfolding_all rfl))
            ·apply EvL.cons
             ·exact Ev.sub (Ev.loc rfl rfl) Ev.cint (chr_op hd (by omega) (by omega) (by intro _ _; with_unfolding_all rfl))
             ·exact EvL.nil
             ·intro _; rfl
            ·intro _; rfl
           ·exact Px.K ‹Px _› _ _ rfl
           ·rfl
           ·exact s2
           ·intro _; rfl
           ·intro _; rfl
          ·exact O.add
         ·exact EvL.nil
         ·intro _; rfl
        ·exact happ
        ·intro _; rfl
        ·intro _; rfl
        ·rfl
        ·intro _; rfl
       ·intro _ _; rfl
      exact Ex.nil)
    exact ⟨lo', _, SExt.app _ _, h⟩
   ·have hW : waysP x y = B := by
     unfold waysP
     rw [if_neg (by simp [hy2]), ← hB, List.append_nil]
    have e2 : Op2 C (n + 1) (compareOp .Eq) (.int (y.length : Int)) (.int 2) (st ++ [.list (B.map PV.int)]) (.bool false) (st ++ [.list (B.map PV.int)]) := by
     have := O.eq (C := C) (n := n + 1) (a := (y.length : Int)) (b := 2) (st := st ++ [.list (B.map PV.int)])
     rwa [show ((y.length : Int) == 2) = false by simp; omega] at this
    obtain ⟨lo', h⟩ := fin (waysP x y) rfl (by
     rw [hW]
     apply Ex1.if_f
     ·apply Tr.and_t
      ·apply Tr.cmp
       ·walk_at "ev"
       ·walk_at "ev"
       ·exact e1
       ·with_unfolding_all rfl
      ·apply Tr.and_last
       apply Tr.cmp
       ·walk_at "ev"
       ·walk_at "ev"
       ·exact e2
       ·with_unfolding_all rfl
     ·exact Ex.nil)
    exact ⟨lo', _, SExt.app _ _, h⟩
  ·have hW : waysP x y = B := by
    unfold waysP
    rw [if_neg (by simp [hx2]), ← hB, List.append_nil]
   have e1 : Op2 C (n + 1) (compareOp .Eq) (.int (x.length : Int)) (.int 2) (st ++ [.list (B.map PV.int)]) (.bool false) (st ++ [.list (B.map PV.int)]) := by
    have := O.eq (C := C) (n := n + 1) (a := (x.length : Int)) (b := 2) (st := st ++ [.list (B.map PV.int)])
    rwa [show ((x.length : Int) == 2) = false by simp; omega] at this
   obtain ⟨lo', h⟩ := fin (waysP x y) rfl (by
    rw [hW]
    apply Ex1.if_f
    ·apply Tr.and_f
     ·apply Tr.cmp
      ·walk_at "ev"
      ·walk_at "ev"
      ·exact e1
      ·with_unfolding_all rfl
    ·exact Ex.nil)
   exact ⟨lo', _, SExt.app _ _, h⟩
 obtain ⟨lo', st', hs, h⟩ := body
 refine ⟨st', hs, ?_⟩
 refine Cl.fn (names := ["one", "other"]) (body := bodyOf (stAt 21)) (px.K 243 _ rfl) rfl rfl rfl (codeRec_of px.K rfl) rfl rfl ?_ ?_ ?_ h rfl ?_
 ·intro vs hv
  obtain ⟨v1, v2, rfl⟩ := len2 hv
  rfl
 ·decide
 ·decide +kernel
 ·decide
end
section
noncomputable def nm (j i : Nat) : Str := ⟨#[97 + j, 97 + i]⟩
theorem chr_abc : ∀ j : Nat, j < 5 → chr (Str.ofString "abcde") ((j : Nat) : Int) = some (97 + j) := by decide
noncomputable def popAll (lt : PV → PV → Bool) : Nat → List PV → List PV
 | 0, _ => []
 | k + 1, xs => match xs.getLast? with
  | none => []
  | some x => (hpop lt xs.dropLast x).2 :: popAll lt k (hpop lt xs.dropLast x).1
noncomputable def pushAll (lt : PV → PV → Bool) (l : List PV) (xs : List PV) : List PV := l.foldl (hpush lt) xs
theorem hpush_len (lt : PV → PV → Bool) (xs : List PV) (x : PV) : (hpush lt xs x).length = xs.length + 1 := by
 unfold hpush; rw [siftdown_len]; simp
theorem hpush_mem (lt : PV → PV → Bool) (S : PV → Prop) (xs : List PV) (x : PV) (h : ∀ y ∈ xs, S y) (hx : S x) : ∀ y ∈ hpush lt xs x, S y := by
 unfold hpush
 refine siftdown_mem lt S _ _ _ fun y hy => ?_
 rcases List.mem_append.mp hy with q | q
 ·exact h y q
 ·simp at q; exact q ▸ hx
theorem hpop_len (lt : PV → PV → Bool) (xs : List PV) (x : PV) : (hpop lt xs x).1.length = xs.length := by
 cases xs with
 | nil => rfl
 | cons y ys => show (siftup lt (x :: ys) 0).length = _; rw [siftup_len]; rfl
theorem hpop_mem (lt : PV → PV → Bool) (S : PV → Prop) (xs : List PV) (x : PV) (h : ∀ y ∈ xs, S y) (hx : S x) : (∀ y ∈ (hpop lt xs x).1, S y) ∧ S (hpop lt xs x).2 := by
 cases xs with
 | nil => exact ⟨(fun y hy => nomatch hy), hx⟩
 | cons z zs =>
  have key : ∀ y ∈ siftup lt (x :: zs) 0, S y := siftup_mem lt S _ _ fun y hy => by
   rcases List.mem_cons.mp hy with q | q
   ·exact q ▸ hx
   ·exact h y (List.mem_cons_of_mem _ q)
  exact ⟨key, h z List.mem_cons_self⟩
noncomputable def STup (p : PV) : Prop := ∃ d x, p = .tup [.int d, .str x]
noncomputable def ltTup : PV → PV → Bool
 | .tup [.int a, .str x], .tup [.int b, .str y] => tupLt a x b y
 | _, _ => false
theorem ltOk_tup {C : Cx} {n i : Nat} {st : Sto} : LtOk C n i STup ltTup st := by
 rintro p q o ⟨a, x, rfl⟩ ⟨b, y, rfl⟩
 exact O.lt_tup
noncomputable abbrev φti : Scope := scopeOf (stAt 22)
noncomputable abbrev G1 : Stmt := sAt (bodyOf (stAt 22)) 1
noncomputable abbrev G2 : Stmt := sAt (bOf G1) 0
noncomputable abbrev Wti : Stmt := sAt (bodyOf (stAt 22)) 3
noncomputable def tieOf (xs : List Str) (L : Str → Str → Int) (j i : Nat) : PV := .tup [.int (L (xs.getD j default) (xs.getD i default)), .str (nm j i)]
structure LevOk (xs : List Str) (L : Str → Str → Int) : Prop where
 len : ∀ x ∈ xs, x.length ≤ 500
 lev : ∀ x ∈ xs, ∀ y ∈ xs, levP x y = some (L x y)
 five : xs.length ≤ 5
theorem getD_mem' {xs : List Str} {i : Nat} (h : i < xs.length) : xs.getD i default ∈ xs := by
 rw [List.getD_eq_getElem?_getD, List.getElem?_eq_getElem h]; exact List.getElem_mem h
theorem getD_at' {xs : List Str} {i : Nat} (h : i < xs.length) : xs[i]? = some (xs.getD i default) := by
 rw [List.getD_eq_getElem?_getD, List.getElem?_eq_getElem h]; rfl
theorem ties_in {C : Cx} (px : Px C) {n : Nat} {xs : List Str} {L : Str → Str → Int} (ok : LevOk xs L) {w h i : Nat} {base st : Sto} {H : List PV} (hb : base.length ≤ h) (hs : SExt base st) (hw : base[w]? = some (.list (xs.map .str)))
  (hh : st[h]? = some (.list H)) (hS : ∀ y ∈ H, STup y) (hz : H.length ≤ 1000) (hi : i < xs.length) :
  ∃ st', SExt base st' ∧ st'[h]? = some (.list (pushAll ltTup ((List.range i).map fun j => tieOf xs L j i) H)) ∧
   Fo C (n + 2) φti [("i", .int (i : Int)), ("heap", .ref h), ("words", .ref w)] (fT G2) (bOf G2) (RangeIt 0 1 i) 0 st .next [("heap", .ref h), ("words", .ref w)] st' := by
 have h5 := ok.five
 obtain ⟨lo', st', ⟨e1, e2, e3⟩, hf⟩ := Fo.inv0 (C := C) (n := n + 2) (φ := φti) (t := fT G2) (b := bOf G2) (It := RangeIt 0 1 i)
  (fun j lo s => lo = ([("i", .int (i : Int)), ("heap", .ref h), ("words", .ref w)] : Loc) ∧ SExt base s ∧ ∃ K : List PV, s[h]? = some (.list K) ∧ K = pushAll ltTup ((List.range j).map fun j => tieOf xs L j i) H ∧ (∀ y ∈ K, STup y) ∧ K.length = H.length + j)
  i (lo := [("i", .int (i : Int)), ("heap", .ref h), ("words", .ref w)]) (st := st) ⟨rfl, hs, H, hh, rfl, hS, by omega⟩
  (fun j lo s hj ⟨e1, e2, K, k1, k2, k3, k4⟩ => by
   subst e1
   have hj5 : j < xs.length := by omega
   have hxj := getD_mem' hj5
   have hxi := getD_mem' hi
   have hww : s[w]? = some (.list (xs.map PV.str)) := e2 _ _ hw
   have aj : at? (xs.map PV.str) (j : Int) = some (.str (xs.getD j default)) := at_nat (by rw [List.getElem?_map, getD_at' hj5]; rfl)
   have ai : at? (xs.map PV.str) (i : Int) = some (.str (xs.getD i default)) := at_nat (by rw [List.getElem?_map, getD_at' hi]; rfl)
   have zw : (xs.map PV.str).length ≤ 2 ^ 24 := by rw [List.length_map]; omega
   have hx1 := ok.len _ hxj
   have hx2 := ok.len _ hxi
   obtain ⟨s1, f1, f2⟩ := sp_lev px (n := n) (st := s) hx1 hx2 (ok.lev _ hxj _ hxi)
   have k1' : s1[h]? = some (.list K) := f1 _ _ k1
   have hT : STup (tieOf xs L j i) := ⟨_, _, rfl⟩
   have hpu := sp_heappush px (n := n) (i := h) (xs := K) (x := tieOf xs L j i) (st := s1) ltOk_tup k3 hT k1' (by omega)
   have hadd : Op2 C (n + 2) (binaryOp .Add) (.str (one (97 + j))) (.str (one (97 + i))) s1 (.str (nm j i)) s1 := O.adds (show 1 + 1 ≤ sizeLine by rw [sizeLine_eq]; decide)
   apply StepI.mk (p := .int (j : Int)) (lo3 := [("i", .int (i : Int)), ("heap", .ref h), ("words", .ref w)]) (st2 := s1.set h (.list (hpush ltTup K (tieOf xs L j i))))
   ·refine ⟨rfl, (e2.trans f1).setNew hb, _, gs_self k1', ?_, hpush_mem _ _ _ _ k3 hT, by rw [hpush_len, k4]; omega⟩
    rw [k2, List.range_succ, List.map_append]; unfold pushAll; rw [List.foldl_append]; rfl
   ·exact rangeIt_at hj
   ·exact As.name (.inl rfl)
   ·apply Ex.cons
    ·apply Ex1.expr
     ·apply Ev.callf
      ·walk_at "ev"
      ·apply EvL.cons
       ·walk_at "ev"
       ·apply EvL.cons
        ·apply Ev.tup
         ·apply EvL.cons
          ·apply Ev.callf
           ·walk_at "ev"
           ·walk_at "evl"
           ·exact Px.K ‹Px _› _ _ rfl
           ·rfl
           ·exact f2
           ·intro _; rfl
           ·intro _; rfl
          ·apply EvL.cons
           ·apply Ev.bin
            ·exact Ev.sub Ev.cstr (Ev.loc rfl rfl) (chr_op (chr_abc j (by omega)) (by omega) (by omega) (by intro _ _; with_unfolding_all rfl))
            ·exact Ev.sub Ev.cstr (Ev.loc rfl rfl) (chr_op (chr_abc i (by omega)) (by omega) (by omega) (by intro _ _; with_unfolding_all rfl))
            ·exact hadd
           ·exact EvL.nil
           ·intro _; rfl
          ·intro _; rfl
         ·simp [sizeLine_eq]
        ·exact EvL.nil
        ·intro _; rfl
       ·intro _; rfl
      ·exact Px.K ‹Px _› _ _ rfl
      ·rfl
      ·exact hpu
      ·intro _; rfl
      ·intro _; rfl
     ·intro _ _; rfl
    exact Ex.nil
   ·exact ⟨rfl, rfl, rfl, trivial⟩)
  (fun lo s h => rangeIt_end)
 obtain ⟨K, k1, k2, k3, k4⟩ := e3
 subst e1
 refine ⟨st', e2, by rw [k1, k2], hf.sub (SubL.ok ⟨rfl, rfl, trivial⟩)⟩
end
section
noncomputable def tieList (xs : List Str) (L : Str → Str → Int) (m : Nat) : List PV := (List.range m).flatMap fun i => (List.range i).map fun j => tieOf xs L j i
theorem pushAll_app (lt : PV → PV → Bool) (a b xs : List PV) : pushAll lt (a ++ b) xs = pushAll lt b (pushAll lt a xs) := by unfold pushAll; rw [List.foldl_append]
theorem pushAll_mem (lt : PV → PV → Bool) (S : PV → Prop) : ∀ (l xs : List PV), (∀ y ∈ l, S y) → (∀ y ∈ xs, S y) → ∀ y ∈ pushAll lt l xs, S y
 | [], xs, _, h => h
 | a :: l, xs, h1, h2 => pushAll_mem lt S l _ (fun y hy => h1 y (List.mem_cons_of_mem _ hy)) (hpush_mem lt S xs a h2 (h1 a List.mem_cons_self))
theorem pushAll_len (lt : PV → PV → Bool) : ∀ (l xs : List PV), (pushAll lt l xs).length = xs.length + l.length
 | [], xs => rfl
 | a :: l, xs => by
  show (pushAll lt l (hpush lt xs a)).length = _
  rw [pushAll_len lt l, hpush_len, List.length_cons]; omega
theorem tieRow_mem {xs : List Str} {L : Str → Str → Int} {i : Nat} : ∀ y ∈ (List.range i).map (fun j => tieOf xs L j i), STup y := by
 intro y hy
 obtain ⟨j, _, rfl⟩ := List.mem_map.mp hy
 exact ⟨_, _, rfl⟩
theorem tieList_mem {xs : List Str} {L : Str → Str → Int} {m : Nat} : ∀ y ∈ tieList xs L m, STup y := by
 intro y hy
 obtain ⟨i, _, h⟩ := List.mem_flatMap.mp hy
 exact tieRow_mem y h
theorem tieList_len {xs : List Str} {L : Str → Str → Int} : ∀ {m : Nat}, m ≤ 5 → (tieList xs L m).length ≤ m * 5
 | 0, _ => by simp [tieList]
 | m + 1, h => by
  have := tieList_len (xs := xs) (L := L) (m := m) (by omega)
  unfold tieList at *
  rw [List.range_succ, List.flatMap_append, List.length_append]
  simp only [List.flatMap_cons, List.flatMap_nil, List.append_nil, List.length_map, List.length_range]
  omega
theorem ties_out {C : Cx} (px : Px C) {n : Nat} {xs : List Str} {L : Str → Str → Int} (ok : LevOk xs L) {w h : Nat} {base st : Sto} (hb : base.length ≤ h) (hs : SExt base st) (hw : base[w]? = some (.list (xs.map .str)))
  (hh : st[h]? = some (.list [])) :
  ∃ st', SExt base st' ∧ st'[h]? = some (.list (pushAll ltTup (tieList xs L xs.length) [])) ∧
   Fo C (n + 2) φti [("heap", .ref h), ("words", .ref w)] (fT G1) (bOf G1) (RangeIt 0 1 xs.length) 0 st .next [("heap", .ref h), ("words", .ref w)] st' := by
 have h5 := ok.five
 obtain ⟨lo', st', ⟨e1, e2, e3⟩, hf⟩ := Fo.inv0 (C := C) (n := n + 2) (φ := φti) (t := fT G1) (b := bOf G1) (It := RangeIt 0 1 xs.length)
  (fun i lo s => lo = ([("heap", .ref h), ("words", .ref w)] : Loc) ∧ SExt base s ∧ s[h]? = some (.list (pushAll ltTup (tieList xs L i) [])))
  xs.length (lo := [("heap", .ref h), ("words", .ref w)]) (st := st) ⟨rfl, hs, hh⟩
  (fun i lo s hi ⟨e1, e2, e3⟩ => by
   subst e1
   have hl : (pushAll ltTup (tieList xs L i) []).length ≤ 1000 := by
    rw [pushAll_len]
    have := tieList_len (xs := xs) (L := L) (m := i) (by omega)
    simp only [List.length_nil]; omega
   obtain ⟨s1, f1, f2, f3⟩ := ties_in px (n := n) ok hb e2 hw e3 (pushAll_mem _ _ _ _ tieList_mem (fun y hy => nomatch hy)) hl hi
   have hit : ItrE C (n + 2) φti (("i", .int (i : Int)) :: [("heap", .ref h), ("words", .ref w)]) (fI G2) s (RangeIt 0 1 i) s := by
    have := ItrE.of (C := C) (n := n + 2) (φ := φti) (lo := ("i", .int (i : Int)) :: [("heap", .ref h), ("words", .ref w)]) (e := fI G2) (st := s) (p := .rng 0 (i : Int) 1) (st1 := s) (by
     apply Ev.callt
     ·walk_at "ev"
     ·walk_at "evl"
     ·exact _root_.Mine.C.range1
     ·intro _; rfl
     ·intro _; rfl) (Itr.rng (by omega) (by omega) (by omega) (by omega))
    rwa [show ((i : Int) - 0).toNat = i by omega] at this
   apply StepI.mk (p := .int (i : Int)) (lo3 := [("heap", .ref h), ("words", .ref w)]) (st2 := s1)
   ·refine ⟨rfl, f1, ?_⟩
    rw [f2, ← pushAll_app]
    unfold tieList
    rw [List.range_succ, List.flatMap_append]; simp
   ·exact rangeIt_at hi
   ·exact As.name (.inl rfl)
   ·apply Ex.cons
    ·exact Ex1.forE hit f3 (by intro _ _; rfl)
    exact Ex.nil
   ·exact ⟨rfl, rfl, trivial⟩)
  (fun lo s h => rangeIt_end)
 subst e1
 exact ⟨st', e2, e3, hf⟩
theorem getLast_snoc {H : List PV} {x : PV} (h : H.getLast? = some x) : H = H.dropLast ++ [x] := by
 cases H with
 | nil => cases h
 | cons a l =>
  rw [List.getLast?_eq_some_getLast (by simp)] at h
  cases h
  exact (List.dropLast_concat_getLast (by simp)).symm
theorem ties_while {C : Cx} (px : Px C) {n : Nat} {h t w : Nat} {base : Sto} (hb : base.length ≤ h) (ht : base.length ≤ t) (hne : h ≠ t) : ∀ (k : Nat) (H T : List PV) (st : Sto), H.length = k → SExt base st → st[h]? = some (.list H) → st[t]? = some (.list T) →
  (∀ y ∈ H, STup y) → k ≤ 1000 → T.length + k ≤ 1000 →
  ∃ st', SExt base st' ∧ st'[t]? = some (.list (T ++ popAll ltTup k H)) ∧ Wh C (n + 3) φti [("ties", .ref t), ("heap", .ref h), ("words", .ref w)] (tOf Wti) (bOf Wti) st .next [("ties", .ref t), ("heap", .ref h), ("words", .ref w)] st'
 | 0, H, T, st, hl, hs, hh, htt, hS, hz, hz2 => by
  have : H = [] := List.eq_nil_of_length_eq_zero hl
  subst this
  have hh1 : (st ++ [Ob.list []])[h]? = some (.list []) := ga hh
  have hnil : (st ++ [Ob.list []])[st.length]? = some (.list []) := gl
  refine ⟨st ++ [.list []], hs.trans (SExt.app _ _), by simpa [popAll] using ga htt, ?_⟩
  apply Wh.done
  apply Tr.cmp
  ·walk_at "ev"
  ·walk_at "ev"
  ·exact O.ne_nil hh1 hnil
  ·with_unfolding_all rfl
 | k + 1, H, T, st, hl, hs, hh, htt, hS, hz, hz2 => by
  have hne0 : H ≠ [] := by intro q; subst q; cases hl
  obtain ⟨x, hx⟩ : ∃ x, H.getLast? = some x := ⟨_, List.getLast?_eq_some_getLast hne0⟩
  have hH := getLast_snoc hx
  have hSx : STup x := hS x (by rw [hH]; simp)
  have hSd : ∀ y ∈ H.dropLast, STup y := fun y hy => hS y (List.dropLast_subset _ hy)
  have hdl : H.dropLast.length = k := by rw [List.length_dropLast, hl]; rfl
  have hh1 : (st ++ [Ob.list []])[h]? = some (.list (H.dropLast ++ [x])) := by rw [← hH]; exact ga hh
  have ht1 : (st ++ [Ob.list []])[t]? = some (.list T) := ga htt
  have hnil : (st ++ [Ob.list []])[st.length]? = some (.list []) := gl
  have hpp := sp_heappop px (n := n) (i := h) (xs := H.dropLast) (x := x) (st := st ++ [Ob.list []]) ltOk_tup hSd hSx hh1 (by omega)
  obtain ⟨m1, m2⟩ := hpop_mem ltTup STup H.dropLast x hSd hSx
  have hlen := hpop_len ltTup H.dropLast x
  generalize hr : hpop ltTup H.dropLast x = r at hpp m1 m2 hlen
  generalize hst2 : (st ++ [Ob.list []]).set h (.list r.1) = st2 at hpp
  have hh2 : st2[h]? = some (.list r.1) := by rw [← hst2]; exact gs_self hh1
  have ht2 : st2[t]? = some (.list T) := by rw [← hst2]; exact gs_ne hne ht1
  have hs2 : SExt base st2 := by rw [← hst2]; exact (hs.trans (SExt.app _ _)).setNew hb
  have hz3 : T.length ≤ 2 ^ 20 := by omega
  obtain ⟨st', g1, g2, g3⟩ := ties_while px (n := n) (w := w) hb ht hne k r.1 (T ++ [r.2]) (st2.set t (.list (T ++ [r.2]))) (by omega) (hs2.setNew ht) (gs_ne (Ne.symm hne) hh2) (gs_self ht2) m1 (by omega) (by rw [List.length_append]; simp only [List.length_singleton]; omega)
  refine ⟨st', g1, ?_, ?_⟩
  ·rw [g2]
   show _ = some (Ob.list (T ++ popAll ltTup (k + 1) H))
   have e : popAll ltTup (k + 1) H = r.2 :: popAll ltTup k r.1 := by
    show (match H.getLast? with | none => [] | some x => (hpop ltTup H.dropLast x).2 :: popAll ltTup k (hpop ltTup H.dropLast x).1) = _
    rw [hx]; dsimp only; rw [hr]
   rw [e]
   simp
  ·have hcmp : Op2 C (n + 3) (compareOp .NotEq) (.ref h) (.ref st.length) (st ++ [Ob.list []]) (.bool true) (st ++ [Ob.list []]) := by
    have := O.ne_nil (C := C) (n := n + 3) hh1 hnil
    rwa [show (!(H.dropLast ++ [x]).isEmpty) = true by simp] at this
   refine Wh.turn (lo1 := [("ties", .ref t), ("heap", .ref h), ("words", .ref w)]) (st1 := st ++ [Ob.list []]) (st2 := st2.set t (.list (T ++ [r.2]))) ?_ (.inl ?_) g3
   ·apply Tr.cmp
    ·walk_at "ev"
    ·walk_at "ev"
    ·exact hcmp
    ·with_unfolding_all rfl
   ·apply Ex.cons
    ·walk_at "st"
    exact Ex.nil
theorem sp_ties {C : Cx} (px : Px C) {n : Nat} {xs : List Str} {L : Str → Str → Int} (ok : LevOk xs L) {w : Nat} {st : Sto} (hw : st[w]? = some (.list (xs.map .str))) :
  ∃ st' t, SExt st st' ∧ st'[t]? = some (.list (popAll ltTup (tieList xs L xs.length).length (pushAll ltTup (tieList xs L xs.length) []))) ∧ Cl C (n + 4) (.ref 250) [.ref w] st (.ref t) st' := by
 have h5 := ok.five
 obtain ⟨s1, a1, a2, a3⟩ := ties_out px (n := n + 1) ok (h := st.length) (base := st) (st := st ++ [.list []]) (Nat.le_refl _) (SExt.app _ _) hw gl
 have hl := tieList_len (xs := xs) (L := L) (m := xs.length) h5
 have hpl := pushAll_len ltTup (tieList xs L xs.length) []
 simp only [List.length_nil, Nat.zero_add] at hpl
 have hlt1 : st.length < s1.length := (List.getElem?_eq_some_iff.mp a2).1
 obtain ⟨s2, b1, b2, b3⟩ := ties_while px (n := n) (w := w) (h := st.length) (t := s1.length) (base := st) (Nat.le_refl _) (by omega) (by omega) _ (pushAll ltTup (tieList xs L xs.length) []) [] (s1 ++ [.list []]) hpl (a1.trans (SExt.app _ _)) (ga a2) gl
  (pushAll_mem _ _ _ _ tieList_mem (fun y hy => nomatch hy)) (by omega) (by simp only [List.length_nil]; omega)
 have hz : (xs.map PV.str).length ≤ 2 ^ 24 := by rw [List.length_map]; omega
 have hlen : Cl C (n + 3) (.builtin "len") [.ref w] (st ++ [.list []]) (.int (xs.length : Int)) (st ++ [.list []]) := by
  have := _root_.Mine.C.len_list (C := C) (n := n + 3) (st := st ++ [.list []]) (ga hw) hz
  rwa [List.length_map] at this
 have hit : ItrE C (n + 3) φti (("heap", .ref st.length) :: [("words", .ref w)]) (fI G1) (st ++ [.list []]) (RangeIt 0 1 xs.length) (st ++ [.list []]) := by
  have := ItrE.of (C := C) (n := n + 3) (φ := φti) (lo := ("heap", .ref st.length) :: [("words", .ref w)]) (e := fI G1) (st := st ++ [.list []]) (p := .rng 0 (xs.length : Int) 1) (st1 := st ++ [.list []]) (by
   apply Ev.callt
   ·walk_at "ev"
   ·apply EvL.cons
    ·walk_at "ev"
    ·walk_at "evl"
    ·intro _; rfl
   ·exact _root_.Mine.C.range1
   ·intro _; rfl
   ·intro _; rfl) (Itr.rng (by omega) (by omega) (by omega) (by omega))
  rwa [show ((xs.length : Int) - 0).toNat = xs.length by omega] at this
 have body : ∃ lo', Ex C (n + 3) φti [("words", .ref w)] (bodyOf (stAt 22)) st (.ret (.ref s1.length)) lo' s2 := by
  apply Exists.intro
  apply Ex.cons
  ·walk_at "st"
  apply Ex.cons
  ·exact Ex1.forE hit a3 (by intro _ _; rfl)
  apply Ex.cons
  ·walk_at "st"
  apply Ex.cons
  ·apply Ex1.while
   exact b3
  apply Ex.stop
  ·walk_at "st"
  ·intro h; cases h
 obtain ⟨lo', h⟩ := body
 refine ⟨s2, s1.length, b1, by simpa using b2, ?_⟩
 refine Cl.fn (names := ["words"]) (body := bodyOf (stAt 22)) (px.K 250 _ rfl) rfl rfl rfl (codeRec_of px.K rfl) rfl rfl ?_ ?_ ?_ h rfl ?_
 ·intro vs hv
  obtain ⟨v1, rfl⟩ := len1 hv
  rfl
 ·decide
 ·decide +kernel
 ·decide
end
section
noncomputable abbrev φbn : Scope := scopeOf (stAt 23)
noncomputable abbrev Gbn : Stmt := sAt (bodyOf (stAt 23)) 1
noncomputable def tpv (tl : List (Int × Str)) : List PV := tl.map fun p => .tup [.int p.1, .str p.2]
theorem zip_snoc {α β : Type} {a : List α} {b : List β} {k : Nat} {x : α} {y : β} (h1 : a[k]? = some x) (h2 : b[k]? = some y) : (a.take (k + 1)).zip (b.take (k + 1)) = (a.take k).zip (b.take k) ++ [(x, y)] := by
 have l1 := (List.getElem?_eq_some_iff.mp h1).1
 have l2 := (List.getElem?_eq_some_iff.mp h2).1
 rw [take_snoc h1, take_snoc h2, List.zip_append (by rw [List.length_take, List.length_take]; omega)]; rfl
theorem sp_byname {C : Cx} (px : Px C) {n : Nat} {tl : List (Int × Str)} {vs : List PV} {t v : Nat} {st : Sto} (ht : st[t]? = some (.list (tpv tl))) (hv : st[v]? = some (.list vs)) (hl : vs.length = tl.length) (hz : tl.length ≤ 1000) (hnd : (tl.map (·.2)).Nodup) :
  Cl C (n + 1) (.ref 257) [.ref t, .ref v] st (.ref st.length) (st ++ [.dict ((tl.map (·.2)).zip vs)]) := by
 have hlen : Cl C n (.builtin "len") [.ref t] (st ++ [.dict []]) (.int (tl.length : Int)) (st ++ [.dict []]) := by
  have := _root_.Mine.C.len_list (C := C) (n := n) (st := st ++ [.dict []]) (ga ht) (by unfold tpv; rw [List.length_map]; omega)
  unfold tpv at this
  rwa [List.length_map] at this
 have hit : ItrE C n φbn (("found", .ref st.length) :: [("ties", .ref t), ("values", .ref v)]) (fI Gbn) (st ++ [.dict []]) (RangeIt 0 1 tl.length) (st ++ [.dict []]) := by
  have := ItrE.of (C := C) (n := n) (φ := φbn) (lo := ("found", .ref st.length) :: [("ties", .ref t), ("values", .ref v)]) (e := fI Gbn) (st := st ++ [.dict []]) (p := .rng 0 (tl.length : Int) 1) (st1 := st ++ [.dict []]) (by
   apply Ev.callt
   ·walk_at "ev"
   ·apply EvL.cons
    ·walk_at "ev"
    ·walk_at "evl"
    ·intro _; rfl
   ·exact _root_.Mine.C.range1
   ·intro _; rfl
   ·intro _; rfl) (Itr.rng (by omega) (by omega) (by omega) (by omega))
  rwa [show ((tl.length : Int) - 0).toNat = tl.length by omega] at this
 obtain ⟨lo', st', ⟨e1, e2⟩, hf⟩ := Fo.inv0 (C := C) (n := n) (φ := φbn) (t := fT Gbn) (b := bOf Gbn) (It := RangeIt 0 1 tl.length)
  (fun k lo s => lo = ([("found", .ref st.length), ("ties", .ref t), ("values", .ref v)] : Loc) ∧ s = st ++ [.dict (((tl.map (·.2)).take k).zip (vs.take k))])
  tl.length (lo := [("found", .ref st.length), ("ties", .ref t), ("values", .ref v)]) (st := st ++ [.dict []]) ⟨rfl, by simp⟩
  (fun k lo s hk ⟨e1, e2⟩ => by
   subst e1 e2
   have hp : tl[k]? = some tl[k] := List.getElem?_eq_getElem hk
   have hkv : k < vs.length := by omega
   have hq : vs[k]? = some vs[k] := List.getElem?_eq_getElem hkv
   generalize tl[k] = p at hp
   generalize vs[k] = q at hq
   have hn : (tl.map (·.2))[k]? = some p.2 := by rw [List.getElem?_map, hp]; rfl
   have a1 : at? (tpv tl) (k : Int) = some (.tup [.int p.1, .str p.2]) := at_nat (by unfold tpv; rw [List.getElem?_map, hp]; rfl)
   have a2 : at? vs (k : Int) = some q := at_nat hq
   have z1 : (tpv tl).length ≤ 2 ^ 24 := by unfold tpv; rw [List.length_map]; omega
   have z2 : vs.length ≤ 2 ^ 24 := by omega
   have hnot : p.2 ∉ ((((tl.map (·.2)).take k).zip (vs.take k)).map (·.1)) := by
    intro hm
    have hm2 : p.2 ∈ (tl.map (·.2)).take k := by
     obtain ⟨⟨a, b⟩, h1, h2⟩ := List.mem_map.mp hm
     have := (List.of_mem_zip h1).1
     cases h2; exact this
    obtain ⟨i, hi, hi2⟩ := List.getElem_of_mem hm2
    rw [List.length_take] at hi
    have hi3 : (tl.map (·.2))[i]? = some p.2 := by
     rw [List.getElem_take] at hi2
     rw [List.getElem?_eq_getElem (by omega), hi2]
    have := nodup_idx hnd hi3 hn
    omega
   have hset : Op3 C n (.ref st.length) (.str p.2) q (st ++ [.dict (((tl.map (·.2)).take k).zip (vs.take k))]) (st ++ [.dict (((tl.map (·.2)).take (k + 1)).zip (vs.take (k + 1)))]) := by
    have := O.setDict (C := C) (n := n) (p := q) (i := st.length) (st := st ++ [.dict (((tl.map (·.2)).take k).zip (vs.take k))]) gl hnot (by rw [List.length_zip, List.length_take, List.length_take]; omega)
    rw [zip_snoc hn hq]
    simpa using this
   apply StepI.mk (p := .int (k : Int)) (lo3 := [("found", .ref st.length), ("ties", .ref t), ("values", .ref v)]) (st2 := st ++ [.dict (((tl.map (·.2)).take (k + 1)).zip (vs.take (k + 1)))])
   ·exact ⟨rfl, rfl⟩
   ·exact rangeIt_at hk
   ·exact As.name (.inl rfl)
   ·apply Ex.cons
    ·apply Ex1.asg
     ·walk_at "ev"
     ·apply As.sub
      ·walk_at "ev"
      ·apply Ev.sub
       ·walk_at "ev"
       ·walk_at "ev"
       ·exact O.sub_tup (by decide) rfl (by simp) (by intro _ _; with_unfolding_all rfl)
      ·exact hset
     ·intro _ _; rfl
     ·intro _; rfl
     ·intro _; rfl
    exact Ex.nil
   ·exact ⟨rfl, rfl, rfl, trivial⟩)
  (fun lo s h => rangeIt_end)
 rw [List.take_of_length_le (by rw [List.length_map]; omega), List.take_of_length_le (by omega)] at e2
 subst e1 e2
 have body : ∃ lo', Ex C n φbn [("ties", .ref t), ("values", .ref v)] (bodyOf (stAt 23)) st (.ret (.ref st.length)) lo' (st ++ [.dict ((tl.map (·.2)).zip vs)]) := by
  apply Exists.intro
  apply Ex.cons
  ·apply Ex1.asg
   ·exact Ev.dict0
   ·walk_at "as"
   ·intro _ _; rfl
   ·intro _; rfl
   ·intro _; rfl
  apply Ex.cons
  ·exact Ex1.forE hit hf (by intro _ _; rfl)
  apply Ex.stop
  ·walk_at "st"
  ·intro h; cases h
 obtain ⟨lo', h⟩ := body
 refine Cl.fn (names := ["ties", "values"]) (body := bodyOf (stAt 23)) (px.K 257 _ rfl) rfl rfl rfl (codeRec_of px.K rfl) rfl rfl ?_ ?_ ?_ h rfl ?_
 ·intro vs hv
  obtain ⟨v1, v2, rfl⟩ := len2 hv
  rfl
 ·decide
 ·decide +kernel
 ·decide
end
section
noncomputable abbrev φth : Scope := scopeOf (stAt 24)
noncomputable abbrev T1 : Stmt := sAt (bodyOf (stAt 24)) 1
noncomputable abbrev T2 : Stmt := sAt (bOf T1) 0
noncomputable abbrev T3 : Stmt := sAt (bOf T2) 0
structure Lists (st : Sto) (ids : List Nat) (xss : List (List PV)) : Prop where
 len : ids.length = xss.length
 at_ : ∀ (k : Nat) i xs, ids[k]? = some i → xss[k]? = some xs → st[i]? = some (.list xs)
theorem Lists.nil {st : Sto} : Lists st [] [] := ⟨rfl, fun k i xs h => by simp at h⟩
theorem Lists.ext {st st' : Sto} {ids : List Nat} {xss : List (List PV)} (h : Lists st ids xss) (e : SExt st st') : Lists st' ids xss := ⟨h.len, fun k i xs h1 h2 => e _ _ (h.at_ k i xs h1 h2)⟩
theorem Lists.set {st : Sto} {ids : List Nat} {xss : List (List PV)} {j : Nat} {o : Ob} (h : Lists st ids xss) (hj : j ∉ ids) : Lists (st.set j o) ids xss := ⟨h.len, fun k i xs h1 h2 => gs_ne (fun q => hj (q ▸ List.mem_of_getElem? h1)) (h.at_ k i xs h1 h2)⟩
theorem Lists.snoc {st : Sto} {ids : List Nat} {xss : List (List PV)} {i : Nat} {xs : List PV} (h : Lists st ids xss) (hi : st[i]? = some (.list xs)) : Lists st (ids ++ [i]) (xss ++ [xs]) := by
 refine ⟨by simp [h.len], fun k j ys h1 h2 => ?_⟩
 rcases getElem?_snoc h1 with q | ⟨q, rfl⟩
 ·rcases getElem?_snoc h2 with q' | ⟨q', _⟩
  ·exact h.at_ k j ys q q'
  ·have := (List.getElem?_eq_some_iff.mp q).1; rw [h.len] at this; omega
 ·rcases getElem?_snoc h2 with q' | ⟨_, rfl⟩
  ·have := (List.getElem?_eq_some_iff.mp q').1; rw [← h.len] at this; omega
  ·exact hi
noncomputable def threeOf (k j i : Nat) : List Str := [nm k j, nm k i, nm j i]
noncomputable def threesRow (i j : Nat) (m : Nat) : List (List Str) := (List.range m).map fun k => threeOf k j i
noncomputable def threesCol (i m : Nat) : List (List Str) := (List.range m).flatMap fun j => threesRow i j j
noncomputable def threesP (m : Nat) : List (List Str) := (List.range m).flatMap fun i => threesCol i i
noncomputable def sv (xs : List Str) : List PV := xs.map .str
structure Thr (base st : Sto) (t : Nat) (ids : List Nat) (xss : List (List Str)) : Prop where
 ext : SExt base st
 tab : st[t]? = some (.list (ids.map .ref))
 lists : Lists st ids (xss.map sv)
 off : t ∉ ids
 small : ids.length ≤ 200
theorem threes_k {C : Cx} (px : Px C) {n : Nat} {base st : Sto} {t i j c : Nat} {ids : List Nat} {xss : List (List Str)} (H : Thr base st t ids xss) (ht : base.length ≤ t) (hj : j < i) (hi : i < 5) (hs : ids.length ≤ 100) :
  ∃ st' ids', Thr base st' t ids' (xss ++ threesRow i j j) ∧ ids'.length = ids.length + j ∧
   Fo C n φth [("j", .int (j : Int)), ("i", .int (i : Int)), ("threes", .ref t), ("count", .int (c : Int))] (fT T3) (bOf T3) (RangeIt 0 1 j) 0 st .next [("i", .int (i : Int)), ("threes", .ref t), ("count", .int (c : Int))] st' := by
 obtain ⟨lo', st', ⟨e1, ids', e2, e3⟩, hf⟩ := Fo.inv0 (C := C) (n := n) (φ := φth) (t := fT T3) (b := bOf T3) (It := RangeIt 0 1 j)
  (fun k lo s => lo = ([("j", .int (j : Int)), ("i", .int (i : Int)), ("threes", .ref t), ("count", .int (c : Int))] : Loc) ∧ ∃ ids', Thr base s t ids' (xss ++ threesRow i j k) ∧ ids'.length = ids.length + k)
  j (lo := [("j", .int (j : Int)), ("i", .int (i : Int)), ("threes", .ref t), ("count", .int (c : Int))]) (st := st) ⟨rfl, ids, by simpa [threesRow] using H, by omega⟩
  (fun k lo s hk ⟨e1, ids', e2, e3⟩ => by
   subst e1
   have g0 : (s ++ [Ob.list (sv (threeOf k j i))])[t]? = some (.list (ids'.map .ref)) := ga e2.tab
   have htl := (List.getElem?_eq_some_iff.mp e2.tab).1
   have happ : Cl C n (.builtin "list.append") [.ref t, .ref s.length] (s ++ [Ob.list (sv (threeOf k j i))]) .none ((s ++ [Ob.list (sv (threeOf k j i))]).set t (.list ((ids' ++ [s.length]).map .ref))) := by
    have := _root_.Mine.C.append (C := C) (n := n) (p := .ref s.length) g0 (by rw [List.length_map]; have := e2.small; omega)
    simpa using this
   have add : ∀ (a b : Nat) (S : Sto), Op2 C n (binaryOp .Add) (.str (one (97 + a))) (.str (one (97 + b))) S (.str (nm a b)) S := fun a b S => O.adds (show 1 + 1 ≤ sizeLine by rw [sizeLine_eq]; decide)
   apply StepI.mk (p := .int (k : Int)) (lo3 := [("j", .int (j : Int)), ("i", .int (i : Int)), ("threes", .ref t), ("count", .int (c : Int))]) (st2 := (s ++ [Ob.list (sv (threeOf k j i))]).set t (.list ((ids' ++ [s.length]).map .ref)))
   ·refine ⟨rfl, ids' ++ [s.length], ⟨(e2.ext.trans (SExt.app _ _)).setNew ht, gs_self g0, ?_, ?_, ?_⟩, by rw [List.length_append, e3]; rfl⟩
    ·have hoff : t ∉ ids' ++ [s.length] := by
      intro q
      rcases List.mem_append.mp q with q | q
      ·exact e2.off q
      ·simp at q; omega
     have h1 := ((e2.lists.ext (SExt.app s [Ob.list (sv (threeOf k j i))])).snoc (i := s.length) (xs := sv (threeOf k j i)) gl).set (j := t) (o := .list ((ids' ++ [s.length]).map .ref)) hoff
     have e4 : (xss ++ threesRow i j (k + 1)).map sv = (xss ++ threesRow i j k).map sv ++ [sv (threeOf k j i)] := by
      unfold threesRow; rw [List.range_succ]; simp
     rw [e4]; exact h1
    ·intro q
     rcases List.mem_append.mp q with q | q
     ·exact e2.off q
     ·simp at q; omega
    ·rw [List.length_append, e3]; simp only [List.length_singleton]; omega
   ·exact rangeIt_at hk
   ·exact As.name (.inl rfl)
   ·apply Ex.cons
    ·apply Ex1.expr
     ·apply Ev.meth_append
      ·walk_at "ev"
      ·exact TyP.list e2.tab
      ·apply EvL.cons
       ·apply Ev.list
        ·apply EvL.cons
         ·apply Ev.bin
          ·exact Ev.sub Ev.cstr (Ev.loc rfl rfl) (chr_op (chr_abc k (by omega)) (by omega) (by omega) (by intro _ _; with_unfolding_all rfl))
          ·exact Ev.sub Ev.cstr (Ev.loc rfl rfl) (chr_op (chr_abc j (by omega)) (by omega) (by omega) (by intro _ _; with_unfolding_all rfl))
          ·exact add k j s
         ·apply EvL.cons
          ·apply Ev.bin
           ·exact Ev.sub Ev.cstr (Ev.loc rfl rfl) (chr_op (chr_abc k (by omega)) (by omega) (by omega) (by intro _ _; with_unfolding_all rfl))
           ·exact Ev.sub Ev.cstr (Ev.loc rfl rfl) (chr_op (chr_abc i (by omega)) (by omega) (by omega) (by intro _ _; with_unfolding_all rfl))
           ·exact add k i s
          ·apply EvL.cons
           ·apply Ev.bin
            ·exact Ev.sub Ev.cstr (Ev.loc rfl rfl) (chr_op (chr_abc j (by omega)) (by omega) (by omega) (by intro _ _; with_unfolding_all rfl))
            ·exact Ev.sub Ev.cstr (Ev.loc rfl rfl) (chr_op (chr_abc i (by omega)) (by omega) (by omega) (by intro _ _; with_unfolding_all rfl))
            ·exact add j i s
           ·exact EvL.nil
           ·intro _; rfl
          ·intro _; rfl
         ·intro _; rfl
        ·simp [sizeLine_eq]
       ·exact EvL.nil
       ·intro _; rfl
      ·exact happ
      ·intro _; rfl
      ·intro _; rfl
      ·rfl
      ·intro _; rfl
     ·intro _ _; rfl
    exact Ex.nil
   ·exact ⟨rfl, rfl, rfl, rfl, trivial⟩)
  (fun lo s h => rangeIt_end)
 subst e1
 exact ⟨st', ids', e2, e3, hf.sub (SubL.ok ⟨rfl, rfl, rfl, trivial⟩)⟩
theorem it_var {C : Cx} (px : Px C) {n : Nat} {φ : Scope} {lo : Loc} {x : Str} {m : Nat} {st : Sto} {p1 p2 pos : Pos} (hx : lo.lookup x = some (PV.int (m : Int))) (hk : φ.names.lookup x = some .local) (hd : (x == ("__debug__" : Str)) = false) (hr : φ.names.lookup (Str.ofString "range") = some NameKind.globalImplicit) (hm : m < 2 ^ 60)
  (hp : ∀ env, (backTo pos (starEach [.Name x p2] env)).any (·.1) = false := by intro _; rfl)
  (he : ∀ env, eval (.Call (.Name "range" p1) [.Name x p2] [] pos) env = (do callWith pos (← eval (.Name "range" p1) env) [] (backTo pos (starEach [.Name x p2] env)) (backToKw pos (keywordEach [] env))) := by intro _; rfl) :
  ItrE C n φ lo (.Call (.Name "range" p1) [.Name x p2] [] pos) st (RangeIt 0 1 m) st := by
 have := ItrE.of (C := C) (n := n) (φ := φ) (lo := lo) (e := .Call (.Name "range" p1) [.Name x p2] [] pos) (st := st) (p := .rng 0 (m : Int) 1) (st1 := st)
  (Ev.callt (Ev.blt2 (b_range px) hr (by decide)) (EvL.cons (Ev.loc hx hk hd) EvL.nil) _root_.Mine.C.range1 hp he) (Itr.rng (by omega) (by omega) (by omega) (by omega))
 rwa [show ((m : Int) - 0).toNat = m by omega] at this
theorem threes_j {C : Cx} (px : Px C) {n : Nat} {base st : Sto} {t i c : Nat} {ids : List Nat} {xss : List (List Str)} (H : Thr base st t ids xss) (ht : base.length ≤ t) (hi : i < 5) (hs : ids.length ≤ 60) :
  ∃ st' ids', Thr base st' t ids' (xss ++ threesCol i i) ∧ ids'.length ≤ ids.length + i * 5 ∧
   Fo C n φth [("i", .int (i : Int)), ("threes", .ref t), ("count", .int (c : Int))] (fT T2) (bOf T2) (RangeIt 0 1 i) 0 st .next [("threes", .ref t), ("count", .int (c : Int))] st' := by
 obtain ⟨lo', st', ⟨e1, ids', e2, e3⟩, hf⟩ := Fo.inv0 (C := C) (n := n) (φ := φth) (t := fT T2) (b := bOf T2) (It := RangeIt 0 1 i)
  (fun j lo s => lo = ([("i", .int (i : Int)), ("threes", .ref t), ("count", .int (c : Int))] : Loc) ∧ ∃ ids', Thr base s t ids' (xss ++ threesCol i j) ∧ ids'.length ≤ ids.length + j * 5)
  i (lo := [("i", .int (i : Int)), ("threes", .ref t), ("count", .int (c : Int))]) (st := st) ⟨rfl, ids, by simpa [threesCol] using H, by omega⟩
  (fun j lo s hj ⟨e1, ids', e2, e3⟩ => by
   subst e1
   obtain ⟨s1, ids1, f1, f2, f3⟩ := threes_k px (n := n) (c := c) e2 ht hj hi (by omega)
   apply StepI.mk (p := .int (j : Int)) (lo3 := [("i", .int (i : Int)), ("threes", .ref t), ("count", .int (c : Int))]) (st2 := s1)
   ·refine ⟨rfl, ids1, ?_, by omega⟩
    have e4 : xss ++ threesCol i (j + 1) = xss ++ threesCol i j ++ threesRow i j j := by
     unfold threesCol; rw [List.range_succ]; simp
    rw [e4]; exact f1
   ·exact rangeIt_at hj
   ·exact As.name (.inl rfl)
   ·apply Ex.cons
    ·exact Ex1.forE (it_var px (m := j) rfl rfl (by decide) rfl (by omega)) f3 (by intro _ _; rfl)
    exact Ex.nil
   ·exact ⟨rfl, rfl, rfl, trivial⟩)
  (fun lo s h => rangeIt_end)
 subst e1
 exact ⟨st', ids', e2, e3, hf.sub (SubL.ok ⟨rfl, rfl, trivial⟩)⟩
theorem threes_i {C : Cx} (px : Px C) {n : Nat} {base st : Sto} {t c : Nat} (H : Thr base st t [] []) (ht : base.length ≤ t) (hc : c ≤ 5) :
  ∃ st' ids', Thr base st' t ids' (threesP c) ∧
   Fo C n φth [("threes", .ref t), ("count", .int (c : Int))] (fT T1) (bOf T1) (RangeIt 0 1 c) 0 st .next [("threes", .ref t), ("count", .int (c : Int))] st' := by
 obtain ⟨lo', st', ⟨e1, ids', e2, e3⟩, hf⟩ := Fo.inv0 (C := C) (n := n) (φ := φth) (t := fT T1) (b := bOf T1) (It := RangeIt 0 1 c)
  (fun i lo s => lo = ([("threes", .ref t), ("count", .int (c : Int))] : Loc) ∧ ∃ ids', Thr base s t ids' (threesP i) ∧ ids'.length ≤ 2 * i * i)
  c (lo := [("threes", .ref t), ("count", .int (c : Int))]) (st := st) ⟨rfl, [], by simpa [threesP] using H, by simp⟩
  (fun i lo s hi ⟨e1, ids', e2, e3⟩ => by
   subst e1
   have hb : ids'.length ≤ 50 := by
    have : i ≤ 5 := by omega
    have : 2 * i * i ≤ 2 * 5 * 5 := Nat.mul_le_mul (Nat.mul_le_mul (Nat.le_refl _) this) this
    omega
   obtain ⟨s1, ids1, f1, f2, f3⟩ := threes_j px (n := n) (c := c) (i := i) e2 ht (by omega) (by omega)
   have hn : ids1.length = (threesP (i + 1)).length := by
    have := f1.lists.len
    rw [List.length_map] at this
    rw [this]
    have e4 : threesP (i + 1) = threesP i ++ threesCol i i := by
     unfold threesP; rw [List.range_succ]; simp
    rw [e4]
   apply StepI.mk (p := .int (i : Int)) (lo3 := [("threes", .ref t), ("count", .int (c : Int))]) (st2 := s1)
   ·refine ⟨rfl, ids1, ?_, ?_⟩
    ·have e4 : threesP (i + 1) = threesP i ++ threesCol i i := by
      unfold threesP; rw [List.range_succ]; simp
     rw [e4]; exact f1
    ·rw [hn]
     exact lts5 (show i < 5 by omega) (by decide) (by decide) (by decide) (by decide) (by decide)
   ·exact rangeIt_at hi
   ·exact As.name (.inl rfl)
   ·apply Ex.cons
    ·exact Ex1.forE (it_var px (m := i) rfl rfl (by decide) rfl (by omega)) f3 (by intro _ _; rfl)
    exact Ex.nil
   ·exact ⟨rfl, rfl, trivial⟩)
  (fun lo s h => rangeIt_end)
 subst e1
 exact ⟨st', ids', e2, hf⟩
theorem sp_threes {C : Cx} (px : Px C) {n : Nat} {c : Nat} {st : Sto} (hc : c ≤ 5) :
  ∃ st' ids, Thr st st' st.length ids (threesP c) ∧ Cl C (n + 1) (.ref 264) [.int (c : Int)] st (.ref st.length) st' := by
 obtain ⟨st', ids, h1, h2⟩ := threes_i px (n := n) (base := st) (st := st ++ [.list []]) (t := st.length) (c := c) ⟨SExt.app _ _, gl, Lists.nil, by simp, by simp⟩ (Nat.le_refl _) hc
 refine ⟨st', ids, h1, ?_⟩
 have body : ∃ lo', Ex C n φth [("count", .int (c : Int))] (bodyOf (stAt 24)) st (.ret (.ref st.length)) lo' st' := by
  apply Exists.intro
  apply Ex.cons
  ·walk_at "st"
  apply Ex.cons
  ·exact Ex1.forE (it_var px (m := c) rfl rfl (by decide) rfl (by omega)) h2 (by intro _ _; rfl)
  apply Ex.stop
  ·walk_at "st"
  ·intro h; cases h
 obtain ⟨lo', h⟩ := body
 refine Cl.fn (names := ["count"]) (body := bodyOf (stAt 24)) (px.K 264 _ rfl) rfl rfl rfl (codeRec_of px.K rfl) rfl rfl ?_ ?_ ?_ h rfl ?_
 ·intro vs hv
  obtain ⟨v1, rfl⟩ := len1 hv
  rfl
 ·decide
 ·decide +kernel
 ·decide
end
section
noncomputable def lcX : Expr → Expr × List Comprehension × Scope × Pos
 | .ListComp e g s p => (e, g, s, p)
 | e => (e, [], dS, default)
noncomputable def lcE (e : Expr) : Expr := (lcX e).1
noncomputable def lcG (e : Expr) : Comprehension := (lcX e).2.1.getD 0 ⟨dE, dE, [], 0⟩
noncomputable def lcT (e : Expr) : Expr := (lcG e).1
noncomputable def lcI (e : Expr) : Expr := (lcG e).2
noncomputable def lcIfs (e : Expr) : List Expr := (lcG e).3
noncomputable def lcS (e : Expr) : Scope := (lcX e).2.2.1
noncomputable def lcP (e : Expr) : Pos := (lcX e).2.2.2
noncomputable def vOf (s : Stmt) : Expr := (stX s).1
noncomputable def exX : Expr → Expr × Expr × List Expr
 | .BinOp l _ r _ => (l, r, [])
 | .Compare l _ rs _ => (l, rs.getD 0 dE, [])
 | .Subscript o i _ => (o, i, [])
 | .Call _ as _ _ => (dE, dE, as)
 | .Tuple as _ _ => (dE, dE, as)
 | e => (e, e, [])
noncomputable def rOf (e : Expr) : Expr := (exX e).2.1
noncomputable def lOf (e : Expr) : Expr := (exX e).1
noncomputable def argE (k : Nat) (e : Expr) : Expr := (exX e).2.2.getD k dE
section
variable {C : Cx} {n : Nat} {φ φ' : Scope} {lo lo' lo1 lo2 lo3 : Loc} {st st0 st1 st2 st3 : Sto} {It : ItR} {k : Nat}
theorem Ev.compE {e : Expr} {ps : List PV} (f : PV → Option PV) (h1 : ItrE C n φ lo (lcI e) st It st2) (side : CompSide C φ lo lo' (lcI e) (lcS e)) (hit : ∀ k S, SExt st2 S → It k S ps[k]?)
  (hf : ∀ p ∈ ps, ∀ S, SExt st2 S → StepC C n (compScope (lcS e) φ) lo' (lcE e) (lcT e) (lcIfs e) S p (f p)) (hz : ps.length ≤ 2 ^ 20)
  (he : e = .ListComp (lcE e) [⟨lcT e, lcI e, lcIfs e, 0⟩] (lcS e) (lcP e) := by rfl) :
  ∃ st3, SExt st2 st3 ∧ st3[st2.length]? = some (.list (ps.filterMap f)) ∧ Ev C n φ lo e st (.ref st2.length) st3 := by
 obtain ⟨st3, a, b, c⟩ := Ev.comp (pos := lcP e) f h1 side hit hf hz
 rw [← he] at c
 exact ⟨st3, a, b, c⟩
end
noncomputable def intF (g : Int → Int) : PV → Option PV
 | .int a => some (.int (g a))
 | _ => none
theorem intF_map (g : Int → Int) (xs : List Int) : (xs.map PV.int).filterMap (intF g) = (xs.map g).map .int := by
 induction xs with
 | nil => rfl
 | cons a l ih => simp [intF, ih]
noncomputable def sumStep (s : List Int) (m : Int) : List Int := if s.contains m then s else s ++ s.map fun o => Builtin.bitXor o m
noncomputable def sumsP (ms : List Int) : List Int := ms.foldl sumStep [0]
theorem sumStep_len (s : List Int) (m : Int) : (sumStep s m).length ≤ 2 * s.length := by
 unfold sumStep
 split
 ·omega
 ·rw [List.length_append, List.length_map]; omega
noncomputable abbrev φsm : Scope := scopeOf (stAt 27)
noncomputable abbrev S1 : Stmt := sAt (bodyOf (stAt 27)) 1
noncomputable abbrev S2 : Stmt := sAt (bOf S1) 0
noncomputable abbrev LCsm : Expr := rOf (vOf (sAt (bOf S2) 0))
theorem sums_comp {C : Cx} (px : Px C) {n : Nat} {r m : Nat} {mask : Int} {xs : List Int} {S : Sto} (hr : S[r]? = some (.list (xs.map .int))) (hz : xs.length ≤ 2 ^ 18) :
  ∃ S', SExt S S' ∧ S'[S.length]? = some (.list ((xs.map fun o => Builtin.bitXor o mask).map .int)) ∧ Ev C n φsm [("mask", .int mask), ("sums", .ref r), ("masks", .ref m)] LCsm S (.ref S.length) S' := by
 have side : CompSide C φsm [("mask", .int mask), ("sums", .ref r), ("masks", .ref m)] [("mask", .int mask)] (lcI LCsm) (lcS LCsm) :=
  ⟨⟨rfl, rfl, trivial⟩, by decide, rfl, by decide, by intro _ _; rfl⟩
 have := Ev.compE (C := C) (n := n) (e := LCsm) (ps := xs.map PV.int) (intF fun o => Builtin.bitXor o mask) (ItrE.of (Ev.loc (p := .ref r) rfl rfl) (Itr.list hr)) side (listIt_ext hr)
  (fun p hp S1 e1 => by
   obtain ⟨a, _, rfl⟩ := List.mem_map.mp hp
   refine StepC.some (lo1 := ("one", .int a) :: [("mask", .int mask)]) (S1 := S1) (S2 := S1) (AsL.name rfl) ⟨rfl, trivial⟩ TrL.nil ?_
   exact Ev.bin (Ev.loc rfl rfl) (Ev.cell rfl rfl) O.xor)
  (by rw [List.length_map]; omega)
 rw [intF_map] at this
 exact this
theorem sums_loop {C : Cx} (px : Px C) {n : Nat} {m : Nat} {ms : List Int} {base : Sto} (hm : base[m]? = some (.list (ms.map .int))) (hml : ms.length ≤ 10) {r0 : Nat} {st : Sto} (hs : SExt base st) (hr : st[r0]? = some (.list ([0].map .int))) :
  ∃ st' r, SExt base st' ∧ st'[r]? = some (.list ((sumsP ms).map .int)) ∧
   Fo C n φsm [("sums", .ref r0), ("masks", .ref m)] (fT S1) (bOf S1) (ListIt m) 0 st .next [("sums", .ref r), ("masks", .ref m)] st' := by
 obtain ⟨lo', st', ⟨r, e1, e2, e3, e4⟩, hf⟩ := Fo.inv0 (C := C) (n := n) (φ := φsm) (t := fT S1) (b := bOf S1) (It := ListIt m)
  (fun k lo s => ∃ r, lo = ([("sums", .ref r), ("masks", .ref m)] : Loc) ∧ SExt base s ∧ s[r]? = some (.list (((ms.take k).foldl sumStep [0]).map .int)) ∧ ((ms.take k).foldl sumStep [0]).length ≤ 2 ^ k)
  ms.length (lo := [("sums", .ref r0), ("masks", .ref m)]) (st := st) ⟨r0, rfl, hs, by simpa using hr, by simp⟩
  (fun k lo s hk ⟨r, e1, e2, e3, e4⟩ => by
   subst e1
   have hp : ms[k]? = some ms[k] := List.getElem?_eq_getElem hk
   generalize ms[k] = a at hp
   have hk10 : (2 : Nat) ^ k ≤ 2 ^ 10 := Nat.pow_le_pow_right (by decide) (by omega)
   have htk := take_snoc hp
   generalize hX : (ms.take k).foldl sumStep [0] = X at e3 e4
   have hXl : X.length ≤ 1024 := by
    have : (2 : Nat) ^ 10 = 1024 := by decide
    omega
   have hstep : (ms.take (k + 1)).foldl sumStep [0] = sumStep X a := by rw [htk, List.foldl_append, hX]; rfl
   have hpow : (2 : Nat) ^ (k + 1) = 2 * 2 ^ k := by rw [Nat.pow_succ]; omega
   have hlen2 := sumStep_len X a
   have hit : ListIt m k s (some (.int a)) := ⟨_, e2 _ _ hm, by rw [List.getElem?_map, hp]; rfl⟩
   have hni : Op2 C n (compareOp .NotIn) (.int a) (.ref r) s (.bool (!X.contains a)) s := O.notIn_ints e3
   cases hc : X.contains a with
   | true =>
    rw [hc] at hni
    have hS : sumStep X a = X := by unfold sumStep; rw [if_pos hc]
    apply StepI.mk (p := .int a) (lo3 := [("sums", .ref r), ("masks", .ref m)]) (st2 := s)
    ·exact ⟨r, rfl, e2, by rw [hstep, hS]; exact e3, by rw [hstep, hS, hpow]; omega⟩
    ·exact hit
    ·exact As.name (.inr rfl)
    ·apply Ex.cons
     ·apply Ex1.if_f
      ·apply Tr.cmp
       ·walk_at "ev"
       ·walk_at "ev"
       ·exact hni
       ·with_unfolding_all rfl
      ·exact Ex.nil
     exact Ex.nil
    ·exact ⟨rfl, rfl, trivial⟩
   | false =>
    rw [hc] at hni
    have hS : sumStep X a = X ++ X.map fun o => Builtin.bitXor o a := by unfold sumStep; rw [if_neg (by rw [hc]; decide)]
    obtain ⟨S', f1, f2, f3⟩ := sums_comp px (n := n) (m := m) (mask := a) e3 (by omega)
    have hadd := O.add_list (C := C) (n := n) (st := S') (f1 _ _ e3) f2 (by simp only [List.length_map]; omega)
    apply StepI.mk (p := .int a) (lo3 := [("sums", .ref S'.length), ("masks", .ref m)]) (st2 := S' ++ [.list (X.map PV.int ++ (X.map fun o => Builtin.bitXor o a).map PV.int)])
    ·refine ⟨S'.length, rfl, (e2.trans f1).trans (SExt.app _ _), ?_, by rw [hstep, hpow]; omega⟩
     rw [hstep, hS, List.map_append]; exact gl
    ·exact hit
    ·exact As.name (.inr rfl)
    ·apply Ex.cons
     ·apply Ex1.if_t
      ·apply Tr.cmp
       ·walk_at "ev"
       ·walk_at "ev"
       ·exact hni
       ·with_unfolding_all rfl
      ·apply Ex.cons
       ·apply Ex1.asg
        ·exact Ev.bin (Ev.loc rfl rfl) f3 hadd
        ·walk_at "as"
        ·intro _ _; rfl
        ·intro _; rfl
        ·intro _; rfl
       exact Ex.nil
     exact Ex.nil
    ·exact ⟨rfl, rfl, trivial⟩)
  (fun lo s ⟨r, e1, e2, e3, e4⟩ => ⟨_, e2 _ _ hm, by rw [List.getElem?_eq_none (by rw [List.length_map]; omega)]⟩)
 subst e1
 rw [List.take_of_length_le (Nat.le_refl _)] at e3
 exact ⟨st', r, e2, e3, hf⟩
theorem sp_sums {C : Cx} (px : Px C) {n : Nat} {m : Nat} {ms : List Int} {st : Sto} (hm : st[m]? = some (.list (ms.map .int))) (hml : ms.length ≤ 10) :
  ∃ st' r, SExt st st' ∧ st'[r]? = some (.list ((sumsP ms).map .int)) ∧ Cl C (n + 1) (.ref 281) [.ref m] st (.ref r) st' := by
 obtain ⟨st', r, h1, h2, h3⟩ := sums_loop px (n := n) hm hml (r0 := st.length) (st := st ++ [.list ([0].map .int)]) (SExt.app _ _) gl
 refine ⟨st', r, h1, h2, ?_⟩
 have hit : ItrE C n φsm [("sums", .ref st.length), ("masks", .ref m)] (fI S1) (st ++ [.list ([0].map .int)]) (ListIt m) (st ++ [.list ([0].map .int)]) := ItrE.of (Ev.loc rfl rfl) (Itr.list (ga hm))
 have body : ∃ lo', Ex C n φsm [("masks", .ref m)] (bodyOf (stAt 27)) st (.ret (.ref r)) lo' st' := by
  apply Exists.intro
  apply Ex.cons
  ·walk_at "st"
  apply Ex.cons
  ·exact Ex1.forE hit h3 (by intro _ _; rfl)
  apply Ex.stop
  ·walk_at "st"
  ·intro h; cases h
 obtain ⟨lo', h⟩ := body
 refine Cl.fn (names := ["masks"]) (body := bodyOf (stAt 27)) (px.K 281 _ rfl) rfl rfl rfl (codeRec_of px.K rfl) rfl rfl ?_ ?_ ?_ h rfl ?_
 ·intro vs hv
  obtain ⟨v1, rfl⟩ := len1 hv
  rfl
 ·decide
 ·decide +kernel
 ·decide
end
section
noncomputable def SInt (p : PV) : Prop := ∃ a, p = .int a
noncomputable def ltInt : PV → PV → Bool
 | .int a, .int b => decide (a < b)
 | _, _ => false
theorem ltOk_int {C : Cx} {n i : Nat} {st : Sto} : LtOk C n i SInt ltInt st := by
 rintro p q o ⟨a, rfl⟩ ⟨b, rfl⟩
 exact O.lt
theorem SInt.map (xs : List Int) : ∀ y ∈ xs.map PV.int, SInt y := fun y hy => by
 obtain ⟨a, _, rfl⟩ := List.mem_map.mp hy; exact ⟨a, rfl⟩
noncomputable def fidx (a : Int) : List Int → Nat
 | [] => 0
 | x :: l => if x == a then 0 else fidx a l + 1
theorem fidx_at {a : Int} : ∀ {l : List Int}, l.contains a = true → l[fidx a l]? = some a
 | [], h => by simp at h
 | x :: l, h => by
  unfold fidx
  cases hx : x == a with
  | true => simp at hx; subst hx; rfl
  | false =>
   have : l.contains a = true := by
    rw [List.contains_cons] at h
    rw [show (a == x) = (x == a) from Bool.beq_comm .., hx] at h
    simpa using h
   simpa using fidx_at this
theorem fidx_first {a : Int} : ∀ {l : List Int} (m : Nat), m < fidx a l → l[m]? ≠ some a
 | [], m, h => by simp [fidx] at h
 | x :: l, m, h => by
  unfold fidx at h
  cases hx : x == a with
  | true => rw [hx] at h; simp at h
  | false =>
   rw [hx] at h
   simp only [Bool.false_eq_true, if_false] at h
   cases m with
   | zero => simp at hx; simpa using hx
   | succ m => simpa using fidx_first m (by omega)
noncomputable def turnP (xs : List Int) (pl : Int) : List PV := if xs.contains (-pl) then hfy ltInt ((xs.eraseIdx (fidx (-pl) xs)).map .int) else hpush ltInt (xs.map .int) (.int (-pl))
noncomputable abbrev φtu : Scope := scopeOf (stAt 25)
theorem sp_turn {C : Cx} (px : Px C) {n : Nat} {c : Nat} {xs : List Int} {pl : Int} {st : Sto} (hc : st[c]? = some (.list (xs.map .int))) (hz : xs.length ≤ 1000) :
  Cl C (n + 4) (.ref 271) [.ref c, .int pl] st .none (st.set c (.list (turnP xs pl))) := by
 have hin : Op2 C (n + 3) (compareOp .In) (.int (-pl)) (.ref c) st (.bool (xs.contains (-pl))) st := O.in_ints hc
 have hcl := (List.getElem?_eq_some_iff.mp hc).1
 have body : ∃ lo', Ex C (n + 3) φtu [("column", .ref c), ("place", .int pl)] (bodyOf (stAt 25)) st .next lo' (st.set c (.list (turnP xs pl))) := by
  unfold turnP
  cases h : xs.contains (-pl) with
  | true =>
   rw [h] at hin
   simp only [if_true]
   have hrem := _root_.Mine.C.remove (C := C) (n := n + 3) hc (by omega) (fidx_at h) (fun m hm => fidx_first m hm)
   have hhy := sp_heapify px (n := n) (i := c) (xs := (xs.eraseIdx (fidx (-pl) xs)).map .int) (st := st.set c (.list ((xs.eraseIdx (fidx (-pl) xs)).map .int))) ltOk_int (SInt.map _) (gs_self hc) (by rw [List.length_map]; have := List.length_eraseIdx_le (l := xs) (i := fidx (-pl) xs); omega)
   rw [List.set_set] at hhy
   apply Exists.intro
   apply Ex.cons
   ·apply Ex1.if_t
    ·apply Tr.cmp
     ·walk_at "ev"
     ·walk_at "ev"
     ·exact hin
     ·with_unfolding_all rfl
    ·apply Ex.cons
     ·walk_at "st"
     apply Ex.cons
     ·walk_at "st"
     exact Ex.nil
   exact Ex.nil
  | false =>
   rw [h] at hin
   simp only [Bool.false_eq_true, if_false]
   have hpu := sp_heappush px (n := n + 1) (i := c) (xs := xs.map .int) (x := .int (-pl)) (st := st) ltOk_int (SInt.map _) ⟨_, rfl⟩ hc (by rw [List.length_map]; omega)
   apply Exists.intro
   apply Ex.cons
   ·apply Ex1.if_f
    ·apply Tr.cmp
     ·walk_at "ev"
     ·walk_at "ev"
     ·exact hin
     ·with_unfolding_all rfl
    ·apply Ex.cons
     ·walk_at "st"
     exact Ex.nil
   exact Ex.nil
 obtain ⟨lo', h⟩ := body
 refine Cl.fn (names := ["column", "place"]) (body := bodyOf (stAt 25)) (px.K 271 _ rfl) rfl rfl rfl (codeRec_of px.K rfl) rfl rfl ?_ ?_ ?_ h rfl ?_
 ·intro vs hv
  obtain ⟨v1, v2, rfl⟩ := len2 hv
  rfl
 ·decide
 ·decide +kernel
 ·decide
end
section
noncomputable def dedup (xs : List Int) : List Int := firstMet (fun i => xs.getD i 0) xs.length
section
variable {C : Cx} {n : Nat} {φ φ' : Scope} {lo lo' lo1 lo2 lo3 : Loc} {st st0 st1 st2 st3 : Sto} {It : ItR} {k : Nat}
theorem args1 {A : Around} {s : Shared} {env : Env} {e : Expr} {pos : Pos} {Q : List Value → Shared → Prop} {E : Value → Shared → Prop} {M : Model} (h : wpAny M A (eval e env) (fun v s1 => Q [v] s1) E s)
  (he : starEach [e] env = [(false, eval e env)]) : wpAny M A (spliced (backTo pos (starEach [e] env))) Q E s :=
 wpAny_items_cons (wpAny_mono h (fun v s1 h1 => wpAny_items_nil h1) fun _ _ x => x) he
noncomputable def EvSet (C : Cx) (n : Nat) (φ : Scope) (lo : Loc) (e : Expr) (st : Sto) (l : List Int) (st' : Sto) : Prop :=
 ∀ A s ρ env, Lv n A → Hp C ρ st s → FrAt C φ lo ρ s.heap env → wpAny (model C.prog C.w) A (eval e env) (fun v s' => ∃ ρ' a, v = .ref a ∧ Hp C ρ' st' s' ∧ Go [] ρ s.heap ρ' s'.heap ∧
  s'.heap.SetOf (intKind C.prog C.w) a (fun k => l.any (· == k)) l.length) NoE s
theorem EvSet.ofList {func e : Expr} {pos : Pos} {i : Nat} {xs : List Int} (h1 : Ev C n φ lo func st (.sta (.type "set")) st1) (h2 : Ev C n φ lo e st1 (.ref i) st2) (hi : st2[i]? = some (.list (xs.map .int))) (hz : xs.length ≤ 1000)
  (hv : ∀ env, starEach [e] env = [(false, eval e env)] := by intro _; rfl)
  (hp : ∀ env, (backTo pos (starEach [e] env)).any (·.1) = false := by intro _; rfl)
  (he : ∀ env, eval (.Call func [e] [] pos) env = (do callWith pos (← eval func env) [] (backTo pos (starEach [e] env)) (backToKw pos (keywordEach [] env))) := by intro _; rfl) :
  EvSet C n φ lo (.Call func [e] [] pos) st (dedup xs) st2 := fun A s ρ env hA H F =>
 callEval (noE (h1 A s ρ env hA H F) fun v s1 ⟨ρ1, H1, G1, R1⟩ => by
  (replace R1 := R1.inv; first | obtain rfl := R1 | obtain ⟨_, rfl⟩ := R1)
  refine PyProof.Rows.callWith_type (hp env) (evalArgsJ (hp env) (args1 (noE (h2 A s1 ρ1 env hA H1 (F.go0 G1)) fun v s2 ⟨ρ2, H2, G2, R2⟩ => ?_) (hv env)))
  (replace R2 := R2.inv; obtain ⟨a, rfl, ha⟩ := R2)
  obtain ⟨ws, m, ho, rl, hL, hlen⟩ := isList_of H2 ha hi
  have hI := repl_ints rl
  have hsz : ws.length = xs.length := by simpa using hlen
  refine wpAny_size (call_set_list hA.1 hL (by simpa using hI) (by show ws.toArray.size + 1 < 4096; simp; omega) fun h' tk hS hk hz' => ?_)
  obtain ⟨H3, G3⟩ := H2.grow (t' := tk) (fun b o e => hk b o (Heap.lt_size e) e) hz'
  refine ⟨ρ2, _, rfl, H3, (G1.trans G2).trans G3, ?_⟩
  rw [show ws.toArray.size = xs.length by simp [hsz]] at hS
  exact hS) (he env)
theorem Ev.len_set {func e : Expr} {pos : Pos} {l : List Int} (h1 : Ev C n φ lo func st (.sta (.builtin "len")) st1) (h2 : EvSet C n φ lo e st1 l st2)
  (hv : ∀ env, starEach [e] env = [(false, eval e env)] := by intro _; rfl)
  (hp : ∀ env, (backTo pos (starEach [e] env)).any (·.1) = false := by intro _; rfl)
  (he : ∀ env, eval (.Call func [e] [] pos) env = (do callWith pos (← eval func env) [] (backTo pos (starEach [e] env)) (backToKw pos (keywordEach [] env))) := by intro _; rfl) :
  Ev C n φ lo (.Call func [e] [] pos) st (.int (l.length : Int)) st2 := fun A s ρ env hA H F =>
 callEval (noE (h1 A s ρ env hA H F) fun v s1 ⟨ρ1, H1, G1, R1⟩ => by
  (replace R1 := R1.inv; first | obtain rfl := R1 | obtain ⟨_, rfl⟩ := R1)
  refine Calls.callWith_builtin (hp env) (evalArgsJ (hp env) (args1 (noE (h2 A s1 ρ1 env hA H1 (F.go0 G1)) fun v s2 ⟨ρ2, a, e, H2, G2, hS⟩ => ?_) (hv env)))
  subst e
  obtain ⟨o, es, ep, t, ho, hex, hd, _, _, hb, hf, hn⟩ := hS
  refine call_len_set ho hex hd hf (by have : es.size < 4096 := hb; omega) ?_
  rw [hn]
  exact ⟨ρ2, H2.tok _, G1.trans G2, .int _ _⟩) (he env)
end
section
variable {C : Cx} {n : Nat} {φ φ' : Scope} {lo lo' lo1 lo2 lo3 : Loc} {st st0 st1 st2 st3 : Sto} {It : ItR} {k : Nat}
theorem Ex1.compS {s : Stmt} {y : Str} {py spos : Pos} {ps : List PV} (he : s = .Assign [.Name y py] (.ListComp (lcE (vOf s)) [⟨lcT (vOf s), lcI (vOf s), lcIfs (vOf s), 0⟩] (lcS (vOf s)) (lcP (vOf s))) spos)
  (f : PV → Option PV) (h1 : ItrE C n φ lo (lcI (vOf s)) st It st2) (side : CompSide C φ lo lo' (lcI (vOf s)) (lcS (vOf s))) (hit : ∀ k S, SExt st2 S → It k S ps[k]?)
  (hf : ∀ p ∈ ps, ∀ S, SExt st2 S → StepC C n (compScope (lcS (vOf s)) φ) lo' (lcE (vOf s)) (lcT (vOf s)) (lcIfs (vOf s)) S p (f p)) (hz : ps.length ≤ 2 ^ 20) (hy : φ.names.lookup y = some .local)
  (hsw : ∀ env : Env, env.scope = φ → swapsWith (.ListComp (lcE (vOf s)) [⟨lcT (vOf s), lcI (vOf s), lcIfs (vOf s), 0⟩] (lcS (vOf s)) (lcP (vOf s))) (some (.Name y py)) spos.line env = pure true) :
  ∃ st3, SExt st2 st3 ∧ st3[st2.length]? = some (.list (ps.filterMap f)) ∧ Ex1 C n φ lo s st .next ((y, .ref st2.length) :: lo) st3 := by
 obtain ⟨st3, a, b, c⟩ := Ex1.comp (py := py) (spos := spos) (pos := lcP (vOf s)) f h1 side hit hf hz hy hsw
 rw [← he] at c
 exact ⟨st3, a, b, c⟩
end
theorem idx_abc : ∀ j : Nat, j < 5 → ∃ rest, Builtin.Str.occurrences (Str.ofString "abcde") (one (97 + j)) 0 (Str.ofString "abcde").length 1 = j :: rest := by
 intro j hj
 exact lts5 hj ⟨[], by decide +kernel⟩ ⟨[], by decide +kernel⟩ ⟨[], by decide +kernel⟩ ⟨[], by decide +kernel⟩ ⟨[], by decide +kernel⟩
noncomputable abbrev Tie := Int × Nat × Nat
noncomputable def tnm (e : Tie) : Int × Str := (e.1, nm e.2.1 e.2.2)
noncomputable def partStep (marks : List Int) (j i : Nat) : List Int := marks.map fun m => if m == marks.getD i 0 then marks.getD j 0 else m
noncomputable def partsF (bound : Int) (marks : List Int) (e : Tie) : List Int := if e.1 ≤ bound then partStep marks e.2.1 e.2.2 else marks
noncomputable def marks0 (c : Nat) : List Int := (List.range c).map fun (k : Nat) => (k : Int)
noncomputable def partsP (te : List Tie) (bound : Int) (c : Nat) : Nat := (dedup (te.foldl (partsF bound) (marks0 c))).length
noncomputable abbrev φpa : Scope := scopeOf (stAt 28)
noncomputable abbrev P1 : Stmt := sAt (bodyOf (stAt 28)) 1
noncomputable abbrev PIf : Stmt := sAt (bOf P1) 0
noncomputable abbrev PLC : Stmt := sAt (bOf PIf) 2
theorem parts_comp {C : Cx} (px : Px C) {n : Nat} {r t : Nat} {here there size bound count : Int} {name : Str} {xs : List Int} {S : Sto} (hr : S[r]? = some (.list (xs.map .int))) (hz : xs.length ≤ 1000) :
  ∃ S', SExt S S' ∧ S'[S.length]? = some (.list ((xs.map fun m => if m == there then here else m).map .int)) ∧
   Ex1 C n φpa [("there", .int there), ("here", .int here), ("name", .str name), ("size", .int size), ("marks", .ref r), ("ties", .ref t), ("bound", .int bound), ("count", .int count)] PLC S .next
    [("marks", .ref S.length), ("there", .int there), ("here", .int here), ("name", .str name), ("size", .int size), ("marks", .ref r), ("ties", .ref t), ("bound", .int bound), ("count", .int count)] S' := by
 have side : CompSide C φpa [("there", .int there), ("here", .int here), ("name", .str name), ("size", .int size), ("marks", .ref r), ("ties", .ref t), ("bound", .int bound), ("count", .int count)] [("there", .int there), ("here", .int here)] (lcI (vOf PLC)) (lcS (vOf PLC)) :=
  ⟨⟨rfl, rfl, rfl, rfl, trivial⟩, by decide, rfl, by decide, by intro _ _; rfl⟩
 have := Ex1.compS (C := C) (n := n) (s := PLC) (y := "marks") (ps := xs.map PV.int) rfl (intF fun m => if m == there then here else m) (ItrE.of (Ev.loc (p := .ref r) rfl rfl) (Itr.list hr)) side (listIt_ext hr)
  (fun p hp S1 e1 => by
   obtain ⟨a, _, rfl⟩ := List.mem_map.mp hp
   have e : intF (fun m => if m == there then here else m) (.int a) = some (.int (if a == there then here else a)) := rfl
   rw [e]
   refine StepC.some (lo1 := ("mark", .int a) :: [("there", .int there), ("here", .int here)]) (S1 := S1) (S2 := S1) (AsL.name rfl) ⟨rfl, rfl, trivial⟩ TrL.nil ?_
   have eq : Op2 C n (compareOp .Eq) (.int a) (.int there) S1 (.bool (a == there)) S1 := O.eq
   cases h : a == there with
   | true =>
    rw [h] at eq
    exact Ev.if_t (Tr.cmp (Ev.loc rfl rfl) (Ev.cell rfl rfl) eq) (Ev.cell rfl rfl)
   | false =>
    rw [h] at eq
    exact Ev.if_f (Tr.cmp (Ev.loc rfl rfl) (Ev.cell rfl rfl) eq) (Ev.loc rfl rfl))
  (by rw [List.length_map]; omega) rfl (by intro env h; unfold swapsWith Env.blockKind Env.kindOf; rw [h]; rfl)
 rw [intF_map] at this
 exact this
noncomputable def loPa (size : Int) (name : Str) (r t : Nat) (bound count : Int) : Loc := [("name", .str name), ("size", .int size), ("marks", .ref r), ("ties", .ref t), ("bound", .int bound), ("count", .int count)]
noncomputable def loPb (r t : Nat) (bound count : Int) : Loc := [("marks", .ref r), ("ties", .ref t), ("bound", .int bound), ("count", .int count)]
theorem chr_nm0 (j i : Nat) : chr (nm j i) 0 = some (97 + j) := rfl
theorem chr_nm1 (j i : Nat) : chr (nm j i) 1 = some (97 + i) := rfl
theorem partsF_len (bound : Int) (xs : List Int) (e : Tie) : (partsF bound xs e).length = xs.length := by
 unfold partsF; split
 ·unfold partStep; rw [List.length_map]
 ·rfl
theorem parts_fold_len (bound : Int) : ∀ (te : List Tie) (xs : List Int), (te.foldl (partsF bound) xs).length = xs.length
 | [], xs => rfl
 | e :: te, xs => by rw [List.foldl_cons, parts_fold_len bound te, partsF_len]
theorem parts_if {C : Cx} (px : Px C) {n : Nat} {r t c : Nat} {bound count : Int} {e : Tie} {xs : List Int} {S : Sto} (hr : S[r]? = some (.list (xs.map .int))) (hl : xs.length = c) (hc : c ≤ 5) (he1 : e.2.1 < c) (he2 : e.2.2 < c) :
  ∃ S' r' lo', SExt S S' ∧ S'[r']? = some (.list ((partsF bound xs e).map .int)) ∧ Ex1 C n φpa (loPa e.1 (nm e.2.1 e.2.2) r t bound count) PIf S .next lo' S' ∧ SubL (loPb r' t bound count) lo' := by
 obtain ⟨size, j, i⟩ := e
 simp only at he1 he2
 have ecmp : Op2 C n (compareOp .LtE) (.int size) (.int bound) S (.bool (decide (size ≤ bound))) S := O.le
 have z : (xs.map PV.int).length ≤ 2 ^ 24 := by rw [List.length_map]; omega
 have atm : ∀ k : Nat, k < c → at? (xs.map PV.int) (k : Int) = some (.int (xs.getD k 0)) := fun k hk => at_nat (by
  rw [List.getElem?_map, List.getElem?_eq_getElem (by omega), List.getD_eq_getElem?_getD, List.getElem?_eq_getElem (by omega)]; rfl)
 obtain ⟨rj, hj⟩ := idx_abc j (by omega)
 obtain ⟨ri, hi⟩ := idx_abc i (by omega)
 have cj : Cl C n (.builtin "str.index") [.str (Str.ofString "abcde"), .str (one (97 + j))] S (.int (j : Int)) S := _root_.Mine.C.index hj
 have ci : Cl C n (.builtin "str.index") [.str (Str.ofString "abcde"), .str (one (97 + i))] S (.int (i : Int)) S := _root_.Mine.C.index hi
 unfold partsF
 by_cases hle : size ≤ bound
 ·rw [show decide (size ≤ bound) = true by simpa using hle] at ecmp
  rw [if_pos hle]
  obtain ⟨S', f1, f2, f3⟩ := parts_comp px (n := n) (t := t) (here := xs.getD j 0) (there := xs.getD i 0) (size := size) (bound := bound) (count := count) (name := nm j i) hr (by omega)
  refine ⟨S', S.length, ("marks", .ref S.length) :: ("there", .int (xs.getD i 0)) :: ("here", .int (xs.getD j 0)) :: loPa size (nm j i) r t bound count, f1, f2, ?_, ⟨rfl, rfl, rfl, rfl, trivial⟩⟩
  apply Ex1.if_t
  ·exact Tr.cmp (Ev.loc rfl rfl) (Ev.loc rfl rfl) ecmp
  apply Ex.cons
  ·apply Ex1.asg
   ·exact Ev.sub (Ev.loc rfl rfl) (Ev.meth_index Ev.cstr TyP.str (EvL.cons (Ev.sub (Ev.loc rfl rfl) Ev.cint (chr_op (chr_nm0 j i) (by decide) (by decide) (by intro _ _; with_unfolding_all rfl))) EvL.nil) cj (by intro _; rfl) (by intro _; rfl) rfl (by intro _; rfl)) (O.sub_list hr z (atm j he1) (by intro _ _; with_unfolding_all rfl))
   ·exact As.name (.inr rfl)
   ·intro _ _; rfl
   ·intro _; rfl
   ·intro _; rfl
  apply Ex.cons
  ·apply Ex1.asg
   ·exact Ev.sub (Ev.loc rfl rfl) (Ev.meth_index Ev.cstr TyP.str (EvL.cons (Ev.sub (Ev.loc rfl rfl) Ev.cint (chr_op (chr_nm1 j i) (by decide) (by decide) (by intro _ _; with_unfolding_all rfl))) EvL.nil) ci (by intro _; rfl) (by intro _; rfl) rfl (by intro _; rfl)) (O.sub_list hr z (atm i he2) (by intro _ _; with_unfolding_all rfl))
   ·exact As.name (.inr rfl)
   ·intro _ _; rfl
   ·intro _; rfl
   ·intro _; rfl
  apply Ex.cons
  ·exact f3
  exact Ex.nil
 ·rw [show decide (size ≤ bound) = false by simpa using hle] at ecmp
  rw [if_neg hle]
  refine ⟨S, r, loPa size (nm j i) r t bound count, SExt.refl _, hr, ?_, ⟨rfl, rfl, rfl, rfl, trivial⟩⟩
  apply Ex1.if_f
  ·exact Tr.cmp (Ev.loc rfl rfl) (Ev.loc rfl rfl) ecmp
  ·exact Ex.nil
noncomputable def tpe (te : List Tie) : List PV := tpv (te.map tnm)
theorem tpe_at {te : List Tie} {k : Nat} {e : Tie} (h : te[k]? = some e) : (tpe te)[k]? = some (.tup [.int e.1, .str (nm e.2.1 e.2.2)]) := by
 unfold tpe tpv tnm; rw [List.getElem?_map, List.getElem?_map, h]; rfl
theorem tpe_len (te : List Tie) : (tpe te).length = te.length := by unfold tpe tpv; rw [List.length_map, List.length_map]
theorem parts_loop {C : Cx} (px : Px C) {n : Nat} {r0 t c : Nat} {bound count : Int} {te : List Tie} {base st : Sto} (ht : base[t]? = some (.list (tpe te))) (hs : SExt base st) (hr : st[r0]? = some (.list ((marks0 c).map .int))) (hc : c ≤ 5)
  (hte : ∀ e ∈ te, e.2.1 < c ∧ e.2.2 < c) :
  ∃ st' r, SExt base st' ∧ st'[r]? = some (.list ((te.foldl (partsF bound) (marks0 c)).map .int)) ∧
   Fo C n φpa (loPb r0 t bound count) (fT P1) (bOf P1) (ListIt t) 0 st .next (loPb r t bound count) st' := by
 obtain ⟨lo', st', ⟨r, e1, e2, e3⟩, hf⟩ := Fo.inv0 (C := C) (n := n) (φ := φpa) (t := fT P1) (b := bOf P1) (It := ListIt t)
  (fun k lo s => ∃ r, lo = loPb r t bound count ∧ SExt base s ∧ s[r]? = some (.list (((te.take k).foldl (partsF bound) (marks0 c)).map .int)))
  te.length (lo := loPb r0 t bound count) (st := st) ⟨r0, rfl, hs, hr⟩
  (fun k lo s hk ⟨r, e1, e2, e3⟩ => by
   subst e1
   have hp : te[k]? = some te[k] := List.getElem?_eq_getElem hk
   have hm := hte _ (List.getElem_mem hk)
   generalize te[k] = e at hp hm
   have hl : ((te.take k).foldl (partsF bound) (marks0 c)).length = c := by rw [parts_fold_len]; unfold marks0; simp
   have hstep : (te.take (k + 1)).foldl (partsF bound) (marks0 c) = partsF bound ((te.take k).foldl (partsF bound) (marks0 c)) e := by rw [take_snoc hp, List.foldl_append]; rfl
   obtain ⟨S', r', lo2, f1, f2, f3, f4⟩ := parts_if px (n := n) (t := t) (bound := bound) (count := count) (e := e) e3 hl hc hm.1 hm.2
   apply StepI.mk (p := .tup [.int e.1, .str (nm e.2.1 e.2.2)]) (lo3 := loPb r' t bound count) (st2 := S')
   ·exact ⟨r', rfl, e2.trans f1, by rw [hstep]; exact f2⟩
   ·exact ⟨_, e2 _ _ ht, (tpe_at hp).symm⟩
   ·exact AsL.as (AsL.tup (AoL.cons rfl (AoL.cons rfl AoL.nil)))
   ·exact Ex.one f3
   ·exact f4)
  (fun lo s ⟨r, e1, e2, e3⟩ => ⟨_, e2 _ _ ht, by rw [List.getElem?_eq_none (by rw [tpe_len]; omega)]⟩)
 subst e1
 rw [List.take_of_length_le (Nat.le_refl _)] at e3
 exact ⟨st', r, e2, e3, hf⟩
theorem sp_parts {C : Cx} (px : Px C) {n : Nat} {t c : Nat} {bound : Int} {te : List Tie} {st : Sto} (ht : st[t]? = some (.list (tpe te))) (hc : c ≤ 5) (hte : ∀ e ∈ te, e.2.1 < c ∧ e.2.2 < c) :
  ∃ st', SExt st st' ∧ Cl C (n + 1) (.ref 286) [.ref t, .int bound, .int (c : Int)] st (.int (partsP te bound c : Int)) st' := by
 have hm0 : ((List.range ((c : Int) - 0).toNat).map fun (k : Nat) => PV.int (0 + (k : Int))) = (marks0 c).map .int := by
  unfold marks0
  rw [show ((c : Int) - 0).toNat = c by omega, List.map_map]
  refine List.map_congr_left fun k _ => ?_
  show PV.int (0 + (k : Int)) = PV.int (k : Int)
  rw [Int.zero_add]
 have hlr : Cl C n (.type "list") [.rng 0 (c : Int) 1] st (.ref st.length) (st ++ [.list ((marks0 c).map .int)]) := by
  have := _root_.Mine.C.list_range (C := C) (n := n) (st := st) (a := 0) (b := (c : Int)) (by omega) (by omega) (by omega) (by omega) (by omega)
  rwa [hm0] at this
 obtain ⟨st', r, h1, h2, h3⟩ := parts_loop px (n := n) (bound := bound) (count := (c : Int)) (r0 := st.length) (st := st ++ [.list ((marks0 c).map .int)]) ht (SExt.app _ _) gl hc hte
 refine ⟨st', h1, ?_⟩
 have hl : (te.foldl (partsF bound) (marks0 c)).length = c := by rw [parts_fold_len]; unfold marks0; simp
 have hit : ItrE C n φpa (loPb st.length t bound (c : Int)) (fI P1) (st ++ [.list ((marks0 c).map .int)]) (ListIt t) (st ++ [.list ((marks0 c).map .int)]) := ItrE.of (Ev.loc rfl rfl) (Itr.list (ga ht))
 have hset : EvSet C n φpa (loPb r t bound (c : Int)) (argE 0 (vOf (sAt (bodyOf (stAt 28)) 2))) st' (dedup (te.foldl (partsF bound) (marks0 c))) st' :=
  EvSet.ofList (Ev.blt2 (b_set px) rfl (by decide)) (Ev.loc rfl rfl) h2 (by omega)
 have body : ∃ lo', Ex C n φpa [("ties", .ref t), ("bound", .int bound), ("count", .int (c : Int))] (bodyOf (stAt 28)) st (.ret (.int (partsP te bound c : Int))) lo' st' := by
  apply Exists.intro
  apply Ex.cons
  ·apply Ex1.asg
   ·apply Ev.callt
    ·walk_at "ev"
    ·apply EvL.cons
     ·apply Ev.callt
      ·walk_at "ev"
      ·walk_at "evl"
      ·exact _root_.Mine.C.range1
      ·intro _; rfl
      ·intro _; rfl
     ·exact EvL.nil
     ·intro _; rfl
    ·exact hlr
    ·intro _; rfl
    ·intro _; rfl
   ·walk_at "as"
   ·intro _ _; rfl
   ·intro _; rfl
   ·intro _; rfl
  apply Ex.cons
  ·exact Ex1.forE hit (h3.pre (SubL.ok ⟨rfl, rfl, rfl, rfl, trivial⟩)) (by intro _ _; rfl)
  apply Ex.stop
  ·apply Ex1.ret
   exact Ev.len_set (Ev.blt2 (b_len px) rfl (by decide)) hset
  ·intro h; cases h
 obtain ⟨lo', h⟩ := body
 refine Cl.fn (names := ["ties", "bound", "count"]) (body := bodyOf (stAt 28)) (px.K 286 _ rfl) rfl rfl rfl (codeRec_of px.K rfl) rfl rfl ?_ ?_ ?_ h rfl ?_
 ·intro vs hv
  obtain ⟨v1, v2, v3, rfl⟩ := len3 hv
  rfl
 ·decide
 ·decide +kernel
 ·decide
end
section
section
variable {C : Cx} {n : Nat} {φ φ' : Scope} {lo lo' lo1 lo2 lo3 : Loc} {st st0 st1 st2 st3 : Sto} {It : ItR} {k : Nat}
theorem ints_repl {ρ : List Addr} {h : Heap} : ∀ {vs : List Value} {ns : List Int}, IntsAre vs ns → RepL h ρ (ns.map .int) vs
 | _, _, .nil => .nil
 | _, _, .cons n t h => .cons _ _ _ _ (.int _ _) (ints_repl h)
theorem C.sorted_ints {i : Nat} {xs ys : List Int} (hi : st[i]? = some (.list (xs.map .int))) (hz : xs.length < 64) (hp : ys.Perm xs) (ho : ys.Pairwise (· ≤ ·)) :
  Cl C n (.builtin "sorted") [.ref i] st (.ref st.length) (st ++ [.list (ys.map .int)]) := fun A s ρ vs hA H R => by
 (replace R := R.inv; obtain ⟨v, _, rfl, R1, R2⟩ := R)
 (replace R2 := R2.inv; first | obtain rfl := R2 | obtain ⟨_, rfl⟩ := R2)
 (replace R1 := R1.inv; obtain ⟨a, rfl, ha⟩ := R1)
 obtain ⟨ws, m, ho', rl, hL, hlen⟩ := isList_of H ha hi
 have hI := repl_ints rl
 refine wpAny_size (_root_.PyProof.Rows.sorted_ints hL hI (by have := hI.length; omega) fun out ns' a1 a2 a3 hz' => ?_)
 have hns : ns' = ys := lks_uniq (a2.trans hp.symm) a3 ho
 subst hns
 obtain ⟨e, he⟩ := sortedAll_at s.heap ws out
 exact adoptP H s.toks (fun b o e => sortedAll_old e) hz' (Nat.le_succ _) fun G => ⟨out.toList, e, by simpa using he, ints_repl a1⟩
theorem Ev.sorted_rev {func e ke : Expr} {kp pos : Pos} {i : Nat} {xs ys : List Int} (h1 : Ev C n φ lo func st (.sta (.builtin "sorted")) st1) (h2 : Ev C n φ lo e st1 (.ref i) st2) (h3 : Ev C n φ lo ke st2 (.bool true) st2)
  (hi : st2[i]? = some (.list (xs.map .int))) (hz : xs.length < 64) (hp : ys.Perm xs) (ho : ys.Pairwise (· ≥ ·))
  (hv : ∀ env, starEach [e] env = [(false, eval e env)] := by intro _; rfl)
  (hb : ∀ env, backTo pos (starEach [e] env) = (false, eval e env) :: backTo pos (starEach [] env) := by intro _; rfl)
  (hpl : ∀ env, (backTo pos (starEach [e] env)).any (·.1) = false := by intro _; rfl)
  (he : ∀ env, eval (.Call func [e] [⟨some "reverse", ke, kp⟩] pos) env = (do callWith pos (← eval func env) [] (backTo pos (starEach [e] env)) (backToKw pos (keywordEach [⟨some "reverse", ke, kp⟩] env))) := by intro _; rfl) :
  Ev C n φ lo (.Call func [e] [⟨some "reverse", ke, kp⟩] pos) st (.ref st2.length) (st2 ++ [.list (ys.map .int)]) := fun A s ρ env hA H F => by
 rw [he]
 refine wpAny_bind (noE (h1 A s ρ env hA H F) fun v s1 ⟨ρ1, H1, G1, R1⟩ => ?_)
 (replace R1 := R1.inv; first | obtain rfl := R1 | obtain ⟨_, rfl⟩ := R1)
 refine callWith_kw (he := hb env) (hplain := hpl env) (args1 (noE (h2 A s1 ρ1 env hA H1 (F.go0 G1)) fun v s2 ⟨ρ2, H2, G2, R2⟩ => ?_) (hv env))
 refine kws_cons (noE (h3 A s2 ρ2 env hA H2 (F.go0 (G1.trans G2))) fun kv s3 ⟨ρ3, H3, G3, R3⟩ => kws_nil ?_)
 (replace R3 := R3.inv; first | obtain rfl := R3 | obtain ⟨_, rfl⟩ := R3)
 have R2' := R2.go0 G3
 (replace R2' := R2'.inv; obtain ⟨a, rfl, ha⟩ := R2')
 obtain ⟨ws, m, ho', rl, hL, hlen⟩ := isList_of H3 ha hi
 have hI := repl_ints rl
 show wpAny _ _ (call (.builtin "sorted") [.ref a] [(Str.ofString "reverse", .bool true)]) _ _ _
 refine wpAny_size (sorted_ints_rev hL hI (by have := hI.length; omega) fun out ns' a1 a2 a3 hz' => ?_)
 have hns : ns' = ys := by
  have h1 : ns'.reverse = ys.reverse := lks_uniq ((List.reverse_perm _).trans ((a2.trans hp.symm).trans (List.reverse_perm _).symm)) (by
   rw [List.pairwise_reverse]; exact a3) (by rw [List.pairwise_reverse]; exact ho)
  exact List.reverse_inj.mp h1
 subst hns
 obtain ⟨e, he⟩ := sortedAll_at s3.heap ws out
 have := adoptP H3 (ob := .list (ns'.map .int)) s3.toks (fun b o e => sortedAll_old e) hz' (Nat.le_succ _) fun G => ⟨out.toList, e, by simpa using he, ints_repl a1⟩
 exact this.more ((G1.trans G2).trans G3)
end
end
section
noncomputable def runK {α : Type} (lt : Nat → Nat → Bool) : KasT α → α
 | .ret a => a
 | .ask i j k => runK lt (k (lt i j))
theorem runK_bind {α β : Type} (lt : Nat → Nat → Bool) (f : α → KasT β) : ∀ t : KasT α, runK lt (t.bind f) = runK lt (f (runK lt t))
 | .ret a => rfl
 | .ask i j k => by
  show runK lt ((k (lt i j)).bind f) = _
  rw [runK_bind lt f (k (lt i j))]; rfl
section
variable (r : Nat → Int)
noncomputable abbrev ltR (i j : Nat) : Bool := decide (r i < r j)
noncomputable abbrev KR (p : Array Nat) (i : Nat) : Int := r (p.getD i 0)
noncomputable def SP (p : Array Nat) (m : Nat) : Prop := ∀ i j, i < j → j < m → KR r p i < KR r p j
noncomputable def Dn (p : Array Nat) : Prop := ∀ i j, i < p.size → j < p.size → i ≠ j → KR r p i ≠ KR r p j
theorem SP.adj {p : Array Nat} {m : Nat} (h : ∀ i, i + 1 < m → KR r p i < KR r p (i + 1)) : SP r p m := fun i j hij hj => by
 induction j with
 | zero => omega
 | succ j ih =>
  rcases Nat.lt_or_ge i j with q | q
  ·exact Int.lt_trans (ih q (by omega)) (h j hj)
  ·have : i = j := by omega
   subst this; exact h i hj
theorem asc_run (p : Array Nat) : ∀ (f n : Nat), 1 ≤ n → n ≤ runK (ltR r) (kas_asc p f n) ∧ runK (ltR r) (kas_asc p f n) ≤ n + f ∧ (∀ i, n ≤ i → i < runK (ltR r) (kas_asc p f n) → KR r p (i - 1) ≤ KR r p i) ∧
  (runK (ltR r) (kas_asc p f n) < n + f → KR r p (runK (ltR r) (kas_asc p f n)) < KR r p (runK (ltR r) (kas_asc p f n) - 1))
 | 0, n, h => ⟨Nat.le_refl _, Nat.le_refl _, (fun i h1 h2 => by have : runK (ltR r) (kas_asc p 0 n) = n := rfl; omega), (fun h => by have : runK (ltR r) (kas_asc p 0 n) = n := rfl; omega)⟩
 | f + 1, n, h => by
  have e : runK (ltR r) (kas_asc p (f + 1) n) = if ltR r (p.getD n 0) (p.getD (n - 1) 0) = true then n else runK (ltR r) (kas_asc p f (n + 1)) := by
   show runK (ltR r) (if ltR r (p.getD n 0) (p.getD (n - 1) 0) = true then KasT.ret n else kas_asc p f (n + 1)) = _
   split <;> rfl
  rw [e]
  by_cases hc : r (p.getD n 0) < r (p.getD (n - 1) 0)
  ·rw [if_pos (by simpa using hc)]
   exact ⟨Nat.le_refl _, by omega, fun i h1 h2 => by omega, fun _ => hc⟩
  ·rw [if_neg (by simpa using hc)]
   obtain ⟨a1, a2, a3, a4⟩ := asc_run p f (n + 1) (by omega)
   refine ⟨by omega, by omega, fun i h1 h2 => ?_, fun h => a4 (by omega)⟩
   rcases Nat.lt_or_ge n i with q | q
   ·exact a3 i q h2
   ·have : i = n := by omega
    subst this; exact Int.not_lt.mp hc
theorem desc_run (p : Array Nat) (hd : Dn r p) : ∀ (f n : Nat), 1 ≤ n → n + f ≤ p.size → ∃ m, runK (ltR r) (kas_desc f p n 0) = (p, m, 0) ∧ n ≤ m ∧ m ≤ n + f ∧ ∀ i, n ≤ i → i < m → KR r p i < KR r p (i - 1)
 | 0, n, h, hz => ⟨n, rfl, Nat.le_refl _, Nat.le_refl _, fun i h1 h2 => by omega⟩
 | f + 1, n, h, hz => by
  have e : runK (ltR r) (kas_desc (f + 1) p n 0) = if ltR r (p.getD n 0) (p.getD (n - 1) 0) = true then runK (ltR r) (kas_desc f p (n + 1) 0) else
    if ltR r (p.getD (n - 1) 0) (p.getD n 0) = true then (p, n, 0) else runK (ltR r) (kas_desc f p (n + 1) (0 + 1)) := by
   show runK (ltR r) (if ltR r (p.getD n 0) (p.getD (n - 1) 0) = true then (if 0 > 0 then _ else kas_desc f p (n + 1) 0) else .ask (p.getD (n - 1) 0) (p.getD n 0) fun d => if d = true then .ret (p, n, 0) else kas_desc f p (n + 1) (0 + 1)) = _
   split
   ·rw [if_neg (by decide)]
   ·show runK (ltR r) (if ltR r (p.getD (n - 1) 0) (p.getD n 0) = true then .ret (p, n, 0) else kas_desc f p (n + 1) (0 + 1)) = _
    split <;> rfl
  rw [e]
  by_cases hc : r (p.getD n 0) < r (p.getD (n - 1) 0)
  ·rw [if_pos (by simpa using hc)]
   obtain ⟨m, a1, a2, a3, a4⟩ := desc_run p hd f (n + 1) (by omega) (by omega)
   refine ⟨m, a1, by omega, by omega, fun i h1 h2 => ?_⟩
   rcases Nat.lt_or_ge n i with q | q
   ·exact a4 i q h2
   ·have : i = n := by omega
    subst this; exact hc
  ·rw [if_neg (by simpa using hc)]
   have hne := hd n (n - 1) (by omega) (by omega) (by omega)
   have hlt : r (p.getD (n - 1) 0) < r (p.getD n 0) := by
    have h1 : r (p.getD n 0) ≠ r (p.getD (n - 1) 0) := hne
    omega
   rw [if_pos (by simpa using hlt)]
   exact ⟨n, rfl, Nat.le_refl _, by omega, fun i h1 h2 => by omega⟩
theorem getD_of {p : Array Nat} {i : Nat} {x : Nat} (h : p[i]? = some x) : p.getD i 0 = x := by
 rw [Array.getD_eq_getD_getElem?, h]; rfl
theorem getD_eq {p q : Array Nat} {i j : Nat} (h : p[i]? = q[j]?) : p.getD i 0 = q.getD j 0 := by
 rw [Array.getD_eq_getD_getElem?, Array.getD_eq_getD_getElem?, h]
theorem Dn.perm {p q : Array Nat} (hp : q.Perm p) (hd : Dn r p) : Dn r q := by
 have key : ∀ a : Array Nat, Dn r a ↔ (a.toList.map r).Nodup := by
  intro a
  show _ ↔ List.Pairwise (· ≠ ·) _
  rw [List.pairwise_iff_getElem]
  have val : ∀ i (h : i < a.size), KR r a i = r a[i] := fun i h => by
   show r (a.getD i 0) = _
   rw [getD_of (Array.getElem?_eq_getElem h)]
  constructor
  ·intro h i j hi hj hij
   rw [List.length_map, Array.length_toList] at hi hj
   have := h i j hi hj (by omega)
   rw [val i hi, val j hj] at this
   simpa using this
  ·intro h i j hi hj hij
   have main : ∀ i j, i < j → j < a.size → KR r a i ≠ KR r a j := fun i j hij hj => by
    have := h i j (by rw [List.length_map, Array.length_toList]; omega) (by rw [List.length_map, Array.length_toList]; exact hj) hij
    rw [val i (by omega), val j hj]
    simpa using this
   rcases Nat.lt_or_gt_of_ne hij with q | q
   ·exact main i j q hj
   ·exact (main j i q hi).symm
 rw [key] at hd ⊢
 exact (hp.toList.map r).nodup_iff.mpr hd
end
end
section
section
variable (r : Nat → Int)
theorem asc_SP {p : Array Nat} (hd : Dn r p) {n m : Nat} (hm : m ≤ p.size) (h0 : SP r p n) (hn : 1 ≤ n) (h : ∀ i, n ≤ i → i < m → KR r p (i - 1) ≤ KR r p i) : SP r p m := by
 apply SP.adj
 intro i hi
 rcases Nat.lt_or_ge (i + 1) n with q | q
 ·exact h0 i (i + 1) (by omega) q
 ·have h1 := h (i + 1) q hi
  have h2 := hd i (i + 1) (by omega) (by omega) (by omega)
  rw [Nat.add_sub_cancel] at h1
  omega
theorem count_run {p : Array Nat} (hd : Dn r p) {n : Nat} (hn : p.size = n) (h1 : 1 ≤ n) :
  (runK (ltR r) (kas_count n p)).2.Perm p ∧ 1 ≤ (runK (ltR r) (kas_count n p)).1 ∧ (runK (ltR r) (kas_count n p)).1 ≤ n ∧ SP r (runK (ltR r) (kas_count n p)).2 (runK (ltR r) (kas_count n p)).1 := by
 unfold kas_count
 rw [runK_bind]
 obtain ⟨a1, a2, a3, a4⟩ := asc_run r p (n - 1) 1 (Nat.le_refl _)
 generalize runK (ltR r) (kas_asc p (n - 1) 1) = m at a1 a2 a3 a4
 have s0 : SP r p 1 := fun i j hij hj => by omega
 have sm : SP r p m := asc_SP r hd (by omega) s0 (Nat.le_refl _) a3
 by_cases hmn : m = n
 ·rw [if_pos (by simpa using hmn)]
  exact ⟨Array.Perm.refl _, a1, by show m ≤ n; omega, sm⟩
 ·rw [if_neg (by simpa using hmn)]
  have hlt : m < n := by omega
  by_cases hm1 : m > 1
  ·rw [if_pos hm1]
   have e : runK (ltR r) (KasT.ask (p.getD 0 0) (p.getD (m - 1) 0) fun c => if c = true then .ret (m, p) else kas_descPart m n (kas_rev p 0 m)) = (m, p) := by
    have : ltR r (p.getD 0 0) (p.getD (m - 1) 0) = true := by
     exact decide_eq_true (sm 0 (m - 1) (by omega) (by omega))
    show runK (ltR r) (if ltR r (p.getD 0 0) (p.getD (m - 1) 0) = true then .ret (m, p) else _) = _
    rw [if_pos this]; rfl
   rw [e]
   exact ⟨Array.Perm.refl _, a1, Nat.le_trans a2 (by omega), sm⟩
  ·rw [if_neg hm1]
   have hm : m = 1 := by omega
   subst hm
   have h10 : KR r p 1 < KR r p 0 := a4 (by omega)
   unfold kas_descPart
   rw [runK_bind]
   obtain ⟨k, b1, b2, b3, b4⟩ := desc_run r p hd (n - (1 + 1)) (1 + 1) (by omega) (by omega)
   rw [b1]
   simp only [Nat.lt_irrefl, gt_iff_lt, if_false]
   unfold kas_tail3
   rw [runK_bind]
   have hq : (kas_rev p 0 k).Perm p := mirror_perm _ _ _ _
   have hqs : (kas_rev p 0 k).size = p.size := mirror_size _ _ _ _
   have hqd := Dn.perm r hq hd
   have hqk : ∀ i, i < k → KR r (kas_rev p 0 k) i = KR r p (k - 1 - i) := fun i hi => by
    show r ((kas_rev p 0 k).getD i 0) = r (p.getD (k - 1 - i) 0)
    congr 1
    apply getD_eq
    unfold kas_rev
    rw [getElem?_mirror_all (by omega), if_pos (by omega)]
    congr 1; omega
   have sk : SP r (kas_rev p 0 k) k := by
    apply SP.adj
    intro i hi
    rw [hqk i (by omega), hqk (i + 1) hi]
    rcases Nat.lt_or_ge (k - 1 - i) 2 with q | q
    ·have e1 : k - 1 - i = 1 := by omega
     have e2 : k - 1 - (i + 1) = 0 := by omega
     rw [e1, e2]; exact h10
    ·have := b4 (k - 1 - i) (by omega) (by omega)
     have e2 : k - 1 - (i + 1) = k - 1 - i - 1 := by omega
     rw [e2]; exact this
   obtain ⟨c1, c2, c3, c4⟩ := asc_run r (kas_rev p 0 k) (n - k) k (by omega)
   generalize runK (ltR r) (kas_asc (kas_rev p 0 k) (n - k) k) = m' at c1 c2 c3 c4
   exact ⟨hq, by show 1 ≤ m'; omega, by show m' ≤ n; omega, asc_SP r (n := k) (m := m') hqd (by omega) sk (by omega) c3⟩
theorem runK_ite {α : Type} (lt : Nat → Nat → Bool) (b : Bool) (x y : KasT α) : runK lt (if b = true then x else y) = if b = true then runK lt x else runK lt y := by cases b <;> rfl
theorem place_run {p : Array Nat} {k : Nat} (hk : k < p.size) (hs : SP r p k) : ∀ (f lo hi : Nat), hi - lo ≤ f → lo ≤ hi → hi ≤ k → (∀ i, i < lo → KR r p i ≤ KR r p k) → (∀ i, hi ≤ i → i < k → KR r p k < KR r p i) →
  runK (ltR r) (kas_place p k f lo hi) ≤ k ∧ (∀ i, i < runK (ltR r) (kas_place p k f lo hi) → KR r p i ≤ KR r p k) ∧ (∀ i, runK (ltR r) (kas_place p k f lo hi) ≤ i → i < k → KR r p k < KR r p i)
 | 0, lo, hi, h1, h2, h3, h4, h5 => by
  have e : runK (ltR r) (kas_place p k 0 lo hi) = lo := rfl
  rw [e]
  have : lo = hi := by omega
  subst this
  exact ⟨h3, h4, h5⟩
 | f + 1, lo, hi, h1, h2, h3, h4, h5 => by
  by_cases hge : lo ≥ hi
  ·have e : runK (ltR r) (kas_place p k (f + 1) lo hi) = lo := by
    show runK (ltR r) (if lo ≥ hi then .ret lo else _) = _
    rw [if_pos hge]; rfl
   rw [e]
   have : lo = hi := by omega
   subst this
   exact ⟨h3, h4, h5⟩
  ·have e : runK (ltR r) (kas_place p k (f + 1) lo hi) = if ltR r (p.getD k 0) (p.getD ((lo + hi) / 2) 0) = true then runK (ltR r) (kas_place p k f lo ((lo + hi) / 2)) else runK (ltR r) (kas_place p k f ((lo + hi) / 2 + 1) hi) := by
    show runK (ltR r) (if lo ≥ hi then .ret lo else .ask (p.getD k 0) (p.getD ((lo + hi) / 2) 0) fun c => if c = true then kas_place p k f lo ((lo + hi) / 2) else kas_place p k f ((lo + hi) / 2 + 1) hi) = _
    rw [if_neg hge]
    exact runK_ite _ _ _ _
   rw [e]
   by_cases hc : r (p.getD k 0) < r (p.getD ((lo + hi) / 2) 0)
   ·rw [if_pos (by simpa using hc)]
    refine place_run hk hs f lo ((lo + hi) / 2) (by omega) (by omega) (by omega) h4 fun i q1 q2 => ?_
    rcases Nat.lt_or_ge ((lo + hi) / 2) i with q | q
    ·exact Int.lt_trans hc (hs _ _ q q2)
    ·have : i = (lo + hi) / 2 := by omega
     subst this; exact hc
   ·rw [if_neg (by simpa using hc)]
    refine place_run hk hs f ((lo + hi) / 2 + 1) hi (by omega) (by omega) h3 (fun i q1 => ?_) h5
    have hle : KR r p ((lo + hi) / 2) ≤ KR r p k := Int.not_lt.mp hc
    rcases Nat.lt_or_ge i ((lo + hi) / 2) with q | q
    ·exact Int.le_trans (Int.le_of_lt (hs _ _ q (by omega))) hle
    ·have : i = (lo + hi) / 2 := by omega
     subst this; exact hle
theorem bin_run : ∀ (f : Nat) (p : Array Nat) (k : Nat), Dn r p → k + f = p.size → SP r p k → (runK (ltR r) (kas_bin f p k)).Perm p ∧ SP r (runK (ltR r) (kas_bin f p k)) p.size
 | 0, p, k, hd, hk, hs => by
  have : k = p.size := by omega
  subst this
  exact ⟨Array.Perm.refl _, hs⟩
 | f + 1, p, k, hd, hk, hs => by
  have e : runK (ltR r) (kas_bin (f + 1) p k) = runK (ltR r) (kas_bin f (bubble p k (k - runK (ltR r) (kas_place p k k 0 k))) (k + 1)) := by
   show runK (ltR r) ((kas_place p k k 0 k).bind fun l => kas_bin f (bubble p k (k - l)) (k + 1)) = _
   rw [runK_bind]
  rw [e]
  obtain ⟨l1, l2, l3⟩ := place_run r (p := p) (k := k) (by omega) hs k 0 k (by omega) (by omega) (Nat.le_refl _) (fun i h => by omega) (fun i h1 h2 => by omega)
  generalize runK (ltR r) (kas_place p k k 0 k) = l at l1 l2 l3
  have hq : (bubble p k (k - l)).Perm p := bubble_perm _ _ _
  have hqs : (bubble p k (k - l)).size = p.size := bubble_size _ _ _
  have hqv : ∀ i, KR r (bubble p k (k - l)) i = if i = l then KR r p k else if l < i ∧ i ≤ k then KR r p (i - 1) else KR r p i := fun i => by
   have hb := getElem?_bubble (xs := p) (src := k) (by omega) (k - l) (by omega) i
   rw [show k - (k - l) = l by omega] at hb
   show r ((bubble p k (k - l)).getD i 0) = _
   split
   ·rename_i h
    rw [if_pos h] at hb
    rw [getD_eq hb]
   ·rename_i h
    rw [if_neg h] at hb
    split
    ·rename_i h'
     rw [if_pos h'] at hb
     rw [getD_eq hb]
    ·rename_i h'
     rw [if_neg h'] at hb
     rw [getD_eq hb]
  have hsq : SP r (bubble p k (k - l)) (k + 1) := by
   apply SP.adj
   intro i hi
   rw [hqv i, hqv (i + 1)]
   have hne : ∀ i, i < k → KR r p i ≠ KR r p k := fun i hi => hd i k (by omega) (by omega) (by omega)
   by_cases c1 : i = l
   ·rw [if_pos c1, if_neg (by omega), if_pos (by omega), Nat.add_sub_cancel]
    exact l3 i (by omega) (by omega)
   ·rw [if_neg c1]
    by_cases c2 : i + 1 = l
    ·rw [if_pos c2, if_neg (by omega)]
     have := l2 i (by omega)
     have := hne i (by omega)
     omega
    ·rw [if_neg c2]
     by_cases c3 : l < i ∧ i ≤ k
     ·rw [if_pos c3, if_pos (by omega), Nat.add_sub_cancel]
      exact hs (i - 1) i (by omega) (by omega)
     ·rw [if_neg c3, if_neg (by omega)]
      exact hs i (i + 1) (by omega) (by omega)
  obtain ⟨m1, m2⟩ := bin_run f (bubble p k (k - l)) (k + 1) (Dn.perm r hq hd) (by omega) hsq
  rw [hqs] at m2
  exact ⟨m1.trans hq, m2⟩
theorem sort_run {n : Nat} (h1 : 1 ≤ n) (hr : ∀ i j, i < n → j < n → i ≠ j → r i ≠ r j) : (runK (ltR r) (kas_sort n)).Perm (List.range n).toArray ∧ SP r (runK (ltR r) (kas_sort n)) n := by
 have hd : Dn r (List.toArray (List.range n)) := fun i j hi hj hij => by
  have hi' : i < n := by simpa using hi
  have hj' : j < n := by simpa using hj
  show r (_) ≠ r (_)
  rw [getD_of (x := i) (by simp [hi']), getD_of (x := j) (by simp [hj'])]
  exact hr i j hi' hj' hij
 unfold kas_sort
 rw [runK_bind]
 obtain ⟨a1, a2, a3, a4⟩ := count_run r hd (n := n) (by simp) h1
 generalize runK (ltR r) (kas_count n (List.toArray (List.range n))) = c at a1 a2 a3 a4
 have hcs : c.2.size = n := by rw [a1.size_eq]; simp
 by_cases hlt : c.1 < n
 ·rw [if_pos hlt, Nat.max_eq_left a2]
  obtain ⟨b1, b2⟩ := bin_run r (n - c.1) c.2 c.1 (Dn.perm r a1 hd) (by omega) a4
  rw [hcs] at b2
  exact ⟨b1.trans a1, b2⟩
 ·rw [if_neg hlt]
  have : c.1 = n := by omega
  rw [this] at a4
  exact ⟨a1, a4⟩
end
end
section
noncomputable def AskOk {α : Type} (N : Nat) (P : α → Prop) : KasT α → Prop
 | .ret a => P a
 | .ask i j k => i < N ∧ j < N ∧ ∀ b, AskOk N P (k b)
theorem AskOk.bind {α β : Type} {N : Nat} {P : α → Prop} {Q : β → Prop} {f : α → KasT β} (hf : ∀ a, P a → AskOk N Q (f a)) : ∀ t : KasT α, AskOk N P t → AskOk N Q (t.bind f)
 | .ret a, h => hf a h
 | .ask i j k, ⟨h1, h2, h3⟩ => ⟨h1, h2, fun b => AskOk.bind hf (k b) (h3 b)⟩
theorem AskOk.ite {α : Type} {N : Nat} {P : α → Prop} {x y : KasT α} (c : Prop) [Decidable c] (hx : AskOk N P x) (hy : AskOk N P y) : AskOk N P (if c then x else y) := by
 split
 ·exact hx
 ·exact hy
theorem kasWp_run {α : Type} {N : Nat} {P : α → Prop} {lt : Nat → Nat → Bool} {cmp : Nat → Nat → (Bool → Shared → Prop) → Shared → Prop} {s : Shared} {Q : α → Shared → Prop}
  (hc : ∀ i j, i < N → j < N → ∀ C : Bool → Shared → Prop, C (lt i j) s → cmp i j C s) : ∀ t : KasT α, AskOk N P t → Q (runK lt t) s → t.kasWp cmp Q s
 | .ret a, _, h => h
 | .ask i j k, ⟨h1, h2, h3⟩, h => hc i j h1 h2 _ (kasWp_run hc (k (lt i j)) (h3 _) h)
noncomputable def Sm (N : Nat) (p : Array Nat) : Prop := ∀ x ∈ p, x < N
theorem Sm.at_ {N : Nat} {p : Array Nat} (h : Sm N p) (hN : 0 < N) (k : Nat) : p.getD k 0 < N := by
 rw [Array.getD_eq_getD_getElem?]
 cases e : p[k]? with
 | none => exact hN
 | some x => exact h x (Array.mem_of_getElem? e)
theorem Sm.perm {N : Nat} {p q : Array Nat} (h : Sm N p) (hp : q.Perm p) : Sm N q := fun x hx => h x (hp.mem_iff.mp hx)
theorem Sm.rev {N : Nat} {p : Array Nat} (h : Sm N p) (i j : Nat) : Sm N (kas_rev p i j) := h.perm (mirror_perm _ _ _ _)
section
variable {N : Nat} (hN : 0 < N)
include hN
theorem ok_asc {p : Array Nat} (h : Sm N p) : ∀ f n, AskOk N (fun _ => True) (kas_asc p f n)
 | 0, n => trivial
 | f + 1, n => ⟨h.at_ hN _, h.at_ hN _, fun b => by
  show AskOk N _ (if b = true then .ret n else kas_asc p f (n + 1))
  exact AskOk.ite _ trivial (ok_asc h f (n + 1))⟩
theorem ok_desc : ∀ (f : Nat) (p : Array Nat), Sm N p → ∀ n q, AskOk N (fun r : Array Nat × Nat × Nat => Sm N r.1) (kas_desc f p n q)
 | 0, p, h, n, q => h
 | f + 1, p, h, n, q => ⟨h.at_ hN _, h.at_ hN _, fun b => by
  show AskOk N _ (if b = true then (if q > 0 then kas_desc f (kas_rev p (n - (q + 1)) n) (n + 1) 0 else kas_desc f p (n + 1) 0)
   else .ask (p.getD (n - 1) 0) (p.getD n 0) fun d => if d = true then .ret (p, n, q) else kas_desc f p (n + 1) (q + 1))
  refine AskOk.ite _ (AskOk.ite _ (ok_desc f _ (h.rev _ _) _ _) (ok_desc f p h _ _)) ⟨h.at_ hN _, h.at_ hN _, fun d => ?_⟩
  exact AskOk.ite _ h (ok_desc f p h _ _)⟩
theorem ok_tail3 {p : Array Nat} (h : Sm N p) (n nrem : Nat) : AskOk N (fun r : Nat × Array Nat => Sm N r.2) (kas_tail3 n nrem p) :=
 by
 unfold kas_tail3
 exact AskOk.bind (P := fun _ => True) (Q := fun r : Nat × Array Nat => Sm N r.2) (f := fun m => KasT.ret (m, kas_rev p 0 n)) (fun a _ => (show Sm N (kas_rev p 0 n) from h.rev 0 n)) _ (ok_asc hN (h.rev 0 n) _ _)
theorem ok_descPart {p : Array Nat} (h : Sm N p) (n nrem : Nat) : AskOk N (fun r : Nat × Array Nat => Sm N r.2) (kas_descPart n nrem p) :=
 by
 unfold kas_descPart
 refine AskOk.bind (P := fun r : Array Nat × Nat × Nat => Sm N r.1) (fun a ha => ?_) _ (ok_desc hN _ p h _ _)
 exact AskOk.ite _ (ok_tail3 hN (ha.rev _ _) _ _) (ok_tail3 hN ha _ _)
theorem ok_count {p : Array Nat} (h : Sm N p) (nrem : Nat) : AskOk N (fun r : Nat × Array Nat => Sm N r.2) (kas_count nrem p) :=
 by
 unfold kas_count
 refine AskOk.bind (P := fun _ => True) (fun n _ => ?_) _ (ok_asc hN h _ _)
 exact AskOk.ite _ h (AskOk.ite _ ⟨h.at_ hN _, h.at_ hN _, fun b => AskOk.ite _ h (ok_descPart hN (h.rev _ _) _ _)⟩ (ok_descPart hN h _ _))
theorem ok_place {p : Array Nat} (h : Sm N p) (k : Nat) : ∀ f l r, AskOk N (fun _ => True) (kas_place p k f l r)
 | 0, l, r => trivial
 | f + 1, l, r => by
  show AskOk N _ (if l ≥ r then .ret l else .ask (p.getD k 0) (p.getD ((l + r) / 2) 0) fun c => if c = true then kas_place p k f l ((l + r) / 2) else kas_place p k f ((l + r) / 2 + 1) r)
  exact AskOk.ite _ trivial ⟨h.at_ hN _, h.at_ hN _, fun b => AskOk.ite _ (ok_place h k f _ _) (ok_place h k f _ _)⟩
theorem ok_bin : ∀ (f : Nat) (p : Array Nat), Sm N p → ∀ k, AskOk N (fun q => Sm N q) (kas_bin f p k)
 | 0, p, h, k => h
 | f + 1, p, h, k => AskOk.bind (P := fun _ => True) (fun l _ => ok_bin f _ (h.perm (bubble_perm _ _ _)) _) _ (ok_place hN h k _ _ _)
end
theorem ok_sort {n : Nat} (h1 : 1 ≤ n) : AskOk n (fun q => Sm n q) (kas_sort n) := by
 have h : Sm n (List.toArray (List.range n)) := fun x hx => by simpa using hx
 unfold kas_sort
 refine AskOk.bind (P := fun r : Nat × Array Nat => Sm n r.2) (fun r hr => ?_) _ (ok_count h1 h n)
 exact AskOk.ite _ (ok_bin h1 _ _ hr _) hr
noncomputable def Keep (a : Addr) (h h' : Heap) : Prop := ∀ b o, b ≠ a → h.get? b = some o → h'.get? b = some o
section
variable {prog : Program} {w : World} {A : Around} {E : Value → Shared → Prop} {s : Shared}
theorem sort_keep {a : Addr} {vs : List Value} {n : Nat} {κ : SortKind} {r : Nat → Int} {P : PySem.Fin → Shared → Prop} (ho : s.heap.get? a = some (seqObj "list" vs.toArray n)) (h2 : 2 ≤ vs.length) (h64 : vs.length < 64)
  (hkind : ∀ h', Keep a s.heap h' → wpAny (model prog w) A (keyKind' vs.toArray) (fun κ' s' => κ' = κ ∧ s' = { s with heap := h' }) (fun _ _ => False) { s with heap := h' })
  (hask : ∀ h', Keep a s.heap h' → ∀ i j, i < vs.length → j < vs.length → ∀ C : Bool → Shared → Prop, C (ltR r i j) { s with heap := h' } → kas_ask prog w A κ vs i j C { s with heap := h' })
  (fin : ∀ h' e, Keep a s.heap h' → h'.get? a = some (seqObj "list" (List.toArray ((runK (ltR r) (kas_sort vs.length)).toList.map fun i => vs.getD i Value.none)) e) → P (.done (.ret .none)) { s with heap := h' })
  (hsz : (runK (ltR r) (kas_sort vs.length)).size = vs.length) :
  wpAny (model prog w) A (Builtin.«list.sort» ⟨[.ref a], []⟩) P E s := by
 have ha : a < s.heap.objs.size := Heap.lt_size ho
 obtain ⟨e1, ho1⟩ : ∃ e1, (s.heap.update a (Obj.mapSeq fun _ => (#[] : Array Value))).get? a = some (seqObj "list" #[] e1) := ⟨_, get?_update_seq ho fun _ => #[]⟩
 generalize hh3 : ((s.heap.update a (Obj.mapSeq fun _ => (#[] : Array Value))).push (seqObj "tuple" vs.toArray 0)).push (seqObj "list" #[] 0) = h3
 have k3 : Keep a s.heap h3 := fun b o hb e => by
  rw [← hh3]
  exact Heap.get?_push_of_some _ (Heap.get?_push_of_some _ (((Heap.SameBut.update s.heap a (Obj.mapSeq fun _ => (#[] : Array Value))).2 b hb).trans e))
 have g3 : h3.get? a = some (seqObj "list" #[] e1) := by rw [← hh3]; exact Heap.get?_push_of_some _ (Heap.get?_push_of_some _ ho1)
 rw [list_sort_plain]
 refine wpAny_bind (listItems_at ho rfl ?_)
 refine wpAny_bind (listUpdate_at ho rfl ?_ (by rw [List.size_toArray, sizeLine_eq]; omega) (Nat.zero_le _))
 refine wpAny_bind (seqEpoch_at ho1 rfl ?_)
 refine wpAny_bind (wpAny_newTuple ?_ (by show vs.length ≤ _; rw [sizeLine_eq]; omega))
 refine wpAny_bind (wpAny_newList ?_ (Nat.zero_le _))
 refine wpAny_holding ?_
 show wpAny (model prog w) A _ P E { s with heap := ((s.heap.update a (Obj.mapSeq fun _ => (#[] : Array Value))).push (seqObj "tuple" vs.toArray 0)).push (seqObj "list" #[] 0) }
 rw [hh3]
 dsimp only
 have hn2 : ¬ vs.toArray.size < 2 := by rw [List.size_toArray]; omega
 rw [if_neg hn2, if_neg hn2]
 refine wpAny_bind (wpAny_mono (hkind h3 k3) (fun κ' s0 hk => ?_) fun _ _ x => x.elim)
 obtain ⟨rfl, rfl⟩ := hk
 have tree := kasWp_run (Q := fun p s'' => p = runK (ltR r) (kas_sort vs.length) ∧ s'' = { s with heap := h3 }) (s := { s with heap := h3 }) (hask h3 k3) (kas_sort vs.length) (ok_sort (by omega)) ⟨rfl, rfl⟩
 refine wpAny_bind (wpAny_mono (kat_run (Q := fun st' s' => arrOf st' = (runK (ltR r) (kas_sort vs.length)).map (kas_item (vs.toArray.zip vs.toArray)) ∧ failedOf st' = none ∧ s' = { s with heap := h3 })
  (G := fun p s'' => p = runK (ltR r) (kas_sort vs.length) ∧ s'' = { s with heap := h3 }) rfl h2 h64 (fun p' st' s' a1 a2 a3 a4 => ⟨a4.1 ▸ a2, a3, a4.2⟩) tree) ?_ fun _ _ e => e)
 rintro ⟨⟨⟩, st'⟩ s' ⟨har, hf, rfl⟩
 dsimp only
 have hout := kat_snds rfl har
 rw [hout]
 have hsz' : (List.toArray ((runK (ltR r) (kas_sort vs.length)).toList.map fun i => vs.getD i Value.none)).size = vs.length := by rw [List.size_toArray, List.length_map, Array.length_toList, hsz]
 obtain ⟨c2, hc2⟩ : ∃ c2, (h3.update a (Obj.mapSeq fun _ => List.toArray ((runK (ltR r) (kas_sort vs.length)).toList.map fun i => vs.getD i Value.none))).get? a = some (seqObj "list" (List.toArray ((runK (ltR r) (kas_sort vs.length)).toList.map fun i => vs.getD i Value.none)) c2) :=
  ⟨_, get?_update_seq g3 fun _ => List.toArray ((runK (ltR r) (kas_sort vs.length)).toList.map fun i => vs.getD i Value.none)⟩
 refine wpAny_bind (seqEpoch_at g3 rfl ?_)
 refine wpAny_bind (listUpdate_at g3 rfl ?_ (Nat.zero_le _) (Nat.le_trans (Nat.le_of_eq hsz') (by rw [sizeLine_eq]; omega)))
 rw [hf]
 simp only [bne_self_eq_false, Bool.false_eq_true, if_false]
 refine wpAny_pure (fin _ c2 (fun b o hb e => ((Heap.SameBut.update h3 a _).2 b hb).trans (k3 b o hb e)) hc2)
end
end
section
noncomputable abbrev lt2 (a b : Int × Str) : Bool := tupLt a.1 a.2 b.1 b.2
theorem strLt_irrefl (x : Str) : strLt x x = false := by unfold strLt; simp [List.lt_irrefl]
theorem strLt_asymm {x y : Str} (h : strLt x y = true) : strLt y x = false := by
 unfold strLt at *
 simp only [decide_eq_true_eq, decide_eq_false_iff_not] at *
 exact List.lt_asymm h
theorem lt2_irrefl (a : Int × Str) : lt2 a a = false := by unfold lt2 tupLt; simp
theorem lt2_asymm {a b : Int × Str} (h : lt2 a b = true) : lt2 b a = false := by
 unfold lt2 tupLt at *
 by_cases e : a.1 = b.1
 ·rw [if_pos (by simp [e])] at h
  rw [if_pos (by simp [e])]
  by_cases f : a.2 = b.2
  ·rw [if_pos (by simp [f])] at h; cases h
  ·rw [if_neg (by simpa using f)] at h
   rw [if_neg (by simpa using fun q => f q.symm)]
   exact strLt_asymm h
 ·rw [if_neg (by simpa using e)] at h
  rw [if_neg (by simpa using fun q => e q.symm)]
  simp only [decide_eq_true_eq, decide_eq_false_iff_not] at *
  omega
theorem rank_lt {ys : List (Int × Str)} (ho : ys.Pairwise fun a b => lt2 a b = true) {a b : Int × Str} (ha : a ∈ ys) (hb : b ∈ ys) : lt2 a b = decide ((ys.idxOf a : Int) < (ys.idxOf b : Int)) := by
 rw [List.pairwise_iff_getElem] at ho
 have la := List.idxOf_lt_length_of_mem ha
 have lb := List.idxOf_lt_length_of_mem hb
 have ea : ys[ys.idxOf a] = a := List.getElem_idxOf la
 have eb : ys[ys.idxOf b] = b := List.getElem_idxOf lb
 rcases Nat.lt_trichotomy (ys.idxOf a) (ys.idxOf b) with h | h | h
 ·have := ho _ _ la lb h
  rw [ea, eb] at this
  rw [this]; symm; rw [decide_eq_true_eq]; omega
 ·have : a = b := by rw [← ea, ← eb]; congr 1
  subst this
  rw [lt2_irrefl]; symm; rw [decide_eq_false_iff_not]; omega
 ·have := ho _ _ lb la h
  rw [ea, eb] at this
  rw [lt2_asymm this]; symm; rw [decide_eq_false_iff_not]; omega
theorem incr_id {n : Nat} {f : Nat → Nat} (hf : ∀ i j, i < j → j < n → f i < f j) (hb : ∀ i, i < n → f i < n) : ∀ i, i < n → f i = i := by
 have lo : ∀ i, i < n → i ≤ f i := by
  intro i
  induction i with
  | zero => intro _; omega
  | succ i ih =>
   intro h
   have := hf i (i + 1) (by omega) h
   have := ih (by omega)
   omega
 have hi : ∀ d i, i + d + 1 = n → f i ≤ i := by
  intro d
  induction d with
  | zero => intro i h; have := hb i (by omega); omega
  | succ d ih =>
   intro i h
   have := hf i (i + 1) (by omega) (by omega)
   have := ih (i + 1) (by omega)
   omega
 intro i h
 have := lo i h
 have := hi (n - i - 1) i (by omega)
 omega
theorem tree_sorts {xs ys : List (Int × Str)} (hp : ys.Perm xs) (ho : ys.Pairwise fun a b => lt2 a b = true) (h1 : 1 ≤ xs.length) :
  (∀ i j, i < xs.length → j < xs.length → i ≠ j → ((ys.idxOf (xs.getD i default) : Int)) ≠ (ys.idxOf (xs.getD j default) : Int)) ∧
  ∀ k, k < xs.length → (runK (ltR fun i => (ys.idxOf (xs.getD i default) : Int)) (kas_sort xs.length)).size = xs.length ∧
   (runK (ltR fun i => (ys.idxOf (xs.getD i default) : Int)) (kas_sort xs.length)).getD k 0 < xs.length ∧
   xs.getD ((runK (ltR fun i => (ys.idxOf (xs.getD i default) : Int)) (kas_sort xs.length)).getD k 0) default = ys.getD k default := by
 have hl : ys.length = xs.length := hp.length_eq
 have hnd : ys.Nodup := by
  show List.Pairwise (· ≠ ·) ys
  exact ho.imp fun h q => by subst q; rw [lt2_irrefl] at h; cases h
 have hndx : xs.Nodup := hp.nodup_iff.mp hnd
 have mem : ∀ i, i < xs.length → xs.getD i default ∈ ys := fun i h => by
  rw [List.getD_eq_getElem?_getD, List.getElem?_eq_getElem h]
  exact hp.mem_iff.mpr (List.getElem_mem h)
 have inj : ∀ i j, i < xs.length → j < xs.length → i ≠ j → ((ys.idxOf (xs.getD i default) : Int)) ≠ (ys.idxOf (xs.getD j default) : Int) := fun i j hi hj hij e => by
  have e' : ys.idxOf (xs.getD i default) = ys.idxOf (xs.getD j default) := by omega
  have li := List.idxOf_lt_length_of_mem (mem i hi)
  have lj := List.idxOf_lt_length_of_mem (mem j hj)
  have ei : ys[ys.idxOf (xs.getD i default)] = xs.getD i default := List.getElem_idxOf li
  have ej : ys[ys.idxOf (xs.getD j default)] = xs.getD j default := List.getElem_idxOf lj
  have hx : xs.getD i default = xs.getD j default := by rw [← ei, ← ej]; congr 1
  rw [List.getD_eq_getElem?_getD, List.getElem?_eq_getElem hi, List.getD_eq_getElem?_getD, List.getElem?_eq_getElem hj] at hx
  exact hij (nodup_idx hndx (List.getElem?_eq_getElem hi) (by rw [List.getElem?_eq_getElem hj]; exact congrArg some hx.symm))
 refine ⟨inj, ?_⟩
 obtain ⟨p1, p2⟩ := sort_run (fun i => (ys.idxOf (xs.getD i default) : Int)) h1 inj
 generalize runK (ltR fun i => (ys.idxOf (xs.getD i default) : Int)) (kas_sort xs.length) = p at p1 p2
 have hps : p.size = xs.length := by rw [p1.size_eq]; simp
 have hsm : Sm xs.length p := fun x hx => by
  have := p1.mem_iff.mp hx
  simpa using this
 have hk : ∀ k, p.getD k 0 < xs.length := hsm.at_ h1
 have hid := incr_id (n := xs.length) (f := fun k => ys.idxOf (xs.getD (p.getD k 0) default)) (fun i j hij hj => by
  have := p2 i j hij hj
  show ys.idxOf _ < ys.idxOf _
  have h : ((ys.idxOf (xs.getD (p.getD i 0) default) : Int)) < (ys.idxOf (xs.getD (p.getD j 0) default) : Int) := this
  omega) (fun i hi => by
  have := List.idxOf_lt_length_of_mem (mem _ (hk i))
  omega)
 intro k hkl
 refine ⟨hps, hk k, ?_⟩
 have e1 : ys.idxOf (xs.getD (p.getD k 0) default) = k := hid k hkl
 have lk := List.idxOf_lt_length_of_mem (mem _ (hk k))
 have ek : ys[ys.idxOf (xs.getD (p.getD k 0) default)] = xs.getD (p.getD k 0) default := List.getElem_idxOf lk
 have hy : ys.getD k default = ys[k]'(by omega) := by rw [List.getD_eq_getElem?_getD, List.getElem?_eq_getElem (by omega)]; rfl
 rw [hy]
 refine ek.symm.trans ?_
 congr 1
end
section
noncomputable abbrev tup2 (a : Int) (t : Tok) (x : Str) (u : Tok) : Obj := tupO [.int a t, .str x u]
noncomputable def IsPair (h : Heap) (v : Value) (a : Int) (x : Str) : Prop := ∃ l t u, v = .ref l ∧ h.get? l = some (tup2 a t x u)
theorem rep_pair {h : Heap} {ρ : List Addr} {a : Int} {x : Str} {v : Value} (r : Rep h ρ (.tup [.int a, .str x]) v) : IsPair h v a x := by
 (replace r := r.inv; obtain ⟨l, vs, rfl, nl, ho, rl⟩ := r)
 (replace rl := rl.inv; obtain ⟨v1, _, rfl, r1, r2⟩ := rl)
 (replace r2 := r2.inv; obtain ⟨v2, _, rfl, r2, r3⟩ := r2)
 (replace r3 := r3.inv; first | obtain rfl := r3 | obtain ⟨_, rfl⟩ := r3)
 (replace r1 := r1.inv; obtain ⟨t, rfl⟩ := r1)
 (replace r2 := r2.inv; obtain ⟨u, rfl⟩ := r2)
 exact ⟨l, t, u, rfl, ho⟩
noncomputable def ArePairs (h : Heap) : List Value → List (Int × Str) → Prop
 | [], [] => True
 | v :: vs, p :: ps => IsPair h v p.1 p.2 ∧ ArePairs h vs ps
 | _, _ => False
theorem repl_pairs {h : Heap} {ρ : List Addr} : ∀ {ps : List (Int × Str)} {vs : List Value}, RepL h ρ (tpv ps) vs → ArePairs h vs ps
 | [], _, .nil => trivial
 | p :: ps, _, .cons _ v _ vs r1 r2 => ⟨rep_pair r1, repl_pairs r2⟩
theorem ArePairs.get {h : Heap} : ∀ {vs : List Value} {ps : List (Int × Str)}, ArePairs h vs ps → ∀ i, i < ps.length → IsPair h (vs.getD i .none) (ps.getD i default).1 (ps.getD i default).2
 | v :: vs, p :: ps, ⟨r, _⟩, 0, _ => r
 | v :: vs, p :: ps, ⟨_, r⟩, i + 1, hi => r.get i (by simpa using hi)
 | [], [], _, i, hi => absurd hi (by simp)
theorem ArePairs.tups {h : Heap} : ∀ {vs : List Value} {ps : List (Int × Str)}, ArePairs h vs ps → ∃ fs, KatTups h vs fs ∧ fs.length = ps.length ∧ ∀ v ∈ fs, ∃ a t, v = .int a t
 | [], [], _ => ⟨[], trivial, rfl, fun v h => nomatch h⟩
 | v :: vs, p :: ps, ⟨⟨l, t, u, e, ho⟩, r⟩ => by
  obtain ⟨fs, h1, h2, h3⟩ := r.tups
  subst e
  refine ⟨.int p.1 t :: fs, KatTups.cons ho rfl rfl (by simp) h1, by rw [List.length_cons, List.length_cons, h2], fun v hv => ?_⟩
  rcases List.mem_cons.mp hv with rfl | hv
  ·exact ⟨_, _, rfl⟩
  ·exact h3 v hv
section
variable {prog : Program} {w : World} {A : Around} {E : Value → Shared → Prop} {s : Shared}
theorem ask_pair {x y : Value} {a b : Int} {p q : Str} {C : Bool → Shared → Prop} (hx : IsPair s.heap x a p) (hy : IsPair s.heap y b q) (h : C (tupLt a p b q) s) : wpAny (model prog w) A (keyLt' (tuples' true) x y) C (fun _ _ => False) s := by
 obtain ⟨l, t, u, rfl, ho⟩ := hx
 obtain ⟨l', t', u', rfl, ho'⟩ := hy
 refine kat_lt ho rfl ho' rfl ?_
 show KatLex _ _ _ _ _ _ [(.int a t, .int b t'), (.str p u, .str q u')] 0 s
 unfold tupLt at h
 refine kat_cons (wpAny_eqBool_int ?_)
 cases hab : a == b with
 | false =>
  rw [hab] at h
  simp only [Bool.false_eq_true, if_false] at h
  refine kat_no ?_
  exact oneLt_int h
 | true =>
  rw [hab] at h
  simp only [if_true] at h
  refine kat_yes (kat_cons ?_)
  refine wpAny_eqBool_str ?_
  by_cases hpq : p = q
  ·subst hpq
   simp only [beq_self_eq_true, if_true] at h
   rw [show decide (p = p) = true by simp]
   refine kat_yes (kat_nil ?_)
   exact h
  ·rw [if_neg (by simpa using hpq)] at h
   rw [show decide (p = q) = false by simpa using hpq]
   refine kat_no (kat_one _ _ (P.lt_str ?_))
   exact h
theorem looks_int {M : Model} {h : Heap} (a : Int) (t : Tok) : Looks M h (typeOf (.int a t)) (.type "int") := Looks.of_pure rfl
end
section
variable {C : Cx} {n : Nat} {φ φ' : Scope} {lo lo' lo1 lo2 lo3 : Loc} {st st0 st1 st2 st3 : Sto} {It : ItR} {k : Nat}
theorem C.sorted_tups {i : Nat} {xs ys : List (Int × Str)} (hi : st[i]? = some (.list (tpv xs))) (h2 : 2 ≤ xs.length) (h64 : xs.length < 64) (hp : ys.Perm xs) (ho : ys.Pairwise fun a b => lt2 a b = true) :
  Cl C n (.builtin "sorted") [.ref i] st (.ref st.length) (st ++ [.list (tpv ys)]) := fun A s ρ vs hA H R => by
 (replace R := R.inv; obtain ⟨v, _, rfl, R1, R2⟩ := R)
 (replace R2 := R2.inv; first | obtain rfl := R2 | obtain ⟨_, rfl⟩ := R2)
 (replace R1 := R1.inv; obtain ⟨l, rfl, hl⟩ := R1)
 obtain ⟨ws, m, hol, rl, hL, hlen⟩ := isList_of H hl hi
 have hwl : ws.length = xs.length := by rw [hlen]; unfold tpv; rw [List.length_map]
 have hpairs := repl_pairs rl
 obtain ⟨inj, tr⟩ := tree_sorts hp ho (by omega)
 have hyl := hp.length_eq
 generalize hr : (fun i => (ys.idxOf (xs.getD i default) : Int)) = r at inj tr
 generalize hpp : runK (ltR r) (kas_sort xs.length) = p at tr
 have hps := (tr 0 (by omega)).1
 refine wpAny_size (Calls.call_function_entry kind_sorted plain_sorted entry_sorted (args_sorted1 _) ?_)
 unfold Builtin.«sorted»
 refine wpAny_bind (m := checkCount "sorted" 1 1 _) (wpAny_pure ?_)
 refine wpAny_bind (collect_list hL ?_ (by rw [sizeLine_eq]; omega))
 refine wpAny_bind (wpAny_newList ?_ (by rw [sizeLine_eq]; omega))
 have hsz : ((s.heap.push (seqObj "list" #[] 0)).update s.heap.objs.size (Obj.mapSeq (· ++ ws.toArray))).objs.size = s.heap.objs.size + 1 := by
  rw [Heap.size_update, size_push']
 have hoL : (((s.heap.push (seqObj "list" #[] 0)).update s.heap.objs.size (Obj.mapSeq (· ++ ws.toArray))).push (seqObj "list" ws.toArray 0)).get? (s.heap.objs.size + 1) = some (seqObj "list" ws.toArray 0) := by
  rw [← hsz]; exact Heap.get?_push_size _ rfl
 have keep : ∀ b o, s.heap.get? b = some o → (((s.heap.push (seqObj "list" #[] 0)).update s.heap.objs.size (Obj.mapSeq (· ++ ws.toArray))).push (seqObj "list" ws.toArray 0)).get? b = some o := fun b o q => by
  have hlt : b < s.heap.objs.size := Heap.lt_size q
  rw [Heap.get?_push_ne _ _ _ (by rw [hsz]; exact Nat.ne_of_lt (Nat.lt_succ_of_lt hlt)), Heap.get?_update_ne _ _ _ _ (Nat.ne_of_lt hlt), Heap.get?_push_ne _ _ _ (Nat.ne_of_lt hlt)]
  exact q
 show wpAny _ _ _ _ _ { s with heap := ((s.heap.push (seqObj "list" #[] 0)).update s.heap.objs.size (Obj.mapSeq (· ++ ws.toArray))).push (seqObj "list" ws.toArray 0) }
 rw [hsz]
 generalize hh1 : ((s.heap.push (seqObj "list" #[] 0)).update s.heap.objs.size (Obj.mapSeq (· ++ ws.toArray))).push (seqObj "list" ws.toArray 0) = h1 at hoL keep
 have pk : ∀ h', Keep (s.heap.objs.size + 1) h1 h' → ArePairs h' ws xs := fun h' hk => by
  have k2 : ∀ {vs : List Value} {ps : List (Int × Str)}, ArePairs s.heap vs ps → ArePairs h' vs ps := by
   intro vs
   induction vs with
   | nil => intro ps h; cases ps <;> exact h
   | cons v vs ih =>
    intro ps h
    cases ps with
    | nil => exact h
    | cons q ps =>
     obtain ⟨⟨b, t, u, e, hob⟩, h⟩ := h
     exact ⟨⟨b, t, u, e, hk b _ (Nat.ne_of_lt (Nat.lt_succ_of_lt (Heap.lt_size hob))) (keep _ _ hob)⟩, ih h⟩
  exact k2 hpairs
 refine wpAny_bind (wpAny_holding (wpAny_call_entry slot_list_sort ⟨_, hoL, rfl⟩ entry_list_sort ?body (args_list_sort _)))
 case body =>
  refine sort_keep (s := { s with heap := h1 }) (κ := tuples' true) (r := r) hoL (by omega) (by omega) (fun h' hk => ?_) (fun h' hk a b ha hb C hC => ?_) (fun h' e hk hg => ?_) (by rw [hwl, hpp]; exact hps)
  ·obtain ⟨fs, f1, f2, f3⟩ := (pk h' hk).tups
   refine kat_kind (T := .type "int") (s := { s with heap := h' }) f1 (by omega) (fun v hv => ?_) rfl ⟨rfl, rfl⟩
   obtain ⟨a, t, rfl⟩ := f3 v hv
   exact looks_int a t
  ·have g := pk h' hk
   refine ask_pair (s := { s with heap := h' }) (g.get a (by omega)) (g.get b (by omega)) ?_
   have memx : ∀ i, i < xs.length → xs.getD i default ∈ ys := fun i h => by
    rw [List.getD_eq_getElem?_getD, List.getElem?_eq_getElem h]
    exact hp.mem_iff.mpr (List.getElem_mem h)
   have := rank_lt ho (memx a (by omega)) (memx b (by omega))
   have e : ltR r a b = lt2 (xs.getD a default) (xs.getD b default) := by rw [this, ← hr]
   rw [e] at hC
   exact hC
  ·refine ⟨_, rfl, wpAny_pure ⟨_, rfl, fun hz => ?_⟩⟩
   have hz : s.heap.objs.size ≤ h'.objs.size := hz
   have kp : ∀ b o, s.heap.get? b = some o → h'.get? b = some o := fun b o q => hk b o (Nat.ne_of_lt (Nat.lt_succ_of_lt (Heap.lt_size q))) (keep b o q)
   refine adoptP H s.toks kp hz (Nat.le_succ _) fun G => ⟨_, e, hg, ?_⟩
   have rl' := rl.go0 G
   have hall : ∀ (k : Nat), k < xs.length → Rep h' (ρ ++ [s.heap.objs.size + 1]) (.tup [.int (ys.getD k default).1, .str (ys.getD k default).2]) (ws.getD (p.getD k 0) .none) := fun k hkx => by
    obtain ⟨_, t2, t3⟩ := tr k hkx
    rw [← t3]
    have hx : (tpv xs)[p.getD k 0]? = some (.tup [.int (xs.getD (p.getD k 0) default).1, .str (xs.getD (p.getD k 0) default).2]) := by
     unfold tpv
     rw [List.getElem?_map, List.getD_eq_getElem?_getD, List.getElem?_eq_getElem t2]; rfl
    obtain ⟨u, hu, ru⟩ := rl'.get hx
    have e4 : ws.getD (p.getD k 0) .none = u := by rw [List.getD_eq_getElem?_getD, hu]; rfl
    rw [e4]; exact ru
   have gen : ∀ (zs : List (Int × Str)) (us : List Value), us.length = zs.length → (∀ k, k < zs.length → Rep h' (ρ ++ [s.heap.objs.size + 1]) (.tup [.int (zs.getD k default).1, .str (zs.getD k default).2]) (us.getD k .none)) → RepL h' (ρ ++ [s.heap.objs.size + 1]) (tpv zs) us := by
    intro zs
    induction zs with
    | nil => intro us hl _; cases us with | nil => exact .nil | cons _ _ => cases hl
    | cons z zs ih =>
     intro us hl hr
     cases us with
     | nil => cases hl
     | cons u us =>
      refine .cons _ _ _ _ (hr 0 (by simp)) (ih us (by simpa using hl) fun k hk => ?_)
      exact hr (k + 1) (by simpa using hk)
   rw [hwl, hpp]
   refine gen ys _ (by rw [List.length_map, Array.length_toList, hps, hyl]) fun k hk => ?_
   have hk' : k < p.size := by omega
   have e3 : (p.toList.map fun i => ws.getD i Value.none).getD k .none = ws.getD (p.getD k 0) .none := by
    rw [List.getD_eq_getElem?_getD, List.getElem?_map, Array.getElem?_toList, Array.getElem?_eq_getElem hk', getD_of (Array.getElem?_eq_getElem hk')]; rfl
   rw [e3]
   exact hall k (by omega)
end
end
section
structure Ord (S : PV → Prop) (lt : PV → PV → Bool) : Prop where
 asym : ∀ a b, S a → S b → lt a b = true → lt b a = false
 nt : ∀ a b c, S a → S b → S c → lt b a = false → lt c b = false → lt c a = false
 irr : ∀ a, S a → lt a a = false
noncomputable def le (lt : PV → PV → Bool) (a b : PV) : Prop := lt b a = false
noncomputable def par (i : Nat) : Nat := (i - 1) / 2
inductive Under (a : Nat) : Nat → Prop
 | here : Under a a
 | down (p c : Nat) : Under a p → 0 < c → par c = p → Under a c
theorem Under.ge {a p : Nat} (h : Under a p) : a ≤ p := by
 induction h with
 | here => exact Nat.le_refl _
 | down p c _ h1 h2 ih => unfold par at h2; omega
theorem Under.up {a p : Nat} (h : Under a p) (hp : a < p) : Under a (par p) := by
 cases h with
 | here => omega
 | down q c h h1 h2 => rw [h2]; exact h
noncomputable def Edges (lt : PV → PV → Bool) (xs : List PV) (a : Nat) : Prop := ∀ i x y, 0 < i → xs[i]? = some y → xs[par i]? = some x → a ≤ par i → le lt x y
structure Hole (lt : PV → PV → Bool) (xs : List PV) (a p : Nat) : Prop where
 A : ∀ i x y, 0 < i → xs[i]? = some y → xs[par i]? = some x → a ≤ par i → i ≠ p → par i ≠ p → le lt x y
 C : a < p → ∀ c x y, 0 < c → xs[c]? = some y → par c = p → xs[par p]? = some x → le lt x y
 D : Under a p
theorem at_set {xs : List PV} {i j : Nat} {v y : PV} (h : (xs.set i v)[j]? = some y) : (j = i ∧ y = v ∧ i < xs.length) ∨ (j ≠ i ∧ xs[j]? = some y) := by
 by_cases e : j = i
 ·subst e
  have hl : j < xs.length := by
   have := (List.getElem?_eq_some_iff.mp h).1
   simpa using this
  rw [List.getElem?_set_self hl] at h
  cases h
  exact .inl ⟨rfl, rfl, hl⟩
 ·rw [List.getElem?_set_ne (fun q => e q.symm)] at h
  exact .inr ⟨e, h⟩
theorem sd_edges {S : PV → Prop} {lt : PV → PV → Bool} (O : Ord S lt) {x : PV} (hx : S x) {a : Nat} : ∀ (k p : Nat) (xs : List PV), p ≤ k → (∀ y ∈ xs, S y) → p < xs.length → Hole lt xs a p → (∀ c y, 0 < c → xs[c]? = some y → par c = p → le lt x y) →
  Edges lt ((sdF lt x a (k + 1) p xs).1.set (sdF lt x a (k + 1) p xs).2 x) a := by
 intro k
 induction k with
 | zero =>
  intro p xs hp hS hl H B
  have : p = 0 := by omega
  subst this
  have e : sdF lt x a (0 + 1) 0 xs = (xs, 0) := by unfold sdF; rw [if_neg (by omega)]
  rw [e]
  intro i u v hi hv hu ha
  rcases at_set hv with ⟨q, _, _⟩ | ⟨q, hv2⟩
  ·omega
  ·rcases at_set hu with ⟨q', rfl, _⟩ | ⟨q', hu2⟩
   ·exact B i v hi hv2 q'
   ·exact H.A i u v hi hv2 hu2 ha q q'
 | succ k ih =>
  intro p xs hp hS hl H B
  unfold sdF
  have stop : Edges lt (xs.set p x) a ∨ a < p := by
   rcases Nat.lt_or_ge a p with q | q
   ·exact .inr q
   ·left
    have hpa : p = a := by have := H.D.ge; omega
    intro i u v hi hv hu ha
    rcases at_set hv with ⟨q1, _, _⟩ | ⟨q1, hv2⟩
    ·subst q1; unfold par at ha; omega
    ·rcases at_set hu with ⟨q', rfl, _⟩ | ⟨q', hu2⟩
     ·exact B i v hi hv2 q'
     ·exact H.A i u v hi hv2 hu2 ha q1 q'
  by_cases hap : a < p
  ·rw [if_pos hap]
   have hq : par p < xs.length := by unfold par; omega
   have hy : xs[(p - 1) / 2]? = some xs[par p] := List.getElem?_eq_getElem hq
   have hSy : S xs[par p] := hS _ (List.getElem_mem hq)
   generalize hyv : xs[par p] = y at hy hSy
   have hy' : xs[par p]? = some y := hy
   rw [hy]
   dsimp only
   cases hlt : lt x y with
   | false =>
    simp only [Bool.false_eq_true, if_false]
    intro i u v hi hv hu ha
    rcases at_set hv with ⟨q1, rfl, _⟩ | ⟨q1, hv2⟩
    ·subst q1
     rcases at_set hu with ⟨q', _, _⟩ | ⟨q', hu2⟩
     ·unfold par at q'; omega
     ·rw [hy'] at hu2; cases hu2; exact hlt
    ·rcases at_set hu with ⟨q', rfl, _⟩ | ⟨q', hu2⟩
     ·exact B i v hi hv2 q'
     ·exact H.A i u v hi hv2 hu2 ha q1 q'
   | true =>
    simp only [if_true]
    have hpp : par p < p := by unfold par; omega
    have hge := (H.D.up hap).ge
    refine ih (par p) (xs.set p y) (by omega) (fun z hz => ?_) (by simpa using hq) ⟨?_, ?_, H.D.up hap⟩ ?_
    ·rcases List.mem_or_eq_of_mem_set hz with q | q
     ·exact hS z q
     ·exact q ▸ hSy
    ·intro i u v hi hv hu ha n1 n2
     rcases at_set hv with ⟨q1, rfl, _⟩ | ⟨q1, hv2⟩
     ·subst q1; exact absurd rfl n2
     ·rcases at_set hu with ⟨q', rfl, _⟩ | ⟨q', hu2⟩
      ·exact H.C hap i u v hi hv2 q' hy'
      ·exact H.A i u v hi hv2 hu2 ha q1 q'
    ·intro haq c u v hc hv hpc hu
     have hgq := ((H.D.up hap).up haq).ge
     have hu : xs[par (par p)]? = some u := by
      rcases at_set hu with ⟨q', _, _⟩ | ⟨_, hu⟩
      ·have : par (par p) ≤ par p := by unfold par; omega
       omega
      ·exact hu
     have hne2 : par (par p) ≠ p := by
      have : par (par p) ≤ par p := by unfold par; omega
      omega
     have hqp : le lt u y := H.A (par p) u y (by omega) hy' hu hgq (by omega) hne2
     have hSu : S u := hS u (List.mem_of_getElem? hu)
     rcases at_set hv with ⟨q1, rfl, _⟩ | ⟨q1, hv2⟩
     ·exact hqp
     ·have hSv : S v := hS v (List.mem_of_getElem? hv2)
      have h2 : le lt y v := H.A c y v hc hv2 (by rw [hpc]; exact hy') (by omega) q1 (by omega)
      exact O.nt u y v hSu hSy hSv hqp h2
    ·intro c v hc hv hpc
     rcases at_set hv with ⟨q1, rfl, _⟩ | ⟨q1, hv2⟩
     ·exact O.asym x v hx hSy hlt
     ·have hSv : S v := hS v (List.mem_of_getElem? hv2)
      have h2 : le lt y v := H.A c y v hc hv2 (by rw [hpc]; exact hy') (by omega) q1 (by omega)
      exact O.nt x y v hx hSy hSv (O.asym x y hx hSy hlt) h2
  ·rw [if_neg hap]
   rcases stop with h | h
   ·exact h
   ·omega
theorem siftdown_edges {S : PV → Prop} {lt : PV → PV → Bool} (O : Ord S lt) {a p : Nat} {xs : List PV} {x : PV} (hS : ∀ y ∈ xs, S y) (hx : xs[p]? = some x) (H : Hole lt xs a p) (B : ∀ c y, 0 < c → xs[c]? = some y → par c = p → le lt x y) :
  Edges lt (siftdown lt xs a p) a := by
 have hl := (List.getElem?_eq_some_iff.mp hx).1
 unfold siftdown
 rw [hx]
 exact sd_edges O (hS x (List.mem_of_getElem? hx)) p p xs (Nat.le_refl _) hS hl H B
end
section
theorem suC_cases {lt : PV → PV → Bool} {xs : List PV} {p : Nat} (h : 2 * p + 1 < xs.length) : (suC lt xs (2 * p + 1) = 2 * p + 1 ∨ suC lt xs (2 * p + 1) = 2 * p + 2) := by
 unfold suC
 split
 ·split
  ·exact .inl rfl
  ·exact .inr rfl
 ·exact .inl rfl
theorem par_child {p c : Nat} (h : c = 2 * p + 1 ∨ c = 2 * p + 2) : par c = p := by unfold par; rcases h with rfl | rfl <;> omega
theorem child_par {p c : Nat} (hc : 0 < c) (h : par c = p) : c = 2 * p + 1 ∨ c = 2 * p + 2 := by unfold par at h; omega
set_option tactic.hygienic true in
theorem suC_le {S : PV → Prop} {lt : PV → PV → Bool} (O : Ord S lt) {xs : List PV} (hS : ∀ y ∈ xs, S y) {p c : Nat} {u v : PV} (hc : 0 < c) (hp : par c = p) (hne : c ≠ suC lt xs (2 * p + 1)) (hu : xs[suC lt xs (2 * p + 1)]? = some u) (hv : xs[c]? = some v) : le lt u v := by
 have hSu := hS u (List.mem_of_getElem? hu)
 have hSv := hS v (List.mem_of_getElem? hv)
 unfold suC at hne hu
 have hch := child_par hc hp
 split at hne
 ·rename_i y z h1 h2
  rw [h1, h2] at hu
  simp only at hu
  cases hl : lt y z with
  | true =>
   rw [hl] at hne hu
   simp only [if_true] at hne hu
   rw [h1] at hu; cases hu
   rcases hch with q | q
   ·exact absurd q hne
   ·rw [q] at hv; rw [show 2 * p + 2 = 2 * p + 1 + 1 by omega, h2] at hv; cases hv
    exact O.asym _ _ hSu hSv hl
  | false =>
   rw [hl] at hne hu
   simp only [Bool.false_eq_true, if_false] at hne hu
   rw [h2] at hu; cases hu
   rcases hch with q | q
   ·rw [q, h1] at hv; cases hv; exact hl
   ·exact absurd (by omega) hne
 ·rename_i h
  rcases hch with q | q
  ·exact absurd q hne
  ·have h1 : ∃ y, xs[2 * p + 1]? = some y := by
    have := (List.getElem?_eq_some_iff.mp hv).1
    exact ⟨_, List.getElem?_eq_getElem (by omega)⟩
   obtain ⟨y, h1⟩ := h1
   rw [q] at hv
   exact absurd hv (fun hv => h y v h1 (by rw [show 2 * p + 1 + 1 = 2 * p + 2 by omega]; exact hv))
theorem su_hole {S : PV → Prop} {lt : PV → PV → Bool} (O : Ord S lt) {a : Nat} : ∀ (k p : Nat) (xs : List PV), xs.length ≤ p + k → (∀ y ∈ xs, S y) → p < xs.length → Hole lt xs a p →
  Hole lt (suF lt k p xs).1 a (suF lt k p xs).2 ∧ ∀ c, 0 < c → par c = (suF lt k p xs).2 → (suF lt k p xs).1[c]? = none := by
 intro k
 induction k with
 | zero => intro p xs h _ hl _; omega
 | succ k ih =>
  intro p xs hk hS hl H
  unfold suF
  by_cases hc : 2 * p + 1 < xs.length
  ·rw [if_pos hc]
   have hcl := suC_lt (lt := lt) hc
   have hcg := suC_ge (lt := lt) (xs := xs) (c := 2 * p + 1)
   have hcc := suC_cases (lt := lt) hc
   have hpar : par (suC lt xs (2 * p + 1)) = p := par_child hcc
   have hle := fun c u v h1 h2 h3 h4 h5 => suC_le O hS (p := p) (c := c) (u := u) (v := v) h1 h2 h3 h4 h5
   have hy : xs[suC lt xs (2 * p + 1)]? = some xs[suC lt xs (2 * p + 1)] := List.getElem?_eq_getElem hcl
   have hSy : S xs[suC lt xs (2 * p + 1)] := hS _ (List.getElem_mem hcl)
   generalize xs[suC lt xs (2 * p + 1)] = y at hy hSy
   generalize suC lt xs (2 * p + 1) = c at hcl hcg hcc hpar hle hy
   rw [hy]
   dsimp only
   refine ih c (xs.set p y) (by simp; omega) (fun z hz => ?_) (by simpa using hcl) ⟨?_, ?_, Under.down p c H.D (by omega) hpar⟩
   ·rcases List.mem_or_eq_of_mem_set hz with q | q
    ·exact hS z q
    ·exact q ▸ hSy
   ·intro i u v hi hv hu ha n1 n2
    rcases at_set hv with ⟨q1, rfl, _⟩ | ⟨q1, hv2⟩
    ·
     subst q1
     rcases at_set hu with ⟨q', _, _⟩ | ⟨q', hu2⟩
     ·unfold par at q'; omega
     ·have hap : a < i := by
       have : par i < i := by unfold par; omega
       omega
      exact H.C hap c u v (by omega) hy hpar hu2
    ·rcases at_set hu with ⟨q', rfl, _⟩ | ⟨q', hu2⟩
     ·exact hle i u v hi q' n1 hy hv2
     ·exact H.A i u v hi hv2 hu2 ha q1 q'
   ·intro hac d u v hd hv hpd hu
    rw [hpar] at hu
    have hu' : u = y := by
     rcases at_set hu with ⟨_, q, _⟩ | ⟨q, _⟩
     ·exact q
     ·exact absurd rfl q
    subst hu'
    have hdp : d ≠ p := by
     have : par d < d := by unfold par; omega
     omega
    have hv2 : xs[d]? = some v := by
     rcases at_set hv with ⟨q, _, _⟩ | ⟨_, q⟩
     ·exact absurd q hdp
     ·exact q
    exact H.A d u v hd hv2 (by rw [hpd]; exact hy) (by rw [hpd]; omega) hdp (by rw [hpd]; omega)
  ·rw [if_neg hc]
   refine ⟨H, fun c h1 h2 => ?_⟩
   have := child_par h1 h2
   exact List.getElem?_eq_none (by
    show xs.length ≤ c
    omega)
theorem siftup_edges {S : PV → Prop} {lt : PV → PV → Bool} (O : Ord S lt) {a : Nat} {xs : List PV} (hS : ∀ y ∈ xs, S y) (ha : a < xs.length) (H : Edges lt xs (a + 1)) : Edges lt (siftup lt xs a) a := by
 unfold siftup
 have hx : xs[a]? = some xs[a] := List.getElem?_eq_getElem ha
 have hSx : S xs[a] := hS _ (List.getElem_mem ha)
 rw [hx]
 dsimp only
 generalize xs[a] = x at hSx
 have h0 : Hole lt xs a a := ⟨fun i u v hi hv hu hai n1 n2 => H i u v hi hv hu (by omega), fun h => by omega, .here⟩
 obtain ⟨h1, h2⟩ := su_hole O xs.length a xs (by omega) hS ha h0
 have hl := suF_len lt xs.length a xs
 have hq := suF_pos lt xs.length a xs ha
 have hm := suF_mem lt S xs.length a xs hS
 generalize suF lt xs.length a xs = r at h1 h2 hl hq hm
 refine siftdown_edges O (x := x) (fun y hy => ?_) (by simp [hl, hq]) ⟨fun i u v hi hv hu hai n1 n2 => ?_, fun hap c u v hc hv hpc hu => ?_, h1.D⟩ (fun c y hc hy hpc => ?_)
 ·rcases List.mem_or_eq_of_mem_set hy with q | q
  ·exact hm y q
  ·exact q ▸ hSx
 ·rw [List.getElem?_set_ne (fun q => n1 q.symm)] at hv
  rw [List.getElem?_set_ne (fun q => n2 q.symm)] at hu
  exact h1.A i u v hi hv hu hai n1 n2
 ·have n1 : c ≠ r.2 := by
   have : par c < c := by unfold par; omega
   omega
  have n2 : par r.2 ≠ r.2 := by unfold par; omega
  rw [List.getElem?_set_ne (fun q => n1 q.symm)] at hv
  rw [List.getElem?_set_ne (fun q => n2 q.symm)] at hu
  exact h1.C hap c u v hc hv hpc hu
 ·have n1 : c ≠ r.2 := by
   have : par c < c := by unfold par; omega
   omega
  rw [List.getElem?_set_ne (fun q => n1 q.symm), h2 c hc hpc] at hy
  cases hy
theorem swap_perm {xs : List PV} {p q : Nat} {x y : PV} (hp : p < xs.length) (hq : xs[q]? = some y) (hne : p ≠ q) : ((xs.set p y).set q x).Perm (xs.set p x) := by
 have hql := (List.getElem?_eq_some_iff.mp hq).1
 have h := List.set_set_perm (as := xs.set p x) (i := p) (j := q) (by simpa using hp) (by simpa using hql)
 have e1 : (xs.set p x)[q]'(by simpa using hql) = y := by
  rw [List.getElem_set_ne hne]
  exact (List.getElem?_eq_some_iff.mp hq).2
 have e2 : (xs.set p x)[p]'(by simpa using hp) = x := List.getElem_set_self _
 rw [e1, e2, List.set_set] at h
 exact h
set_option tactic.hygienic true in
theorem sd_perm {lt : PV → PV → Bool} {x : PV} {a : Nat} : ∀ (k p : Nat) (xs : List PV), p < xs.length → ((sdF lt x a k p xs).1.set (sdF lt x a k p xs).2 x).Perm (xs.set p x)
 | 0, p, xs, h => List.Perm.refl _
 | k + 1, p, xs, h => by
  unfold sdF
  split
  ·rename_i hap
   split
   ·rename_i y hy
    split
    ·have := sd_perm (lt := lt) (x := x) (a := a) k ((p - 1) / 2) (xs.set p y) (by simp; omega)
     exact this.trans (swap_perm h hy (by omega))
    ·exact List.Perm.refl _
   ·exact List.Perm.refl _
  ·exact List.Perm.refl _
theorem set_same' {xs : List PV} {p : Nat} {x : PV} (h : xs[p]? = some x) : xs.set p x = xs := by
 have hl := (List.getElem?_eq_some_iff.mp h).1
 apply List.ext_getElem?
 intro j
 by_cases e : p = j
 ·subst e; rw [h]; simp [hl]
 ·rw [List.getElem?_set_ne e]
theorem siftdown_perm {lt : PV → PV → Bool} {xs : List PV} {a p : Nat} (hp : p < xs.length) : (siftdown lt xs a p).Perm xs := by
 unfold siftdown
 have hx : xs[p]? = some xs[p] := List.getElem?_eq_getElem hp
 rw [hx]
 have := sd_perm (lt := lt) (x := xs[p]) (a := a) (p + 1) p xs hp
 rwa [set_same' hx] at this
set_option tactic.hygienic true in
theorem su_perm {lt : PV → PV → Bool} {x : PV} : ∀ (k p : Nat) (xs : List PV), p < xs.length → ((suF lt k p xs).1.set (suF lt k p xs).2 x).Perm (xs.set p x)
 | 0, p, xs, h => List.Perm.refl _
 | k + 1, p, xs, h => by
  unfold suF
  split
  ·rename_i hc
   split
   ·rename_i y hy
    have hcg := suC_ge (lt := lt) (xs := xs) (c := 2 * p + 1)
    have hcl := suC_lt (lt := lt) hc
    have := su_perm (lt := lt) (x := x) k (suC lt xs (2 * p + 1)) (xs.set p y) (by simpa using hcl)
    exact this.trans (swap_perm h hy (by omega))
   ·exact List.Perm.refl _
  ·exact List.Perm.refl _
theorem siftup_perm {lt : PV → PV → Bool} {xs : List PV} {p : Nat} (hp : p < xs.length) : (siftup lt xs p).Perm xs := by
 unfold siftup
 have hx : xs[p]? = some xs[p] := List.getElem?_eq_getElem hp
 rw [hx]
 dsimp only
 have hl := suF_len lt xs.length p xs
 have hq := suF_pos lt xs.length p xs hp
 have h1 := su_perm (lt := lt) (x := xs[p]) xs.length p xs hp
 rw [set_same' hx] at h1
 exact (siftdown_perm (by simp [hl, hq])).trans h1
end
section
noncomputable abbrev HeapP (lt : PV → PV → Bool) (xs : List PV) : Prop := Edges lt xs 0
theorem under0 : ∀ (k p : Nat), p ≤ k → Under 0 p
 | 0, p, h => by
  have : p = 0 := by omega
  subst this; exact .here
 | k + 1, p, h => by
  by_cases hp : p = 0
  ·subst hp; exact .here
  ·exact .down (par p) p (under0 k (par p) (by unfold par; omega)) (by omega) rfl
theorem heap_root {S : PV → Prop} {lt : PV → PV → Bool} (O : Ord S lt) {xs : List PV} (hS : ∀ y ∈ xs, S y) (H : HeapP lt xs) {r : PV} (hr : xs[0]? = some r) : ∀ (k i : Nat) (z : PV), i ≤ k → xs[i]? = some z → le lt r z
 | 0, i, z, h, hz => by
  have : i = 0 := by omega
  subst this
  rw [hr] at hz; cases hz
  exact O.irr r (hS r (List.mem_of_getElem? hr))
 | k + 1, i, z, h, hz => by
  by_cases hi : i = 0
  ·subst hi
   rw [hr] at hz; cases hz
   exact O.irr r (hS r (List.mem_of_getElem? hr))
  ·have hl := (List.getElem?_eq_some_iff.mp hz).1
   have hp : xs[par i]? = some (xs[par i]'(by unfold par; omega)) := List.getElem?_eq_getElem _
   have h1 := heap_root O hS H hr k (par i) _ (by unfold par; omega) hp
   have h2 := H i _ z (by omega) hz hp (by omega)
   exact O.nt _ _ _ (hS r (List.mem_of_getElem? hr)) (hS _ (List.mem_of_getElem? hp)) (hS z (List.mem_of_getElem? hz)) h1 h2
theorem heap_min {S : PV → Prop} {lt : PV → PV → Bool} (O : Ord S lt) {xs : List PV} (hS : ∀ y ∈ xs, S y) (H : HeapP lt xs) {r : PV} (hr : xs[0]? = some r) : ∀ z ∈ xs, le lt r z := fun z hz => by
 obtain ⟨i, hi, e⟩ := List.getElem_of_mem hz
 exact heap_root O hS H hr i i z (Nat.le_refl _) (by rw [List.getElem?_eq_getElem hi, e])
theorem heap_nil {lt : PV → PV → Bool} : HeapP lt [] := fun i x y _ h _ _ => by simp at h
theorem push_heap {S : PV → Prop} {lt : PV → PV → Bool} (O : Ord S lt) {xs : List PV} {x : PV} (hS : ∀ y ∈ xs, S y) (hx : S x) (H : HeapP lt xs) : HeapP lt (hpush lt xs x) := by
 unfold hpush
 have hxx : (xs ++ [x])[xs.length]? = some x := by simp
 have out : ∀ (c : Nat) y, xs.length < c → (xs ++ [x])[c]? = some y → False := fun c y h e => by
  have := (List.getElem?_eq_some_iff.mp e).1
  simp at this; omega
 have low : ∀ (i : Nat) y, i ≠ xs.length → (xs ++ [x])[i]? = some y → xs[i]? = some y := fun i y h e => by
  rcases getElem?_snoc e with q | ⟨q, _⟩
  ·exact q
  ·exact absurd q h
 refine siftdown_edges O (x := x) (fun y hy => ?_) hxx ⟨fun i u v hi hv hu ha n1 n2 => H i u v hi (low i v n1 hv) (low _ u n2 hu) ha, fun _ c u v hc hv hpc _ => ?_, under0 _ _ (Nat.le_refl _)⟩ (fun c y hc hy hpc => ?_)
 ·rcases List.mem_append.mp hy with q | q
  ·exact hS y q
  ·simp at q; exact q ▸ hx
 ·exact (out c v (by have := child_par hc hpc; omega) hv).elim
 ·exact (out c y (by have := child_par hc hpc; omega) hy).elim
theorem push_perm {lt : PV → PV → Bool} {xs : List PV} {x : PV} : (hpush lt xs x).Perm (x :: xs) :=
 (siftdown_perm (by simp)).trans (List.perm_append_comm (l₁ := xs) (l₂ := [x]))
theorem pop_heap {S : PV → Prop} {lt : PV → PV → Bool} (O : Ord S lt) {xs : List PV} {x : PV} (hS : ∀ y ∈ xs ++ [x], S y) (H : HeapP lt (xs ++ [x])) : HeapP lt (hpop lt xs x).1 := by
 cases xs with
 | nil => exact heap_nil
 | cons y ys =>
  show HeapP lt (siftup lt (x :: ys) 0)
  refine siftup_edges O (fun z hz => hS z ?_) (by simp) fun i u v hi hv hu ha => ?_
  ·rcases List.mem_cons.mp hz with q | q
   ·simp [q]
   ·simp [q]
  ·have get : ∀ j, 0 < j → ∀ z, (x :: ys)[j]? = some z → (y :: ys ++ [x])[j]? = some z := fun j hj z e => by
    cases j with
    | zero => omega
    | succ j =>
     have e' : ys[j]? = some z := by simpa using e
     have hl := (List.getElem?_eq_some_iff.mp e').1
     rw [List.cons_append, List.getElem?_cons_succ, List.getElem?_append_left hl]
     exact e'
   exact H i u v hi (get i hi v hv) (get (par i) (by omega) u hu) (Nat.zero_le _)
theorem pop_perm {lt : PV → PV → Bool} {xs : List PV} {x : PV} : ((hpop lt xs x).2 :: (hpop lt xs x).1).Perm (xs ++ [x]) := by
 cases xs with
 | nil => exact List.Perm.refl _
 | cons y ys =>
  show (y :: siftup lt (x :: ys) 0).Perm (y :: ys ++ [x])
  rw [List.cons_append]
  exact List.Perm.cons y ((siftup_perm (by simp)).trans (List.perm_append_comm (l₁ := [x]) (l₂ := ys)))
theorem pop_min {S : PV → Prop} {lt : PV → PV → Bool} (O : Ord S lt) {xs : List PV} {x : PV} (hS : ∀ y ∈ xs ++ [x], S y) (H : HeapP lt (xs ++ [x])) : ∀ z ∈ xs ++ [x], le lt (hpop lt xs x).2 z := by
 refine heap_min O hS H ?_
 cases xs with
 | nil => rfl
 | cons y ys => rfl
theorem hfyF_heap {S : PV → Prop} {lt : PV → PV → Bool} (O : Ord S lt) : ∀ (k : Nat) (xs : List PV), (∀ y ∈ xs, S y) → k ≤ xs.length → Edges lt xs k → HeapP lt (hfyF lt k xs)
 | 0, xs, hS, hk, H => H
 | k + 1, xs, hS, hk, H => hfyF_heap O k (siftup lt xs k) (siftup_mem lt S xs k hS) (by rw [siftup_len]; omega) (siftup_edges O hS (by omega) H)
theorem hfy_heap {S : PV → Prop} {lt : PV → PV → Bool} (O : Ord S lt) {xs : List PV} (hS : ∀ y ∈ xs, S y) : HeapP lt (hfy lt xs) := by
 unfold hfy
 refine hfyF_heap O _ _ hS (by omega) fun i u v hi hv hu ha => ?_
 have := (List.getElem?_eq_some_iff.mp hv).1
 unfold par at ha; omega
theorem hfyF_perm {lt : PV → PV → Bool} : ∀ (k : Nat) (xs : List PV), k ≤ xs.length → (hfyF lt k xs).Perm xs
 | 0, xs, _ => List.Perm.refl _
 | k + 1, xs, h => (hfyF_perm k (siftup lt xs k) (by rw [siftup_len]; omega)).trans (siftup_perm (by omega))
theorem hfy_perm {lt : PV → PV → Bool} {xs : List PV} : (hfy lt xs).Perm xs := hfyF_perm _ _ (by omega)
theorem pushAll_heap {S : PV → Prop} {lt : PV → PV → Bool} (O : Ord S lt) : ∀ (l xs : List PV), (∀ y ∈ l, S y) → (∀ y ∈ xs, S y) → HeapP lt xs → HeapP lt (pushAll lt l xs)
 | [], xs, _, _, H => H
 | a :: l, xs, h1, h2, H => pushAll_heap O l _ (fun y hy => h1 y (List.mem_cons_of_mem _ hy)) (hpush_mem lt S xs a h2 (h1 a List.mem_cons_self)) (push_heap O h2 (h1 a List.mem_cons_self) H)
theorem pushAll_perm {lt : PV → PV → Bool} : ∀ (l xs : List PV), (pushAll lt l xs).Perm (l ++ xs)
 | [], xs => List.Perm.refl _
 | a :: l, xs => by
  refine (pushAll_perm l (hpush lt xs a)).trans ?_
  refine (push_perm.append_left l).trans ?_
  exact List.perm_middle
theorem popAll_sorted {S : PV → Prop} {lt : PV → PV → Bool} (O : Ord S lt) : ∀ (k : Nat) (xs : List PV), xs.length = k → (∀ y ∈ xs, S y) → HeapP lt xs → (popAll lt k xs).Perm xs ∧ (popAll lt k xs).Pairwise (le lt)
 | 0, xs, h, hS, H => by
  have : xs = [] := List.eq_nil_of_length_eq_zero h
  subst this
  exact ⟨List.Perm.refl _, List.Pairwise.nil⟩
 | k + 1, xs, h, hS, H => by
  have hne : xs ≠ [] := by intro q; subst q; cases h
  have hx := List.getLast?_eq_some_getLast hne
  have hs := getLast_snoc hx
  generalize xs.getLast hne = x at hx hs
  have e : popAll lt (k + 1) xs = (hpop lt xs.dropLast x).2 :: popAll lt k (hpop lt xs.dropLast x).1 := by
   show (match xs.getLast? with | none => [] | some x => (hpop lt xs.dropLast x).2 :: popAll lt k (hpop lt xs.dropLast x).1) = _
   rw [hx]
  rw [e]
  have hS' : ∀ y ∈ xs.dropLast ++ [x], S y := by rw [← hs]; exact hS
  have H' : HeapP lt (xs.dropLast ++ [x]) := by rw [← hs]; exact H
  have hmem := hpop_mem lt S xs.dropLast x (fun y hy => hS' y (List.mem_append_left _ hy)) (hS' x (by simp))
  have hp := pop_perm (lt := lt) (xs := xs.dropLast) (x := x)
  have hmin := pop_min O hS' H'
  obtain ⟨i1, i2⟩ := popAll_sorted O k (hpop lt xs.dropLast x).1 (by rw [hpop_len, List.length_dropLast, h]; rfl) hmem.1 (pop_heap O hS' H')
  rw [← hs] at hp
  refine ⟨(List.Perm.cons _ i1).trans hp, List.Pairwise.cons (fun z hz => hmin z ?_) i2⟩
  rw [← hs]
  exact hp.mem_iff.mp (List.mem_cons_of_mem _ (i1.mem_iff.mp hz))
end
section
theorem turn_two1 (elt t0 i0 t1 i1 : Expr) (scope : Scope) (pos : Pos) (it acc : Value) (env : Env) :
  compTurn (.ListComp elt [⟨t0, i0, [], 0⟩, ⟨t1, i1, [], 0⟩] scope pos) 1 it acc env = (standAt i1.pos >>= fun _ => pyNext it >>= fun r => match r with
   | none => pure (.done .next)
   | some v => letOwnedTupleGo t1 it v >>= fun _ => assign t1 env v >>= fun _ =>
    (eval elt env >>= fun x => call (.builtin "list.append") [acc, x] >>= fun _ => pure ()) >>= fun _ =>
     again (.compLoop (.ListComp elt [⟨t0, i0, [], 0⟩, ⟨t1, i1, [], 0⟩] scope pos) 1 it acc env)) := by rfl
theorem turn_two0 (elt t0 i0 t1 i1 : Expr) (scope : Scope) (pos : Pos) (it acc : Value) (env : Env) :
  compTurn (.ListComp elt [⟨t0, i0, [], 0⟩, ⟨t1, i1, [], 0⟩] scope pos) 0 it acc env = (standAt i0.pos >>= fun _ => pyNext it >>= fun r => match r with
   | none => pure (.done .next)
   | some v => letOwnedTupleGo t0 it v >>= fun _ => assign t0 env v >>= fun _ => eval i1 env >>= fun x => standAt i1.pos >>= fun _ => foldedSetIterable i1 env x >>= fun x =>
    holding [x] (pyIter x) >>= fun it1 => runOwn (.compStart (.ListComp elt [⟨t0, i0, [], 0⟩, ⟨t1, i1, [], 0⟩] scope pos) 1 it1 acc env) env >>= fun _ =>
     again (.compLoop (.ListComp elt [⟨t0, i0, [], 0⟩, ⟨t1, i1, [], 0⟩] scope pos) 0 it acc env)) := by rfl
noncomputable abbrev lc2 (elt t0 i0 t1 i1 : Expr) (scope : Scope) (pos : Pos) : Expr := .ListComp elt [⟨t0, i0, [], 0⟩, ⟨t1, i1, [], 0⟩] scope pos
section
variable {C : Cx} {n : Nat} {φ φ' : Scope} {lo lo' lo1 lo2 lo3 : Loc} {st st0 st1 st2 st3 st' : Sto} {It It1 : ItR} {k : Nat}
noncomputable def Co1 (C : Cx) (n : Nat) (φ : Scope) (lo : Loc) (elt t0 i0 t1 i1 : Expr) (j : Nat) (It : ItR) (k : Nat) (st : Sto) (st' : Sto) : Prop :=
 ∀ A s ρ env I P D scope pos, Lv n A → Hp C ρ st s → FrAt C φ lo ρ s.heap env → ItOk C n I P It → P k ρ s.heap → I ∉ ρ → C.S0.heap.objs.size ≤ I → I ∉ frW env → ρ[j]? = some D →
  codeAny (model C.prog C.w) A (.compLoop (lc2 elt t0 i0 t1 i1 scope pos) 1 (.ref I) (.ref D) env) (fun r s' => ∃ v, r = .ok v ∧ ∃ ρ', Hp C ρ' st' s' ∧ Go [I, env.locals] ρ s.heap ρ' s'.heap ∧ FrAt C φ lo ρ' s'.heap env) s
theorem co1TurnJ {elt t0 i0 t1 i1 : Expr} {scope : Scope} {pos : Pos} {acc : Value} {env : Env} {A : Around} {s : Shared} {R : Result → Shared → Prop} {prog : Program} {w : World} {I : Addr}
  (turn : wpAny (model prog w) A (pyNext (.ref I)) (fun r s₁ => match r with
   | none => R (.ok .next) s₁
   | some v => wpAny (model prog w) A (letOwnedTupleGo t1 (.ref I) v) (fun _ s₁ => wpAny (model prog w) A (PySem.assign t1 env v) (fun _ s₂ => wpAny (model prog w) A (eval elt env) (fun x s₄ =>
       wpAny (model prog w) A (call (.builtin "list.append") [acc, x]) (fun _ s₅ => codeAny (model prog w) A (.compLoop (lc2 elt t0 i0 t1 i1 scope pos) 1 (.ref I) acc env) R s₅) NoE s₄) NoE s₂) NoE s₁) NoE s₁) NoE s) :
  codeAny (model prog w) A (.compLoop (lc2 elt t0 i0 t1 i1 scope pos) 1 (.ref I) acc env) R s := by
 refine codeAny_of_tree ?_
 show wpAny _ A ((compTurn (lc2 elt t0 i0 t1 i1 scope pos) 1 (.ref I) acc env).onRaise (fun x => do noteFrame x env; theTreesLotGoes x)) _ _ s
 refine wpAny_noted ?_
 rw [turn_two1]
 refine wpAny_bind (wpAny_standAt (wpAny_bind (noE turn fun r s₁ h₁ => ?_)))
 cases r with
 | none => exact wpAny_pure h₁
 | some v =>
  refine wpAny_bind (noE h₁ fun _ s₁ h₁ => wpAny_bind (noE h₁ fun _ s₂ h₂ => ?_))
  exact wpAny_bind (wpAny_bind (noE h₂ fun x s₄ h₄ => wpAny_bind (noE h₄ fun _ s₅ h₅ => wpAny_pure (wpAny_pure ⟨rfl, h₅⟩))))
theorem Co1.done {elt t0 i0 t1 i1 : Expr} {j : Nat} (h : It k st none) : Co1 C n φ lo elt t0 i0 t1 i1 j It k st st := fun A s ρ env I P D scope pos hA H F io hp hI hg hf hD =>
 co1TurnJ (noE (io.next A s ρ st k _ hA H hI hg hp h) fun v s1 ⟨H1, G1, e⟩ => by
  subst e
  exact ⟨_, rfl, ρ, H1, G1.weaken fun a m => .inl (by simp at m; subst m; exact List.mem_cons_self), F.goI G1 hf (notSeq_one io hp)⟩)
theorem Co1.turn {elt t0 i0 t1 i1 : Expr} {j : Nat} {p q : PV} {ys : List PV} (h : It k st (some p)) (ha : AsL C n φ lo t1 p st lo1 st) (hs : ∀ x pv, lo.lookup x = some pv → lo1.lookup x = some pv) (he : Ev C n φ lo1 elt st q st)
  (hj : st[j]? = some (.list ys)) (hz : ys.length ≤ 2 ^ 20) (hr : Co1 C n φ lo elt t0 i0 t1 i1 j It (k + 1) (st.set j (.list (ys ++ [q]))) st') : Co1 C n φ lo elt t0 i0 t1 i1 j It k st st' :=
 fun A s ρ env I P D scope pos hA H F io hp hI hg hf hD => by
 refine co1TurnJ (noE (io.next A s ρ st k _ hA H hI hg hp h) fun v s1 ⟨H1, G1, u, e, R1, hp1⟩ => ?_)
 subst e
 have nI := notSeq_one io hp
 have F1 := F.goI G1 hf nI
 obtain ⟨o, T, ho, hc, hT, _⟩ := io.cls _ _ _ hp1
 refine ownGo ho hc hT (noE (ha A s1 ρ env u hA H1 F1 R1) fun _ s2 ⟨ρ2, H2, G2, F2⟩ => ?_)
 have hf' : I ∉ [env.locals] := fun m => hf (by simp at m; subst m; exact List.mem_cons_self)
 have hp2 : P (k + 1) ρ2 s2.heap := io.go _ _ _ _ _ hp1 (fun i a e => G2.idx e) fun o e => G2.keep _ _ hI hf' e
 have hI2 : I ∉ ρ2 := G2.nin hI (lt_size_of ho)
 obtain ⟨o2, T2, ho2, _⟩ := io.cls _ _ _ hp2
 have G12 : Go [I, env.locals] ρ s.heap ρ2 s2.heap := (G1.weaken fun a m => .inl (by simp at m; subst m; exact List.mem_cons_self)).trans G2.cons
 refine noE (he A s2 ρ2 env hA H2 F2) fun x s4 ⟨ρ4, H4, G4, R4⟩ => ?_
 have hp4 : P (k + 1) ρ4 s4.heap := io.go _ _ _ _ _ hp2 (fun i a e => G4.idx e) fun o e => G4.keep _ _ hI2 (by simp) e
 have hI4 : I ∉ ρ4 := G4.nin hI2 (lt_size_of ho2)
 obtain ⟨o4, T4, ho4, _⟩ := io.cls _ _ _ hp4
 have G14 := G12.trans G4.nil
 have hD4 := G14.idx hD
 refine noE (_root_.Mine.C.append (C := C) (n := n) (p := q) hj hz A s4 ρ4 [.ref D, x] hA H4 (.cons _ _ _ _ (.ref _ _ hD4) (.one R4))) fun _ s5 ⟨ρ5, H5, G5, _⟩ => ?_
 have hp5 : P (k + 1) ρ5 s5.heap := io.go _ _ _ _ _ hp4 (fun i a e => G5.idx e) fun o e => G5.keep _ _ hI4 (by simp) e
 have hI5 : I ∉ ρ5 := G5.nin hI4 (lt_size_of ho4)
 have G15 := G14.trans G5.nil
 exact codeAny_mono (hr A s5 ρ5 env I P D scope pos hA H5 (((F2.go0 G4).go0 G5).sub hs) io hp5 hI5 hg hf (G15.idx hD)) fun r s6 ⟨v, e, ρ6, H6, G6, F6⟩ => ⟨v, e, ρ6, H6, G15.trans G6, F6⟩
noncomputable def Co0 (C : Cx) (n : Nat) (φ : Scope) (lo : Loc) (elt t0 i0 t1 i1 : Expr) (j : Nat) (It : ItR) (k : Nat) (st : Sto) (st' : Sto) : Prop :=
 ∀ A s ρ env I P D scope pos, Lv n A → Hp C ρ st s → FrAt C φ lo ρ s.heap env → ItOk C n I P It → P k ρ s.heap → I ∉ ρ → C.S0.heap.objs.size ≤ I → I ∉ frW env → ρ[j]? = some D →
  codeAny (model C.prog C.w) A (.compLoop (lc2 elt t0 i0 t1 i1 scope pos) 0 (.ref I) (.ref D) env) (fun r s' => ∃ v, r = .ok v ∧ ∃ ρ' m, Hp C ρ' st' s' ∧ Go [I, env.locals] ρ s.heap ρ' s'.heap ∧ s'.heap.Ns env.locals m) s
theorem co0TurnJ {elt t0 i0 t1 i1 : Expr} {scope : Scope} {pos : Pos} {acc : Value} {env : Env} {A : Around} {s : Shared} {R : Result → Shared → Prop} {prog : Program} {w : World} {I : Addr}
  (hfold : ∀ x, foldedSetIterable i1 env x = pure x)
  (turn : wpAny (model prog w) A (pyNext (.ref I)) (fun r s₁ => match r with
   | none => R (.ok .next) s₁
   | some v => wpAny (model prog w) A (letOwnedTupleGo t0 (.ref I) v) (fun _ s₁ => wpAny (model prog w) A (PySem.assign t0 env v) (fun _ s₂ => wpAny (model prog w) A (eval i1 env) (fun x s₃ => wpAny (model prog w) A (pyIter x) (fun it1 s₄ =>
       codeAny (model prog w) A (.compStart (lc2 elt t0 i0 t1 i1 scope pos) 1 it1 acc env) (fun r s₅ => ∃ v, r = .ok v ∧ codeAny (model prog w) A (.compLoop (lc2 elt t0 i0 t1 i1 scope pos) 0 (.ref I) acc env) R s₅) s₄) NoE s₃) NoE s₂) NoE s₁) NoE s₁) NoE s) :
  codeAny (model prog w) A (.compLoop (lc2 elt t0 i0 t1 i1 scope pos) 0 (.ref I) acc env) R s := by
 refine codeAny_of_tree ?_
 show wpAny _ A ((compTurn (lc2 elt t0 i0 t1 i1 scope pos) 0 (.ref I) acc env).onRaise (fun x => do noteFrame x env; theTreesLotGoes x)) _ _ s
 refine wpAny_noted ?_
 rw [turn_two0]
 refine wpAny_bind (wpAny_standAt (wpAny_bind (noE turn fun r s₁ h₁ => ?_)))
 cases r with
 | none => exact wpAny_pure h₁
 | some v =>
  refine wpAny_bind (noE h₁ fun _ s₁ h₁ => wpAny_bind (noE h₁ fun _ s₂ h₂ => wpAny_bind (noE h₂ fun x s₃ h₃ => ?_)))
  refine wpAny_bind (wpAny_standAt (wpAny_bind (wpAny_of_eq (hfold x) (wpAny_bind (wpAny_holding (noE h₃ fun it1 s₄ h₄ => ?_))))))
  refine wpAny_bind (wpAny_runOwn (codeAny_mono (show codeAny (model prog w) (A.mark none) _ _ _ from h₄) fun r s₅ ⟨v, e, h₅⟩ => ?_))
  subst e
  exact wpAny_pure ⟨rfl, h₅⟩
theorem compStart1 {elt t0 i0 t1 i1 : Expr} {scope : Scope} {pos : Pos} {it acc : Value} {env : Env} {A : Around} {s : Shared} {R : Result → Shared → Prop} {prog : Program} {w : World}
  (h0 : codeAny (model prog w) A (.compLoop (lc2 elt t0 i0 t1 i1 scope pos) 1 it acc env) R s)
  (h : wpAny (model prog w) A (pyIter it) (fun it' s' => codeAny (model prog w) A (.compLoop (lc2 elt t0 i0 t1 i1 scope pos) 1 it' acc env) R s') NoE s) :
  codeAny (model prog w) A (.compStart (lc2 elt t0 i0 t1 i1 scope pos) 1 it acc env) R s := by
 refine codeAny_of_tree ?_
 show wpAny _ _ ((compStart (lc2 elt t0 i0 t1 i1 scope pos) 1 it acc env).onRaise (fun x => do noteFrame x env; standAt theWindowsPlace)) _ _ s
 refine wpAny_notedAt ?_
 unfold compStart
 show wpAny _ _ (ask >>= _) _ _ s
 refine wpAny_bind (wpAny_askSetting (wpAny_ite ?_))
 split
 ·first
   | exact wpAny_bind (wpAny_pure (wpAny_pure (And.intro rfl h0)))
   | exact wpAny_pure (And.intro rfl h0)
 ·first
   | (refine wpAny_bind (wpAny_rule ?_); show wpAny _ _ (standAt i1.pos >>= _) _ _ s; exact wpAny_bind (wpAny_standAt (wpAny_bind (noE h fun it' s' h' => wpAny_pure (And.intro rfl h')))))
theorem Co0.done {elt t0 i0 t1 i1 : Expr} {j : Nat} (h : It k st none) (hfold : ∀ env x, foldedSetIterable i1 env x = pure x) : Co0 C n φ lo elt t0 i0 t1 i1 j It k st st := fun A s ρ env I P D scope pos hA H F io hp hI hg hf hD =>
 co0TurnJ (hfold env) (noE (io.next A s ρ st k _ hA H hI hg hp h) fun v s1 ⟨H1, G1, e⟩ => by
  subst e
  obtain ⟨m, hm, _⟩ := (F.goI G1 hf (notSeq_one io hp)).ns
  exact ⟨_, rfl, ρ, m, H1, G1.weaken fun a m => .inl (by simp at m; subst m; exact List.mem_cons_self), hm⟩)
theorem Co0.turn {elt t0 i0 t1 i1 : Expr} {j : Nat} {p : PV} (h : It k st (some p)) (ha : AsL C n φ lo t0 p st lo1 st) (hs : ∀ x pv, lo.lookup x = some pv → lo1.lookup x = some pv) (hfold : ∀ env x, foldedSetIterable i1 env x = pure x)
  (hi : ItrE C n φ lo1 i1 st It1 st) (h1 : Co1 C n φ lo1 elt t0 i0 t1 i1 j It1 0 st st2) (hr : Co0 C n φ lo elt t0 i0 t1 i1 j It (k + 1) st2 st') : Co0 C n φ lo elt t0 i0 t1 i1 j It k st st' :=
 fun A s ρ env I P D scope pos hA H F io hp hI hg hf hD => by
 refine co0TurnJ (hfold env) (noE (io.next A s ρ st k _ hA H hI hg hp h) fun v s1 ⟨H1, G1, u, e, R1, hp1⟩ => ?_)
 subst e
 have nI := notSeq_one io hp
 have F1 := F.goI G1 hf nI
 obtain ⟨o, T, ho, hc, hT, _⟩ := io.cls _ _ _ hp1
 refine ownGo ho hc hT (noE (ha A s1 ρ env u hA H1 F1 R1) fun _ s2 ⟨ρ2, H2, G2, F2⟩ => ?_)
 have hf' : I ∉ [env.locals] := fun m => hf (by simp at m; subst m; exact List.mem_cons_self)
 have hp2 : P (k + 1) ρ2 s2.heap := io.go _ _ _ _ _ hp1 (fun i a e => G2.idx e) fun o e => G2.keep _ _ hI hf' e
 have hI2 : I ∉ ρ2 := G2.nin hI (lt_size_of ho)
 obtain ⟨o2, T2, ho2, _⟩ := io.cls _ _ _ hp2
 have G12 : Go [I, env.locals] ρ s.heap ρ2 s2.heap := (G1.weaken fun a m => .inl (by simp at m; subst m; exact List.mem_cons_self)).trans G2.cons
 refine noE (hi A s2 ρ2 env hA H2 F2) fun v s3 hv => noE hv fun it1 s4 ⟨ρ4, I1, P1, e, H4, G4, io1, hpi, hI1, hge⟩ => ?_
 subst e
 have hlt2 := lt_size_of ho2
 have hII1 : I ≠ I1 := fun q => by
  have : I1 < s2.heap.objs.size := q ▸ hlt2
  exact Nat.lt_irrefl _ (Nat.lt_of_lt_of_le this hge)
 have hp4 : P (k + 1) ρ4 s4.heap := io.go _ _ _ _ _ hp2 (fun i a e => G4.idx e) fun o e => G4.keep _ _ hI2 (by simp) e
 have hI4 : I ∉ ρ4 := G4.nin hI2 hlt2
 obtain ⟨o4, T4, ho4, _⟩ := io.cls _ _ _ hp4
 have F4 := F2.go0 G4
 have G14 := G12.trans G4.nil
 have hf1 : I1 ∉ frW env := fun m => Nat.lt_irrefl _ (Nat.lt_of_lt_of_le (F2.fr I1 m).2.2.lt hge)
 have hg1 : C.S0.heap.objs.size ≤ I1 := Nat.le_trans H2.ge hge
 have body : codeAny (model C.prog C.w) A (.compLoop (lc2 elt t0 i0 t1 i1 scope pos) 1 (.ref I1) (.ref D) env) (fun r s₅ => ∃ v, r = .ok v ∧ codeAny (model C.prog C.w) A (.compLoop (lc2 elt t0 i0 t1 i1 scope pos) 0 (.ref I) (.ref D) env)
   (fun r s' => ∃ v, r = .ok v ∧ ∃ ρ' m, Hp C ρ' st' s' ∧ Go [I, env.locals] ρ s.heap ρ' s'.heap ∧ s'.heap.Ns env.locals m) s₅) s4 :=
  codeAny_mono (h1 A s4 ρ4 env I1 P1 D scope pos hA H4 F4 io1 hpi hI1 hg1 hf1 (G14.idx hD)) fun r s5 ⟨v, e, ρ5, H5, G5, F5⟩ => by
   subst e
   refine ⟨v, rfl, ?_⟩
   have hnI : I ∉ [I1, env.locals] := fun m => by
    simp only [List.mem_cons, List.not_mem_nil, or_false] at m
    rcases m with m | m
    ·exact hII1 m
    ·exact hf (m ▸ List.mem_cons_self)
   have hp5 : P (k + 1) ρ5 s5.heap := io.go _ _ _ _ _ hp4 (fun i a e => G5.idx e) fun o e => G5.keep _ _ hI4 hnI e
   have hI5 : I ∉ ρ5 := G5.nin hI4 (lt_size_of ho4)
   have G15 : Go [I, env.locals] ρ s.heap ρ5 s5.heap := by
    refine Go.weaken (W := [I, env.locals, I1]) ((G14.weaken fun a m => .inl (by
     simp only [List.mem_cons, List.not_mem_nil, or_false] at m ⊢
     rcases m with m | m
     ·exact .inl m
     ·exact .inr (.inl m))).trans (G5.weaken fun a m => .inl (by
     simp only [List.mem_cons, List.not_mem_nil, or_false] at m ⊢
     rcases m with m | m
     ·exact .inr (.inr m)
     ·exact .inr (.inl m)))) fun a m => ?_
    simp only [List.mem_cons, List.not_mem_nil, or_false] at m
    rcases m with rfl | rfl | rfl
    ·exact .inl (by simp)
    ·exact .inl (by simp)
    ·exact .inr (Nat.le_trans G12.size hge)
   exact codeAny_mono (hr A s5 ρ5 env I P D scope pos hA H5 (F5.sub hs) io hp5 hI5 hg hf (G15.idx hD)) fun r s6 ⟨v, e, ρ6, m, H6, G6, N6⟩ => ⟨v, e, ρ6, m, H6, G15.trans G6, N6⟩
 exact compStart1 body (io1.self A s4 ρ4 0 _ _ hpi body)
noncomputable def CoE (C : Cx) (n : Nat) (φ : Scope) (lo : Loc) (e : Expr) (j : Nat) (It : ItR) (k : Nat) (st : Sto) (st' : Sto) : Prop :=
 ∀ A s ρ env I P D, Lv n A → Hp C ρ st s → FrAt C φ lo ρ s.heap env → ItOk C n I P It → P k ρ s.heap → I ∉ ρ → C.S0.heap.objs.size ≤ I → I ∉ frW env → ρ[j]? = some D →
  codeAny (model C.prog C.w) A (.compLoop e 0 (.ref I) (.ref D) env) (fun r s' => ∃ v, r = .ok v ∧ ∃ ρ' m, Hp C ρ' st' s' ∧ Go [I, env.locals] ρ s.heap ρ' s'.heap ∧ s'.heap.Ns env.locals m) s
theorem Co0.e {elt t0 i0 t1 i1 : Expr} {j : Nat} {scope : Scope} {pos : Pos} (h : Co0 C n φ lo elt t0 i0 t1 i1 j It k st st') : CoE C n φ lo (lc2 elt t0 i0 t1 i1 scope pos) j It k st st' :=
 fun A s ρ env I P D hA H F io hp hI hg hf hD => h A s ρ env I P D scope pos hA H F io hp hI hg hf hD
theorem compBlockE {elt t iter : Expr} {ifs : List Expr} {rest : List Comprehension} {scope : Scope} {pos : Pos} {A : Around} {s₂ : Shared} {ρ : List Addr} {env : Env} {I : Addr} {P : Nat → List Addr → Heap → Prop} {RR : Value → Addr → Result → Shared → Prop} {E : Value → Shared → Prop}
  (hA : Lv n A) (H : Hp C ρ st s₂) (F : FrAt C φ lo ρ s₂.heap env) (io : ItOk C n I P It) (hp : P 0 ρ s₂.heap) (hI : I ∉ ρ) (hg : C.S0.heap.objs.size ≤ I) (hf : I ∉ frW env) (cap : capOk scope φ = true) (hk : scope.kind = .function)
  (hlo : CapL (compScope scope φ) lo lo') (hc : CoE C n (compScope scope φ) lo' (.ListComp elt (⟨t, iter, ifs, 0⟩ :: rest) scope pos) st.length It 0 (st ++ [.list []]) st3)
  (hRR : ∀ D L s' ρ' m v, ρ'[st.length]? = some D → Hp C ρ' st3 s' → Go [I] ρ s₂.heap ρ' s'.heap → s'.heap.Ns L m → L ∉ ρ' → C.S0.heap.objs.size ≤ L → s₂.heap.objs.size ≤ L → RR (.ref D) L (.ok v) s') :
  wpAny (model C.prog C.w) A (newList []) (fun acc s₃ => wpAny (model C.prog C.w) A (newFunctionEnv scope env.globals (cloL env.cells scope.names []) [] env.qual none .none (some env)) (fun cenv s₄ =>
   codeAny (model C.prog C.w) A (.compStart (.ListComp elt (⟨t, iter, ifs, 0⟩ :: rest) scope pos) 0 (.ref I) acc { cenv with scope := relabel scope env }) (RR acc cenv.locals) s₄) E s₃) E s₂ := by
 have hcell : ∀ y ∈ scope.names, y.2 ≠ .cell := fun y hy q => by
  unfold capOk at cap
  simp only [Bool.and_eq_true, List.all_eq_true] at cap
  have := cap.2 y hy
  rw [q] at this
  simp at this
 refine wpAny_newObj_type (wpAny_newFunctionEnv hcell (by intro y hy; simp at hy) (fun h₁ hns₁ hsb₁ => ?_) hk)
 dsimp only at hns₁ hsb₁ ⊢
 obtain ⟨H1, G1⟩ := H.alloc (o := listO [] 0) (ob := .list []) s₂.toks (fun h' G e => ⟨[], 0, e, .nil⟩)
 generalize hD : s₂.heap.objs.size = D at *
 have e0 : s₂.heap.push { cls := .type "list", dict := none, data := .seq ([] : List Value).toArray } = s₂.heap.push (listO [] 0) := rfl
 rw [e0] at hns₁ hsb₁ ⊢
 generalize hH2 : s₂.heap.push (listO [] 0) = H2 at hns₁ hsb₁ H1 G1 ⊢
 have hL1 : D < H2.objs.size := by rw [← hH2, Heap.size_push, hD]; omega
 have hpush : ∀ a o, H2.get? a = some o → (H2.push { cls := .type (if (some env).isSome then "dict" else "frame"), data := .dict #[] }).get? a = some o := fun a o e => Heap.get?_push_of_some _ e
 have hk1 : ∀ a o, H2.get? a = some o → h₁.get? a = some o := fun a o e => (hsb₁.2 a (Nat.ne_of_lt (Heap.lt_size e))).trans (hpush a o e)
 have hz1 : H2.objs.size ≤ h₁.objs.size := Nat.le_of_lt hns₁.lt
 have H1' : Hp C (ρ ++ [D]) (st ++ [.list []]) { s₂ with heap := H2, toks := s₂.toks } := H1
 obtain ⟨H3, G3⟩ := H1'.grow (t' := s₂.toks + ([] : List (Str × Value)).length) hk1 hz1
 have hLn : H2.objs.size ∉ ρ ++ [D] := fun q => Nat.lt_irrefl _ (H1'.lt _ q)
 have G13 : Go [] ρ s₂.heap (ρ ++ [D]) h₁ := G1.trans G3
 have hLf : H2.objs.size ∉ frW env := fun q => by
  have h1 := (F.fr _ q).2.2.lt
  rw [hD] at h1
  exact Nat.lt_irrefl _ (Nat.lt_trans h1 hL1)
 have F1 : FrAt C φ lo (ρ ++ [D]) H2 env := F.go0 G1
 have G3' : Go [] (ρ ++ [D]) H2 (ρ ++ [D]) h₁ := G3
 have F3 := compEnv_fr (cl := cloL env.cells scope.names []) (lo' := lo') F1 cap hk rfl hlo.ok hLn (by rw [← hD] at hL1; exact Nat.le_trans H.ge (Nat.le_of_lt hL1)) hLf G3' hns₁
 have hIlt : ∃ o T, s₂.heap.get? I = some o ∧ o.cls = .type T ∧ ownedIts.contains T = false ∧ ¬ Fz o := io.cls _ _ _ hp
 obtain ⟨oI, TI, hoI, _⟩ := hIlt
 have hI3 : I ∉ ρ ++ [D] := G1.nin hI (lt_size_of hoI)
 have hIL : I ≠ H2.objs.size := fun q => by
  have := lt_size_of hoI
  rw [q, hD] at this
  exact Nat.lt_irrefl _ (Nat.lt_trans this hL1)
 have hp3 : P 0 (ρ ++ [D]) h₁ := io.go _ _ _ _ _ hp (fun i a e => G13.idx e) fun o e => G13.keep _ _ hI (by simp) e
 have hIf : I ∉ frW (compEnvC scope (cloL env.cells scope.names []) H2.objs.size env) := fun q => by
  rcases List.mem_cons.mp q with q | q
  ·exact hIL q
  ·obtain ⟨⟨x, c⟩, hm, rfl⟩ := List.mem_map.mp q
   have free : ∀ x ∈ scope.names, x.2 = .free → ∃ c, env.cells.lookup x.1 = some c := fun x hx hf => by
    unfold capOk at cap
    simp only [Bool.and_eq_true, List.all_eq_true] at cap
    have := cap.2 x hx
    rw [hf] at this
    obtain ⟨c, hc, _⟩ := F.cells x.1 (by simpa using this)
    exact ⟨c, hc⟩
   rcases cloL_mem _ _ free _ hm with q | q
   ·cases q
   ·exact hf (F.cellIn q)
 have hDi : (ρ ++ [D])[st.length]? = some D := by rw [← H.len]; simp
 have body : ∀ s₄ : Shared, s₄ = { s₂ with heap := h₁, toks := s₂.toks + ([] : List (Str × Value)).length } →
   codeAny (model C.prog C.w) A (.compLoop (.ListComp elt (⟨t, iter, ifs, 0⟩ :: rest) scope pos) 0 (.ref I) (.ref D) (compEnvC scope (cloL env.cells scope.names []) H2.objs.size env)) (RR (.ref D) H2.objs.size) s₄ := by
  rintro s₄ rfl
  refine codeAny_mono (hc A _ (ρ ++ [D]) _ I P D hA H3 F3 io hp3 hI3 hg hIf hDi) fun r s5 ⟨v, e, ρ5, m5, H5, G5, N5⟩ => ?_
  subst e
  have hLlt : H2.objs.size < h₁.objs.size := hns₁.lt
  refine hRR D H2.objs.size s5 ρ5 m5 v (G5.idx hDi) H5 ?_ N5 (G5.nin hLn hLlt) (Nat.le_trans H.ge (by rw [hD]; exact Nat.le_of_lt hL1)) (Nat.le_of_lt hL1)
  refine Go.weaken (W := [I, H2.objs.size]) (G13.nil.trans G5) fun a m => ?_
  simp only [List.mem_cons, List.not_mem_nil, or_false] at m
  rcases m with rfl | rfl
  ·exact .inl (by simp)
  ·exact .inr (by rw [hD]; exact Nat.le_of_lt hL1)
 exact codeAny_compStart_list (body _ rfl) (io.self A _ (ρ ++ [D]) 0 _ _ hp3 (body _ rfl))
theorem Ev.compJE {elt t iter : Expr} {ifs : List Expr} {rest : List Comprehension} {scope : Scope} {pos : Pos} (h1 : ItrE C n φ lo iter st It st2) (hlo : CapL (compScope scope φ) lo lo') (hc : CoE C n (compScope scope φ) lo' (.ListComp elt (⟨t, iter, ifs, 0⟩ :: rest) scope pos) st2.length It 0 (st2 ++ [.list []]) st3)
  (cap : capOk scope φ = true) (hk : scope.kind = .function) (hnames : ∀ y ∈ scope.names, y.2 = .local → scope.names.lookup y.1 = some .local)
  (hs : ∀ env x, foldedSetIterable iter env x = pure x := by intro _ _; rfl) : Ev C n φ lo (.ListComp elt (⟨t, iter, ifs, 0⟩ :: rest) scope pos) st (.ref st2.length) st3 := fun A s ρ env hA H F => by
 rw [eval_ListComp]
 have free : ∀ x ∈ scope.names, x.2 = .free → ∃ c, env.cells.lookup x.1 = some c := fun x hx hf => by
  unfold capOk at cap
  simp only [Bool.and_eq_true, List.all_eq_true] at cap
  have := cap.2 x hx
  rw [hf] at this
  obtain ⟨c, hc, _⟩ := F.cells x.1 (by simpa using this)
  exact ⟨c, hc⟩
 refine wpAny_comprehension_free (use := none) rfl (hs env) (cloL_for scope.names [] free) hk hnames (noE (h1 A s ρ env hA H F) fun v s1 h => noE h fun it s2 ⟨ρ2, I, P, e, H2, G2, io, hp, hI, hge⟩ => ?_)
 subst e
 have hf : I ∉ frW env := fun m => Nat.lt_irrefl _ (Nat.lt_of_lt_of_le (F.fr I m).2.2.lt hge)
 refine compBlockE hA H2 (F.go0 G2) io hp hI (Nat.le_trans H.ge hge) hf cap hk hlo hc fun D L s' ρ' m v hD H3 G3 hN hL hL0 hLs => ?_
 refine ⟨m, hN, fun h' hs' => ?_⟩
 obtain ⟨H4, G4⟩ := H3.other (L := L) s'.toks hL hL0 (ns_isFr hN).notSeq hs'
 refine ⟨ρ', H4, ?_, .ref _ _ hD⟩
 refine Go.weaken (W := [I, L]) (((G2.nil (W := [I, L])).trans (G3.weaken fun a m => .inl (by simp at m; subst m; simp))).trans (G4.weaken fun a m => .inl (by simp at m; subst m; simp))) fun a m => ?_
 simp only [List.mem_cons, List.not_mem_nil, or_false] at m
 rcases m with rfl | rfl
 ·exact .inr hge
 ·exact .inr (Nat.le_trans G2.size hLs)
end
end
section
section
variable {C : Cx} {n : Nat} {φ φ' : Scope} {lo lo' lo1 lo2 lo3 : Loc} {st st0 st1 st2 st3 : Sto} {It It1 : ItR} {k : Nat}
theorem Co1.all {elt t0 i0 t1 i1 : Expr} {ps : List PV} {f : PV → PV} (hit : ∀ k S, SExt st0 S → It k S ps[k]?)
  (hf : ∀ p ∈ ps, ∀ S, SExt st0 S → ∃ lo1, AsL C n φ lo t1 p S lo1 S ∧ SubL lo lo1 ∧ Ev C n φ lo1 elt S (f p) S) :
  ∀ (d k : Nat) (ys : List PV) (S : Sto), k + d = ps.length → ys.length + d ≤ 2 ^ 20 → SExt st0 S → S[st0.length]? = some (.list ys) →
   ∃ S', SExt st0 S' ∧ S'[st0.length]? = some (.list (ys ++ (ps.drop k).map f)) ∧ Co1 C n φ lo elt t0 i0 t1 i1 st0.length It k S S'
 | 0, k, ys, S, hk, hl, hS, hj => by
  refine ⟨S, hS, by rw [hj, List.drop_eq_nil_of_le (by omega), List.map_nil, List.append_nil], Co1.done ?_⟩
  have := hit k S hS
  rwa [List.getElem?_eq_none (by omega)] at this
 | d + 1, k, ys, S, hk, hl, hS, hj => by
  have hlt : k < ps.length := by omega
  have hp : ps[k]? = some ps[k] := by simp [hlt]
  have hd : ps.drop k = ps[k] :: ps.drop (k + 1) := List.drop_eq_getElem_cons hlt
  have hI := hit k S hS
  rw [hp] at hI
  have hm : ps[k] ∈ ps := List.getElem_mem hlt
  rw [hd]
  generalize ps[k] = p at *
  obtain ⟨lo1, a1, a2, a3⟩ := hf p hm S hS
  obtain ⟨S', b1, b2, b3⟩ := Co1.all hit hf d (k + 1) (ys ++ [f p]) (S.set st0.length (.list (ys ++ [f p]))) (by omega) (by simp; omega) (hS.setNew (Nat.le_refl _)) (gs_self hj)
  refine ⟨S', b1, ?_, Co1.turn hI a1 a2.ok a3 hj (by omega) b3⟩
  rw [b2]; simp
theorem Co0.all {elt t0 i0 t1 i1 : Expr} {ps : List PV} {g : PV → List PV} {m : Nat} (hit : ∀ k S, SExt st0 S → It k S ps[k]?) (hfold : ∀ env x, foldedSetIterable i1 env x = pure x)
  (hf : ∀ p ∈ ps, ∀ S ys, SExt st0 S → S[st0.length]? = some (.list ys) → ys.length ≤ 2 ^ 19 → (g p).length ≤ m ∧ ∃ lo1 It1 S', AsL C n φ lo t0 p S lo1 S ∧ SubL lo lo1 ∧ ItrE C n φ lo1 i1 S It1 S ∧
   SExt st0 S' ∧ S'[st0.length]? = some (.list (ys ++ g p)) ∧ Co1 C n φ lo1 elt t0 i0 t1 i1 st0.length It1 0 S S') :
  ∀ (d k : Nat) (ys : List PV) (S : Sto), k + d = ps.length → ys.length + m * d ≤ 2 ^ 19 → SExt st0 S → S[st0.length]? = some (.list ys) →
   ∃ S', SExt st0 S' ∧ S'[st0.length]? = some (.list (ys ++ (ps.drop k).flatMap g)) ∧ Co0 C n φ lo elt t0 i0 t1 i1 st0.length It k S S'
 | 0, k, ys, S, hk, hl, hS, hj => by
  refine ⟨S, hS, by rw [hj, List.drop_eq_nil_of_le (by omega), List.flatMap_nil, List.append_nil], Co0.done ?_ hfold⟩
  have := hit k S hS
  rwa [List.getElem?_eq_none (by omega)] at this
 | d + 1, k, ys, S, hk, hl, hS, hj => by
  have hlt : k < ps.length := by omega
  have hp : ps[k]? = some ps[k] := by simp [hlt]
  have hd : ps.drop k = ps[k] :: ps.drop (k + 1) := List.drop_eq_getElem_cons hlt
  have hI := hit k S hS
  rw [hp] at hI
  have hm : ps[k] ∈ ps := List.getElem_mem hlt
  rw [hd]
  generalize ps[k] = p at *
  rw [Nat.mul_succ] at hl
  obtain ⟨c1, lo1, It1, S1, a1, a2, a3, a4, a5, a6⟩ := hf p hm S ys hS hj (by omega)
  obtain ⟨S', b1, b2, b3⟩ := Co0.all hit hfold hf d (k + 1) (ys ++ g p) S1 (by omega) (by simp; omega) a4 a5
  refine ⟨S', b1, ?_, Co0.turn hI a1 a2.ok hfold a3 a6 b3⟩
  rw [b2]; simp
structure StaI (C : Cx) (a : Addr) (xs : List Int) : Prop where
 ex : ∃ vs : List Value, C.S0.heap.IsList a vs.toArray ∧ IntsAre vs xs
theorem IntsAre.at {vs : List Value} {xs : List Int} (r : IntsAre vs xs) : ∀ {k : Nat} {x : Int}, xs[k]? = some x → ∃ t, vs[k]? = some (.int x t) := by
 induction r with
 | nil => intro k x h; cases h
 | cons m t r ih =>
  intro k x h
  cases k with
  | zero => cases h; exact ⟨t, rfl⟩
  | succ k => exact ih (k := k) h
theorem StaI.now {a : Addr} {xs : List Int} {ρ : List Addr} {s : Shared} (x : StaI C a xs) (H : Hp C ρ st s) : ∃ vs : List Value, s.heap.IsList a vs.toArray ∧ IntsAre vs xs := by
 obtain ⟨vs, ⟨o, ho, hc, m, hd⟩, hI⟩ := x.ex
 exact ⟨vs, ⟨o, H.old _ _ ho, hc, m, hd⟩, hI⟩
theorem C.len_sta {a : Addr} {xs : List Int} (x : StaI C a xs) (hz : xs.length < 2 ^ 62) : Cl C n (.builtin "len") [.sta (.ref a)] st (.int xs.length) st := fun A s ρ vs hA H R => by
 (replace R := R.inv; obtain ⟨v, _, rfl, R1, R2⟩ := R)
 (replace R2 := R2.inv; first | obtain rfl := R2 | obtain ⟨_, rfl⟩ := R2)
 (replace R1 := R1.inv; first | obtain rfl := R1 | obtain ⟨_, rfl⟩ := R1)
 obtain ⟨ws, hL, hI⟩ := x.now H
 have hlen := IntsAre.length hI
 refine Calls.call_len_list hL (by simp; omega) ?_
 have : ((ws.toArray.size : Nat) : Int) = (xs.length : Int) := by simp [hlen]
 rw [this]; exact Post.tok H (.int _ _)
theorem O.sub_sta {value slice : Expr} {a : Addr} {xs : List Int} {k : Nat} {i : Int} (x : StaI C a xs) (hz : k < 2 ^ 24) (hk : xs[k]? = some i)
  (hs : ∀ a u, subscripted slice false (.ref a) (.int (k : Int) u) = operate [.ref a, .int (k : Int) u] (PySem.getItem (.ref a) (.int (k : Int) u)) := by intro _ _; with_unfolding_all rfl) :
  Op2 C n (subscriptTail value slice) (.sta (.ref a)) (.int (k : Int)) st (.int i) st := fun A s ρ u v hA H R R' => by
 (replace R := R.inv; first | obtain rfl := R | obtain ⟨_, rfl⟩ := R)
 (replace R' := R'.inv; obtain ⟨t, rfl⟩ := R')
 obtain ⟨ws, hL, hI⟩ := x.now H
 obtain ⟨t', ht⟩ := IntsAre.at hI hk
 exact tail_any hL.typeIs slot_list_getitem.lookup (wpAny_getItem_list hL (by omega) (by omega) (by simpa using ht) (Post.here H (.int _ _))) (hs _ _)
end
end
section
noncomputable def l2T0 (e : Expr) : Expr := lcT e
noncomputable def lcH (e : Expr) : Comprehension := (lcX e).2.1.getD 1 ⟨dE, dE, [], 0⟩
noncomputable def l2T1 (e : Expr) : Expr := (lcH e).1
noncomputable def l2I1 (e : Expr) : Expr := (lcH e).2
noncomputable abbrev φwo : Scope := scopeOf (stAt 19)
noncomputable abbrev W0 : Stmt := sAt (bodyOf (stAt 19)) 0
noncomputable abbrev W2 : Stmt := sAt (bodyOf (stAt 19)) 2
noncomputable abbrev LCwo : Expr := rOf (vOf W0)
noncomputable def abc4 : Str := Str.ofString "aAbB"
noncomputable def pairG (c : Nat) : List Str := abc4.cps.toList.map fun d => one c ++ one d
noncomputable def pairsL : List Str := abc4.cps.toList.flatMap pairG
noncomputable def kinds0 : List Str := [Str.ofString "", Str.ofString "a", Str.ofString "A", Str.ofString "b", Str.ofString "B"]
noncomputable def kindsL : List Str := kinds0 ++ pairsL
noncomputable def strG : PV → List PV
 | .str ⟨⟨[c]⟩⟩ => (pairG c).map .str
 | _ => []
noncomputable def strF (c : Nat) : PV → PV
 | .str d => .str (one c ++ d)
 | p => p
noncomputable def cps4 : List PV := abc4.cps.toList.map fun c => .str (one c)
theorem strIt_ext {x : Str} {st : Sto} : ∀ k S, SExt st S → StrIt x k S (x.cps.toList.map fun c => PV.str (one c))[k]? := fun k S _ => by
 unfold StrIt
 rw [List.getElem?_map, Array.getElem?_toList]; rfl
theorem words_comp {C : Cx} {n : Nat} {lo : Loc} {st : Sto} : ∃ st', SExt st st' ∧ st'[st.length]? = some (.list (pairsL.map .str)) ∧ Ev C n φwo lo LCwo st (.ref st.length) st' := by
 have asc : abc4.cps.all (· < 128) = true := by decide +kernel
 have l4 : abc4.cps.toList.length = 4 := by decide +kernel
 have hfold : ∀ env x, foldedSetIterable (l2I1 LCwo) env x = pure x := by intro _ _; rfl
 obtain ⟨S', b1, b2, b3⟩ := Co0.all (C := C) (n := n) (φ := compScope (lcS LCwo) φwo) (lo := []) (elt := lcE LCwo) (t0 := l2T0 LCwo) (i0 := lcI LCwo) (t1 := l2T1 LCwo) (i1 := l2I1 LCwo) (st0 := st) (It := StrIt abc4)
  (ps := cps4) (g := strG) (m := 4) strIt_ext hfold
  (fun p hp S ys hS hj hl => by
   obtain ⟨c, hc, rfl⟩ := List.mem_map.mp hp
   refine ⟨by show ((pairG c).map PV.str).length ≤ 4; unfold pairG; rw [List.length_map, List.length_map]; omega, ?_⟩
   obtain ⟨S', c1, c2, c3⟩ := Co1.all (C := C) (n := n) (φ := compScope (lcS LCwo) φwo) (lo := [("one", .str (one c))]) (elt := lcE LCwo) (t0 := l2T0 LCwo) (i0 := lcI LCwo) (t1 := l2T1 LCwo) (i1 := l2I1 LCwo) (st0 := st) (It := StrIt abc4)
    (ps := cps4) (f := strF c) strIt_ext
    (fun p hp S hS => by
     obtain ⟨d, hd, rfl⟩ := List.mem_map.mp hp
     refine ⟨[("other", .str (one d)), ("one", .str (one c))], AsL.name rfl, ⟨rfl, trivial⟩, ?_⟩
     exact Ev.bin (Ev.loc rfl rfl) (Ev.loc rfl rfl) (O.adds (show 1 + 1 ≤ sizeLine by rw [sizeLine_eq]; decide)))
    4 0 ys S (by unfold cps4; rw [List.length_map]; omega) (by omega) hS hj
   refine ⟨[("one", .str (one c))], StrIt abc4, S', AsL.name rfl, trivial, ItrE.of (p := .str abc4) (st1 := S) Ev.cstr (Itr.str asc), c1, ?_, c3⟩
   rw [c2]
   have e : (cps4.drop 0).map (strF c) = strG (.str (one c)) := by
    show cps4.map (strF c) = (pairG c).map PV.str
    unfold cps4 pairG
    rw [List.map_map, List.map_map]; rfl
   rw [e])
  4 0 [] (st ++ [.list []]) (by unfold cps4; rw [List.length_map]; omega) (by simp) (SExt.app _ _) gl
 refine ⟨S', b1, ?_, ?_⟩
 ·rw [b2]
  have e : (cps4.drop 0).flatMap strG = pairsL.map PV.str := by
   show cps4.flatMap strG = pairsL.map PV.str
   unfold cps4 pairsL
   rw [List.map_flatMap, List.flatMap_map]; rfl
  rw [e]; rfl
 ·exact Ev.compJE (C := C) (n := n) (φ := φwo) (lo := lo) (lo' := []) (elt := lcE LCwo) (t := l2T0 LCwo) (iter := lcI LCwo) (ifs := []) (rest := [⟨l2T1 LCwo, l2I1 LCwo, [], 0⟩]) (scope := lcS LCwo) (pos := lcP LCwo)
   (ItrE.of (p := .str abc4) (st1 := st) Ev.cstr (Itr.str asc)) trivial b3.e (by decide) rfl (by decide)
noncomputable def numP (g s : List Int) (k : Nat) : Int := g.getD k 0 + (if k < s.length then (s.getD k 0).fmod 21 else 0)
noncomputable def wordP (g s : List Int) (k : Nat) : Str := kindsL.getD ((numP g s k).fmod 21).toNat default
noncomputable def wordsP (g s : List Int) : List Str := (List.range g.length).map (wordP g s)
theorem kindsL_len : kindsL.length = 21 := by decide +kernel
theorem words_loop {C : Cx} (px : Px C) {n : Nat} {g s : List Int} {a : Addr} {gi ki w : Nat} {base st : Sto} (hs : StaI C a s) (hsz : s.length < 2 ^ 62) (hg : base[gi]? = some (.list (g.map .int))) (hgl : g.length ≤ 5) (hk : base[ki]? = some (.list (kindsL.map .str)))
  (hw : base.length ≤ w) (he : SExt base st) (hww : st[w]? = some (.list [])) :
  ∃ st', SExt base st' ∧ st'[w]? = some (.list ((wordsP g s).map .str)) ∧
   Fo C n φwo [("words", .ref w), ("kinds", .ref ki), ("script", .sta (.ref a)), ("given", .ref gi)] (fT W2) (bOf W2) (RangeIt 0 1 g.length) 0 st .next [("words", .ref w), ("kinds", .ref ki), ("script", .sta (.ref a)), ("given", .ref gi)] st' := by
 obtain ⟨lo', st', ⟨e1, e2, e3⟩, hf⟩ := Fo.inv0 (C := C) (n := n) (φ := φwo) (t := fT W2) (b := bOf W2) (It := RangeIt 0 1 g.length)
  (fun k lo S => lo = ([("words", .ref w), ("kinds", .ref ki), ("script", .sta (.ref a)), ("given", .ref gi)] : Loc) ∧ SExt base S ∧ S[w]? = some (.list (((List.range k).map (wordP g s)).map .str)))
  g.length (lo := [("words", .ref w), ("kinds", .ref ki), ("script", .sta (.ref a)), ("given", .ref gi)]) (st := st) ⟨rfl, he, hww⟩
  (fun k lo S hk5 ⟨e1, e2, e3⟩ => by
   subst e1
   have z : (g.map PV.int).length ≤ 2 ^ 24 := by rw [List.length_map]; omega
   have z2 : (kindsL.map PV.str).length ≤ 2 ^ 24 := by rw [List.length_map, kindsL_len]; decide
   have hgi := e2 _ _ hg
   have hki := e2 _ _ hk
   have at1 : at? (g.map PV.int) (k : Int) = some (.int (g.getD k 0)) := at_nat (by
    rw [List.getElem?_map, List.getElem?_eq_getElem hk5, List.getD_eq_getElem?_getD, List.getElem?_eq_getElem hk5]; rfl)
   have fm : ∀ x : Int, 0 ≤ x.fmod 21 ∧ x.fmod 21 < 21 := fun x => by
    rw [Int.fmod_eq_emod_of_nonneg x (by decide)]
    exact ⟨Int.emod_nonneg _ (by decide), Int.emod_lt_of_pos _ (by decide)⟩
   have hb := fm (numP g s k)
   have at2 : at? (kindsL.map PV.str) ((numP g s k).fmod 21) = some (.str (wordP g s k)) := by
    unfold at?
    rw [if_pos hb.1]
    have hlt : ((numP g s k).fmod 21).toNat < kindsL.length := by rw [kindsL_len]; omega
    rw [List.getElem?_map, List.getElem?_eq_getElem hlt]
    unfold wordP
    rw [List.getD_eq_getElem?_getD, List.getElem?_eq_getElem hlt]; rfl
   have hlen : Cl C n (.builtin "len") [.sta (.ref a)] S (.int (s.length : Int)) S := _root_.Mine.C.len_sta hs hsz
   have ecmp : Op2 C n (compareOp .Lt) (.int (k : Int)) (.int (s.length : Int)) S (.bool (decide ((k : Int) < (s.length : Int)))) S := O.lt
   have mod21 : ∀ x : Int, Op2 C n (binaryOp .Mod) (.int x) (.int 21) S (.int (x.fmod 21)) S := fun x => O.mod (by decide)
   have happ : Cl C n (.builtin "list.append") [.ref w, .str (wordP g s k)] S .none (S.set w (.list (((List.range (k + 1)).map (wordP g s)).map .str))) := by
    have := _root_.Mine.C.append (C := C) (n := n) (p := .str (wordP g s k)) e3 (by simp; omega)
    rwa [show ((List.range k).map (wordP g s)).map PV.str ++ [.str (wordP g s k)] = ((List.range (k + 1)).map (wordP g s)).map PV.str by rw [List.range_succ]; simp] at this
   have add : Op2 C n (binaryOp .Add) (.int (g.getD k 0)) (.int (if k < s.length then (s.getD k 0).fmod 21 else 0)) S (.int (numP g s k)) S := O.add
   apply StepI.mk (p := .int (k : Int)) (lo3 := [("words", .ref w), ("kinds", .ref ki), ("script", .sta (.ref a)), ("given", .ref gi)]) (st2 := S.set w (.list (((List.range (k + 1)).map (wordP g s)).map .str)))
   ·exact ⟨rfl, e2.setNew hw, gs_self e3⟩
   ·exact rangeIt_at hk5
   ·exact As.name (.inl rfl)
   ·apply Ex.cons
    ·apply Ex1.asg (p := .int (numP g s k))
     ·refine Ev.bin (Ev.sub (Ev.loc rfl rfl) (Ev.loc rfl rfl) (O.sub_list hgi z at1 (by intro _ _; with_unfolding_all rfl))) (?_ : Ev C n φwo _ _ S (.int (if k < s.length then (s.getD k 0).fmod 21 else 0)) S) add
      by_cases hks : k < s.length
      ·rw [show decide ((k : Int) < (s.length : Int)) = true by simpa using hks] at ecmp
       rw [if_pos hks]
       refine Ev.if_t (Tr.cmp (Ev.loc rfl rfl) (Ev.callb (Ev.blt2 (b_len px) rfl (by decide)) (EvL.cons (Ev.loc rfl rfl) EvL.nil) hlen (by intro _; rfl) (by intro _; rfl)) ecmp) ?_
       exact Ev.bin (Ev.sub (Ev.loc rfl rfl) (Ev.loc rfl rfl) (O.sub_sta (i := s.getD k 0) hs (by omega) (by rw [List.getD_eq_getElem?_getD, List.getElem?_eq_getElem hks]; rfl) (by intro _ _; with_unfolding_all rfl))) Ev.cint (mod21 _)
      ·rw [show decide ((k : Int) < (s.length : Int)) = false by simpa using hks] at ecmp
       rw [if_neg hks]
       exact Ev.if_f (Tr.cmp (Ev.loc rfl rfl) (Ev.callb (Ev.blt2 (b_len px) rfl (by decide)) (EvL.cons (Ev.loc rfl rfl) EvL.nil) hlen (by intro _; rfl) (by intro _; rfl)) ecmp) Ev.cint
     ·exact As.name (.inl rfl)
    apply Ex.cons
    ·apply Ex1.expr
     ·exact Ev.meth_append (Ev.loc rfl rfl) (TyP.list e3) (EvL.cons (Ev.sub (Ev.loc rfl rfl) (Ev.bin (Ev.loc rfl rfl) Ev.cint (mod21 _)) (O.sub_list hki z2 at2 (by intro _ _; with_unfolding_all rfl))) EvL.nil) happ (by intro _; rfl) (by intro _; rfl) rfl (by intro _; rfl)
     ·intro _ _; rfl
    exact Ex.nil
   ·exact ⟨rfl, rfl, rfl, rfl, trivial⟩)
  (fun lo s h => rangeIt_end)
 subst e1
 exact ⟨st', e2, e3, hf⟩
theorem sp_words {C : Cx} (px : Px C) {n : Nat} {g s : List Int} {a : Addr} {gi : Nat} {st : Sto} (hs : StaI C a s) (hsz : s.length < 2 ^ 62) (hg : st[gi]? = some (.list (g.map .int))) (hgl : g.length ≤ 5) :
  ∃ st' w, SExt st st' ∧ st'[w]? = some (.list ((wordsP g s).map .str)) ∧ Cl C (n + 1) (.ref 229) [.sta (.ref a), .ref gi] st (.ref w) st' := by
 obtain ⟨s1, a1, a2, a3⟩ := words_comp (C := C) (n := n) (lo := [("script", .sta (.ref a)), ("given", .ref gi)]) (st := st ++ [.list (kinds0.map .str)])
 have hk0 : s1[st.length]? = some (.list (kinds0.map .str)) := a1 _ _ gl
 have hadd : Op2 C n (binaryOp .Add) (.ref st.length) (.ref (st ++ [Ob.list (kinds0.map .str)]).length) s1 (.ref s1.length) (s1 ++ [.list (kindsL.map .str)]) := by
  have := O.add_list (C := C) (n := n) hk0 a2 (by rw [List.length_map, List.length_map, show kinds0.length = 5 from rfl, show pairsL.length = 16 by decide +kernel]; decide)
  rwa [← List.map_append] at this
 have e1 : SExt st s1 := (SExt.app _ _).trans a1
 have e2 : SExt st (s1 ++ [.list (kindsL.map .str)] ++ [.list []]) := (e1.trans (SExt.app _ _)).trans (SExt.app _ _)
 have hb : SExt (s1 ++ [.list (kindsL.map .str)]) (s1 ++ [.list (kindsL.map .str)] ++ [.list []]) := SExt.app _ _
 have hgi : (s1 ++ [Ob.list (kindsL.map .str)])[gi]? = some (.list (g.map .int)) := ga (e1 _ _ hg)
 obtain ⟨st', b1, b2, b3⟩ := words_loop px (n := n) (base := s1 ++ [.list (kindsL.map .str)]) (st := s1 ++ [.list (kindsL.map .str)] ++ [.list []]) (ki := s1.length) (w := (s1 ++ [Ob.list (kindsL.map .str)]).length) hs hsz hgi hgl gl (Nat.le_refl _) hb gl
 refine ⟨st', (s1 ++ [Ob.list (kindsL.map .str)]).length, (e1.trans (SExt.app _ _)).trans b1, b2, ?_⟩
 have hgi2 : (s1 ++ [Ob.list (kindsL.map .str)] ++ [Ob.list []])[gi]? = some (.list (g.map .int)) := ga hgi
 have hlen : Cl C n (.builtin "len") [.ref gi] (s1 ++ [.list (kindsL.map .str)] ++ [.list []]) (.int (g.length : Int)) (s1 ++ [.list (kindsL.map .str)] ++ [.list []]) := by
  have := _root_.Mine.C.len_list (C := C) (n := n) hgi2 (by rw [List.length_map]; omega)
  rwa [List.length_map] at this
 have hit : ItrE C n φwo [("words", .ref (s1 ++ [Ob.list (kindsL.map .str)]).length), ("kinds", .ref s1.length), ("script", .sta (.ref a)), ("given", .ref gi)] (fI W2) (s1 ++ [.list (kindsL.map .str)] ++ [.list []]) (RangeIt 0 1 g.length) (s1 ++ [.list (kindsL.map .str)] ++ [.list []]) := by
  have := ItrE.of (C := C) (n := n) (φ := φwo) (lo := [("words", .ref (s1 ++ [Ob.list (kindsL.map .str)]).length), ("kinds", .ref s1.length), ("script", .sta (.ref a)), ("given", .ref gi)]) (e := fI W2) (st := s1 ++ [.list (kindsL.map .str)] ++ [.list []]) (p := .rng 0 (g.length : Int) 1)
   (Ev.callt (Ev.blt2 (b_range px) rfl (by decide)) (EvL.cons (Ev.callb (Ev.blt2 (b_len px) rfl (by decide)) (EvL.cons (Ev.loc rfl rfl) EvL.nil) hlen (by intro _; rfl) (by intro _; rfl)) EvL.nil) _root_.Mine.C.range1 (by intro _; rfl) (by intro _; rfl)) (Itr.rng (by omega) (by omega) (by omega) (by omega))
  rwa [show ((g.length : Int) - 0).toNat = g.length by omega] at this
 have body : ∃ lo', Ex C n φwo [("script", .sta (.ref a)), ("given", .ref gi)] (bodyOf (stAt 19)) st (.ret (.ref (s1 ++ [Ob.list (kindsL.map .str)]).length)) lo' st' := by
  apply Exists.intro
  apply Ex.cons
  ·apply Ex1.asg
   ·refine Ev.bin (Ev.list ?_ (by rw [show (kinds0.map PV.str).length = 5 from rfl, sizeLine_eq]; decide)) a3 hadd
    exact EvL.cons Ev.cstr (EvL.cons Ev.cstr (EvL.cons Ev.cstr (EvL.cons Ev.cstr (EvL.cons Ev.cstr EvL.nil))))
   ·exact As.name (.inl rfl)
   ·intro _ _; rfl
   ·intro _; rfl
   ·intro _; rfl
  apply Ex.cons
  ·walk_at "st"
  apply Ex.cons
  ·exact Ex1.forE hit b3 (by intro _ _; rfl)
  apply Ex.stop
  ·walk_at "st"
  ·intro h; cases h
 obtain ⟨lo', h⟩ := body
 refine Cl.fn (names := ["script", "given"]) (body := bodyOf (stAt 19)) (px.K 229 _ rfl) rfl rfl rfl (codeRec_of px.K rfl) rfl rfl ?_ ?_ ?_ h rfl ?_
 ·intro vs hv
  obtain ⟨v1, v2, rfl⟩ := len2 hv
  rfl
 ·decide
 ·decide +kernel
 ·decide
end
section
noncomputable def kindsW : List Str := [⟨#[]⟩, ⟨#[97]⟩, ⟨#[65]⟩, ⟨#[98]⟩, ⟨#[66]⟩] ++ ([97,65,98,66].flatMap fun a => [97,65,98,66].map fun b => (⟨#[a, b]⟩ : Str))
theorem kinds_eq : kindsL = kindsW := by decide +kernel
noncomputable def okPair (x y : Str) : Bool := match levP x y with
 | some d => (waysP x y).contains d && (waysP x y).all (fun v => decide (d ≤ v)) && decide (0 ≤ d) && decide (d ≤ 4) && (match levP y x with | some e => e == d | none => false)
 | none => false
theorem okAll : (kindsW.all fun x => kindsW.all fun y => okPair x y) = true := by decide +kernel
noncomputable def okWord (x : Str) : Bool := decide (x.length ≤ 10) && x.cps.all (· < 128) && x.cps.toList.all fun c => !Builtin.Str.tooLong (Txt.lower (one c)).length
theorem okWords : kindsW.all okWord = true := by decide +kernel
noncomputable def levD (x y : Str) : Int := (levP x y).getD 0
theorem pair_ok {x y : Str} (hx : x ∈ kindsL) (hy : y ∈ kindsL) : okPair x y = true := by
 rw [kinds_eq] at hx hy
 exact List.all_eq_true.mp (List.all_eq_true.mp okAll x hx) y hy
theorem word_ok {x : Str} (hx : x ∈ kindsL) : WOk x := by
 rw [kinds_eq] at hx
 have h := List.all_eq_true.mp okWords x hx
 unfold okWord at h
 simp only [Bool.and_eq_true, decide_eq_true_eq, List.all_eq_true, Bool.not_eq_true'] at h
 exact ⟨h.1.1, h.1.2, h.2⟩
theorem lev_ok {x y : Str} (hx : x ∈ kindsL) (hy : y ∈ kindsL) : levP x y = some (levD x y) ∧ levD x y ∈ waysP x y ∧ (∀ v ∈ waysP x y, levD x y ≤ v) ∧ 0 ≤ levD x y ∧ levD x y ≤ 4 := by
 have h := pair_ok hx hy
 unfold okPair at h
 unfold levD
 cases e : levP x y with
 | none => rw [e] at h; cases h
 | some d =>
  rw [e] at h
  simp only [Bool.and_eq_true, decide_eq_true_eq, List.all_eq_true, List.contains_iff_mem] at h
  exact ⟨rfl, h.1.1.1.1, h.1.1.1.2, h.1.1.2, h.1.2⟩
theorem wordP_mem (g s : List Int) (k : Nat) : wordP g s k ∈ kindsL := by
 unfold wordP
 have hb : 0 ≤ (numP g s k).fmod 21 ∧ (numP g s k).fmod 21 < 21 := by
  rw [Int.fmod_eq_emod_of_nonneg _ (by decide)]
  exact ⟨Int.emod_nonneg _ (by decide), Int.emod_lt_of_pos _ (by decide)⟩
 have hlt : ((numP g s k).fmod 21).toNat < kindsL.length := by rw [kindsL_len]; omega
 rw [List.getD_eq_getElem?_getD, List.getElem?_eq_getElem hlt]
 exact List.getElem_mem hlt
theorem wordsP_mem {g s : List Int} {x : Str} (h : x ∈ wordsP g s) : x ∈ kindsL := by
 obtain ⟨k, _, rfl⟩ := List.mem_map.mp h
 exact wordP_mem g s k
theorem wordsP_len (g s : List Int) : (wordsP g s).length = g.length := by unfold wordsP; simp
theorem chr_of {x : Str} (h : x.length = 2) : ∃ a b, chr x 0 = some a ∧ chr x 1 = some b := by
 obtain ⟨⟨l⟩⟩ := x
 match l, h with
 | [a, b], _ => exact ⟨a, b, rfl, rfl⟩
theorem sp_dueW {C : Cx} (px : Px C) {n : Nat} {x y : Str} {st : Sto} (hx : x ∈ kindsL) (hy : y ∈ kindsL) : ∃ st', SExt st st' ∧ Cl C (n + 2) (.ref 243) [.str x, .str y] st (.int (levD x y)) st' := by
 obtain ⟨_, a, b, _⟩ := lev_ok hx hy
 refine sp_due px (word_ok hx) (word_ok hy) (fun h1 h2 => ?_) a b
 obtain ⟨p, q, e1, e2⟩ := chr_of h1
 obtain ⟨r, t, e3, e4⟩ := chr_of h2
 exact ⟨p, r, q, t, e1, e3, e2, e4⟩
end
section
section
variable {prog : Program} {w : World} {A : Around} {s : Shared}
theorem call_cellsB {R : Result → Shared → Prop} {a : Addr} {o : Obj} {fd : FuncData} {body : List Stmt} {args : Args} {binds : List (Str × Value)}
  (hroom : A.depth < recursionLimit) (ho : s.heap.get? a = some o) (hdata : o.data = .func fd) (hlim : s.heap.NoLimit) (hcd : s.heap.CodeRec fd.code fd.qualname)
  (hbody : fd.body = .stmts body) (hbind : BindsTo s fd args binds) (hclo : fd.closure = [])
  (hkind : ∀ x ∈ binds, fd.scope.names.lookup x.1 = some .local ∨ (fd.scope.names.lookup x.1 = some .cell ∧ ((cellsFrom (s.heap.objs.size + 1) fd.scope.names []).lookup x.1).isSome = true))
  (h : ∀ s₁, InCallC s (callEnvC fd s.heap.objs.size a).locals (bindL (callEnvC fd s.heap.objs.size a).kindOf binds fun _ => none) (callEnvC fd s.heap.objs.size a).cells
    (bindC (callEnvC fd s.heap.objs.size a).kindOf binds fun _ => none) s₁ →
   wpAny (model prog w) (A.deeper (callEnvC fd s.heap.objs.size a)) (execs body (callEnvC fd s.heap.objs.size a)) (fun f s' => R (.ok (.ret (match f with | .ret v => v | _ => .none))) s')
    (fun e s' => wpAny (model prog w) (A.deeper (callEnvC fd s.heap.objs.size a)) (leaving (callEnvC fd s.heap.objs.size a) e) (fun _ s'' => R (.error e) s'') (fun e' s'' => R (.error e') s'') s') s₁)
  (hco : fd.scope.isCoroutine = false := by rfl) (hgen : fd.scope.isGenerator = false := by rfl) (hk : fd.scope.kind = .function := by rfl) :
  codeAny (model prog w) A (.call (.ref a) args) R s := by
 refine codeAny_call_function hroom ho hdata hco hgen hbody hcd (hbind _ _ _ _ ?_)
 rw [hclo]
 refine wpAny_newFunctionEnv_cells hk hkind fun env he s' x => ?_
 subst he
 exact ⟨hlim.keeps x.toInCall.keep, codeAny_func (h s' x)⟩
end
section
variable {C : Cx} {n : Nat} {φ : Scope} {lo lo1 lo2 lo3 : Loc} {st st1 st2 st3 : Sto}
noncomputable def ClK (C : Cx) (n : Nat) (f : Value) (ps : List PV) (kws : List Str) (qs : List PV) (st : Sto) (p : PV) (st' : Sto) : Prop :=
 ∀ A s ρ vs us, Lv n A → Hp C ρ st s → RepL s.heap ρ ps vs → RepL s.heap ρ qs us → wpAny (model C.prog C.w) A (PySem.call f vs (kws.zip us)) (Post C ρ s st' p) NoE s
noncomputable def ClKc (C : Cx) (n : Nat) (f : Value) (ps : List PV) (kws : List Str) (qs : List PV) (st : Sto) (p : PV) (st' : Sto) : Prop :=
 ∀ A s ρ vs us, Lv n A → Hp C ρ st s → RepL s.heap ρ ps vs → RepL s.heap ρ qs us → codeAny (model C.prog C.w) A (.call f ⟨vs, kws.zip us⟩) (fun r s' => ∃ v, r = .ok (.ret v) ∧ Post C ρ s st' p v s') s
theorem ClKc.k {f : Value} {ps : List PV} {kws : List Str} {qs : List PV} {p : PV} {st' : Sto} (h : ClKc C n f ps kws qs st p st') : ClK C n f ps kws qs st p st' := fun A s ρ vs us hA H R R' =>
 wpAny_call (codeAny_mono (h A s ρ vs us hA H R R') fun r s' ⟨v, e, h⟩ => by subst e; exact h)
theorem ClKc.fn {f : Addr} {o : Obj} {fd : FuncData} {body : List Stmt} {names : List Str} {ps : List PV} {kws : List Str} {qs rs : List PV} {fl : Fl} {p : PV}
  (ho : C.S0.heap.get? f = some o) (hd : o.data = .func fd) (hbody : fd.body = .stmts body) (hclo : fd.closure = []) (hcd : C.S0.heap.CodeRec fd.code fd.qualname) (hgl : fd.globals = mainGlobals) (hbl : fd.builtins = builtinsNs)
  (hbind : ∀ (s : Shared) (ρ : List Addr) (vs us : List Value), Hp C ρ st s → vs.length = ps.length → us.length = qs.length → ∃ ds, RepL s.heap ρ rs ds ∧ BindsTo s fd ⟨vs, kws.zip us⟩ (names.zip (vs ++ us ++ ds))) (hnd : names.Nodup)
  (hkind : ∀ x ∈ names, fd.scope.names.lookup x = some .local ∨ fd.scope.names.lookup x = some .cell)
  (hb : Ex C n fd.scope (names.zip (ps ++ qs ++ rs)) body st fl lo1 st1) (hf : p = retOf fl)
  (hkeys : (fd.scope.names.map (·.1)).Nodup)
  (hco : fd.scope.isCoroutine = false := by rfl) (hgen : fd.scope.isGenerator = false := by rfl) (hk : fd.scope.kind = .function := by rfl) : ClKc C (n + 1) (.ref f) ps kws qs st p st1 := fun A s ρ vs us hA H R R' => by
 obtain ⟨ds, RD, hB⟩ := hbind s ρ vs us H R.length R'.length
 have RA := (R.append R').append RD
 refine call_cellsB hA.depth (H.old _ _ ho) hd H.lim (hcd.keeps H.old) hbody hB hclo (fun x hx => ?_) (fun s1 X => ?_) hco hgen hk
 ·have hm : x.1 ∈ names := (List.of_mem_zip hx).1
  rcases hkind x.1 hm with q | q
  ·exact .inl q
  ·exact .inr ⟨q, cells_some _ _ _ _ (.inl q)⟩
 ·obtain ⟨h', t', e, hkp⟩ := X.done
  subst e
  have hz : s.heap.objs.size ≤ h'.objs.size := Nat.le_of_lt (by
   have := X.toInCall.ns.lt
   show s.heap.objs.size < h'.objs.size
   exact this)
  obtain ⟨H1, G1⟩ := H.grow (t' := t') hkp hz
  have R1 := RA.go0 G1
  have L_nin : s.heap.objs.size ∉ ρ := fun q => Nat.lt_irrefl _ (H.lt _ q)
  have cnin : ∀ x c, (cellsFrom (s.heap.objs.size + 1) fd.scope.names []).lookup x = some c → c ∉ ρ ∧ s.heap.objs.size < c := fun x c e =>
   have hlt := X.above x c (mem_of_lookup e)
   ⟨fun q => Nat.lt_irrefl _ (Nat.lt_trans hlt (H.lt _ q)), hlt⟩
  have F : FrAt C fd.scope (names.zip (ps ++ qs ++ rs)) ρ h' (callEnvC fd s.heap.objs.size f) := by
   refine ⟨rfl, hk, hgl, hbl, ?_, ⟨_, X.toInCall.ns, fun x pv e1 e2 => (binds_rep (c := fun _ => none) hnd R1 e1).1 e2⟩, fun x hx => ?_, ?_⟩
   ·intro a ha
    rcases List.mem_cons.mp ha with rfl | ha
    ·exact ⟨L_nin, H.ge, ns_isFr X.toInCall.ns⟩
    ·obtain ⟨⟨x, c⟩, hm, rfl⟩ := List.mem_map.mp ha
     have hlt := X.above x c hm
     refine ⟨fun q => Nat.lt_irrefl _ (Nat.lt_trans hlt (H.lt _ q)), Nat.le_trans H.ge (Nat.le_of_lt hlt), ?_⟩
     have hc' := lookup_self (cells_keys fd.scope.names (s.heap.objs.size + 1) [] hkeys List.nodup_nil (by simp)) hm
     obtain ⟨o, ho, hd⟩ := X.cell x c hc'
     exact ⟨o, ho, notFz_cell hd⟩
   ·obtain ⟨c, hc⟩ := Option.isSome_iff_exists.mp (cells_some fd.scope.names (s.heap.objs.size + 1) [] x (.inl hx))
    obtain ⟨c1, c2⟩ := cnin x c hc
    refine ⟨c, hc, Ne.symm (Nat.ne_of_lt c2), _, X.cell x c hc, fun pv e1 => ?_⟩
    obtain ⟨v, a, b⟩ := (binds_rep (kd := (callEnvC fd s.heap.objs.size f).kindOf) (m := fun _ => none) (c := fun _ => none) hnd R1 e1).2 (by
     show fd.scope.names.lookup x ≠ _; rw [hx]; intro q; cases q)
    exact ⟨v, a, b⟩
   ·intro x y c _ _ e1 e2
    exact name_of_addr X.apart (mem_of_lookup e1) (mem_of_lookup e2)
  refine noE (hb (A.deeper _) _ ρ _ hA.deeper H1 F) fun flw s2 ⟨ρ2, H2, G2, F2, R2⟩ => ⟨_, rfl, ρ2, H2, ?_, ?_⟩
  ·refine Go.weaken (W := frW (callEnvC fd s.heap.objs.size f)) (G1.nil.trans G2) fun a ha => .inr ?_
   rcases List.mem_cons.mp ha with rfl | ha
   ·exact Nat.le_refl _
   ·obtain ⟨⟨x, c⟩, hm, rfl⟩ := List.mem_map.mp ha
    exact Nat.le_of_lt (X.above x c hm)
  ·subst hf
   cases R2 with
   | next => exact .none
   | brk => exact .none
   | cont => exact .none
   | ret q v r => exact r
theorem ClK.fn {f : Addr} {o : Obj} {fd : FuncData} {body : List Stmt} {names : List Str} {ps : List PV} {kws : List Str} {qs rs : List PV} {fl : Fl} {p : PV}
  (ho : C.S0.heap.get? f = some o) (hd : o.data = .func fd) (hbody : fd.body = .stmts body) (hclo : fd.closure = []) (hcd : C.S0.heap.CodeRec fd.code fd.qualname) (hgl : fd.globals = mainGlobals) (hbl : fd.builtins = builtinsNs)
  (hbind : ∀ (s : Shared) (ρ : List Addr) (vs us : List Value), Hp C ρ st s → vs.length = ps.length → us.length = qs.length → ∃ ds, RepL s.heap ρ rs ds ∧ BindsTo s fd ⟨vs, kws.zip us⟩ (names.zip (vs ++ us ++ ds))) (hnd : names.Nodup)
  (hkind : ∀ x ∈ names, fd.scope.names.lookup x = some .local ∨ fd.scope.names.lookup x = some .cell)
  (hb : Ex C n fd.scope (names.zip (ps ++ qs ++ rs)) body st fl lo1 st1) (hf : p = retOf fl)
  (hkeys : (fd.scope.names.map (·.1)).Nodup)
  (hco : fd.scope.isCoroutine = false := by rfl) (hgen : fd.scope.isGenerator = false := by rfl) (hk : fd.scope.kind = .function := by rfl) : ClK C (n + 1) (.ref f) ps kws qs st p st1 :=
 (ClKc.fn ho hd hbody hclo hcd hgl hbl hbind hnd hkind hb hf hkeys hco hgen hk).k
end
end
section
section
variable {C : Cx} {n : Nat} {φ : Scope} {lo lo1 lo2 lo3 : Loc} {st st1 st2 st3 : Sto}
theorem inst_at {ρ : List Addr} {s : Shared} {i d c : Nat} {a : Addr} {m : List (Str × PV)} (H : Hp C ρ st s) (ha : ρ[i]? = some a) (hi : st[i]? = some (.inst c d)) (hd : st[d]? = some (.ns m)) :
  ∃ dx od es ep, ρ[d]? = some dx ∧ InstAt s.heap a { cls := .ref c, dict := some dx } c (some od) ∧ od.data = .dict es ep ∧ StrKeys es ∧ RepF s.heap ρ m (nsFind es) ∧ s.heap.get? dx = some od := by
 obtain ⟨b, hb, hob⟩ := H.idx' hi
 rw [ha] at hb; cases hb
 obtain ⟨dx, e1, e2⟩ := hob
 obtain ⟨b, hb, f, ⟨o, es, ep, ho, hdat, hk, hf⟩, hr⟩ := H.idx' hd
 rw [e1] at hb; cases hb
 refine ⟨dx, o, es, ep, e1, ⟨e2, rfl, rfl, ho⟩, hdat, hk, ?_, ho⟩
 rwa [show nsFind es = f from funext hf]
theorem lookIn_ns {od : Obj} {es : Array DictEntry} {ep : Nat} (hd : od.data = .dict es ep) (hk : StrKeys es) (name : Str) : lookIn name od = some (nsFind es name) := by
 unfold lookIn nsFind findBy
 rw [hd]
 dsimp only
 rw [← Array.find?_toList]
 cases e : es.toList.find? (fun e => e.key.isStr name) with
 | some v => simp [e]
 | none =>
  have : es.toList.any (·.refKey) = false := by
   rw [List.any_eq_false]
   intro x hx
   obtain ⟨n, t, q⟩ := hk x (by simpa using hx)
   unfold DictEntry.refKey; rw [q]; simp
  simp [e, this]
end
end
section
theorem hd_ga (P : Params) : findIn (hd.heap_39 P) (.ref 220) "__getattribute__" = some (some (.builtin "object.__getattribute__")) := by kernel_rfl
theorem hd_gk (P : Params) : findIn (hd.heap_39 P) (.ref 220) "__getattr__" = some none := by kernel_rfl
theorem hd_init (P : Params) : findIn (hd.heap_39 P) (.ref 220) "__init__" = some (some (.ref 112)) := by kernel_rfl
theorem hd_conv (P : Params) : findIn (hd.heap_39 P) (.ref 220) "_convert_string_type" = some (some (.ref 119)) := by kernel_rfl
theorem hd_get (P : Params) : findIn (hd.heap_39 P) (.ref 220) "get" = some (some (.ref 167)) := by kernel_rfl
theorem hd_items (P : Params) : findIn (hd.heap_39 P) (.ref 220) "items" = some (some (.ref 184)) := by kernel_rfl
theorem hd_setitem (P : Params) : findIn (hd.heap_39 P) (.ref 220) "__setitem__" = some (some (.ref 133)) := by kernel_rfl
theorem hd_delitem (P : Params) : findIn (hd.heap_39 P) (.ref 220) "__delitem__" = some (some (.ref 138)) := by kernel_rfl
theorem hd_makes (P : Params) : makesIn (hd.heap_39 P) 220 = true := by kernel_rfl
end
section
section
variable {C : Cx} {n : Nat} {φ : Scope} {lo lo1 lo2 lo3 : Loc} {st st1 st2 st3 : Sto}
theorem Px.now {ρ : List Addr} {s : Shared} (px : Px C) (H : Hp C ρ st s) : (hd.heap_39 C.w.params).In s.heap := fun a o e => H.old _ _ (px.K a o e)
theorem ns_none {h : Heap} {ρ : List Addr} {m : List (Str × PV)} {es : Array DictEntry} (R : RepF h ρ m (nsFind es)) {x : Str} (hx : m.lookup x = none) : nsFind es x = none := R.2 x hx
theorem method_hd (px : Px C) {A : Around} {s : Shared} {ρ : List Addr} {i d : Nat} {a : Addr} {m : List (Str × PV)} {name : Str} {f : Addr} {pl : Sem Bool} {Q : Value × List Value → Shared → Prop} {E : Value → Shared → Prop}
  (H : Hp C ρ st s) (ha : ρ[i]? = some a) (hi : st[i]? = some (.inst 220 d)) (hdd : st[d]? = some (.ns m)) (hx : m.lookup name = none)
  (hf : findIn (hd.heap_39 C.w.params) (.ref 220) name = some (some (.ref f))) (ht : typeIn (hd.heap_39 C.w.params) (.ref f) = some (.type "function")) (h : Q (.ref f, [.ref a]) s) :
  wpAny (model C.prog C.w) A (getMethod (.ref a) name pl) Q E s := by
 obtain ⟨dx, od, es, ep, e1, I, e2, e3, e4, e5⟩ := inst_at H ha hi hdd
 refine method_fn (px.now H) I (hd_ga _) (hd_gk _) hf ht ?_ h
 show (lookIn name od).map (·.isSome) = some false
 rw [lookIn_ns e2 e3, ns_none e4 hx]; rfl
end
end
section
theorem hd_hdrs (P : Params) : findIn (hd.heap_39 P) (.ref 220) "_headers" = some none := by kernel_rfl
theorem hd_cls (P : Params) : ∃ cd, clsIn (hd.heap_39 P) 220 = some cd ∧ cd.hasDict = true := ⟨_, rfl, rfl⟩
section
variable {C : Cx} {n : Nat} {φ : Scope} {lo lo1 lo2 lo3 : Loc} {st st1 st2 st3 : Sto}
theorem Ev.hdrs (px : Px C) {x : Str} {np pos : Pos} {i d l : Nat} {m : List (Str × PV)} (h1 : Ev C n φ lo (.Name x np) st (.ref i) st) (hi : st[i]? = some (.inst 220 d)) (hdd : st[d]? = some (.ns m)) (hx : m.lookup (Str.ofString "_headers") = some (.ref l)) :
  Ev C n φ lo (.Attribute (.Name x np) "_headers" pos) st (.ref l) st := fun A s ρ env hA H F =>
 Attribute_name (noE (h1 A s ρ env hA H F) fun v s1 ⟨ρ1, H1, G1, R1⟩ => by
  (replace R1 := R1.inv; obtain ⟨a, rfl, ha⟩ := R1)
  obtain ⟨dx, od, es, ep, e1, I, e2, e3, e4, e5⟩ := inst_at H1 ha hi hdd
  obtain ⟨v, hv, rv⟩ := e4.1 _ _ hx
  cases rv with | ref _ b hb => ?_
  refine get_value (v := .ref b) (px.now H1) I (hd_ga _) ?_ rfl ⟨ρ1, H1.tok _, G1, .ref _ _ hb⟩
  obtain ⟨cd, hc, hdc⟩ := hd_cls C.w.params
  unfold findObj W.ownOf
  rw [hc, hd_hdrs]
  simp only [Option.bind_some, hdc, if_true]
  rw [lookIn_ns e2 e3, hv]; rfl)
end
end
section
namespace RF
theorem plainAttrs_pat : PlainAttrs "re.Pattern" :=
 ⟨⟨"object.__getattribute__", by rw [typeLookup_type, builtinLookup_eq_fast]; kernel_rfl, by decide +kernel⟩, by rw [typeLookup_type, builtinLookup_eq_fast]; kernel_rfl⟩
theorem slot_search : Slot "re.Pattern" "search" "re.Pattern.search" :=
 .of (owner := "re.Pattern") (n := "search") (by rw [typeLookup_type, builtinLookup_eq_fast]; kernel_rfl) (by decide +kernel) (by decide +kernel) (by decide +kernel)
  (by first | exact .inl (by decide +kernel) | exact .inr (by decide +kernel)) (by rw [isSubtype_type]; kernel_rfl)
theorem type_search : typeOf (.builtin "re.Pattern.search") = pure (.type "method_descriptor") := by show builtinType _ = _; rw [builtinType_eq_fast]; kernel_rfl
theorem entry_search : entryFor table "re.Pattern.search" = some Builtin.«re.Pattern.search» := entryFor_of_tree (by kernel_rfl)
theorem args_search (a b : Value) : argsOk "re.Pattern.search" ⟨[a, b], []⟩ := by unfold argsOk; kernel_rfl
end RF
noncomputable abbrev codeN : Array Nat := #[14, 10, 4, 1, 1, 22, 0, 31, 16, 127, 0, 13, 7, 22, 0, 31, 16, 127, 0, 1]
noncomputable abbrev codeV : Array Nat := #[14, 14, 4, 1, 1, 9, 4294966783, 0, 0, 2147483648, 0, 0, 0, 0, 0, 13, 11, 9, 4294966783, 0, 0, 2147483648, 0, 0, 0, 0, 0, 1]
theorem inSet_name (c : Nat) (h1 : 32 ≤ c) (h2 : c < 127) (seen : Sre.Seen) : ∃ seen', Sre.inSet codeN c 20 5 true seen = .ok (false, seen') := by
 have e1 : (decide (0 ≤ c) && decide (c ≤ 31)) = false := by simp; omega
 have e2 : (c == 127) = false := by simp; omega
 refine ⟨((seen.add 22).add 16).add 0, ?_⟩
 show (if (decide (0 ≤ c) && decide (c ≤ 31)) = true then _ else _) = _
 rw [e1]
 show Sre.inSet codeN c 19 8 true _ = _
 show (if (c == 127) = true then _ else _) = _
 rw [e2]
 rfl
theorem inSet_value (c : Nat) (h1 : 32 ≤ c) (h2 : c < 127) (seen : Sre.Seen) : ∃ seen', Sre.inSet codeV c 28 5 true seen = .ok (false, seen') := by
 have key : ∀ c : Fin 127, 32 ≤ c.val → (decide (c.val < 256) && (codeV.getD (5 + (1 + c.val / 32)) 0).testBit (c.val % 32)) = false := by decide +kernel
 have k : (decide (c < 256) && (codeV.getD (5 + (1 + c / 32)) 0).testBit (c % 32)) = false := key ⟨c, h2⟩ h1
 refine ⟨(seen.add 9).add 0, ?_⟩
 show (if (decide (c < 256) && (codeV.getD (5 + (1 + c / 32)) 0).testBit (c % 32)) = true then _ else _) = _
 rw [k]
 rfl
noncomputable def Clean (x : Str) : Prop := ∀ c ∈ x.cps.toList, 32 ≤ c ∧ c < 127
theorem Clean.getD {x : Str} (h : Clean x) {i : Nat} (hi : i < x.cps.size) : 32 ≤ x.cps.getD i 0 ∧ x.cps.getD i 0 < 127 := by
 refine h _ ?_
 rw [Array.getD_eq_getD_getElem?, Array.getElem?_eq_getElem hi]
 simp
theorem admitted_none {code : Array Nat} (hc : ∀ c, 32 ≤ c → c < 127 → ∀ seen, ∃ seen', Sre.inSet code c code.size 5 true seen = .ok (false, seen')) {m : Sre.M} {x : Str} (hx : Clean x) (e1 : m.code = code) (e2 : m.text = x.cps) (e3 : m.lim = x.cps.size) :
  ∀ (fuel s : Nat) (seen : Sre.Seen), ∃ seen', Sre.M.admitted m fuel s seen = .ok (none, seen')
 | 0, s, seen => ⟨seen, rfl⟩
 | fuel + 1, s, seen => by
  unfold Sre.M.admitted
  by_cases h : s ≥ m.lim
  ·rw [if_pos h]; exact ⟨seen, rfl⟩
  ·rw [if_neg h]
   have hs : s < x.cps.size := by rw [e3] at h; omega
   obtain ⟨h1, h2⟩ := hx.getD hs
   rw [e1, e2]
   obtain ⟨seen', hq⟩ := hc _ h1 h2 seen
   rw [hq]
   exact admitted_none hc hx e1 e2 e3 fuel (s + 1) seen'
theorem attempt_none {code : Array Nat} (hc : ∀ c, 32 ≤ c → c < 127 → ∀ seen, ∃ seen', Sre.inSet code c code.size 5 true seen = .ok (false, seen')) (hf : ∀ m : Sre.M, m.code = code → m.hasFirstSet = true) {m : Sre.M} {x : Str} (hx : Clean x) (e1 : m.code = code) (e2 : m.text = x.cps) (e3 : m.lim = x.cps.size)
  (e4 : m.frames = []) (e5 : m.outcome = none) : (m.attemptFrom 0 true).answer = some false ∧ (m.attemptFrom 0 true).frames = [] ∧ (m.attemptFrom 0 true).outcome = none := by
 unfold Sre.M.attemptFrom
 rw [hf _ e1]
 simp only [Bool.not_true, Bool.false_eq_true, if_false]
 obtain ⟨seen', hq⟩ := admitted_none hc hx e1 e2 e3 (m.lim + 1 - 0) 0 m.seen
 rw [hq]
 exact ⟨rfl, e4, e5⟩
theorem search_none {code : Array Nat} (hc : ∀ c, 32 ≤ c → c < 127 → ∀ seen, ∃ seen', Sre.inSet code c code.size 5 true seen = .ok (false, seen')) (hf : ∀ m : Sre.M, m.code = code → m.hasFirstSet = true) {x : Str} (hx : Clean x) :
  (Sre.forSearch code x.cps 0 0 x.cps.size false).answer = some false ∧ (Sre.forSearch code x.cps 0 0 x.cps.size false).frames = [] ∧ (Sre.forSearch code x.cps 0 0 x.cps.size false).outcome = none := by
 unfold Sre.forSearch
 simp only []
 split
 ·exact ⟨rfl, rfl, rfl⟩
 ·exact attempt_none hc hf hx rfl rfl rfl rfl rfl
theorem first_name (m : Sre.M) (h : m.code = codeN) : m.hasFirstSet = true := by unfold Sre.M.hasFirstSet; rw [h]; rfl
theorem first_value (m : Sre.M) (h : m.code = codeV) : m.hasFirstSet = true := by unfold Sre.M.hasFirstSet; rw [h]; rfl
section
variable {prog : Program} {w : World} {A : Around} {E : Value → Shared → Prop} {s : Shared}
theorem rules_loop {M : Model} {f : Nat → Bool} {g : Nat → String} {Q : PUnit → Shared → Prop} : ∀ (l : List Nat), Q PUnit.unit s → wpAny M A (forIn l PUnit.unit fun i (_ : PUnit) => if f i = true then do rule (g i); pure (ForInStep.yield PUnit.unit) else pure (ForInStep.yield PUnit.unit)) Q E s
 | [], h => wpAny_pure h
 | i :: l, h => by
  have ih := rules_loop (M := M) (f := f) (g := g) l h
  rw [List.forIn_cons]
  cases hf : f i with
  | true =>
   rw [if_pos rfl]
   refine wpAny_bind (wpAny_bind (wpAny_rule (wpAny_pure ?_)))
   exact ih
  | false =>
   rw [if_neg (by decide)]
   exact wpAny_bind (wpAny_pure ih)
theorem toEnd_none {M : Model} {m : Sre.M} {Q : Option Sre.M → Shared → Prop} (h1 : m.answer = some false) (h2 : m.frames = []) (h3 : m.outcome = none) (h : Q none s) : wpAny M A (Builtin.Re.reRunToEnd m) Q E s := by
 have hs : m.step = { m with outcome := some .failed } := by
  unfold Sre.M.step
  rw [h3]
  simp only [Option.isSome_none, Bool.false_eq_true, if_false, h1, h2]
 have hr : m.runFor Builtin.Re.reTurnSteps = { m with outcome := some .failed } := by
  show Sre.M.runFor 4 m = _
  unfold Sre.M.runFor
  rw [h3]
  simp only [Option.isSome_none, Bool.false_eq_true, if_false, hs]
  rfl
 unfold Builtin.Re.reRunToEnd
 have e : (2 : Nat) ^ 64 = (2 ^ 64 - 1) + 1 := by decide
 rw [e]
 refine wpAny_bind ?_
 unfold Builtin.Re.reDrive
 simp only [hr]
 refine wpAny_pure ?_
 refine wpAny_bind (rules_loop (f := fun i => Sre.Seen.has _ i) (g := fun i => Sre.names.getD i "") _ ?_)
 exact wpAny_pure h
theorem call_search {a T : Addr} {fs ws : Array Value} {n : Nat} {o oT : Obj} {code : Array Nat} {x : Str} {t : Tok} {Q : Value → Shared → Prop}
  (ho : s.heap.get? a = some o) (hcl : o.cls = .type "re.Pattern") (hd : o.data = .fields fs) (hT : fs.getD 5 .none = .ref T) (hg : Builtin.Re.reRawNat (fs.getD 2 .none) = 0) (hk : Builtin.Re.reRawNat (fs.getD 6 .none) = 0)
  (hoT : s.heap.get? T = some oT) (hdT : oT.data = .seq ws n) (hw : (ws.map Builtin.Re.reRawOf).map (·.toNat) = code)
  (hc : ∀ c, 32 ≤ c → c < 127 → ∀ seen, ∃ seen', Sre.inSet code c code.size 5 true seen = .ok (false, seen')) (hf : ∀ m : Sre.M, m.code = code → m.hasFirstSet = true) (hx : Clean x) (hz : x.cps.size < 2 ^ 62) (h : Q .none s) :
  wpAny (model prog w) A (call (.builtin "re.Pattern.search") [.ref a, .str x t]) Q E s := by
 refine wpAny_call_entry RF.slot_search ⟨_, ho, hcl⟩ RF.entry_search ?_ (RF.args_search _ _)
 unfold Builtin.«re.Pattern.search» Builtin.Re.reTarget
 refine wpAny_bind (wpAny_bind ?_)
 have e1 : Builtin.Re.reNamed "re.Pattern.search" "search" ["string", "pos", "endpos"] 1 [.str x t] [] = pure [some (.str x t), none, none] := rfl
 rw [e1]
 refine wpAny_pure ?_
 refine wpAny_bind (wpAny_pure (wpAny_bind (wpAny_pure (wpAny_bind (wpAny_fieldsOf ho hd (wpAny_bind ?_))))))
 refine wpAny_bind (m := asStr? (.str x t)) (wpAny_pure (wpAny_pure ?_))
 simp only [hk, hg, hT]
 have e2 : min (Int.toNat 0) x.cps.size = 0 := by simp
 have e3 : min (2 ^ 63 - 1 : Int).toNat x.cps.size = x.cps.size := by
  have : ((2 : Int) ^ 63 - 1).toNat = 9223372036854775807 := by decide
  rw [this]; omega
 rw [e2, e3, if_neg (by decide), if_neg (by decide)]
 refine wpAny_bind (m := Builtin.Re.reNoCollectionInside _ 0) (wpAny_pure ?_)
 have es : wpAny (model prog w) A.in1 (Builtin.Re.reRawItems (.ref T)) (fun a s' => a = ws.map Builtin.Re.reRawOf ∧ s' = s) E s := by
  unfold Builtin.Re.reRawItems seqItems?
  refine wpAny_bind (wpAny_bind (wpAny_load hoT ?_))
  rw [hdT]
  exact wpAny_pure (wpAny_pure ⟨rfl, rfl⟩)
 refine wpAny_bind (wpAny_mono es (fun r s' hr => ?_) fun _ _ q => q)
 obtain ⟨rfl, rfl⟩ := hr
 refine wpAny_pure ?_
 dsimp only
 rw [hw]
 obtain ⟨h1, h2, h3⟩ := search_none hc hf hx
 unfold Builtin.Re.reAnswer
 refine wpAny_bind (toEnd_none h1 h2 h3 ?_)
 exact wpAny_pure ⟨_, rfl, h⟩
end
end
section
section
variable {C : Cx} {n : Nat} {φ : Scope} {lo lo1 lo2 lo3 : Loc} {st st1 st2 st3 st4 : Sto}
theorem C.type_of {p : PV} {T : String} (hT : TyP C st p T) (hn : (Value.type T == Value.type "builtin_function_or_method") = false) : Cl C n (.type "type") [p] st (.sta (.type T)) st := fun A s ρ vs hA H R => by
 (replace R := R.inv; obtain ⟨v, _, rfl, R1, R2⟩ := R)
 (replace R2 := R2.inv; first | obtain rfl := R2 | obtain ⟨_, rfl⟩ := R2)
 exact call_type_of (hT ρ s v H R1).1 hn (Post.here H (.sta _))
theorem O.is_type {T U : String} : Op2 C n (compareOp .Is) (.sta (.type T)) (.sta (.type U)) st (.bool (Value.type T == Value.type U)) st := fun A s ρ a b hA H R R' => by
 (replace R := R.inv; first | obtain rfl := R | obtain ⟨_, rfl⟩ := R); (replace R' := R'.inv; first | obtain rfl := R' | obtain ⟨_, rfl⟩ := R')
 show wpAny _ A (do return Value.bool (← isSame (.type T) (.type U))) _ _ _
 have e : isSame (.type T) (.type U) = pure (Value.type T == Value.type U) := rfl
 rw [e]
 exact wpAny_bind (wpAny_pure (wpAny_pure (Post.here H (.bool _))))
theorem O.isNot_type {T U : String} : Op2 C n (compareOp .IsNot) (.sta (.type T)) (.sta (.type U)) st (.bool (!(Value.type T == Value.type U))) st := fun A s ρ a b hA H R R' => by
 (replace R := R.inv; first | obtain rfl := R | obtain ⟨_, rfl⟩ := R); (replace R' := R'.inv; first | obtain rfl := R' | obtain ⟨_, rfl⟩ := R')
 show wpAny _ A (do return Value.bool (!(← isSame (.type T) (.type U)))) _ _ _
 have e : isSame (.type T) (.type U) = pure (Value.type T == Value.type U) := rfl
 rw [e]
 exact wpAny_bind (wpAny_pure (wpAny_pure (Post.here H (.bool _))))
noncomputable def KwL (C : Cx) (n : Nat) (φ : Scope) (loc : Loc) (kws : List Keyword) (st : Sto) (ps : List PV) (st' : Sto) : Prop :=
 ∀ pos A s ρ env, Lv n A → Hp C ρ st s → FrAt C φ loc ρ s.heap env → wpAny (model C.prog C.w) A (evalAll ((backToKw pos (keywordEach kws env)).map (·.2))) (PostL C ρ s st' ps) NoE s
theorem KwL.nil : KwL C n φ lo [] st [] st := fun pos A s ρ env hA H F => kwAll_nil ⟨ρ, H, Go.refl _ _ _, .nil⟩
theorem KwL.cons {x : Str} {v : Expr} {kp : Pos} {kws : List Keyword} {p : PV} {ps : List PV} (h1 : Ev C n φ lo v st p st1) (h2 : KwL C n φ lo kws st1 ps st2) : KwL C n φ lo (⟨some x, v, kp⟩ :: kws) st (p :: ps) st2 := fun pos A s ρ env hA H F =>
 kwAll_cons (noE (h1 A s ρ env hA H F) fun v s1 ⟨ρ1, H1, G1, R1⟩ => noE (h2 pos A s1 ρ1 env hA H1 (F.go0 G1)) fun vs s2 ⟨ρ2, H2, G2, R2⟩ => ⟨ρ2, H2, G1.trans G2, .cons _ _ _ _ (R1.go0 G2) R2⟩)
theorem Ev.methH (px : Px C) {o e : Expr} {name : Str} {apos pos : Pos} {rest : List Expr} {kws : List Keyword} {ks : List Str} {f : Addr} {i d : Nat} {m : List (Str × PV)} {ps qs : List PV} {r : PV}
  (h1 : Ev C n φ lo o st (.ref i) st1) (hi : st1[i]? = some (.inst 220 d)) (hdd : st1[d]? = some (.ns m)) (hx : m.lookup name = none)
  (hf : findIn (hd.heap_39 C.w.params) (.ref 220) name = some (some (.ref f))) (ht : typeIn (hd.heap_39 C.w.params) (.ref f) = some (.type "function")) (hkp : keepIn (hd.heap_39 C.w.params) (.ref f) = true)
  (h2 : EvL C n φ lo (e :: rest) st1 ps st2) (h3 : KwL C n φ lo kws st2 qs st3) (h4 : ClK C n (.ref f) (.ref i :: ps) ks qs st3 r st4)
  (hks : ∀ env, (backToKw pos (keywordEach kws env)).filterMap (·.1) = ks := by intro _; rfl)
  (hall : ∀ env, (backToKw pos (keywordEach kws env)).all (·.1.isSome) = true := by intro _; rfl)
  (hplain : ∀ env, ((backTo pos (starEach (e :: rest) env)).any (·.1) || (backToKw pos (keywordEach kws env)).any (·.1.isNone)) = false := by intro _; rfl)
  (hstar : ∀ env, starEach (e :: rest) env = (false, eval e env) :: starEach rest env := by intro _; rfl)
  (he : ∀ env, ∃ pl, eval (.Call (.Attribute o name apos) (e :: rest) kws pos) env = (do
   let ov ← eval o env
   standAt apos.atName
   let (f, first) ← holding [ov] (getMethod ov name pl)
   callWith pos f first (backTo pos (starEach (e :: rest) env)) (backToKw pos (keywordEach kws env))) := by intro _; exact ⟨_, rfl⟩) :
  Ev C n φ lo (.Call (.Attribute o name apos) (e :: rest) kws pos) st r st4 := fun A s ρ env hA H F => by
 obtain ⟨pl, he⟩ := he env
 refine methodCall_KW (pl := pl) (noE (h1 A s ρ env hA H F) fun v s1 ⟨ρ1, H1, G1, R1⟩ => ?_) he
 (replace R1 := R1.inv; obtain ⟨a, rfl, ha⟩ := R1)
 refine method_hd px H1 ha hi hdd hx hf ht ?_
 refine callWith_KW px.K hkp (hall env) ?_ (hplain env) (hstar env)
 refine noE (h2 pos A s1 ρ1 env hA H1 (F.go0 G1)) fun vs s2 ⟨ρ2, H2, G2, R2⟩ => ?_
 refine noE (h3 pos A s2 ρ2 env hA H2 (F.go0 (G1.trans G2))) fun us s3 ⟨ρ3, H3, G3, R3⟩ => ⟨px.now H3, ?_⟩
 rw [hks]
 have hr := h4 A s3 ρ3 (.ref a :: vs) us hA H3 (.cons _ _ _ _ (.ref _ _ (G3.idx (G2.idx ha))) (R2.go0 G3)) R3
 exact noE hr fun v s4 h => h.more ((G1.trans G2).trans G3)
theorem Ev.methH0 (px : Px C) {o : Expr} {name : Str} {apos pos : Pos} {f : Addr} {i d : Nat} {m : List (Str × PV)} {r : PV}
  (h1 : Ev C n φ lo o st (.ref i) st1) (hi : st1[i]? = some (.inst 220 d)) (hdd : st1[d]? = some (.ns m)) (hx : m.lookup name = none)
  (hf : findIn (hd.heap_39 C.w.params) (.ref 220) name = some (some (.ref f))) (ht : typeIn (hd.heap_39 C.w.params) (.ref f) = some (.type "function")) (hkp : keepIn (hd.heap_39 C.w.params) (.ref f) = true)
  (h4 : ClK C n (.ref f) [.ref i] [] [] st1 r st4)
  (hplain : ∀ env, ((backTo pos (starEach [] env)).any (·.1) || (backToKw pos (keywordEach [] env)).any (·.1.isNone)) = false := by intro _; rfl)
  (he : ∀ env, ∃ pl, eval (.Call (.Attribute o name apos) [] [] pos) env = (do
   let ov ← eval o env
   standAt apos.atName
   let (f, first) ← holding [ov] (getMethod ov name pl)
   callWith pos f first (backTo pos (starEach [] env)) (backToKw pos (keywordEach [] env))) := by intro _; exact ⟨_, rfl⟩) :
  Ev C n φ lo (.Call (.Attribute o name apos) [] [] pos) st r st4 := fun A s ρ env hA H F => by
 obtain ⟨pl, he⟩ := he env
 refine methodCall_KW (pl := pl) (noE (h1 A s ρ env hA H F) fun v s1 ⟨ρ1, H1, G1, R1⟩ => ?_) he
 (replace R1 := R1.inv; obtain ⟨a, rfl, ha⟩ := R1)
 refine method_hd px H1 ha hi hdd hx hf ht ?_
 refine callWith_KW0 px.K hkp rfl ?_ (hplain env)
 refine kwAll_nil ⟨px.now H1, ?_⟩
 have hr := h4 A s1 ρ1 [.ref a] [] hA H1 (.one (.ref _ _ ha)) .nil
 exact noE hr fun v s4 h => h.more G1
theorem pat_name (px : Px C) {ρ : List Addr} {s : Shared} (H : Hp C ρ st s) {A : Around} {x : Str} {t : Tok} {Q : Value → Shared → Prop} {E : Value → Shared → Prop} (hx : Clean x) (hz : x.cps.size < 2 ^ 62) (h : Q .none s) :
  wpAny (model C.prog C.w) A (call (.builtin "re.Pattern.search") [.ref 92, .str x t]) Q E s :=
 call_search (code := codeN) (H.old _ _ (px.K 92 _ rfl)) rfl rfl rfl rfl rfl (H.old _ _ (px.K 91 _ rfl)) rfl (by kernel_rfl) (fun c h1 h2 seen => inSet_name c h1 h2 seen) first_name hx hz h
theorem pat_value (px : Px C) {ρ : List Addr} {s : Shared} (H : Hp C ρ st s) {A : Around} {x : Str} {t : Tok} {Q : Value → Shared → Prop} {E : Value → Shared → Prop} (hx : Clean x) (hz : x.cps.size < 2 ^ 62) (h : Q .none s) :
  wpAny (model C.prog C.w) A (call (.builtin "re.Pattern.search") [.ref 97, .str x t]) Q E s :=
 call_search (code := codeV) (H.old _ _ (px.K 97 _ rfl)) rfl rfl rfl rfl rfl (H.old _ _ (px.K 96 _ rfl)) rfl (by kernel_rfl) (fun c h1 h2 seen => inSet_value c h1 h2 seen) first_value hx hz h
end
end
section
noncomputable abbrev HB : List Stmt := bodyOf (stAt 17)
noncomputable abbrev φcv : Scope := scopeOf (sAt HB 1)
section
variable {C : Cx} {n : Nat} {φ : Scope} {lo lo1 lo2 lo3 : Loc} {st st1 st2 st3 st4 : Sto}
theorem TyP.pat {a : Addr} (ha : ∃ o, C.S0.heap.get? a = some o ∧ o.cls = .type "re.Pattern" ∧ o.dict = none) : TyP C st (.sta (.ref a)) "re.Pattern" := fun ρ s v H R => by
 (replace R := R.inv; first | obtain rfl := R | obtain ⟨_, rfl⟩ := R)
 obtain ⟨o, h1, h2, h3⟩ := ha
 exact ⟨⟨o, H.old _ _ h1, h2⟩, fun b e => by cases e; exact ⟨o, H.old _ _ h1, h3⟩⟩
theorem pat_at (px : Px C) {b : Bool} : ∃ o, C.S0.heap.get? (if b then 92 else 97) = some o ∧ o.cls = .type "re.Pattern" ∧ o.dict = none := by
 cases b
 ·exact ⟨_, px.K 97 _ rfl, rfl, rfl⟩
 ·exact ⟨_, px.K 92 _ rfl, rfl, rfl⟩
theorem C.search (px : Px C) {b : Bool} {x : Str} (hx : Clean x) (hz : x.cps.size < 2 ^ 62) : Cl C n (.builtin "re.Pattern.search") [.sta (.ref (if b then 92 else 97)), .str x] st .none st := fun A s ρ vs hA H R => by
 (replace R := R.inv; obtain ⟨v, _, rfl, R1, R2⟩ := R)
 (replace R2 := R2.inv; obtain ⟨u, _, rfl, R2, R3⟩ := R2)
 (replace R3 := R3.inv; first | obtain rfl := R3 | obtain ⟨_, rfl⟩ := R3)
 (replace R1 := R1.inv; first | obtain rfl := R1 | obtain ⟨_, rfl⟩ := R1)
 (replace R2 := R2.inv; obtain ⟨t, rfl⟩ := R2)
 cases b
 ·exact pat_value px H hx hz (Post.here H .none)
 ·exact pat_name px H hx hz (Post.here H .none)
theorem Ev.meth_search {o : Expr} {apos pos : Pos} {args : List Expr} {p r : PV} {ps : List PV} (h1 : Ev C n φ lo o st p st1) (hT : TyP C st1 p "re.Pattern") (h2 : EvL C n φ lo args st1 ps st2)
  (h3 : Cl C n (.builtin "re.Pattern.search") (p :: ps) st2 r st3)
  (hbase : ∀ env, attributeBase o "search" env (eval o env) = eval o env)
  (hfew : ∀ env, ((backTo pos (starEach args env)).all (fun x => !x.1) && (backToKw pos (keywordEach [] env)).all (fun x => x.1.isSome)
   && decide (args.length + ([] : List Keyword).length + (if ([] : List Keyword).isEmpty then 0 else 1) < 30)) = true)
  (hline : (apos.endLine == pos.line) = true)
  (hp : ∀ env, (backTo pos (starEach args env)).any (·.1) = false) : Ev C n φ lo (.Call (.Attribute o "search" apos) args [] pos) st r st3 :=
 Ev.meth h1 hT h2 h3 RF.plainAttrs_pat RF.slot_search RF.type_search hbase hfew hline hp
end
theorem sp_conv {C : Cx} (px : Px C) {n : Nat} {i : Nat} {b : Bool} {x : Str} {st : Sto} (hx : Clean x) (hz : x.cps.size < 2 ^ 62) : ClK C (n + 1) (.ref 119) [.ref i, .str x] ["name"] [.bool b] st (.str x) st := by
 have hty : Cl C n (.type "type") [.str x] st (.sta (.type "str")) st := _root_.Mine.C.type_of TyP.str (by decide)
 have his : Op2 C n (compareOp .Is) (.sta (.type "str")) (.sta (.type "str")) st (.bool true) st := O.is_type
 have body : ∃ lo', Ex C n φcv [("self", .ref i), ("value", .str x), ("name", .bool b)] (bodyOf (sAt HB 1)) st (.ret (.str x)) lo' st := by
  apply Exists.intro
  apply Ex.stop
  ·apply Ex1.if_t
   ·apply Tr.cmp
    ·apply Ev.callt
     ·walk_at "ev"
     ·walk_at "evl"
     ·exact hty
     ·intro _; rfl
     ·intro _; rfl
    ·walk_at "ev"
    ·exact his
    ·with_unfolding_all rfl
   ·apply Ex.cons
    ·apply Ex1.asg (p := .sta (.ref (if b then 92 else 97)))
     ·apply Ev.ifexp (c := b) (st1 := st)
      ·exact Tr.val (Ev.loc rfl rfl (by decide)) T.bool
      ·cases b
       ·exact Ev.glob (g_vre px) (fun _ _ => .sta _) rfl (by decide)
       ·exact Ev.glob (g_nre px) (fun _ _ => .sta _) rfl (by decide)
     ·exact As.name (.inl rfl)
    apply Ex.cons
    ·apply Ex1.if_f
     ·apply Tr.val (p := .none) (st1 := st)
      ·apply Ev.meth_search (st1 := st) (st2 := st)
       ·exact Ev.loc rfl rfl (by decide)
       ·exact TyP.pat (pat_at px)
       ·exact EvL.cons (Ev.loc rfl rfl (by decide)) EvL.nil
       ·exact _root_.Mine.C.search px hx hz
       ·intro _; rfl
       ·intro _; rfl
       ·rfl
       ·intro _; rfl
      ·exact T.none
     ·exact Ex.nil
    apply Ex.stop
    ·walk_at "st"
    ·intro h; cases h
  ·intro h; cases h
 obtain ⟨lo', h⟩ := body
 refine ClK.fn (names := ["self", "value", "name"]) (rs := []) (body := bodyOf (sAt HB 1)) (px.K 119 _ rfl) rfl rfl rfl (codeRec_of px.K rfl) rfl rfl ?_ ?_ ?_ h rfl ?_
 ·intro s ρ vs us H hv hu
  obtain ⟨v1, v2, rfl⟩ := len2 hv
  obtain ⟨u, rfl⟩ := len1 hu
  exact ⟨[], .nil, BindsTo.of_eq rfl⟩
 ·decide
 ·decide +kernel
 ·decide
end
section
structure KOk (x : Str) : Prop where
 clean : Clean (Txt.lower x)
 size : (Txt.lower x).cps.size < 2 ^ 62
 fit : Builtin.Str.tooLong (Txt.lower x).length = false
noncomputable def hpv (rs : List (Str × Str)) : List PV := rs.map fun r => .tup [.str r.1, .str r.2]
theorem hpv_at {rs : List (Str × Str)} {k : Nat} {r : Str × Str} (h : rs[k]? = some r) : (hpv rs)[k]? = some (.tup [.str r.1, .str r.2]) := by unfold hpv; rw [List.getElem?_map, h]; rfl
theorem hpv_len (rs : List (Str × Str)) : (hpv rs).length = rs.length := by unfold hpv; rw [List.length_map]
structure Hdr (st : Sto) (i d l : Nat) (rs : List (Str × Str)) : Prop where
 inst : st[i]? = some (.inst 220 d)
 ns : st[d]? = some (.ns [(Str.ofString "_headers", .ref l)])
 list : st[l]? = some (.list (hpv rs))
 keys : ∀ r ∈ rs, KOk r.1
 small : rs.length ≤ 1000
theorem Hdr.ext {st st' : Sto} {i d l : Nat} {rs : List (Str × Str)} (H : Hdr st i d l rs) (e : SExt st st') : Hdr st' i d l rs := ⟨e _ _ H.inst, e _ _ H.ns, e _ _ H.list, H.keys, H.small⟩
noncomputable def getP (rs : List (Str × Str)) (y : Str) : Option Str := match rs with
 | [] => none
 | (k, v) :: rs => if Txt.lower k == y then some v else getP rs y
noncomputable def optS : Option Str → PV
 | some v => .str v
 | none => .none
noncomputable abbrev φge : Scope := scopeOf (sAt HB 8)
noncomputable abbrev GeF : Stmt := sAt (bodyOf (sAt HB 8)) 1
theorem get_loop {C : Cx} (px : Px C) {n : Nat} {i d l : Nat} {y : Str} {p : PV} {rs : List (Str × Str)} {st : Sto} (H : Hdr st i d l rs) : ∀ (m k : Nat), k + m = rs.length →
  ∃ lo', SubL [("default", p)] lo' ∧ Fo C n φge [("name", .str y), ("default", p)] (fT GeF) (bOf GeF) (ListIt l) k st (match getP (rs.drop k) y with | some v => .ret (.str v) | none => .next) lo' st
 | 0, k, hk => by
  rw [List.drop_eq_nil_of_le (by omega)]
  exact ⟨[("name", .str y), ("default", p)], ⟨rfl, trivial⟩, Fo.done ⟨_, H.list, by rw [List.getElem?_eq_none (by rw [hpv_len]; omega)]⟩⟩
 | m + 1, k, hk => by
  have hkl : k < rs.length := by omega
  have hp : rs[k]? = some rs[k] := List.getElem?_eq_getElem hkl
  have hko := H.keys _ (List.getElem_mem hkl)
  rw [List.drop_eq_getElem_cons hkl]
  generalize rs[k] = r at hp hko
  obtain ⟨kk, v⟩ := r
  have hit : ListIt l k st (some (.tup [.str kk, .str v])) := ⟨_, H.list, (hpv_at hp).symm⟩
  have heq : Op2 C n (compareOp .Eq) (.str (Txt.lower kk)) (.str y) st (.bool (Txt.lower kk == y)) st := O.eqs
  have hlow : Cl C n (.builtin "str.lower") [.str kk] st (.str (Txt.lower kk)) st := _root_.Mine.C.lower hko.fit
  have hasg : As C n φge [("name", .str y), ("default", p)] (fT GeF) (.tup [.str kk, .str v]) st [("v", .str v), ("k", .str kk), ("name", .str y), ("default", p)] st := AsL.as (AsL.tup (AoL.cons rfl (AoL.cons rfl AoL.nil)))
  unfold getP
  cases hc : Txt.lower kk == y with
  | true =>
   rw [hc] at heq
   simp only [if_true]
   refine ⟨[("v", .str v), ("k", .str kk), ("name", .str y), ("default", p)], ⟨rfl, trivial⟩, Fo.ret hit hasg ?_⟩
   apply Ex.stop
   ·apply Ex1.if_t
    ·apply Tr.cmp
     ·walk_at "ev"
     ·walk_at "ev"
     ·exact heq
     ·with_unfolding_all rfl
    ·apply Ex.stop
     ·walk_at "st"
     ·intro h; cases h
   ·intro h; cases h
  | false =>
   rw [hc] at heq
   simp only [Bool.false_eq_true, if_false]
   obtain ⟨lo', h1, h2⟩ := get_loop px (n := n) (y := y) (p := p) H m (k + 1) (by omega)
   refine ⟨lo', h1, Fo.turn (lo2 := [("name", .str y), ("default", p)]) hit hasg ?_ h2⟩
   refine Ex.to (lo1 := [("v", .str v), ("k", .str kk), ("name", .str y), ("default", p)]) ?_ ⟨rfl, rfl, trivial⟩
   apply Ex.cons
   ·apply Ex1.if_f
    ·apply Tr.cmp
     ·walk_at "ev"
     ·walk_at "ev"
     ·exact heq
     ·with_unfolding_all rfl
    ·exact Ex.nil
   exact Ex.nil
theorem sp_get {C : Cx} (px : Px C) {n : Nat} {i d l : Nat} {x : Str} {rs : List (Str × Str)} {st : Sto} (H : Hdr st i d l rs) (hx : KOk x) : ClK C (n + 2) (.ref 167) [.ref i, .str x] [] [] st (optS (getP rs (Txt.lower x))) st := by
 have hlow : Cl C (n + 1) (.builtin "str.lower") [.str x] st (.str (Txt.lower x)) st := _root_.Mine.C.lower hx.fit
 have hcv := sp_conv px (n := n) (i := i) (b := true) (st := st) hx.clean hx.size
 obtain ⟨lo1, hs1, hf⟩ := get_loop px (n := n + 1) (y := Txt.lower x) (p := .none) H rs.length 0 (by omega)
 rw [List.drop_zero] at hf
 have hit : ItrE C (n + 1) φge [("name", .str (Txt.lower x)), ("self", .ref i), ("name", .str x), ("default", .none)] (fI GeF) st (ListIt l) st :=
  ItrE.of (Ev.hdrs px (Ev.loc rfl rfl (by decide)) H.inst H.ns rfl) (Itr.list H.list)
 have hfor : Ex1 C (n + 1) φge [("name", .str (Txt.lower x)), ("self", .ref i), ("name", .str x), ("default", .none)] GeF st (match getP rs (Txt.lower x) with | some v => .ret (.str v) | none => .next) lo1 st :=
  Ex1.forE hit (hf.pre (SubL.ok ⟨rfl, rfl, trivial⟩)) (by intro _ _; rfl)
 have hasg : Ex1 C (n + 1) φge [("self", .ref i), ("name", .str x), ("default", .none)] (sAt (bodyOf (sAt HB 8)) 0) st .next [("name", .str (Txt.lower x)), ("self", .ref i), ("name", .str x), ("default", .none)] st := by
  apply Ex1.asg (p := .str (Txt.lower x))
  ·apply Ev.methH px (st1 := st) (st2 := st) (st3 := st) (ks := ["name"]) (qs := [.bool true]) (ps := [.str (Txt.lower x)]) (i := i) (d := d) (f := 119)
   ·exact Ev.loc rfl rfl (by decide)
   ·exact H.inst
   ·exact H.ns
   ·rfl
   ·exact hd_conv _
   ·kernel_rfl
   ·kernel_rfl
   ·apply EvL.cons
    ·walk_at "ev"
    ·walk_at "evl"
    ·intro _; rfl
   ·exact KwL.cons Ev.cbool KwL.nil
   ·exact hcv
  ·exact As.name (.inl rfl)
 have body : ∃ lo', Ex C (n + 1) φge [("self", .ref i), ("name", .str x), ("default", .none)] (bodyOf (sAt HB 8)) st (.ret (optS (getP rs (Txt.lower x)))) lo' st := by
  cases hg : getP rs (Txt.lower x) with
  | some v =>
   rw [hg] at hfor
   exact ⟨_, Ex.cons hasg (Ex.stop hfor (by intro h; cases h))⟩
  | none =>
   rw [hg] at hfor
   refine ⟨lo1, Ex.cons hasg (Ex.cons hfor (Ex.stop ?_ (by intro h; cases h)))⟩
   exact Ex1.ret (Ev.loc (hs1.ok _ _ rfl) rfl (by decide))
 obtain ⟨lo', h⟩ := body
 refine ClK.fn (names := ["self", "name", "default"]) (rs := [.none]) (body := bodyOf (sAt HB 8)) (px.K 167 _ rfl) rfl rfl rfl (codeRec_of px.K rfl) rfl rfl ?_ ?_ ?_ h rfl ?_
 ·intro s ρ vs us H hv hu
  obtain ⟨v1, v2, rfl⟩ := len2 hv
  obtain rfl := List.length_eq_zero_iff.mp hu
  exact ⟨[.none], .one .none, BindsTo.of_defaults rfl (H.old _ _ (px.K 160 _ rfl)) rfl rfl rfl⟩
 ·decide
 ·decide +kernel
 ·decide
end
section
noncomputable abbrev φit : Scope := scopeOf (sAt HB 11)
noncomputable abbrev φin : Scope := scopeOf (sAt HB 0)
theorem sp_items {C : Cx} (px : Px C) {n : Nat} {i d l : Nat} {rs : List (Str × Str)} {st : Sto} (H : Hdr st i d l rs) : ClK C (n + 1) (.ref 184) [.ref i] [] [] st (.ref st.length) (st ++ [.list (hpv rs)]) := by
 have body : Ex C n φit [("self", .ref i)] (bodyOf (sAt HB 11)) st (.ret (.ref st.length)) [("self", .ref i)] (st ++ [.list (hpv rs)]) := by
  apply Ex.stop
  ·apply Ex1.ret
   exact Ev.slice_all (Ev.hdrs px (Ev.loc rfl rfl (by decide)) H.inst H.ns rfl) H.list (by rw [hpv_len]; have := H.small; omega)
  ·intro h; cases h
 refine ClK.fn (names := ["self"]) (rs := []) (body := bodyOf (sAt HB 11)) (px.K 184 _ rfl) rfl rfl rfl (codeRec_of px.K rfl) rfl rfl ?_ ?_ ?_ body rfl ?_
 ·intro s ρ vs us H hv hu
  obtain ⟨v1, rfl⟩ := len1 hv
  obtain rfl := List.length_eq_zero_iff.mp hu
  exact ⟨[], .nil, BindsTo.of_eq rfl⟩
 ·decide
 ·decide +kernel
 ·decide
end
section
theorem hd_setattr (P : Params) : findIn (hd.heap_39 P) (.ref 220) "__setattr__" = some (some (.builtin "object.__setattr__")) := by kernel_rfl
theorem hd_over (P : Params) : plainOver (hd.heap_39 P) 220 = true := by kernel_rfl
theorem hd_taker (P : Params) : takerIn (hd.heap_39 P) 220 (Str.ofString "_headers") = some none := by kernel_rfl
section
variable {C : Cx} {n : Nat} {φ : Scope} {lo lo1 lo2 lo3 : Loc} {st st1 st2 st3 st4 : Sto}
theorem As.setHdr (px : Px C) {o : Expr} {pos : Pos} {i d : Nat} {p : PV} (h1 : Ev C n φ lo o st (.ref i) st1) (hi : st1[i]? = some (.inst 220 d)) (hdd : st1[d]? = some (.dict [])) :
  As C n φ lo (.Attribute o (Str.ofString "_headers") pos) p st lo (st1.set d (.ns [(Str.ofString "_headers", p)])) := fun A s ρ env v hA H F R => by
 rw [arm_assign_Attribute]
 refine wpAny_bind (wpAny_holding (noE (h1 A s ρ env hA H F) fun a s1 ⟨ρ1, H1, G1, R1⟩ => ?_))
 refine wpAny_bind (wpAny_standAt (wpAny_bind (wpAny_holding ?_)))
 (replace R1 := R1.inv; obtain ⟨a, rfl, ha⟩ := R1)
 have Rv := R.go0 G1
 obtain ⟨b, hb, hob⟩ := H1.idx' hi
 rw [ha] at hb; cases hb
 obtain ⟨dx, e1, e2⟩ := hob
 obtain ⟨b, hb, kvs, ⟨od, es, ep, ho, hex, hdat, hko, hpr, hnd⟩, hk1, hk2⟩ := H1.idx' hdd
 rw [e1] at hb; cases hb
 have hkv : kvs = [] := by cases kvs with | nil => rfl | cons _ _ => cases hk1
 subst hkv
 have hes : es.toList = [] := by cases q : es.toList with | nil => rfl | cons _ _ => rw [q] at hpr; cases hpr
 have hes : es = #[] := by simpa using hes
 subst hes
 have I : InstAt s1.heap a { cls := .ref 220, dict := some dx } 220 (some od) := ⟨e2, rfl, rfl, ho⟩
 refine set_plain (px.now H1) I (hd_setattr _) ?_
 have H2 := H1.tok (s1.toks + 1)
 refine osa_open (s := { s1 with toks := s1.toks + 1 }) (px.now H2) (I : InstAt ({ s1 with toks := s1.toks + 1 } : Shared).heap a { cls := .ref 220, dict := some dx } 220 (some od)) (hd_over _) (hd_taker _) fun bb => ?_
 dsimp only
 obtain ⟨cd, hc, hdc⟩ := hd_cls C.w.params
 refine wpAny_bind (wpAny_pure (wpAny_bind (wpAny_bind (wpAny_loadPart e2 (wpAny_bind ((looks_clsIn (px.now H2) hc).here ?_))))))
 rw [hdc]
 refine wpAny_pure (a := some dx) (wpAny_bind (wpAny_pure (wpAny_bind ?_)))
 unfold nsSet
 refine wpAny_bind (wpAny_bind (wpAny_askSetting (wpAny_pure (wpAny_bind (wpAny_mkText (wpAny_bind (wpAny_loadPart (show _ = some od from ho) ?_)))))))
 obtain ⟨oc, odi, oda, osl⟩ := od
 dsimp only at hdat
 subst hdat
 dsimp only
 rw [if_neg (by decide)]
 generalize (if (Str.ofString "_headers").cps.isEmpty = true then 0 else reduceHash ((model C.prog C.w).w.params.strHash (Str.ofString "_headers").cps)) = hh
 have hput : Obj.putName (Str.ofString "_headers") hh (.str (Str.ofString "_headers") (s1.toks + 1)) v ⟨oc, odi, .dict #[] ep, osl⟩ = ⟨oc, odi, .dict #[⟨hh, .str (Str.ofString "_headers") (s1.toks + 1), v⟩] (ep + 1), osl⟩ := rfl
 have hfin := Heap.get?_update_self (h := s1.heap) (a := dx) (Obj.putName (Str.ofString "_headers") hh (.str (Str.ofString "_headers") (s1.toks + 1)) v) ho (by rw [hput]; rfl)
 rw [hput] at hfin
 have hstr : StrKeys #[(⟨hh, .str (Str.ofString "_headers") (s1.toks + 1), v⟩ : DictEntry)] := by
  intro e he
  have : e = ⟨hh, .str (Str.ofString "_headers") (s1.toks + 1), v⟩ := by simpa using he
  subst this
  exact ⟨_, _, rfl⟩
 have hfind : ∀ x, nsFind #[(⟨hh, .str (Str.ofString "_headers") (s1.toks + 1), v⟩ : DictEntry)] x = if x = Str.ofString "_headers" then some v else none := by
  intro x
  unfold nsFind findBy
  by_cases hx : x = Str.ofString "_headers"
  ·subst hx; simp [Value.isStr]
  ·have hx' : ¬ (Str.ofString "_headers" = x) := fun q => hx q.symm
   simp [Value.isStr, hx, hx']
 have U := H1.upd (ob := .ns [(Str.ofString "_headers", p)]) (h' := s1.heap.update dx (Obj.putName (Str.ofString "_headers") hh (.str (Str.ofString "_headers") (s1.toks + 1)) v)) (s1.toks + 1 + 1) e1 (Heap.SameBut.update ..) (fun G => by
  refine ⟨_, ⟨_, _, _, hfin, rfl, hstr, hfind⟩, ⟨fun x pv hl => ?_, fun x hl => ?_⟩⟩
  ·rw [List.lookup_cons] at hl
   cases hb : x == Str.ofString "_headers" with
   | true =>
    rw [hb] at hl; cases hl
    exact ⟨v, if_pos (by simpa using hb), Rv.go0 G⟩
   | false => rw [hb] at hl; simp at hl
  ·rw [List.lookup_cons] at hl
   cases hb : x == Str.ofString "_headers" with
   | true => rw [hb] at hl; cases hl
   | false => exact if_neg (by simpa using hb))
 obtain ⟨U1, U2⟩ := U
 refine wpAny_updatePart (show _ = some (⟨oc, odi, .dict #[] ep, osl⟩ : Obj) from ho) ?_
 refine wpAny_bind (wpAny_lookBehind (show Heap.get? (s1.heap.update dx _) dx = some _ from hfin) (pastItsLine_dict (by show 1 ≤ sizeLine + 1; omega)) ?_)
 refine wpAny_pure ?_
 refine wpAny_release ?_
 exact ⟨ρ1, U1, G1.nil.trans U2.nil, (F.go0 G1).go0 U2⟩
theorem sp_init (px : Px C) {i d : Nat} (hi : st[i]? = some (.inst 220 d)) (hdd : st[d]? = some (.dict [])) :
  ClKc C (n + 1) (.ref 112) [.ref i] [] [] st .none ((st ++ [Ob.list []]).set d (.ns [(Str.ofString "_headers", .ref st.length)])) := by
 have hdl : d < st.length := (List.getElem?_eq_some_iff.mp hdd).1
 have g1 : (st ++ [Ob.list []])[st.length]? = some (.list []) := gl
 have g2 : ((st ++ [Ob.list []]).set d (.ns [(Str.ofString "_headers", .ref st.length)]))[st.length]? = some (.list []) := gs_ne (by omega) g1
 have hty : Cl C n (.type "type") [.ref st.length] (st ++ [Ob.list []]) (.sta (.type "list")) (st ++ [Ob.list []]) := _root_.Mine.C.type_of (TyP.list g1) (by decide)
 have his : Op2 C n (compareOp .IsNot) (.sta (.type "list")) (.sta (.type "list")) (st ++ [Ob.list []]) (.bool false) (st ++ [Ob.list []]) := O.isNot_type
 have hnn : Op2 C n (compareOp .IsNot) .none .none st (.bool false) st := O.isNotNone'
 have body : ∃ lo', Ex C n φin [("self", .ref i), ("headers", .none)] (bodyOf (sAt HB 0)) st .next lo' ((st ++ [Ob.list []]).set d (.ns [(Str.ofString "_headers", .ref st.length)])) := by
  apply Exists.intro
  apply Ex.cons
  ·apply Ex1.asg (p := .ref st.length)
   ·apply Ev.if_f
    ·apply Tr.cmp
     ·walk_at "ev"
     ·walk_at "ev"
     ·exact hnn
     ·with_unfolding_all rfl
    ·exact Ev.list EvL.nil (by decide)
   ·exact As.name (.inl rfl)
  apply Ex.cons
  ·apply Ex1.if_f
   ·apply Tr.cmp
    ·apply Ev.callt
     ·walk_at "ev"
     ·walk_at "evl"
     ·exact hty
     ·intro _; rfl
     ·intro _; rfl
    ·walk_at "ev"
    ·exact his
    ·with_unfolding_all rfl
   ·exact Ex.nil
  apply Ex.cons
  ·apply Ex1.asg (p := .ref st.length)
   ·exact Ev.loc rfl rfl (by decide)
   ·exact As.setHdr px (Ev.loc rfl rfl (by decide)) (ga hi) (ga hdd)
  apply Ex.cons
  ·apply Ex1.if_t
   ·exact Tr.val Ev.cbool T.bool
   ·apply Ex.cons
    ·exact Ex1.for (Ev.loc rfl rfl (by decide)) (Itr.list g2) (Fo.done ⟨_, g2, rfl⟩)
    exact Ex.nil
  exact Ex.nil
 obtain ⟨lo', h⟩ := body
 refine ClKc.fn (names := ["self", "headers"]) (rs := [.none]) (body := bodyOf (sAt HB 0)) (px.K 112 _ rfl) rfl rfl rfl (codeRec_of px.K rfl) rfl rfl ?_ ?_ ?_ h rfl ?_
 ·intro s ρ vs us H hv hu
  obtain ⟨v1, rfl⟩ := len1 hv
  obtain rfl := List.length_eq_zero_iff.mp hu
  exact ⟨[.none], .one .none, BindsTo.of_defaults rfl (H.old _ _ (px.K 105 _ rfl)) rfl rfl rfl⟩
 ·decide
 ·decide +kernel
 ·decide
end
end
section
theorem hd_keep (P : Params) : keepIn (hd.heap_39 P) (.ref 220) = true := by kernel_rfl
theorem hd_init_fn (P : Params) : typeIn (hd.heap_39 P) (.ref 112) = some (.type "function") := by kernel_rfl
section
variable {C : Cx} {n : Nat} {φ : Scope} {lo lo1 lo2 lo3 : Loc} {st st1 st2 st3 st4 : Sto}
noncomputable abbrev stH (st : Sto) : Sto := (((st ++ [Ob.dict []]) ++ [Ob.inst 220 st.length]) ++ [Ob.list []]).set st.length (.ns [(Str.ofString "_headers", .ref (st.length + 2))])
theorem stH_ext : SExt st (stH st) := (((SExt.app _ _).trans (SExt.app _ _)).trans (SExt.app _ _)).setNew (Nat.le_refl _)
theorem stH_hdr : Hdr (stH st) (st.length + 1) st.length (st.length + 2) [] := by
 refine ⟨?_, ?_, ?_, by simp, by simp⟩
 ·have e : (st ++ [Ob.dict []]).length = st.length + 1 := by simp
  refine gs_ne (by omega) (ga ?_)
  rw [← e]; exact gl
 ·exact gs_self (o := .dict []) (ga (ga gl))
 ·have e : ((st ++ [Ob.dict []]) ++ [Ob.inst 220 st.length]).length = st.length + 2 := by simp
  refine gs_ne (by omega) ?_
  rw [← e]; exact gl
theorem Ev.newHdr (px : Px C) {func : Expr} {pos : Pos} (h1 : Ev C (n + 2) φ lo func st (.sta (.ref 220)) st)
  (he : ∀ env, eval (.Call func [] [] pos) env = (do callWith pos (← eval func env) [] (backTo pos (starEach [] env)) (backToKw pos (keywordEach [] env))) := by intro _; rfl)
  (hplain : ∀ env, ((backTo pos (starEach [] env)).any (·.1) || (backToKw pos (keywordEach [] env)).any (·.1.isNone)) = false := by intro _; rfl) :
  Ev C (n + 2) φ lo (.Call func [] [] pos) st (.ref (st.length + 1)) (stH st) := fun A s ρ env hA H F => by
 refine callEval (noE (h1 A s ρ env hA H F) fun v s1 ⟨ρ1, H1, G1, R1⟩ => ?_) (he env)
 (replace R1 := R1.inv; first | obtain rfl := R1 | obtain ⟨_, rfl⟩ := R1)
 refine callWith_KW0 px.K (hd_keep _) rfl (kwAll_nil ⟨px.now H1, ?_⟩) (hplain env)
 show wpAny _ A (call (.ref 220) [] []) _ _ s1
 obtain ⟨HD, GD⟩ := H1.alloc (o := emptyDict) (ob := .dict []) s1.toks (fun h' G e => ⟨[], by
   obtain ⟨o, es, ep, ho, r⟩ := Heap.DictOf.new (knd := strKind C.prog C.w) s1.heap
   rw [Heap.get?_push_size _ rfl] at ho; cases ho
   exact ⟨_, es, ep, e, r⟩, rfl, .nil⟩)
 have hdi : (ρ1 ++ [s1.heap.objs.size])[st.length]? = some s1.heap.objs.size := by rw [← H1.len]; simp
 obtain ⟨HI, GI⟩ := HD.alloc (o := instObj 220 s1.heap.objs.size) (ob := .inst 220 st.length) s1.toks (fun h' G e => ⟨_, G.idx hdi, e⟩)
 have ei : (s1.heap.push emptyDict).objs.size = s1.heap.objs.size + 1 := Heap.size_push ..
 have GG := GD.trans GI
 have hl1 : (st ++ [Ob.dict []]).length = st.length + 1 := by simp
 have hia : (ρ1 ++ [s1.heap.objs.size] ++ [(s1.heap.push emptyDict).objs.size])[st.length + 1]? = some (s1.heap.objs.size + 1) := by
  have hl : (ρ1 ++ [s1.heap.objs.size]).length = st.length + 1 := by rw [List.length_append, H1.len]; rfl
  rw [← hl, ← ei]; simp
 refine wpAny_call ?_
 obtain ⟨hh, g, dr, t, os⟩ := s1
 refine make_core (makes_of (px.now H1) (hd_makes _)) (looks_findIn (px.now H1) (hd_init _)) (fun self => bind_fn (px.now H1) self (hd_init_fn _)) (.inl rfl) ?_
 have hin := sp_init px (n := n) (i := st.length + 1) (d := st.length) (st := (st ++ [Ob.dict []]) ++ [Ob.inst 220 st.length]) (by rw [← hl1]; exact gl) (ga gl)
 have el : ((st ++ [Ob.dict []]) ++ [Ob.inst 220 st.length]).length = st.length + 2 := by simp
 rw [el] at hin
 have hAu : Lv (n + 1) (A.under (.builtin "type.__call__" ⟨[.ref 220], []⟩)) := ⟨hA.1, by have := hA.2.1; show A.depth + 1 + (n + 1) ≤ 900; omega, by have := hA.2.2; show A.units + 1 + 10 * (n + 1) ≤ 9000; omega⟩
 refine codeAny_mono (hin _ _ _ [.ref (hh.objs.size + 1)] [] hAu HI (.one (.ref _ _ hia)) .nil) fun r s2 hx => ?_
 obtain ⟨v, e, ρ2, H2, G2, R2⟩ := hx
 subst e
 (replace R2 := R2.inv; first | obtain rfl := R2 | obtain ⟨_, rfl⟩ := R2)
 exact ⟨rfl, ρ2, H2, (G1.trans GG).trans G2, .ref _ _ (G2.idx hia)⟩
end
end
section
theorem setItemAll {prog : Program} {w : World} {A : Around} {E : Value → Shared → Prop} {s : Shared} {l sl y : Addr} {vs ws : List Value} {m m2 : Nat} {Q : Unit → Shared → Prop}
  (ho : s.heap.get? l = some (listO vs m)) (hy : s.heap.get? y = some (listO ws m2)) (hne : l ≠ y) (hs : s.heap.IsSliceOf sl .none .none .none) (hz : vs.length + ws.length ≤ 2 ^ 20)
  (hQ : ∀ f : Array Value → Array Value, f vs.toArray = ws.toArray → Q () { s with heap := s.heap.update l (Obj.mapSeq f) }) :
  wpAny (model prog w) A (setItem (.ref l) (.ref sl) (.ref y)) Q E s := by
 have hT : s.TypeIs (.ref l) "list" := ⟨_, ho, rfl⟩
 have hTy : s.TypeIs (.ref y) "list" := ⟨_, hy, rfl⟩
 obtain ⟨os, hos, hcs, hds⟩ := id hs
 have hTs : s.TypeIs (.ref sl) "slice" := ⟨os, hos, hcs⟩
 unfold PySem.setItem
 try with_reducible refine wpAny_holding ?_
 first | refine wpAny_bind (wpAny_pure ?_) | skip
 refine wpAny_bind (wpAny_sequenceKey hT (by decide) ?_)
 refine wpAny_bind (wpAny_callSpecial?_slot (name := Str.ofString "__setitem__") hT slot_list_setitem (wpAny_call_entry slot_list_setitem hT entry_list_setitem ?_ (args_list_setitem _ _ _)))
 show wpAny _ _ (Builtin.List.listSubscript? (.ref sl) >>= _) _ _ s
 refine wpAny_bind ?_
 unfold Builtin.List.listSubscript?
 refine wpAny_bind (wpAny_specialOf hTs slice_no_index ?_)
 simp only [Option.isNone_none, if_true]
 refine wpAny_pure ?_
 show wpAny _ _ (typeOf (.ref sl) >>= _) _ _ s
 refine wpAny_bind (wpAny_typeOf hTs ?_)
 rw [if_neg (by decide)]
 rw [listSliceParts_eq]
 refine wpAny_bind (wpAny_bind (wpAny_field hos hds (x := Value.none) rfl (wpAny_bind (wpAny_listPart .none ?_))))
 rw [if_neg (show ¬ ((rawPart none == rawInt 0) = true) from Bool.false_ne_true)]
 refine wpAny_bind (wpAny_field hos hds (x := Value.none) rfl (wpAny_bind (wpAny_listPart .none ?_)))
 refine wpAny_bind (wpAny_field hos hds (x := Value.none) rfl (wpAny_bind (wpAny_listPart .none (wpAny_pure ?_))))
 dsimp only
 rw [if_neg (show ¬ (Builtin.List.listSameRef (.ref l) (.ref y) = true) by simp [Builtin.List.listSameRef, hne])]
 unfold Builtin.List.listAllItems
 refine wpAny_bind (wpAny_bind (wpAny_typeOf hTy ?_))
 rw [if_pos (by decide)]
 unfold Builtin.List.listItems
 refine wpAny_bind (wpAny_seqItems hy rfl (wpAny_pure ?_))
 refine wpAny_bind (wpAny_bind (wpAny_seqItems ho rfl (wpAny_pure ?_)))
 refine wpAny_bind (wpAny_of_eq (sliceIndices_raw none none none vs.toArray.size (by simp)) ?_)
 have hb : sliceBounds none none none vs.toArray.size = (0, (vs.toArray.size : Int), 1) := rfl
 rw [hb]
 dsimp only
 rw [if_pos (by decide)]
 refine wpAny_bind (wpAny_rule ?_)
 rw [if_neg (by simp [Builtin.List.listTooLong, sizeLine_eq]; omega)]
 have e0 : vs.toArray.extract 0 (0 : Int).toNat ++ ws.toArray ++ vs.toArray.extract (max (0 : Int) (vs.toArray.size : Int)).toNat vs.toArray.size = ws.toArray := by
  have : (max (0 : Int) (vs.toArray.size : Int)).toNat = vs.toArray.size := by simp
  rw [this]; simp
 have e : (fun xs : Array Value => xs.extract 0 (0 : Int).toNat ++ ws.toArray ++ xs.extract (max (0 : Int) (vs.toArray.size : Int)).toNat xs.size) vs.toArray = ws.toArray := e0
 refine wpAny_bind (m := Builtin.List.listUpdate (.ref l) _) (wpAny_updateSeq ho rfl ?_ (by simp [sizeLine_eq]; omega) (by show (vs.toArray.extract 0 (0 : Int).toNat ++ ws.toArray ++ vs.toArray.extract (max (0 : Int) (vs.toArray.size : Int)).toNat vs.toArray.size).size ≤ _; rw [e0]; simp [sizeLine_eq]; omega))
 refine wpAny_bind (wpAny_letGo ?_)
 exact wpAny_pure ⟨_, rfl, wpAny_pure (hQ _ e)⟩
section
variable {C : Cx} {n : Nat} {φ : Scope} {lo lo1 lo2 lo3 : Loc} {st st1 st2 st3 st4 : Sto}
theorem As.sliceAll {o : Expr} {sp pos : Pos} {i j : Nat} {xs ys : List PV} (h1 : Ev C n φ lo o st (.ref i) st1) (hi : st1[i]? = some (.list xs)) (hj : st1[j]? = some (.list ys)) (hne : i ≠ j) (hz : xs.length + ys.length ≤ 2 ^ 20) :
  As C n φ lo (.Subscript o (.Slice none none none sp) pos) (.ref j) st lo (st1.set i (.list ys)) := fun A s ρ env v hA H F R => by
 rw [arm_assign_Subscript]
 refine wpAny_bind (wpAny_holding (noE (h1 A s ρ env hA H F) fun a s1 ⟨ρ1, H1, G1, R1⟩ => ?_))
 have Rv := R.go0 G1
 (replace R1 := R1.inv; obtain ⟨a, rfl, ha⟩ := R1)
 (replace Rv := Rv.inv; obtain ⟨b, rfl, hb⟩ := Rv)
 obtain ⟨vs, m, ho, rl, hL, hlen⟩ := isList_of H1 ha hi
 obtain ⟨ws, m2, ho2, rl2, hL2, hlen2⟩ := isList_of H1 hb hj
 refine wpAny_bind (wpAny_holding (wpAny_Slice (wpAny_pure (wpAny_pure (wpAny_pure ?_)))))
 refine wpAny_bind (wpAny_standAt (wpAny_bind (wpAny_holding ?_)))
 obtain ⟨H2, G2⟩ := H1.push { cls := .type "slice", data := .fields #[.none, .none, .none] } s1.toks
 have hab : a ≠ b := fun q => hne (nodup_idx H1.nodup ha (q ▸ hb))
 refine setItemAll (vs := vs) (ws := ws) (m := m) (m2 := m2) (Heap.get?_push_of_some _ ho) (Heap.get?_push_of_some _ ho2) hab (Heap.IsSliceOf.new ..) (by omega) fun f e => ?_
 obtain ⟨H3, G3⟩ := updList (t := s1.toks) (ys := ys) H2 ha (Heap.get?_push_of_some _ ho) e (rl2.go0 G2)
 refine wpAny_release ?_
 exact ⟨ρ1, H3, ((G1.trans G2).trans G3).nil, ((F.go0 G1).go0 G2).go0 G3⟩
end
noncomputable abbrev φde : Scope := scopeOf (sAt HB 4)
noncomputable abbrev DeS : Stmt := sAt (bodyOf (sAt HB 4)) 1
noncomputable def delP (rs : List (Str × Str)) (y : Str) : List (Str × Str) := rs.filter fun r => Txt.lower r.1 != y
noncomputable def delF (y : Str) : PV → Option PV
 | .tup [.str k, .str v] => if Txt.lower k != y then some (.tup [.str k, .str v]) else none
 | _ => none
theorem delF_map (y : Str) : ∀ rs : List (Str × Str), (hpv rs).filterMap (delF y) = hpv (delP rs y)
 | [] => rfl
 | (k, v) :: rs => by
  have ih := delF_map y rs
  unfold hpv delP at *
  rw [List.map_cons, List.filterMap_cons, List.filter_cons]
  have e : delF y (.tup [.str (k, v).1, .str (k, v).2]) = if Txt.lower k != y then some (PV.tup [.str k, .str v]) else none := rfl
  rw [e]
  cases h : Txt.lower k != y with
  | true => simp only [if_true, List.map_cons, ih]
  | false => simp only [Bool.false_eq_true, if_false, ih]
theorem sp_del {C : Cx} (px : Px C) {n : Nat} {i d l : Nat} {x : Str} {rs : List (Str × Str)} {st : Sto} (H : Hdr st i d l rs) (hx : KOk x) :
  ∃ S, SExt st S ∧ Cl C (n + 2) (.ref 138) [.ref i, .str x] st .none (S.set l (.list (hpv (delP rs (Txt.lower x))))) := by
 have hlow : Cl C (n + 1) (.builtin "str.lower") [.str x] st (.str (Txt.lower x)) st := _root_.Mine.C.lower hx.fit
 have hcv := sp_conv px (n := n) (i := i) (b := true) (st := st) hx.clean hx.size
 have side : CompSide C φde [("name", .str (Txt.lower x)), ("self", .ref i), ("name", .str x)] [("name", .str (Txt.lower x))] (lcI (vOf DeS)) (lcS (vOf DeS)) :=
  ⟨⟨rfl, rfl, trivial⟩, by decide, rfl, by decide, by intro _ _; rfl⟩
 obtain ⟨S, f1, f2, f3⟩ := Ev.compE (C := C) (n := n + 1) (φ := φde) (lo := [("name", .str (Txt.lower x)), ("self", .ref i), ("name", .str x)]) (e := vOf DeS) (ps := hpv rs) (delF (Txt.lower x))
  (ItrE.of (Ev.hdrs px (Ev.loc rfl rfl (by decide)) H.inst H.ns rfl) (Itr.list H.list)) side (listIt_ext H.list)
  (fun p hp S1 e1 => by
   obtain ⟨r, hr, rfl⟩ := List.mem_map.mp hp
   obtain ⟨k, v⟩ := r
   have hko := H.keys _ hr
   have hl2 : Cl C (n + 1) (.builtin "str.lower") [.str k] S1 (.str (Txt.lower k)) S1 := _root_.Mine.C.lower hko.fit
   have hne : Op2 C (n + 1) (compareOp .NotEq) (.str (Txt.lower k)) (.str (Txt.lower x)) S1 (.bool (Txt.lower k != Txt.lower x)) S1 := O.nes
   show StepC C (n + 1) _ _ _ _ _ S1 (.tup [.str k, .str v]) (if Txt.lower k != Txt.lower x then some (.tup [.str k, .str v]) else none)
   have htr : TrL C (n + 1) (compScope (lcS (vOf DeS)) φde) [("kv", .tup [.str k, .str v]), ("name", .str (Txt.lower x))] (lcIfs (vOf DeS)) S1 (Txt.lower k != Txt.lower x) S1 := by
    apply TrL.one
    apply Tr.cmp
    ·apply Ev.meth_lower
     ·apply Ev.sub
      ·walk_at "ev"
      ·walk_at "ev"
      ·exact O.sub_tup (by decide) rfl (by simp) (by intro _ _; with_unfolding_all rfl)
     ·exact TyP.str
     ·exact EvL.nil
     ·exact hl2
     ·intro _; rfl
     ·intro _; rfl
     ·rfl
     ·intro _; rfl
    ·walk_at "ev"
    ·exact hne
    ·with_unfolding_all rfl
   cases h : Txt.lower k != Txt.lower x with
   | true =>
    rw [h] at htr
    exact StepC.some (lo1 := [("kv", .tup [.str k, .str v]), ("name", .str (Txt.lower x))]) (S1 := S1) (S2 := S1) (AsL.name rfl) ⟨rfl, trivial⟩ htr (Ev.loc rfl rfl (by decide))
   | false =>
    rw [h] at htr
    exact StepC.none (lo1 := [("kv", .tup [.str k, .str v]), ("name", .str (Txt.lower x))]) (S1 := S1) (AsL.name rfl) ⟨rfl, trivial⟩ htr)
  (by rw [hpv_len]; have := H.small; omega)
 rw [delF_map] at f2
 refine ⟨S, f1, ?_⟩
 have HS := H.ext f1
 have hll : l < st.length := (List.getElem?_eq_some_iff.mp H.list).1
 have hdel : (delP rs (Txt.lower x)).length ≤ rs.length := List.length_filter_le ..
 have body : ∃ lo', Ex C (n + 1) φde [("self", .ref i), ("name", .str x)] (bodyOf (sAt HB 4)) st .next lo' (S.set l (.list (hpv (delP rs (Txt.lower x))))) := by
  apply Exists.intro
  apply Ex.cons
  ·apply Ex1.asg (p := .str (Txt.lower x))
   ·apply Ev.methH px (st1 := st) (st2 := st) (st3 := st) (ks := ["name"]) (qs := [.bool true]) (ps := [.str (Txt.lower x)]) (i := i) (d := d) (f := 119)
    ·exact Ev.loc rfl rfl (by decide)
    ·exact H.inst
    ·exact H.ns
    ·rfl
    ·exact hd_conv _
    ·kernel_rfl
    ·kernel_rfl
    ·apply EvL.cons
     ·walk_at "ev"
     ·walk_at "evl"
     ·intro _; rfl
    ·exact KwL.cons Ev.cbool KwL.nil
    ·exact hcv
   ·exact As.name (.inr rfl)
  apply Ex.cons
  ·apply Ex1.asg (p := .ref st.length)
   ·exact f3
   ·exact As.sliceAll (Ev.hdrs px (Ev.loc rfl rfl (by decide)) HS.inst HS.ns rfl) HS.list f2 (by omega) (by rw [hpv_len, hpv_len]; have := H.small; omega)
  exact Ex.nil
 obtain ⟨lo', h⟩ := body
 refine Cl.fn (names := ["self", "name"]) (body := bodyOf (sAt HB 4)) (px.K 138 _ rfl) rfl rfl rfl (codeRec_of px.K rfl) rfl rfl ?_ ?_ ?_ h rfl ?_
 ·intro vs hv
  obtain ⟨v1, v2, rfl⟩ := len2 hv
  rfl
 ·decide
 ·decide +kernel
 ·decide
end
section
theorem hd_noSeq (P : Params) : noSeq (hd.heap_39 P) 220 = true := by kernel_rfl
theorem hd_fn133 (P : Params) : typeIn (hd.heap_39 P) (.ref 133) = some (.type "function") := by kernel_rfl
theorem hd_fn138 (P : Params) : typeIn (hd.heap_39 P) (.ref 138) = some (.type "function") := by kernel_rfl
theorem Hdr.ne1 {st : Sto} {i d l : Nat} {rs : List (Str × Str)} (H : Hdr st i d l rs) : i ≠ l := fun q => by
 have h1 := H.inst; have h2 := H.list
 rw [q, h2] at h1; cases h1
theorem Hdr.ne2 {st : Sto} {i d l : Nat} {rs : List (Str × Str)} (H : Hdr st i d l rs) : d ≠ l := fun q => by
 have h1 := H.ns; have h2 := H.list
 rw [q, h2] at h1; cases h1
theorem Hdr.setList {st : Sto} {i d l : Nat} {rs rs' : List (Str × Str)} (H : Hdr st i d l rs) (hk : ∀ r ∈ rs', KOk r.1) (hz : rs'.length ≤ 1000) : Hdr (st.set l (.list (hpv rs'))) i d l rs' :=
 ⟨gs_ne (Ne.symm H.ne1) H.inst, gs_ne (Ne.symm H.ne2) H.ns, gs_self H.list, hk, hz⟩
theorem delP_mem {rs : List (Str × Str)} {y : Str} {r : Str × Str} (h : r ∈ delP rs y) : r ∈ rs := (List.mem_filter.mp h).1
section
variable {C : Cx} {n : Nat} {φ : Scope} {lo lo1 lo2 lo3 : Loc} {st st1 st2 st3 st4 : Sto}
theorem Ex1.delH (px : Px C) {o e : Expr} {spos pos : Pos} {i d : Nat} {m : List (Str × PV)} {p : PV} (h1 : Ev C n φ lo o st (.ref i) st1) (h2 : Ev C n φ lo e st1 p st2) (hi : st2[i]? = some (.inst 220 d)) (hdd : st2[d]? = some (.ns m))
  (h3 : Cl C n (.ref 138) [.ref i, p] st2 .none st3) : Ex1 C n φ lo (.Delete [.Subscript o e spos] pos) st .next lo st3 := fun A s ρ env hA H F => by
 refine wpAny_Delete (wpAny_deleteEach_cons ?_)
 rw [arm_delete_Subscript]
 refine wpAny_bind (noE (h1 A s ρ env hA H F) fun v s1 ⟨ρ1, H1, G1, R1⟩ => ?_)
 refine wpAny_bind (wpAny_holding (noE (h2 A s1 ρ1 env hA H1 (F.go0 G1)) fun u s2 ⟨ρ2, H2, G2, R2⟩ => ?_))
 have R1' := R1.go0 G2
 (replace R1' := R1'.inv; obtain ⟨a, rfl, ha⟩ := R1')
 refine wpAny_bind (wpAny_standAt (wpAny_bind (wpAny_holding ?_)))
 obtain ⟨dx, od, es, ep, e1, I, e2, e3, e4, e5⟩ := inst_at H2 ha hi hdd
 unfold delItem sequenceKey
 refine wpAny_holding (wpAny_bind (wpAny_bind (I.type.here ?_)))
 refine wpAny_bind ((anyM_none (px.now H2) (hd_noSeq _)).here ?_)
 rw [if_pos (show (!false) = true from rfl)]
 refine wpAny_pure (wpAny_bind (special_fn (px.now H2) I (hd_delitem _) (hd_fn138 _) ?_))
 refine noE (h3 A s2 ρ2 [.ref a, u] hA H2 (.cons _ _ _ _ (.ref _ _ ha) (.one R2))) fun w s3 ⟨ρ3, H3, G3, R3⟩ => ?_
 refine wpAny_pure ?_
 refine wpAny_release ?_
 refine wpAny_deleteEach_nil ?_
 exact ⟨ρ3, H3, ((G1.trans G2).trans G3).nil, F.go0 ((G1.trans G2).trans G3), .next⟩
theorem O.setH (px : Px C) {i d : Nat} {m : List (Str × PV)} {p q : PV} (hi : st[i]? = some (.inst 220 d)) (hdd : st[d]? = some (.ns m)) (h3 : Cl C n (.ref 133) [.ref i, q, p] st .none st3) : Op3 C n (.ref i) q p st st3 := fun A s ρ a b c hA H R R' R'' => by
 (replace R := R.inv; obtain ⟨a, rfl, ha⟩ := R)
 obtain ⟨dx, od, es, ep, e1, I, e2, e3, e4, e5⟩ := inst_at H ha hi hdd
 unfold PySem.setItem sequenceKey
 refine wpAny_holding (wpAny_bind (wpAny_bind (I.type.here ?_)))
 refine wpAny_bind ((anyM_none (px.now H) (hd_noSeq _)).here ?_)
 rw [if_pos (show (!false) = true from rfl)]
 refine wpAny_pure (wpAny_bind (special_fn (px.now H) I (hd_setitem _) (hd_fn133 _) ?_))
 refine noE (h3 A s ρ [.ref a, b, c] hA H (.cons _ _ _ _ (.ref _ _ ha) (.cons _ _ _ _ R' (.one R'')))) fun w s3 ⟨ρ3, H3, G3, R3⟩ => ?_
 exact wpAny_pure ⟨ρ3, H3, G3⟩
end
noncomputable abbrev φse : Scope := scopeOf (sAt HB 3)
theorem sp_set {C : Cx} (px : Px C) {n : Nat} {i d l : Nat} {x v : Str} {rs : List (Str × Str)} {st : Sto} (H : Hdr st i d l rs) (hx : KOk x) (hcx : Clean x) (hzx : x.cps.size < 2 ^ 62) (hcv : Clean v) (hzv : v.cps.size < 2 ^ 62) :
  ∃ S, SExt st S ∧ Cl C (n + 3) (.ref 133) [.ref i, .str x, .str v] st .none (S.set l (.list (hpv (delP rs (Txt.lower x) ++ [(x, v)])))) := by
 obtain ⟨S, f1, f2⟩ := sp_del px (n := n) H hx
 refine ⟨S, f1, ?_⟩
 have HS := H.ext f1
 have hdel : (delP rs (Txt.lower x)).length ≤ rs.length := List.length_filter_le ..
 have HD := HS.setList (rs' := delP rs (Txt.lower x)) (fun r hr => H.keys r (delP_mem hr)) (by have := H.small; omega)
 generalize hT : S.set l (.list (hpv (delP rs (Txt.lower x)))) = T at f2 HD
 have hc1 := sp_conv px (n := n + 1) (i := i) (b := true) (st := T) hcx hzx
 have hc2 := sp_conv px (n := n + 1) (i := i) (b := false) (st := T) hcv hzv
 have happ : Cl C (n + 2) (.builtin "list.append") [.ref l, .tup [.str x, .str v]] T .none (S.set l (.list (hpv (delP rs (Txt.lower x) ++ [(x, v)])))) := by
  have := _root_.Mine.C.append (C := C) (n := n + 2) (p := .tup [.str x, .str v]) HD.list (by rw [hpv_len]; have := H.small; omega)
  rw [← hT, List.set_set] at this
  rw [← hT]
  have e : hpv (delP rs (Txt.lower x) ++ [(x, v)]) = hpv (delP rs (Txt.lower x)) ++ [.tup [.str x, .str v]] := by unfold hpv; rw [List.map_append]; rfl
  rw [e]; exact this
 have body : ∃ lo', Ex C (n + 2) φse [("self", .ref i), ("name", .str x), ("val", .str v)] (bodyOf (sAt HB 3)) st .next lo' (S.set l (.list (hpv (delP rs (Txt.lower x) ++ [(x, v)])))) := by
  apply Exists.intro
  apply Ex.cons
  ·exact Ex1.delH px (Ev.loc rfl rfl (by decide)) (Ev.loc rfl rfl (by decide)) H.inst H.ns f2
  apply Ex.cons
  ·apply Ex1.expr (p := .none)
   ·apply Ev.meth_append (p := .ref l) (ps := [.tup [.str x, .str v]]) (st1 := T) (st2 := T)
    ·exact Ev.hdrs px (Ev.loc rfl rfl (by decide)) HD.inst HD.ns rfl
    ·exact TyP.list HD.list
    ·apply EvL.cons
     ·apply Ev.tup
      ·apply EvL.cons
       ·apply Ev.methH px (st1 := T) (st2 := T) (st3 := T) (ks := ["name"]) (qs := [.bool true]) (ps := [.str x]) (i := i) (d := d) (f := 119)
        ·exact Ev.loc rfl rfl (by decide)
        ·exact HD.inst
        ·exact HD.ns
        ·rfl
        ·exact hd_conv _
        ·kernel_rfl
        ·kernel_rfl
        ·exact EvL.cons (Ev.loc rfl rfl (by decide)) EvL.nil
        ·exact KwL.cons Ev.cbool KwL.nil
        ·exact hc1
       ·apply EvL.cons
        ·apply Ev.methH px (st1 := T) (st2 := T) (st3 := T) (ks := ["name"]) (qs := [.bool false]) (ps := [.str v]) (i := i) (d := d) (f := 119)
         ·exact Ev.loc rfl rfl (by decide)
         ·exact HD.inst
         ·exact HD.ns
         ·rfl
         ·exact hd_conv _
         ·kernel_rfl
         ·kernel_rfl
         ·exact EvL.cons (Ev.loc rfl rfl (by decide)) EvL.nil
         ·exact KwL.cons Ev.cbool KwL.nil
         ·exact hc2
        ·exact EvL.nil
        ·intro _; rfl
       ·intro _; rfl
      ·simp [sizeLine_eq]
     ·exact EvL.nil
     ·intro _; rfl
    ·exact happ
    ·intro _; rfl
    ·intro _; rfl
    ·rfl
    ·intro _; rfl
  exact Ex.nil
 obtain ⟨lo', h⟩ := body
 refine Cl.fn (names := ["self", "name", "val"]) (body := bodyOf (sAt HB 3)) (px.K 133 _ rfl) rfl rfl rfl (codeRec_of px.K rfl) rfl rfl ?_ ?_ ?_ h rfl ?_
 ·intro vs hv
  obtain ⟨v1, v2, v3, rfl⟩ := len3 hv
  rfl
 ·decide
 ·decide +kernel
 ·decide
end
section
noncomputable def bitsD (m x : Nat) : List Nat := (List.range m).reverse.filter x.testBit
theorem mem_bitsD {m x p : Nat} : p ∈ bitsD m x ↔ p < m ∧ x.testBit p = true := by
 unfold bitsD; simp [List.mem_filter]
theorem bitsD_desc (m x : Nat) : (bitsD m x).Pairwise (· > ·) := by
 unfold bitsD
 refine List.Pairwise.filter _ ?_
 rw [List.pairwise_reverse]
 exact List.pairwise_lt_range
theorem desc_nodup {l : List Nat} (h : l.Pairwise (· > ·)) : l.Nodup := List.nodup_iff_pairwise_ne.mpr (h.imp fun h => Nat.ne_of_gt h)
theorem bitsD_nodup (m x : Nat) : (bitsD m x).Nodup := desc_nodup (bitsD_desc m x)
theorem bitsD_zero (m : Nat) : bitsD m 0 = [] := by
 unfold bitsD; simp
theorem bitsD_nil {m x : Nat} (hx : x < 2 ^ m) (h : bitsD m x = []) : x = 0 := by
 apply Nat.eq_of_testBit_eq
 intro i
 rw [Nat.zero_testBit]
 rcases Nat.lt_or_ge i m with hi | hi
 ·cases hb : x.testBit i with
  | false => rfl
  | true =>
   have : i ∈ bitsD m x := mem_bitsD.mpr ⟨hi, hb⟩
   rw [h] at this; cases this
 ·exact Nat.testBit_lt_two_pow (Nat.lt_of_lt_of_le hx (Nat.pow_le_pow_right (by decide) hi))
theorem testBit_flip (x p q : Nat) : (x ^^^ 2 ^ p).testBit q = if q = p then !x.testBit p else x.testBit q := by
 rw [Nat.testBit_xor, Nat.testBit_two_pow]
 by_cases h : q = p
 ·subst h; simp
 ·rw [if_neg h]; have : decide (p = q) = false := by simp; omega
  rw [this]; simp
theorem bitsD_on {m x p : Nat} (hp : p < m) (h : x.testBit p = false) : (bitsD m (x ^^^ 2 ^ p)).Perm (p :: bitsD m x) := by
 refine (List.perm_ext_iff_of_nodup (bitsD_nodup ..) (List.nodup_cons.mpr ⟨fun q => ?_, bitsD_nodup ..⟩)).mpr fun q => ?_
 ·rw [mem_bitsD, h] at q; cases q.2
 ·rw [List.mem_cons, mem_bitsD, mem_bitsD, testBit_flip]
  by_cases hq : q = p
  ·subst hq; simp [h, hp]
  ·simp [hq]
theorem bitsD_off {m x p : Nat} (hp : p < m) (h : x.testBit p = true) : (bitsD m (x ^^^ 2 ^ p)).Perm ((bitsD m x).erase p) := by
 refine (List.perm_ext_iff_of_nodup (bitsD_nodup ..) ((bitsD_nodup ..).erase _)).mpr fun q => ?_
 rw [(bitsD_nodup ..).mem_erase_iff, mem_bitsD, mem_bitsD, testBit_flip]
 by_cases hq : q = p
 ·subst hq; simp [h]
 ·simp [hq]
theorem flip_lt {m x p : Nat} (hx : x < 2 ^ m) (hp : p < m) : x ^^^ 2 ^ p < 2 ^ m := Nat.xor_lt_two_pow hx (Nat.pow_lt_pow_right (by decide) hp)
noncomputable def ng (p : Nat) : Int := -(p : Int)
theorem ng_inj {p q : Nat} (h : ng p = ng q) : p = q := by unfold ng at h; omega
structure Col (m : Nat) (xs : List Int) (x : Nat) : Prop where
 perm : xs.Perm ((bitsD m x).map ng)
 heap : HeapP ltInt (xs.map .int)
 lt : x < 2 ^ m
theorem ord_int : Ord SInt ltInt where
 asym := by
  rintro a b ⟨a, rfl⟩ ⟨b, rfl⟩ h
  have : a < b := by simpa [ltInt] using h
  simp only [ltInt, decide_eq_false_iff_not]; omega
 nt := by
  rintro a b c ⟨a, rfl⟩ ⟨b, rfl⟩ ⟨c, rfl⟩ h1 h2
  simp only [ltInt, decide_eq_false_iff_not] at h1 h2 ⊢; omega
 irr := by
  rintro a ⟨a, rfl⟩
  simp [ltInt]
theorem ints_of_perm {l : List PV} {xs : List Int} (h : l.Perm (xs.map .int)) : ∃ ys : List Int, l = ys.map .int := by
 have hS : ∀ y ∈ l, ∃ a, y = PV.int a := fun y hy => by
  obtain ⟨a, _, e⟩ := List.mem_map.mp (h.mem_iff.mp hy); exact ⟨a, e.symm⟩
 clear h
 induction l with
 | nil => exact ⟨[], rfl⟩
 | cons a l ih =>
  obtain ⟨b, rfl⟩ := hS a List.mem_cons_self
  obtain ⟨ys, rfl⟩ := ih fun y hy => hS y (List.mem_cons_of_mem _ hy)
  exact ⟨b :: ys, rfl⟩
theorem perm_int {xs ys : List Int} (h : (xs.map PV.int).Perm (ys.map PV.int)) : xs.Perm ys := by
 have := h.map (fun p => match p with | PV.int a => a | _ => 0)
 rw [List.map_map, List.map_map] at this
 simpa [Function.comp_def] using this
theorem Col.nil (m : Nat) : Col m [] 0 := ⟨by rw [bitsD_zero]; exact List.Perm.refl _, heap_nil, Nat.two_pow_pos m⟩
theorem Col.len {m x : Nat} {xs : List Int} (h : Col m xs x) : xs.length ≤ m := by
 rw [h.perm.length_eq, List.length_map]
 unfold bitsD
 have := List.length_filter_le x.testBit (List.range m).reverse
 simpa using this
theorem Col.mem {m x : Nat} {xs : List Int} (h : Col m xs x) {p : Nat} (hp : p < m) : xs.contains (-(p : Int)) = x.testBit p := by
 cases hb : x.testBit p with
 | true =>
  rw [List.contains_iff_mem, h.perm.mem_iff]
  exact List.mem_map.mpr ⟨p, mem_bitsD.mpr ⟨hp, hb⟩, rfl⟩
 | false =>
  cases hc : xs.contains (-(p : Int)) with
  | false => rfl
  | true =>
   rw [List.contains_iff_mem, h.perm.mem_iff] at hc
   obtain ⟨q, hq, e⟩ := List.mem_map.mp hc
   have : q = p := ng_inj e
   subst this
   rw [mem_bitsD, hb] at hq; cases hq.2
theorem Col.push {m x p : Nat} {xs : List Int} (h : Col m xs x) (hp : p < m) (hb : x.testBit p = false) : ∃ ys : List Int, hpush ltInt (xs.map .int) (.int (-(p : Int))) = ys.map .int ∧ Col m ys (x ^^^ 2 ^ p) := by
 have hperm := push_perm (lt := ltInt) (xs := xs.map .int) (x := .int (-(p : Int)))
 obtain ⟨ys, e⟩ := ints_of_perm (xs := -(p : Int) :: xs) hperm
 refine ⟨ys, e, ?_, ?_, flip_lt h.lt hp⟩
 ·rw [e] at hperm
  refine (perm_int (ys := -(p : Int) :: xs) hperm).trans ?_
  refine (List.Perm.cons _ h.perm).trans ?_
  exact ((bitsD_on hp hb).map ng).symm
 ·rw [← e]; exact push_heap ord_int (SInt.map _) ⟨_, rfl⟩ h.heap
theorem fidx_erase (a : Int) : ∀ (xs : List Int), xs.eraseIdx (fidx a xs) = xs.erase a
 | [] => rfl
 | x :: xs => by
  unfold fidx
  rw [List.erase_cons]
  cases h : x == a with
  | true => simp
  | false => simp [fidx_erase a xs]
theorem map_erase_ng (p : Nat) : ∀ (l : List Nat), (l.map ng).erase (ng p) = (l.erase p).map ng
 | [] => rfl
 | q :: l => by
  rw [List.map_cons, List.erase_cons, List.erase_cons]
  by_cases h : q = p
  ·subst h; simp
  ·have h1 : (q == p) = false := by simpa using h
   have h2 : (ng q == ng p) = false := by simpa using fun e => h (ng_inj e)
   rw [h1, h2]; simp [map_erase_ng p l]
theorem Col.turn {m x p : Nat} {xs : List Int} (h : Col m xs x) (hp : p < m) : ∃ ys : List Int, turnP xs (p : Int) = ys.map .int ∧ Col m ys (x ^^^ 2 ^ p) := by
 unfold turnP
 rw [h.mem hp]
 cases hb : x.testBit p with
 | false =>
  simp only [Bool.false_eq_true, if_false]
  exact h.push hp hb
 | true =>
  simp only [if_true]
  have hperm := hfy_perm (lt := ltInt) (xs := (xs.eraseIdx (fidx (-(p : Int)) xs)).map .int)
  obtain ⟨ys, e⟩ := ints_of_perm hperm
  refine ⟨ys, e, ?_, ?_, flip_lt h.lt hp⟩
  ·rw [e] at hperm
   refine (perm_int hperm).trans ?_
   rw [fidx_erase]
   refine (h.perm.erase _).trans ?_
   rw [show -(p : Int) = ng p from rfl, map_erase_ng]
   exact ((bitsD_off hp hb).map ng).symm
  ·rw [← e]; exact hfy_heap ord_int (SInt.map _)
theorem Col.pop {m x p : Nat} {rest : List Nat} {xs : List Int} {a : Int} (h : Col m (xs ++ [a]) x) (hb : bitsD m x = p :: rest) :
  ∃ ys : List Int, hpop ltInt (xs.map .int) (.int a) = (ys.map .int, .int (-(p : Int))) ∧ Col m ys (x ^^^ 2 ^ p) ∧ bitsD m (x ^^^ 2 ^ p) = rest := by
 have hpm : p ∈ bitsD m x := by rw [hb]; exact List.mem_cons_self
 obtain ⟨hp, hbit⟩ := mem_bitsD.mp hpm
 have hmap : (xs ++ [a]).map PV.int = xs.map .int ++ [.int a] := by simp
 have hS : ∀ y ∈ xs.map PV.int ++ [.int a], SInt y := by rw [← hmap]; exact SInt.map _
 have H := h.heap
 rw [hmap] at H
 have hperm := pop_perm (lt := ltInt) (xs := xs.map .int) (x := .int a)
 have hmin := pop_min ord_int hS H
 have hheap := pop_heap ord_int hS H
 rw [← hmap] at hperm
 obtain ⟨zs, e⟩ := ints_of_perm hperm
 generalize hr : hpop ltInt (xs.map .int) (.int a) = r at hperm hmin hheap e
 obtain ⟨r1, r2⟩ := r
 cases zs with
 | nil => cases e
 | cons z ys =>
  simp only [List.map_cons, List.cons.injEq] at e
  obtain ⟨rfl, rfl⟩ := e
  have hpz : (z :: ys).Perm ((p :: rest).map ng) := by
   rw [← hb]
   exact (perm_int (xs := z :: ys) hperm).trans h.perm
  have hzm : z ∈ (p :: rest).map ng := hpz.mem_iff.mp List.mem_cons_self
  have hpin : ng p ∈ xs ++ [a] := h.perm.mem_iff.mpr (by rw [hb]; simp)
  have hle : z ≤ ng p := by
   have : le ltInt (.int z) (.int (ng p)) := hmin _ (by rw [← hmap]; exact List.mem_map.mpr ⟨_, hpin, rfl⟩)
   unfold le ltInt at this
   simp only [decide_eq_false_iff_not] at this
   omega
  have hge : ng p ≤ z := by
   obtain ⟨q, hq, rfl⟩ := List.mem_map.mp hzm
   rcases List.mem_cons.mp hq with rfl | hq
   ·exact Int.le_refl _
   ·have hd := bitsD_desc m x
    rw [hb] at hd
    have := (List.pairwise_cons.mp hd).1 q hq
    unfold ng; omega
  have hz : z = ng p := Int.le_antisymm hle hge
  subst hz
  have hys : ys.Perm (rest.map ng) := by
   rw [List.map_cons] at hpz
   exact hpz.cons_inv
  have hrest : bitsD m (x ^^^ 2 ^ p) = rest := by
   have e1 := bitsD_off hp hbit
   rw [hb, List.erase_cons_head] at e1
   have d1 := bitsD_desc m (x ^^^ 2 ^ p)
   have d2 := bitsD_desc m x
   rw [hb] at d2
   exact e1.eq_of_pairwise (fun a b _ _ h1 h2 => absurd h1 (by omega)) d1 (List.pairwise_cons.mp d2).2
  refine ⟨ys, rfl, ⟨by rw [hrest]; exact hys, hheap, flip_lt h.lt hp⟩, hrest⟩
end
section
theorem strLt_trans {x y z : Str} (h1 : strLt x y = true) (h2 : strLt y z = true) : strLt x z = true := by
 unfold strLt at *
 simp only [decide_eq_true_eq] at *
 exact List.lt_trans h1 h2
theorem str_ext {x y : Str} (h : x.cps.toList = y.cps.toList) : x = y := by
 rcases x with ⟨⟨x⟩⟩; rcases y with ⟨⟨y⟩⟩
 have : x = y := h
 subst this; rfl
theorem strLt_total {x y : Str} (h : x ≠ y) : strLt x y = true ∨ strLt y x = true := by
 unfold strLt
 simp only [decide_eq_true_eq]
 rcases Classical.em (x.cps.toList < y.cps.toList) with q | q
 ·exact .inl q
 ·right
  rcases Classical.em (y.cps.toList < x.cps.toList) with q' | q'
  ·exact q'
  ·exact absurd (str_ext (List.le_antisymm (List.not_lt.mp q') (List.not_lt.mp q))) h
theorem lt2_total {a b : Int × Str} (h : a ≠ b) : lt2 a b = true ∨ lt2 b a = true := by
 obtain ⟨a, x⟩ := a
 obtain ⟨b, y⟩ := b
 unfold lt2 tupLt
 dsimp only
 by_cases hab : a = b
 ·subst hab
  have hxy : x ≠ y := fun q => h (by rw [q])
  have h1 : (x == y) = false := by simpa using hxy
  have h2 : (y == x) = false := by simpa using Ne.symm hxy
  rw [h1, h2]
  simpa using strLt_total hxy
 ·have h1 : (a == b) = false := by simpa using hab
  have h2 : (b == a) = false := by simpa using fun q : b = a => hab q.symm
  rw [h1, h2]
  simp; omega
theorem lt2_trans {a b c : Int × Str} (h1 : lt2 a b = true) (h2 : lt2 b c = true) : lt2 a c = true := by
 obtain ⟨a, x⟩ := a
 obtain ⟨b, y⟩ := b
 obtain ⟨c, z⟩ := c
 unfold lt2 tupLt at *
 dsimp only at *
 by_cases hab : a = b
 ·subst hab
  simp only [beq_self_eq_true, if_true] at h1
  by_cases hxy : x = y
  ·subst hxy; simp at h1
  ·rw [show (x == y) = false by simpa using hxy] at h1
   simp only [Bool.false_eq_true, if_false] at h1
   by_cases hbc : a = c
   ·subst hbc
    simp only [beq_self_eq_true, if_true] at h2 ⊢
    by_cases hyz : y = z
    ·subst hyz; simp at h2
    ·rw [show (y == z) = false by simpa using hyz] at h2
     simp only [Bool.false_eq_true, if_false] at h2
     have h3 := strLt_trans h1 h2
     by_cases hxz : x = z
     ·subst hxz; rw [strLt_irrefl] at h3; cases h3
     ·rw [show (x == z) = false by simpa using hxz]; simpa using h3
   ·rw [show (a == c) = false by simpa using hbc] at h2 ⊢; exact h2
 ·rw [show (a == b) = false by simpa using hab] at h1
  simp only [Bool.false_eq_true, if_false, decide_eq_true_eq] at h1
  by_cases hbc : b = c
  ·subst hbc
   rw [show (a == b) = false by simpa using hab]; simpa using h1
  ·rw [show (b == c) = false by simpa using hbc] at h2
   simp only [Bool.false_eq_true, if_false, decide_eq_true_eq] at h2
   have : a ≠ c := by omega
   rw [show (a == c) = false by simpa using this]
   simp; omega
theorem ltTup_eq (a b : Int) (x y : Str) : ltTup (.tup [.int a, .str x]) (.tup [.int b, .str y]) = lt2 (a, x) (b, y) := rfl
theorem ord_tup : Ord STup ltTup where
 asym := by
  rintro a b ⟨a, x, rfl⟩ ⟨b, y, rfl⟩ h
  rw [ltTup_eq] at *
  exact lt2_asymm h
 nt := by
  rintro a b c ⟨a, x, rfl⟩ ⟨b, y, rfl⟩ ⟨c, z, rfl⟩ h1 h2
  rw [ltTup_eq] at *
  cases h : lt2 (c, z) (a, x) with
  | false => rfl
  | true =>
   by_cases hab : (a, x) = (b, y)
   ·rw [hab, h2] at h; cases h
   ·rcases lt2_total hab with q | q
    ·rw [lt2_trans h q] at h2; cases h2
    ·rw [h1] at q; cases q
 irr := by
  rintro a ⟨a, x, rfl⟩
  rw [ltTup_eq]; exact lt2_irrefl _
theorem perm_map_inv {α β : Type} {f : α → β} {M T : List β} (h : M.Perm T) : ∀ l : List α, M = l.map f → ∃ l' : List α, l.Perm l' ∧ T = l'.map f := by
 induction h with
 | nil => intro l e; exact ⟨l, List.Perm.refl _, e⟩
 | cons x _ ih =>
  intro l e
  cases l with
  | nil => cases e
  | cons a l =>
   simp only [List.map_cons, List.cons.injEq] at e
   obtain ⟨rfl, e⟩ := e
   obtain ⟨l', h1, h2⟩ := ih l e
   exact ⟨a :: l', h1.cons a, by rw [h2, List.map_cons]⟩
 | swap x y l0 =>
  intro l e
  match l, e with
  | a :: b :: l, e =>
   simp only [List.map_cons, List.cons.injEq] at e
   obtain ⟨rfl, rfl, rfl⟩ := e
   exact ⟨b :: a :: l, List.Perm.swap b a l, rfl⟩
 | trans _ _ ih1 ih2 =>
  intro l e
  obtain ⟨l', h1, h2⟩ := ih1 l e
  obtain ⟨l'', h3, h4⟩ := ih2 l' h2
  exact ⟨l'', h1.trans h3, h4⟩
noncomputable def pairsN (c : Nat) : List (Nat × Nat) := (List.range c).flatMap fun i => (List.range i).map fun j => (j, i)
noncomputable def tieE (xs : List Str) (L : Str → Str → Int) (q : Nat × Nat) : Tie := (L (xs.getD q.1 default) (xs.getD q.2 default), q.1, q.2)
noncomputable def allT (xs : List Str) (L : Str → Str → Int) (c : Nat) : List Tie := (pairsN c).map (tieE xs L)
theorem tieList_eq (xs : List Str) (L : Str → Str → Int) (c : Nat) : tieList xs L c = tpe (allT xs L c) := by
 unfold tieList tpe tpv allT pairsN
 rw [List.map_flatMap, List.map_flatMap, List.map_flatMap]
 congr 1
 funext i
 rw [List.map_map, List.map_map, List.map_map]
 rfl
structure TieOk (c : Nat) (te : List Tie) : Prop where
 pairs : (te.map (·.2)).Perm (pairsN c)
 order : te.Pairwise fun a b => lt2 (tnm a) (tnm b) = true
 size : ∀ e ∈ te, 0 ≤ e.1 ∧ e.1 ≤ 4
theorem pairs_names : ∀ c, c ≤ 5 → ((pairsN c).map fun q => nm q.1 q.2).Nodup := by
 intro c hc
 exact lts6 (Nat.lt_succ_of_le hc) (by decide) (by decide) (by decide) (by decide) (by decide) (by decide)
theorem pairs_lt {c : Nat} {q : Nat × Nat} (h : q ∈ pairsN c) : q.1 < q.2 ∧ q.2 < c := by
 unfold pairsN at h
 obtain ⟨i, hi, h⟩ := List.mem_flatMap.mp h
 obtain ⟨j, hj, rfl⟩ := List.mem_map.mp h
 exact ⟨List.mem_range.mp hj, List.mem_range.mp hi⟩
theorem mem_pairs {c j i : Nat} (h1 : j < i) (h2 : i < c) : (j, i) ∈ pairsN c :=
 List.mem_flatMap.mpr ⟨i, List.mem_range.mpr h2, List.mem_map.mpr ⟨j, List.mem_range.mpr h1, rfl⟩⟩
theorem TieOk.names {c : Nat} {te : List Tie} (h : TieOk c te) (hc : c ≤ 5) : ((te.map tnm).map (·.2)).Nodup := by
 have e : (te.map tnm).map (·.2) = (te.map (·.2)).map fun q => nm q.1 q.2 := by rw [List.map_map, List.map_map]; rfl
 rw [e]
 exact (h.pairs.map _).nodup_iff.mpr (pairs_names c hc)
theorem ties_sorted {xs : List Str} {L : Str → Str → Int} {c : Nat} (hc : c ≤ 5) (hL : ∀ q ∈ pairsN c, 0 ≤ L (xs.getD q.1 default) (xs.getD q.2 default) ∧ L (xs.getD q.1 default) (xs.getD q.2 default) ≤ 4) :
  ∃ te, popAll ltTup (tieList xs L c).length (pushAll ltTup (tieList xs L c) []) = tpe te ∧ TieOk c te ∧ te.Perm (allT xs L c) := by
 have hS := tieList_mem (xs := xs) (L := L) (m := c)
 have hp := pushAll_perm (lt := ltTup) (tieList xs L c) []
 rw [List.append_nil] at hp
 have hh := pushAll_heap ord_tup (tieList xs L c) [] hS (fun y hy => nomatch hy) heap_nil
 obtain ⟨p1, p2⟩ := popAll_sorted ord_tup (tieList xs L c).length (pushAll ltTup (tieList xs L c) []) hp.length_eq (fun y hy => hS y (hp.mem_iff.mp hy)) hh
 have p3 := p1.trans hp
 obtain ⟨te, t1, t2⟩ := perm_map_inv p3.symm (f := fun e : Tie => PV.tup [.int e.1, .str (nm e.2.1 e.2.2)]) (allT xs L c) (by rw [tieList_eq]; unfold tpe tpv; rw [List.map_map]; rfl)
 have e1 : popAll ltTup (tieList xs L c).length (pushAll ltTup (tieList xs L c) []) = tpe te := by
  rw [t2]; unfold tpe tpv; rw [List.map_map]; rfl
 have hpairs : (te.map (·.2)).Perm (pairsN c) := by
  refine (t1.symm.map _).trans ?_
  unfold allT
  rw [List.map_map]
  have : (Prod.snd ∘ tieE xs L) = id := by funext q; rfl
  rw [this, List.map_id]
 have hnames : ((te.map tnm).map (·.2)).Nodup := by
  have e : (te.map tnm).map (·.2) = (te.map (·.2)).map fun q => nm q.1 q.2 := by rw [List.map_map, List.map_map]; rfl
  rw [e]
  exact (hpairs.map _).nodup_iff.mpr (pairs_names c hc)
 refine ⟨te, e1, ⟨hpairs, ?_, fun e he => ?_⟩, t1.symm⟩
 ·rw [e1] at p2
  unfold tpe tpv at p2
  rw [List.map_map, List.pairwise_map] at p2
  have hn : te.Pairwise fun a b => tnm a ≠ tnm b := by
   rw [List.map_map] at hnames
   exact (List.pairwise_map.mp (List.nodup_iff_pairwise_ne.mp hnames)).imp fun h q => h (by simp [q])
  refine (p2.and hn).imp fun {a b} h => ?_
  obtain ⟨h1, h2⟩ := h
  rcases lt2_total h2 with q | q
  ·exact q
  ·exfalso
   have h1' : lt2 (tnm b) (tnm a) = false := h1
   rw [q] at h1'; cases h1'
 ·have he' := t1.symm.mem_iff.mp he
  obtain ⟨q, hq, rfl⟩ := List.mem_map.mp he'
  exact hL q hq
theorem TieOk.sizes {c : Nat} {te : List Tie} (h : TieOk c te) : te.Pairwise fun a b => a.1 ≤ b.1 := h.order.imp fun {a b} h => by
 unfold lt2 tupLt tnm at h
 dsimp only at h
 by_cases e : a.1 = b.1
 ·omega
 ·rw [show (a.1 == b.1) = false by simpa using e] at h
  simp at h; omega
end
section
structure WordP (x : Str) : Prop where
 pos : x.length ≠ 0
 no : ∀ c ∈ x.cps.toList, Unicode.isSpace c = false
theorem fold_word : ∀ (cs : List Nat) (acc : List Str) (run : Str), (∀ c ∈ cs, Unicode.isSpace c = false) → cs.foldl KWd.step (acc, run) = (acc, run ++ ⟨cs.toArray⟩)
 | [], acc, run, h => by
  show (acc, run) = (acc, run ++ ⟨#[]⟩)
  have : run ++ (⟨#[]⟩ : Str) = run := by show (⟨run.cps ++ #[]⟩ : Str) = run; simp
  rw [this]
 | c :: cs, acc, run, h => by
  rw [List.foldl_cons]
  have hc := h c List.mem_cons_self
  have e : KWd.step (acc, run) c = (acc, run ++ ⟨#[c]⟩) := by
   unfold KWd.step; rw [if_neg (by rw [hc]; decide)]
  rw [e, fold_word cs acc _ fun d hd => h d (List.mem_cons_of_mem _ hd)]
  congr 1
  show (⟨run.cps ++ #[c] ++ cs.toArray⟩ : Str) = ⟨run.cps ++ (c :: cs).toArray⟩
  congr 1
  rw [Array.append_assoc]; simp
theorem empty_app (x : Str) : Str.empty ++ x = x := by
 show (⟨#[] ++ x.cps⟩ : Str) = x
 simp
theorem fold_word0 {x : Str} (acc : List Str) (h : WordP x) : x.cps.toList.foldl KWd.step (acc, Str.empty) = (acc, x) := by
 rw [fold_word _ _ _ h.no, empty_app]
noncomputable abbrev sp1 : Str := ⟨#[32]⟩
theorem isSpace32 : Unicode.isSpace 32 = true := by decide +kernel
theorem scan_glue : ∀ (ws : List Str) (acc : List Str) (w : Str) (base : Array Nat), (∀ x ∈ ws, WordP x) → WordP w → base.toList.foldl KWd.step ([], Str.empty) = (acc, w) →
  ∃ w' acc', (ws.foldl (fun acc p => acc ++ sp1.cps ++ p.cps) base).toList.foldl KWd.step ([], Str.empty) = (acc', w') ∧ WordP w' ∧ acc' ++ [w'] = acc ++ w :: ws
 | [], acc, w, base, _, hw, hb => ⟨w, acc, hb, hw, by simp⟩
 | x :: ws, acc, w, base, hs, hw, hb => by
  have hx := hs x List.mem_cons_self
  rw [List.foldl_cons]
  have step1 : (base ++ sp1.cps ++ x.cps).toList.foldl KWd.step ([], Str.empty) = (acc ++ [w], x) := by
   rw [Array.toList_append, Array.toList_append, List.foldl_append, List.foldl_append, hb]
   show x.cps.toList.foldl KWd.step (KWd.step (acc, w) 32) = _
   have e : KWd.step (acc, w) 32 = (acc ++ [w], Str.empty) := by
    unfold KWd.step; rw [if_pos isSpace32, if_neg hw.pos]
   rw [e]; exact fold_word0 _ hx
  obtain ⟨w', acc', h1, h2, h3⟩ := scan_glue ws (acc ++ [w]) x _ (fun y hy => hs y (List.mem_cons_of_mem _ hy)) hx step1
  exact ⟨w', acc', h1, h2, by rw [h3]; simp⟩
theorem words_glued {w : Str} {ws : List Str} (hw : WordP w) (hs : ∀ x ∈ ws, WordP x) : _root_.PySem.wordsOf (Builtin.Str.glued sp1 (w :: ws)) = w :: ws := by
 have e : _root_.PySem.wordsOf (Builtin.Str.glued sp1 (w :: ws)) = KWd.fin (KWd.scan (Builtin.Str.glued sp1 (w :: ws))) := KWd.wordsOf_scan _
 rw [e]
 have h0 : w.cps.toList.foldl KWd.step ([], Str.empty) = ([], w) := fold_word0 [] hw
 obtain ⟨w', acc', h1, h2, h3⟩ := scan_glue ws [] w w.cps hs hw h0
 unfold KWd.scan Builtin.Str.glued
 show KWd.fin ((ws.foldl (fun acc p => acc ++ sp1.cps ++ p.cps) w.cps).toList.foldl KWd.step ([], Str.empty)) = _
 rw [h1]
 unfold KWd.fin
 rw [if_neg h2.pos, h3]; rfl
theorem glued_mem : ∀ (ws : List Str) (base : Array Nat) (c : Nat), c ∈ (ws.foldl (fun acc p => acc ++ sp1.cps ++ p.cps) base).toList → c ∈ base.toList ∨ c = 32 ∨ ∃ x ∈ ws, c ∈ x.cps.toList
 | [], base, c, h => .inl h
 | x :: ws, base, c, h => by
  rw [List.foldl_cons] at h
  rcases glued_mem ws _ c h with q | q | ⟨y, hy, q⟩
  ·rw [Array.toList_append, Array.toList_append, List.mem_append, List.mem_append] at q
   rcases q with (q | q) | q
   ·exact .inl q
   ·right; left; simpa using q
   ·exact .inr (.inr ⟨x, List.mem_cons_self, q⟩)
  ·exact .inr (.inl q)
  ·exact .inr (.inr ⟨y, List.mem_cons_of_mem _ hy, q⟩)
theorem glued_clean {w : Str} {ws : List Str} (hw : Clean w) (hs : ∀ x ∈ ws, Clean x) : Clean (Builtin.Str.glued sp1 (w :: ws)) := fun c hc => by
 rcases glued_mem ws w.cps c hc with q | q | ⟨y, hy, q⟩
 ·exact hw c q
 ·omega
 ·exact hs y hy c q
theorem glued_len : ∀ (ws : List Str) (base : Array Nat), (∀ x ∈ ws, x.cps.size = 2) → (ws.foldl (fun acc p => acc ++ sp1.cps ++ p.cps) base).size = base.size + 3 * ws.length
 | [], base, _ => by simp
 | x :: ws, base, h => by
  rw [List.foldl_cons, glued_len ws _ fun y hy => h y (List.mem_cons_of_mem _ hy)]
  have := h x List.mem_cons_self
  simp [this]; omega
theorem nm_ok : ∀ j, j < 5 → ∀ i, i < 5 → (Txt.lower (nm j i) = nm j i ∧ Txt.lower (Txt.upper (nm j i)) = nm j i ∧ Builtin.Str.tooLong (Txt.lower (nm j i)).length = false ∧ Builtin.Str.tooLong (Txt.upper (nm j i)).length = false ∧ Builtin.Str.tooLong (Txt.lower (Txt.upper (nm j i))).length = false ∧
  (nm j i).cps.toList.all (fun c => decide (32 ≤ c) && decide (c < 127) && !Unicode.isSpace c) = true ∧ (Txt.upper (nm j i)).cps.toList.all (fun c => decide (32 ≤ c) && decide (c < 127)) = true ∧ (Txt.upper (nm j i)).cps.size = 2) := by decide +kernel
section
variable {j i : Nat} (hj : j < 5) (hi : i < 5)
include hj hi
theorem nm_lower : Txt.lower (nm j i) = nm j i := (nm_ok j hj i hi).1
theorem nm_lowerU : Txt.lower (Txt.upper (nm j i)) = nm j i := (nm_ok j hj i hi).2.1
theorem nm_upfit : Builtin.Str.tooLong (Txt.upper (nm j i)).length = false := (nm_ok j hj i hi).2.2.2.1
theorem nm_clean : Clean (nm j i) := fun c hc => by
 have := List.all_eq_true.mp (nm_ok j hj i hi).2.2.2.2.2.1 c hc
 simp only [Bool.and_eq_true, decide_eq_true_eq] at this
 exact this.1
theorem nm_word : WordP (nm j i) := ⟨by show (2 : Nat) ≠ 0; decide, fun c hc => by
 have := List.all_eq_true.mp (nm_ok j hj i hi).2.2.2.2.2.1 c hc
 simp only [Bool.and_eq_true, decide_eq_true_eq, Bool.not_eq_true'] at this
 exact this.2⟩
theorem up_clean : Clean (Txt.upper (nm j i)) := fun c hc => by
 have := List.all_eq_true.mp (nm_ok j hj i hi).2.2.2.2.2.2.1 c hc
 simp only [Bool.and_eq_true, decide_eq_true_eq] at this
 exact this
theorem up_size : (Txt.upper (nm j i)).cps.size = 2 := (nm_ok j hj i hi).2.2.2.2.2.2.2
theorem nm_kok : KOk (nm j i) := ⟨by rw [nm_lower hj hi]; exact nm_clean hj hi, by rw [nm_lower hj hi]; show 2 < 2 ^ 62; decide, (nm_ok j hj i hi).2.2.1⟩
theorem up_kok : KOk (Txt.upper (nm j i)) := ⟨by rw [nm_lowerU hj hi]; exact nm_clean hj hi, by rw [nm_lowerU hj hi]; show 2 < 2 ^ 62; decide, (nm_ok j hj i hi).2.2.2.2.1⟩
end
theorem nm_inj {j i j' i' : Nat} (h : nm j i = nm j' i') : j = j' ∧ i = i' := by
 unfold nm at h
 have : (#[97 + j, 97 + i] : Array Nat) = #[97 + j', 97 + i'] := congrArg Str.cps h
 have := congrArg Array.toList this
 simp at this
 exact this
end
section
structure Row where
 p : Nat
 d : Nat
 x : Nat
 deriving Inhabited
noncomputable def nmP (te : List Tie) (p : Nat) : Str := match te[p]? with
 | some e => nm e.2.1 e.2.2
 | none => default
noncomputable def rowTxt (te : List Tie) (r : Row) : Str × Str := (Txt.upper (nmP te r.p), Builtin.Str.glued sp1 (nmP te r.d :: (bitsD te.length (r.x ^^^ 2 ^ r.p)).map (nmP te)))
structure RowOk (m : Nat) (r : Row) : Prop where
 p : r.p < m
 d : r.d < m
 x : r.x < 2 ^ m
 top : ∃ rest, bitsD m r.x = r.p :: rest
section
variable {c : Nat} {te : List Tie} (T : TieOk c te) (hc : c ≤ 5)
include T hc
theorem te_lt {e : Tie} (he : e ∈ te) : e.2.1 < e.2.2 ∧ e.2.2 < c :=
 pairs_lt (T.pairs.mem_iff.mp (List.mem_map.mpr ⟨e, he, rfl⟩))
theorem nmP_at {p : Nat} (hp : p < te.length) : ∃ j i, j < 5 ∧ i < 5 ∧ nmP te p = nm j i ∧ te[p]? = some (te[p].1, j, i) := by
 have he := te_lt T hc (List.getElem_mem hp)
 refine ⟨te[p].2.1, te[p].2.2, by omega, by omega, ?_, ?_⟩
 ·unfold nmP; rw [List.getElem?_eq_getElem hp]
 ·rw [List.getElem?_eq_getElem hp]
theorem nmP_inj {p q : Nat} (hp : p < te.length) (hq : q < te.length) (h : nmP te p = nmP te q) : p = q := by
 have hn := T.names hc
 have e : ∀ p, p < te.length → ((te.map tnm).map (·.2))[p]? = some (nmP te p) := fun p hp => by
  unfold nmP
  rw [List.getElem?_map, List.getElem?_map, List.getElem?_eq_getElem hp]; rfl
 exact nodup_idx hn (e p hp) (h ▸ e q hq)
theorem nmP_lower {p : Nat} (hp : p < te.length) : Txt.lower (nmP te p) = nmP te p := by
 obtain ⟨j, i, hj, hi, e, _⟩ := nmP_at T hc hp
 rw [e]; exact nm_lower hj hi
theorem nmP_lowerU {p : Nat} (hp : p < te.length) : Txt.lower (Txt.upper (nmP te p)) = nmP te p := by
 obtain ⟨j, i, hj, hi, e, _⟩ := nmP_at T hc hp
 rw [e]; exact nm_lowerU hj hi
theorem nmP_clean {p : Nat} (hp : p < te.length) : Clean (nmP te p) := by
 obtain ⟨j, i, hj, hi, e, _⟩ := nmP_at T hc hp
 rw [e]; exact nm_clean hj hi
theorem nmP_word {p : Nat} (hp : p < te.length) : WordP (nmP te p) := by
 obtain ⟨j, i, hj, hi, e, _⟩ := nmP_at T hc hp
 rw [e]; exact nm_word hj hi
theorem nmP_size {p : Nat} (hp : p < te.length) : (nmP te p).cps.size = 2 := by
 obtain ⟨j, i, hj, hi, e, _⟩ := nmP_at T hc hp
 rw [e]; rfl
theorem nmP_kok {p : Nat} (hp : p < te.length) : KOk (nmP te p) := by
 obtain ⟨j, i, hj, hi, e, _⟩ := nmP_at T hc hp
 rw [e]; exact nm_kok hj hi
theorem upP_kok {p : Nat} (hp : p < te.length) : KOk (Txt.upper (nmP te p)) := by
 obtain ⟨j, i, hj, hi, e, _⟩ := nmP_at T hc hp
 rw [e]; exact up_kok hj hi
theorem upP_clean {p : Nat} (hp : p < te.length) : Clean (Txt.upper (nmP te p)) ∧ (Txt.upper (nmP te p)).cps.size < 2 ^ 62 := by
 obtain ⟨j, i, hj, hi, e, _⟩ := nmP_at T hc hp
 rw [e]; exact ⟨up_clean hj hi, by rw [up_size hj hi]; decide⟩
theorem upP_fit {p : Nat} (hp : p < te.length) : Builtin.Str.tooLong (Txt.upper (nmP te p)).length = false := by
 obtain ⟨j, i, hj, hi, e, _⟩ := nmP_at T hc hp
 rw [e]; exact nm_upfit hj hi
theorem getP_rows {p : Nat} (hp : p < te.length) : ∀ {R : List Row}, (∀ r ∈ R, RowOk te.length r) → getP (R.map (rowTxt te)) (nmP te p) = (R.find? fun r => r.p == p).map fun r => (rowTxt te r).2
 | [], _ => rfl
 | r :: R, h => by
  have hr := h r List.mem_cons_self
  have ih := getP_rows hp (R := R) fun r hr => h r (List.mem_cons_of_mem _ hr)
  rw [List.map_cons]
  have e : rowTxt te r = (Txt.upper (nmP te r.p), (rowTxt te r).2) := rfl
  rw [e]
  unfold getP
  rw [nmP_lowerU T hc hr.p, List.find?_cons]
  by_cases hpq : r.p = p
  ·rw [hpq]; simp
  ·have h1 : (nmP te r.p == nmP te p) = false := by simpa using fun q => hpq (nmP_inj T hc hr.p hp q)
   have h2 : (r.p == p) = false := by simpa using hpq
   rw [h1, h2]; simpa using ih
theorem delP_rows {p : Nat} (hp : p < te.length) : ∀ {R : List Row}, (∀ r ∈ R, RowOk te.length r) → (∀ r ∈ R, r.p ≠ p) → delP (R.map (rowTxt te)) (Txt.lower (Txt.upper (nmP te p))) = R.map (rowTxt te)
 | [], _, _ => rfl
 | r :: R, h, hn => by
  have hr := h r List.mem_cons_self
  have ih := delP_rows hp (R := R) (fun r hr => h r (List.mem_cons_of_mem _ hr)) fun r hr => hn r (List.mem_cons_of_mem _ hr)
  rw [List.map_cons]
  unfold delP at *
  rw [List.filter_cons]
  have e : (rowTxt te r).1 = Txt.upper (nmP te r.p) := rfl
  rw [e, nmP_lowerU T hc hr.p]
  rw [nmP_lowerU T hc hp] at ih ⊢
  have h1 : (nmP te r.p != nmP te p) = true := by
   simpa using fun q => hn r List.mem_cons_self (nmP_inj T hc hr.p hp q)
  rw [h1]; simp only [if_true]; rw [ih]
theorem rows_keys {R : List Row} (h : ∀ r ∈ R, RowOk te.length r) : ∀ r ∈ R.map (rowTxt te), KOk r.1 := fun r hr => by
 obtain ⟨q, hq, rfl⟩ := List.mem_map.mp hr
 exact upP_kok T hc (h q hq).p
theorem row_words {r : Row} (hr : RowOk te.length r) : _root_.PySem.wordsOf (rowTxt te r).2 = nmP te r.d :: (bitsD te.length (r.x ^^^ 2 ^ r.p)).map (nmP te) := by
 refine words_glued (nmP_word T hc hr.d) fun x hx => ?_
 obtain ⟨q, hq, rfl⟩ := List.mem_map.mp hx
 exact nmP_word T hc (mem_bitsD.mp hq).1
theorem row_clean {r : Row} (hr : RowOk te.length r) : Clean (rowTxt te r).2 := by
 refine glued_clean (nmP_clean T hc hr.d) fun x hx => ?_
 obtain ⟨q, hq, rfl⟩ := List.mem_map.mp hx
 exact nmP_clean T hc (mem_bitsD.mp hq).1
theorem row_size {r : Row} (hr : RowOk te.length r) : (rowTxt te r).2.cps.size ≤ 2 + 3 * te.length := by
 show (((bitsD te.length (r.x ^^^ 2 ^ r.p)).map (nmP te)).foldl (fun acc p => acc ++ sp1.cps ++ p.cps) (nmP te r.d).cps).size ≤ _
 rw [glued_len _ _ fun x hx => by
  obtain ⟨q, hq, rfl⟩ := List.mem_map.mp hx
  exact nmP_size T hc (mem_bitsD.mp hq).1]
 rw [nmP_size T hc hr.d, List.length_map]
 have : (bitsD te.length (r.x ^^^ 2 ^ r.p)).length ≤ te.length := by
  unfold bitsD
  have := List.length_filter_le (r.x ^^^ 2 ^ r.p).testBit (List.range te.length).reverse
  simpa using this
 omega
end
end
section
noncomputable def xorL (l : List Nat) (x : Nat) : Nat := l.foldl (fun x p => x ^^^ 2 ^ p) x
theorem xorL_bit : ∀ (l : List Nat) (x q : Nat), l.Nodup → (xorL l x).testBit q = (x.testBit q ^^ l.contains q)
 | [], x, q, _ => by simp [xorL]
 | p :: l, x, q, h => by
  obtain ⟨h1, h2⟩ := List.nodup_cons.mp h
  have ih := xorL_bit l (x ^^^ 2 ^ p) q h2
  show (xorL l (x ^^^ 2 ^ p)).testBit q = _
  rw [ih, testBit_flip, List.contains_cons]
  by_cases hq : q = p
  ·subst hq
   have : l.contains q = false := by simpa using h1
   rw [this]; simp
  ·have : (q == p) = false := by simpa using hq
   rw [if_neg hq, this]; simp
theorem xorL_bits {m y : Nat} (hy : y < 2 ^ m) (x : Nat) : xorL (bitsD m y) x = x ^^^ y := by
 apply Nat.eq_of_testBit_eq
 intro q
 rw [xorL_bit _ _ _ (bitsD_nodup ..), Nat.testBit_xor]
 congr 1
 rw [Bool.eq_iff_iff, List.contains_iff_mem, mem_bitsD]
 constructor
 ·exact fun h => h.2
 ·intro h
  refine ⟨?_, h⟩
  rcases Nat.lt_or_ge q m with hq | hq
  ·exact hq
  ·rw [Nat.testBit_lt_two_pow (Nat.lt_of_lt_of_le hy (Nat.pow_le_pow_right (by decide) hq))] at h; cases h
theorem xorL_snoc (l : List Nat) (p x : Nat) : xorL (l ++ [p]) x = xorL l x ^^^ 2 ^ p := by unfold xorL; rw [List.foldl_append]; rfl
theorem lookup_zip : ∀ {ns : List Str} {vs : List PV} {k : Nat} {x : Str} {v : PV}, ns.Nodup → ns[k]? = some x → vs[k]? = some v → (ns.zip vs).lookup x = some v
 | [], _, k, _, _, _, h, _ => by simp at h
 | _ :: _, [], k, _, _, _, _, h => by simp at h
 | n :: ns, u :: vs, 0, x, v, _, h1, h2 => by
  simp at h1 h2; subst h1 h2
  simp
 | n :: ns, u :: vs, k + 1, x, v, nd, h1, h2 => by
  obtain ⟨n1, n2⟩ := List.nodup_cons.mp nd
  simp only [List.getElem?_cons_succ] at h1 h2
  rw [List.zip_cons_cons, List.lookup_cons]
  have : (x == n) = false := by
   simp only [beq_eq_false_iff_ne]; rintro rfl
   exact n1 (List.mem_of_getElem? h1)
  rw [this]
  exact lookup_zip n2 h1 h2
noncomputable def placesD (te : List Tie) : List (Str × PV) := ((te.map tnm).map (·.2)).zip ((List.range te.length).map fun (k : Nat) => PV.int (k : Int))
theorem names_at (te : List Tie) {p : Nat} (hp : p < te.length) : ((te.map tnm).map (·.2))[p]? = some (nmP te p) := by
 unfold nmP
 rw [List.getElem?_map, List.getElem?_map, List.getElem?_eq_getElem hp]; rfl
theorem places_at {c : Nat} {te : List Tie} (T : TieOk c te) (hc : c ≤ 5) {p : Nat} (hp : p < te.length) : (placesD te).lookup (nmP te p) = some (.int (p : Int)) :=
 lookup_zip (T.names hc) (names_at te hp) (by rw [List.getElem?_map, List.getElem?_range hp]; rfl)
theorem tpe_nmP {te : List Tie} {p : Nat} (hp : p < te.length) : (tpe te)[p]? = some (.tup [.int te[p].1, .str (nmP te p)]) := by
 rw [tpe_at (List.getElem?_eq_getElem hp)]
 unfold nmP; rw [List.getElem?_eq_getElem hp]
noncomputable def redF (m : Nat) (R : List Row) : Nat → Nat → Nat
 | 0, x => x
 | k + 1, x => match bitsD m x with
  | [] => x
  | p :: _ => match R.find? (fun r => r.p == p) with
   | none => x
   | some r => redF m R k (x ^^^ r.x)
noncomputable def redR (m d : Nat) (R : List Row) (x : Nat) : List Row := match bitsD m x with
 | [] => R
 | p :: _ => R ++ [⟨p, d, x⟩]
theorem top_lt {m x p : Nat} {rest : List Nat} (hx : x < 2 ^ m) (h : bitsD m x = p :: rest) : x < 2 ^ (p + 1) := by
 refine Nat.lt_pow_two_of_testBit x fun q hq => ?_
 cases hb : x.testBit q with
 | false => rfl
 | true =>
  have hqm : q < m := by
   rcases Nat.lt_or_ge q m with h' | h'
   ·exact h'
   ·rw [Nat.testBit_lt_two_pow (Nat.lt_of_lt_of_le hx (Nat.pow_le_pow_right (by decide) h'))] at hb; cases hb
  have hm := mem_bitsD.mpr ⟨hqm, hb⟩
  have hd := bitsD_desc m x
  rw [h] at hm hd
  rcases List.mem_cons.mp hm with e | e
  ·omega
  ·have := (List.pairwise_cons.mp hd).1 q e; omega
theorem top_bit {m x p : Nat} {rest : List Nat} (h : bitsD m x = p :: rest) : p < m ∧ x.testBit p = true := mem_bitsD.mp (by rw [h]; exact List.mem_cons_self)
theorem xor_top {m x y p : Nat} {r1 r2 : List Nat} (hx : x < 2 ^ m) (hy : y < 2 ^ m) (h1 : bitsD m x = p :: r1) (h2 : bitsD m y = p :: r2) : x ^^^ y < 2 ^ p := by
 refine Nat.lt_pow_two_of_testBit _ fun q hq => ?_
 rw [Nat.testBit_xor]
 by_cases e : q = p
 ·subst e; rw [(top_bit h1).2, (top_bit h2).2]; rfl
 ·have h3 := top_lt hx h1
  have h4 := top_lt hy h2
  have : p + 1 ≤ q := by omega
  rw [Nat.testBit_lt_two_pow (Nat.lt_of_lt_of_le h3 (Nat.pow_le_pow_right (by decide) this)), Nat.testBit_lt_two_pow (Nat.lt_of_lt_of_le h4 (Nat.pow_le_pow_right (by decide) this))]; rfl
end
section
noncomputable abbrev φre : Scope := scopeOf (stAt 26)
noncomputable abbrev RW1 : Stmt := sAt (bodyOf (stAt 26)) 4
noncomputable abbrev RFp : Stmt := sAt (bOf RW1) 2
noncomputable abbrev RW2 : Stmt := sAt (bOf RW1) 3
noncomputable abbrev RIf : Stmt := sAt (bOf RW2) 2
noncomputable abbrev RFt : Stmt := sAt (oOf RIf) 0
noncomputable abbrev RLC : Stmt := sAt (bOf RIf) 0
structure RE (te : List Tie) (st : Sto) (t pd tr i d l : Nat) (v : List Nat) (R : List Row) : Prop where
 ties : st[t]? = some (.list (tpe te))
 plc : st[pd]? = some (.dict (placesD te))
 three : st[tr]? = some (.list (v.map fun (k : Nat) => PV.int (k : Int)))
 hdr : Hdr st i d l (R.map (rowTxt te))
 rows : ∀ r ∈ R, RowOk te.length r
 l1 : l ≠ t
 l2 : l ≠ tr
section
variable {te : List Tie} {st st' : Sto} {t pd tr i d l cid : Nat} {v : List Nat} {R : List Row}
theorem RE.ext (E : RE te st t pd tr i d l v R) (e : SExt st st') : RE te st' t pd tr i d l v R := ⟨e _ _ E.ties, e _ _ E.plc, e _ _ E.three, E.hdr.ext e, E.rows, E.l1, E.l2⟩
theorem ne_kind {a b : Nat} {x y : Ob} (h1 : st[a]? = some x) (h2 : st[b]? = some y) (h : x ≠ y) : a ≠ b := fun q => by
 rw [q, h2] at h1; cases h1; exact h rfl
theorem RE.set (E : RE te st t pd tr i d l v R) {ys : List PV} {o : Ob} (hc : st[cid]? = some (.list ys)) (h1 : cid ≠ t) (h2 : cid ≠ tr) (h3 : cid ≠ l) : RE te (st.set cid o) t pd tr i d l v R where
 ties := gs_ne h1 E.ties
 plc := gs_ne (ne_kind hc E.plc (by intro q; cases q)) E.plc
 three := gs_ne h2 E.three
 hdr := ⟨gs_ne (ne_kind hc E.hdr.inst (by intro q; cases q)) E.hdr.inst, gs_ne (ne_kind hc E.hdr.ns (by intro q; cases q)) E.hdr.ns, gs_ne h3 E.hdr.list, E.hdr.keys, E.hdr.small⟩
 rows := E.rows
 l1 := E.l1
 l2 := E.l2
end
noncomputable def loR (i h pd t th : Nat) : Loc := [("table", .ref i), ("heap", .ref h), ("places", .ref pd), ("ties", .ref t), ("threes", .ref th)]
noncomputable def loC (cid tr i h pd t th : Nat) : Loc := [("column", .ref cid), ("three", .ref tr), ("table", .ref i), ("heap", .ref h), ("places", .ref pd), ("ties", .ref t), ("threes", .ref th)]
theorem tie_len {c : Nat} {te : List Tie} (T : TieOk c te) (hc : c ≤ 5) : te.length ≤ 10 := by
 have := T.pairs.length_eq
 rw [List.length_map] at this
 rw [this]
 exact lts6 (Nat.lt_succ_of_le hc) (by decide) (by decide) (by decide) (by decide) (by decide) (by decide)
noncomputable def restF (te : List Tie) : PV → Option PV
 | .int a => some (.str (nmP te (-a).toNat))
 | _ => none
theorem restF_map (te : List Tie) : ∀ l : List Nat, ((l.map ng).map PV.int).filterMap (restF te) = l.map fun p => PV.str (nmP te p)
 | [] => rfl
 | p :: l => by
  rw [List.map_cons, List.map_cons, List.filterMap_cons, List.map_cons, restF_map te l]
  have e : restF te (.int (ng p)) = some (.str (nmP te p)) := by
   have e : (-ng p).toNat = p := by unfold ng; omega
   show some (PV.str (nmP te (-ng p).toNat)) = _
   rw [e]
  rw [e]
section
variable {C : Cx} (px : Px C) {n : Nat} {c : Nat} {te : List Tie} (T : TieOk c te) (hc : c ≤ 5) {t pd tr i d l h th : Nat} {v : List Nat} {R : List Row}
include px T hc
theorem turn_loop {S : Sto} {w cid x y : Nat} {xs : List Int} (E : RE te S t pd tr i d l v R) (hw : S[w]? = some (.list ((bitsD te.length y).map fun p => PV.str (nmP te p)))) (hcid : S[cid]? = some (.list (xs.map .int))) (K : Col te.length xs x)
  (hy : y < 2 ^ te.length) (h1 : cid ≠ t) (h2 : cid ≠ tr) (h3 : cid ≠ l) (h4 : cid ≠ w) :
  ∃ ys : List Int, Col te.length ys (x ^^^ y) ∧ Fo C (n + 4) φre (loC cid tr i h pd t th) (fT RFt) (bOf RFt) (ListIt w) 0 S .next (loC cid tr i h pd t th) (S.set cid (.list (ys.map .int))) := by
 have hm := tie_len T hc
 obtain ⟨lo', st', ⟨e1, ys, e2, e3⟩, hf⟩ := Fo.inv0 (C := C) (n := n + 4) (φ := φre) (t := fT RFt) (b := bOf RFt) (It := ListIt w)
  (fun k lo s => lo = loC cid tr i h pd t th ∧ ∃ ys : List Int, s = S.set cid (.list (ys.map .int)) ∧ Col te.length ys (xorL ((bitsD te.length y).take k) x))
  (bitsD te.length y).length (lo := loC cid tr i h pd t th) (st := S) ⟨rfl, xs, (set_same hcid).symm, by simpa [xorL] using K⟩
  (fun k lo s hk ⟨e1, ys, e2, e3⟩ => by
   subst e1 e2
   have hp : (bitsD te.length y)[k]? = some (bitsD te.length y)[k] := List.getElem?_eq_getElem hk
   have hpm := (mem_bitsD.mp (List.getElem_mem hk)).1
   generalize (bitsD te.length y)[k] = p at hp hpm
   have g0 : (S.set cid (.list (ys.map .int)))[cid]? = some (.list (ys.map .int)) := gs_self hcid
   have hturn := sp_turn px (n := n) (pl := (p : Int)) g0 (by have := e3.len; omega)
   rw [List.set_set] at hturn
   obtain ⟨zs, f1, f2⟩ := e3.turn hpm
   rw [f1] at hturn
   have Es := E.set (o := .list (ys.map .int)) hcid h1 h2 h3
   have hlk := O.sub_dict (C := C) (n := n + 4) (value := .Name "places" ⟨234, 38, 234, 44⟩) (slice := .Name "name" ⟨234, 45, 234, 49⟩) Es.plc (places_at T hc hpm) (by intro _ _; with_unfolding_all rfl)
   apply StepI.mk (p := .str (nmP te p)) (lo3 := loC cid tr i h pd t th) (st2 := S.set cid (.list (zs.map .int)))
   ·exact ⟨rfl, zs, rfl, by rw [take_snoc hp, xorL_snoc]; exact f2⟩
   ·exact ⟨_, gs_ne h4 hw, by rw [List.getElem?_map, hp]; rfl⟩
   ·exact As.name (.inl rfl)
   ·apply Ex.cons
    ·apply Ex1.expr (p := .none)
     ·apply Ev.callf
      ·walk_at "ev"
      ·apply EvL.cons
       ·exact Ev.loc rfl rfl (by decide)
       ·apply EvL.cons
        ·exact Ev.sub (Ev.cell rfl rfl (by decide)) (Ev.loc rfl rfl (by decide)) hlk
        ·exact EvL.nil
        ·intro _; rfl
       ·intro _; rfl
      ·exact Px.K ‹Px _› _ _ rfl
      ·rfl
      ·exact hturn
      ·intro _; rfl
      ·intro _; rfl
    exact Ex.nil
   ·exact ⟨rfl, rfl, rfl, rfl, rfl, rfl, rfl, trivial⟩)
  (fun lo s ⟨e1, ys, e2, e3⟩ => by
   subst e2
   exact ⟨_, gs_ne h4 hw, by rw [List.getElem?_eq_none (by rw [List.length_map]; omega)]⟩)
 subst e1 e2
 rw [List.take_of_length_le (Nat.le_refl _), xorL_bits hy] at e3
 exact ⟨ys, e3, hf⟩
theorem rest_comp {S : Sto} {cid x p : Nat} {low rowv : PV} {xs : List Int} (E : RE te S t pd tr i d l v R) (hcid : S[cid]? = some (.list (xs.map .int))) (K : Col te.length xs x) :
  ∃ S', SExt S S' ∧ S'[S.length + 1]? = some (.list ((bitsD te.length x).map fun p => PV.str (nmP te p))) ∧
   Ex1 C n φre (("row", rowv) :: ("low", low) :: loC cid tr i h pd t th) RLC S .next (("rest", .ref (S.length + 1)) :: ("row", rowv) :: ("low", low) :: loC cid tr i h pd t th) S' := by
 have hm := tie_len T hc
 have hlen := K.len
 have side : CompSide C φre (("row", rowv) :: ("low", low) :: loC cid tr i h pd t th) [("ties", .ref t)] (lcI (vOf RLC)) (lcS (vOf RLC)) :=
  ⟨⟨rfl, rfl, trivial⟩, by decide, rfl, by decide, by intro _ _; rfl⟩
 have hsort := _root_.Mine.C.sorted_ints (C := C) (n := n) (ys := (bitsD te.length x).map ng) hcid (by omega) K.perm.symm (by
  rw [List.pairwise_map]
  refine (bitsD_desc te.length x).imp fun h => ?_
  unfold ng; omega)
 have hit : ItrE C n φre (("row", rowv) :: ("low", low) :: loC cid tr i h pd t th) (lcI (vOf RLC)) S (ListIt S.length) (S ++ [.list (((bitsD te.length x).map ng).map .int)]) := by
  refine ItrE.of (p := .ref S.length) ?_ (Itr.list gl)
  apply Ev.callb
  ·walk_at "ev"
  ·exact EvL.cons (Ev.loc rfl rfl (by decide)) EvL.nil
  ·exact hsort
  ·intro _; rfl
  ·intro _; rfl
 have hes : SExt S (S ++ [Ob.list (((bitsD te.length x).map ng).map .int)]) := SExt.app _ _
 have hl1 : (S ++ [Ob.list (((bitsD te.length x).map ng).map .int)]).length = S.length + 1 := by simp
 obtain ⟨S', f1, f2, f3⟩ := Ex1.compS (C := C) (n := n) (s := RLC) (y := "rest") (ps := ((bitsD te.length x).map ng).map PV.int) rfl (restF te) hit side (listIt_ext gl)
  (fun q hq S1 e1 => by
   obtain ⟨a, ha, rfl⟩ := List.mem_map.mp hq
   obtain ⟨p, hp, rfl⟩ := List.mem_map.mp ha
   have hpm := (mem_bitsD.mp hp).1
   have e : (-ng p).toNat = p := by unfold ng; omega
   show StepC C n _ _ _ _ _ S1 (.int (ng p)) (some (.str (nmP te (-ng p).toNat)))
   rw [e]
   have E1 := (E.ext hes).ext e1
   have eneg : Op1 C n (unaryOp .USub) (.int (ng p)) S1 (.int (p : Int)) S1 := by
    have := O.neg (C := C) (n := n) (st := S1) (a := ng p)
    rwa [show -ng p = (p : Int) by unfold ng; omega] at this
   have hat : at? (tpe te) (p : Int) = some (.tup [.int te[p].1, .str (nmP te p)]) := at_nat (tpe_nmP hpm)
   refine StepC.some (lo1 := ("place", .int (ng p)) :: [("ties", .ref t)]) (S1 := S1) (S2 := S1) (AsL.name rfl) ⟨rfl, trivial⟩ TrL.nil ?_
   apply Ev.sub
   ·apply Ev.sub
    ·exact Ev.cell rfl rfl (by decide)
    ·exact Ev.un (Ev.loc rfl rfl (by decide)) eneg
    ·exact O.sub_list E1.ties (by rw [tpe_len]; omega) hat (by intro _ _; with_unfolding_all rfl)
   ·walk_at "ev"
   ·exact O.sub_tup (by decide) rfl (by simp) (by intro _ _; with_unfolding_all rfl))
  (by rw [List.length_map, List.length_map]; have := K.perm.length_eq; rw [List.length_map] at this; omega) rfl (by intro env h; unfold swapsWith Env.blockKind Env.kindOf; rw [h]; rfl)
 rw [hl1] at f2 f3
 refine ⟨S', hes.trans f1, ?_, f3⟩
 rw [f2, restF_map]
end
end
section
noncomputable def SB (a b : Nat) (st st' : Sto) : Prop := ∀ (j : Nat) o, j ≠ a → j ≠ b → st[j]? = some o → st'[j]? = some o
theorem SB.of {a b : Nat} {st st' : Sto} (e : SExt st st') : SB a b st st' := fun j o _ _ h => e j o h
theorem SB.trans {a b : Nat} {x y z : Sto} (h1 : SB a b x y) (h2 : SB a b y z) : SB a b x z := fun j o n1 n2 h => h2 j o n1 n2 (h1 j o n1 n2 h)
theorem SB.set1 {a b : Nat} {st : Sto} {o : Ob} : SB a b st (st.set a o) := fun j o' n1 _ h => gs_ne (Ne.symm n1) h
theorem SB.set2 {a b : Nat} {st : Sto} {o : Ob} : SB a b st (st.set b o) := fun j o' _ n2 h => gs_ne (Ne.symm n2) h
theorem SB.new {a a' b : Nat} {x y z : Sto} (h1 : SB a b x y) (ha : x.length ≤ a') (h2 : SB a' b y z) : SB a b x z := fun j o n1 n2 h =>
 h2 j o (by have := (List.getElem?_eq_some_iff.mp h).1; omega) n2 (h1 j o n1 n2 h)
section
variable {C : Cx} (px : Px C) {n : Nat} {c : Nat} {te : List Tie} (T : TieOk c te) (hc : c ≤ 5) {t pd tr i d l h th : Nat} {R : List Row}
include px
theorem col_done {st : Sto} {cid : Nat} (hcid : st[cid]? = some (.list [])) : Wh C n φre (loC cid tr i h pd t th) (tOf RW2) (bOf RW2) st .next (loC cid tr i h pd t th) (st ++ [.list []]) := by
 have hnil : (st ++ [Ob.list []])[st.length]? = some (.list []) := gl
 have hh1 : (st ++ [Ob.list []])[cid]? = some (.list []) := ga hcid
 have hcmp : Op2 C n (compareOp .NotEq) (.ref cid) (.ref st.length) (st ++ [Ob.list []]) (.bool false) (st ++ [Ob.list []]) := O.ne_nil hh1 hnil
 apply Wh.done
 apply Tr.cmp
 ·exact Ev.loc rfl rfl (by decide)
 ·exact Ev.list EvL.nil (by decide)
 ·exact hcmp
 ·with_unfolding_all rfl
include T hc
theorem pop_low {v : List Nat} {st : Sto} {cid x p : Nat} {rest : List Nat} {xs : List Int} {a : Int} (E : RE te st t pd tr i d l v R) (hcid : st[cid]? = some (.list ((xs ++ [a]).map .int))) (K : Col te.length (xs ++ [a]) x)
  (hb : bitsD te.length x = p :: rest) (h1 : cid ≠ t) (h2 : cid ≠ tr) (h3 : cid ≠ l) :
  ∃ ys : List Int, Col te.length ys (x ^^^ 2 ^ p) ∧ Ex1 C (n + 4) φre (loC cid tr i h pd t th) (sAt (bOf RW2) 0) st .next (("low", .str (nmP te p)) :: loC cid tr i h pd t th) (st.set cid (.list (ys.map .int))) := by
 have hm := tie_len T hc
 have hp := (top_bit hb).1
 obtain ⟨ys, f1, f2, f3⟩ := K.pop hb
 refine ⟨ys, f2, ?_⟩
 have hmap : (xs ++ [a]).map PV.int = xs.map .int ++ [.int a] := by simp
 rw [hmap] at hcid
 have hlen := K.len
 rw [List.length_append] at hlen
 have hpop := sp_heappop px (n := n + 1) (i := cid) (xs := xs.map .int) (x := .int a) (st := st) ltOk_int (SInt.map _) ⟨_, rfl⟩ hcid (by rw [List.length_map]; omega)
 rw [f1] at hpop
 have Es := E.set (o := .list (ys.map .int)) hcid h1 h2 h3
 have hat : at? (tpe te) (p : Int) = some (.tup [.int te[p].1, .str (nmP te p)]) := at_nat (tpe_nmP hp)
 have eneg : Op1 C (n + 4) (unaryOp .USub) (.int (-(p : Int))) (st.set cid (.list (ys.map .int))) (.int (p : Int)) (st.set cid (.list (ys.map .int))) := by
  have := O.neg (C := C) (n := n + 4) (st := st.set cid (.list (ys.map .int))) (a := -(p : Int))
  rwa [show - -(p : Int) = (p : Int) by omega] at this
 apply Ex1.asg (p := .str (nmP te p))
 ·apply Ev.sub
  ·apply Ev.sub
   ·exact Ev.cell rfl rfl (by decide)
   ·apply Ev.un
    ·apply Ev.callf
     ·walk_at "ev"
     ·exact EvL.cons (Ev.loc rfl rfl (by decide)) EvL.nil
     ·exact Px.K ‹Px _› _ _ rfl
     ·rfl
     ·exact hpop
     ·intro _; rfl
     ·intro _; rfl
    ·exact eneg
   ·exact O.sub_list Es.ties (by rw [tpe_len]; omega) hat (by intro _ _; with_unfolding_all rfl)
  ·walk_at "ev"
  ·exact O.sub_tup (by decide) rfl (by simp) (by intro _ _; with_unfolding_all rfl)
 ·exact As.name (.inl rfl)
theorem ask_row {v : List Nat} {st : Sto} {cid p : Nat} (E : RE te st t pd tr i d l v R) (hp : p < te.length) :
  Ex1 C (n + 4) φre (("low", .str (nmP te p)) :: loC cid tr i h pd t th) (sAt (bOf RW2) 1) st .next (("row", optS ((R.find? fun r => r.p == p).map fun r => (rowTxt te r).2)) :: ("low", .str (nmP te p)) :: loC cid tr i h pd t th) st := by
 have hget := sp_get px (n := n + 2) E.hdr (nmP_kok T hc hp)
 rw [nmP_lower T hc hp, getP_rows T hc hp E.rows] at hget
 apply Ex1.asg (p := optS ((R.find? fun r => r.p == p).map fun r => (rowTxt te r).2))
 ·apply Ev.methH px (st1 := st) (st2 := st) (st3 := st) (ks := []) (qs := []) (ps := [.str (nmP te p)]) (i := i) (d := d) (f := 167)
  ·exact Ev.loc rfl rfl (by decide)
  ·exact E.hdr.inst
  ·exact E.hdr.ns
  ·rfl
  ·exact hd_get _
  ·kernel_rfl
  ·kernel_rfl
  ·exact EvL.cons (Ev.loc rfl rfl (by decide)) EvL.nil
  ·exact KwL.nil
  ·exact hget
 ·exact As.name (.inl rfl)
end
end
section
theorem foldl_len : ∀ (l : List Str) (k : Nat), (∀ x ∈ l, x.cps.size = 2) → l.foldl (fun a x => a + x.length + sp1.length) k = k + 3 * l.length
 | [], k, _ => by simp
 | x :: l, k, h => by
  rw [List.foldl_cons, foldl_len l _ fun y hy => h y (List.mem_cons_of_mem _ hy)]
  have : x.length = 2 := h x List.mem_cons_self
  rw [this, List.length_cons]
  show k + 2 + 1 + 3 * l.length = _
  omega
section
variable {C : Cx} (px : Px C) {n : Nat} {c : Nat} {te : List Tie} (T : TieOk c te) (hc : c ≤ 5) {t pd tr i d l h th : Nat} {R : List Row}
include px T hc
theorem store_row {v v' : List Nat} {d0 : Nat} (hv : v = d0 :: v') (hd0 : d0 < te.length) {S : Sto} {cid x p : Nat} {rest : List Nat} {xs : List Int} (E : RE te S t pd tr i d l v R) (hcid : S[cid]? = some (.list (xs.map .int))) (K : Col te.length xs (x ^^^ 2 ^ p))
  (hx : x < 2 ^ te.length) (hb : bitsD te.length x = p :: rest) (hnew : R.find? (fun r => r.p == p) = none) (hR : R.length ≤ 100) (hvl : v.length ≤ 100) :
  ∃ S' cid', SB cid l S S' ∧ S.length ≤ cid' ∧ RE te S' t pd tr i d l v (R ++ [⟨p, d0, x⟩]) ∧ S'[cid']? = some (.list []) ∧
   Ex C (n + 4) φre (("row", .none) :: ("low", .str (nmP te p)) :: loC cid tr i h pd t th) (bOf RIf) S .next (loC cid' tr i h pd t th) S' := by
 have hm := tie_len T hc
 have hp := (top_bit hb).1
 obtain ⟨S1, a1, a2, a3⟩ := rest_comp px T hc (n := n + 4) (h := h) (th := th) (p := p) (low := .str (nmP te p)) (rowv := .none) E hcid K
 have hro : RowOk te.length ⟨p, d0, x⟩ := ⟨hp, hd0, hx, rest, hb⟩
 have E1 := E.ext a1
 have hin : ∀ y ∈ (bitsD te.length (x ^^^ 2 ^ p)).map (nmP te), y.cps.size = 2 := fun y hy => by
  obtain ⟨q, hq, rfl⟩ := List.mem_map.mp hy
  exact nmP_size T hc (mem_bitsD.mp hq).1
 have hin2 : ∀ y ∈ nmP te d0 :: (bitsD te.length (x ^^^ 2 ^ p)).map (nmP te), y.cps.size = 2 := fun y hy => by
  rcases List.mem_cons.mp hy with rfl | hy
  ·exact nmP_size T hc hd0
  ·exact hin y hy
 have hbl : (bitsD te.length (x ^^^ 2 ^ p)).length ≤ te.length := by
  unfold bitsD
  have := List.length_filter_le (x ^^^ 2 ^ p).testBit (List.range te.length).reverse
  simpa using this
 generalize hS2 : S1 ++ [Ob.list [.str (nmP te d0)]] = S2
 have e12 : SExt S1 S2 := hS2 ▸ SExt.app _ _
 have g1 : S2[S1.length]? = some (.list [.str (nmP te d0)]) := hS2 ▸ gl
 have g2 : S2[S.length + 1]? = some (.list ((bitsD te.length (x ^^^ 2 ^ p)).map fun p => PV.str (nmP te p))) := e12 _ _ a2
 have hadd := O.add_list (C := C) (n := n + 4) g1 g2 (by rw [List.length_map]; simp only [List.length_singleton]; omega)
 have hl3 : [PV.str (nmP te d0)] ++ (bitsD te.length (x ^^^ 2 ^ p)).map (fun p => PV.str (nmP te p)) = (nmP te d0 :: (bitsD te.length (x ^^^ 2 ^ p)).map (nmP te)).map .str := by simp
 rw [hl3] at hadd
 generalize hS3 : S2 ++ [Ob.list ((nmP te d0 :: (bitsD te.length (x ^^^ 2 ^ p)).map (nmP te)).map .str)] = S3 at hadd
 have e23 : SExt S2 S3 := hS3 ▸ SExt.app _ _
 have g3 : S3[S2.length]? = some (.list ((nmP te d0 :: (bitsD te.length (x ^^^ 2 ^ p)).map (nmP te)).map .str)) := hS3 ▸ gl
 have hsz := row_size T hc hro
 have hz62 : (rowTxt te ⟨p, d0, x⟩).2.cps.size < 2 ^ 62 := by omega
 have hjoin : Cl C (n + 4) (.builtin "str.join") [.str (Str.ofString " "), .ref S2.length] S3 (.str (rowTxt te ⟨p, d0, x⟩).2) S3 :=
  _root_.Mine.C.join (sep := sp1) g3 (by
   rw [List.foldl_toArray, foldl_len _ _ hin2]
   unfold Builtin.Str.tooLong
   rw [List.length_cons, List.length_map]
   simp [sizeLine_eq]; omega) (by
   have : (Builtin.Str.glued sp1 (nmP te d0 :: (bitsD te.length (x ^^^ 2 ^ p)).map (nmP te))).length = (rowTxt te ⟨p, d0, x⟩).2.cps.size := rfl
   rw [this, sizeLine_eq]; omega)
 have E3 := (E1.ext e12).ext e23
 have hup : Cl C (n + 4) (.builtin "str.upper") [.str (nmP te p)] S3 (.str (Txt.upper (nmP te p))) S3 := _root_.Mine.C.upper (upP_fit T hc hp)
 obtain ⟨S4, b1, b2⟩ := sp_set px (n := n + 1) E3.hdr (upP_kok T hc hp) (upP_clean T hc hp).1 (upP_clean T hc hp).2 (row_clean T hc hro) hz62
 have hne : ∀ r ∈ R, r.p ≠ p := fun r hr q => by
  have := List.find?_eq_none.mp hnew r hr
  simp [q] at this
 rw [delP_rows T hc hp E.rows hne] at b2
 have hrows : R.map (rowTxt te) ++ [(Txt.upper (nmP te p), (rowTxt te ⟨p, d0, x⟩).2)] = (R ++ [(⟨p, d0, x⟩ : Row)]).map (rowTxt te) := by rw [List.map_append]; rfl
 rw [hrows] at b2
 have hset := O.setH px E3.hdr.inst E3.hdr.ns b2
 have E4 := E3.ext b1
 generalize hS5 : S4.set l (.list (hpv ((R ++ [(⟨p, d0, x⟩ : Row)]).map (rowTxt te)))) = S5 at hset
 have hok : ∀ r ∈ R ++ [(⟨p, d0, x⟩ : Row)], RowOk te.length r := fun r hr => by
  rcases List.mem_append.mp hr with q | q
  ·exact E.rows r q
  ·simp at q; exact q ▸ hro
 have E5 : RE te S5 t pd tr i d l v (R ++ [⟨p, d0, x⟩]) := by
  rw [← hS5]
  exact ⟨gs_ne E4.l1 E4.ties, gs_ne (ne_kind E4.hdr.list E4.plc (by intro q; cases q)) E4.plc, gs_ne E4.l2 E4.three, E4.hdr.setList (rows_keys T hc hok) (by rw [List.length_map, List.length_append]; simp only [List.length_singleton]; omega), hok, E4.l1, E4.l2⟩
 have hl5 : S.length ≤ S5.length := by
  rw [← hS5, List.length_set]
  exact Nat.le_trans (Nat.le_trans a1.len e12.len) (Nat.le_trans e23.len b1.len)
 refine ⟨S5 ++ [.list []], S5.length, ?_, hl5, E5.ext (SExt.app _ _), gl, ?_⟩
 ·refine (((SB.of a1).trans (SB.of e12)).trans ((SB.of e23).trans (SB.of b1))).trans (SB.trans ?_ (SB.of (SExt.app _ _)))
  rw [← hS5]; exact SB.set2
 ·have hat0 : at? (v.map fun (k : Nat) => PV.int (k : Int)) 0 = some (.int (d0 : Int)) := by subst hv; rfl
  have hatd : at? (tpe te) (d0 : Int) = some (.tup [.int te[d0].1, .str (nmP te d0)]) := at_nat (tpe_nmP hd0)
  refine Ex.to (lo1 := ("column", .ref S5.length) :: ("rest", .ref (S.length + 1)) :: ("row", .none) :: ("low", .str (nmP te p)) :: loC cid tr i h pd t th) ?_ ⟨rfl, rfl, rfl, rfl, rfl, rfl, rfl, trivial⟩
  apply Ex.cons
  ·exact a3
  apply Ex.cons
  ·apply Ex1.asg (p := .str (rowTxt te ⟨p, d0, x⟩).2) (st1 := S3)
   ·apply Ev.meth_join (p := .str (Str.ofString " ")) (ps := [.ref S2.length]) (st1 := S1) (st2 := S3)
    ·exact Ev.cstr
    ·exact TyP.str
    ·apply EvL.cons (st1 := S3)
     ·apply Ev.bin (p := .ref S1.length) (q := .ref (S.length + 1)) (st1 := S2) (st2 := S2)
      ·rw [← hS2]
       apply Ev.list (st1 := S1) (ps := [.str (nmP te d0)])
       ·apply EvL.cons (st1 := S1)
        ·apply Ev.sub (st1 := S1) (st2 := S1)
         ·apply Ev.sub (st1 := S1) (st2 := S1) (q := .int (d0 : Int))
          ·exact Ev.cell rfl rfl (by decide)
          ·apply Ev.sub (st1 := S1) (st2 := S1)
           ·exact Ev.loc rfl rfl (by decide)
           ·exact Ev.cint
           ·exact O.sub_list E1.three (by rw [List.length_map]; omega) hat0 (by intro _ _; with_unfolding_all rfl)
          ·exact O.sub_list E1.ties (by rw [tpe_len]; omega) hatd (by intro _ _; with_unfolding_all rfl)
         ·exact Ev.cint
         ·exact O.sub_tup (by decide) rfl (by simp) (by intro _ _; with_unfolding_all rfl)
        ·exact EvL.nil
      ·exact Ev.loc rfl rfl (by decide)
      ·exact hadd
     ·exact EvL.nil
    ·exact hjoin
    ·intro _; rfl
    ·intro _; rfl
    ·rfl
    ·intro _; rfl
   ·apply As.sub (st1 := S3) (st2 := S3) (q := .ref i) (r := .str (Txt.upper (nmP te p)))
    ·exact Ev.loc rfl rfl (by decide)
    ·apply Ev.meth_upper (p := .str (nmP te p)) (ps := []) (st1 := S3) (st2 := S3)
     ·exact Ev.loc rfl rfl (by decide)
     ·exact TyP.str
     ·exact EvL.nil
     ·exact hup
     ·intro _; rfl
     ·intro _; rfl
     ·rfl
     ·intro _; rfl
    ·exact hset
  apply Ex.cons
  ·apply Ex1.asg
   ·exact Ev.list EvL.nil (by decide)
   ·exact As.name (.inl rfl)
   ·intro _ _; rfl
   ·intro _; rfl
   ·intro _; rfl
  exact Ex.nil
end
end
section
theorem xor_cancel (x y z : Nat) : (x ^^^ z) ^^^ (y ^^^ z) = x ^^^ y := by
 apply Nat.eq_of_testBit_eq
 intro q
 simp only [Nat.testBit_xor]
 cases x.testBit q <;> cases y.testBit q <;> cases z.testBit q <;> rfl
section
variable {C : Cx} (px : Px C) {n : Nat} {c : Nat} {te : List Tie} (T : TieOk c te) (hc : c ≤ 5) {t pd tr i d l h th : Nat} {R : List Row}
include px T hc
theorem found_row {v : List Nat} {r : Row} {S : Sto} {cid x p : Nat} {xs : List Int} (E : RE te S t pd tr i d l v R) (hcid : S[cid]? = some (.list (xs.map .int))) (K : Col te.length xs (x ^^^ 2 ^ p))
  (hr : R.find? (fun r => r.p == p) = some r) (h1 : cid ≠ t) (h2 : cid ≠ tr) (h3 : cid ≠ l) :
  ∃ (S' : Sto) (ys : List Int), SB cid l S S' ∧ RE te S' t pd tr i d l v R ∧ S'[cid]? = some (.list (ys.map .int)) ∧ Col te.length ys (x ^^^ r.x) ∧
   Ex C (n + 4) φre (("row", .str (rowTxt te r).2) :: ("low", .str (nmP te p)) :: loC cid tr i h pd t th) (oOf RIf) S .next (loC cid tr i h pd t th) S' := by
 have hm := tie_len T hc
 have hmem := List.mem_of_find?_eq_some hr
 have hro := E.rows r hmem
 have hrp : r.p = p := by simpa using List.find?_some hr
 have hw := row_words T hc hro
 have hsz := row_size T hc hro
 have hlen : (Builtin.Str.spaceWords (rowTxt te r).2 ((rowTxt te r).2.length + 1)).length ≤ 2 ^ 20 := by
  have e : (Builtin.Str.spaceWords (rowTxt te r).2 ((rowTxt te r).2.length + 1)).length = (_root_.PySem.wordsOf (rowTxt te r).2).length := by unfold _root_.PySem.wordsOf; rw [List.length_map]
  rw [e, hw, List.length_cons, List.length_map]
  unfold bitsD
  have := List.length_filter_le (r.x ^^^ 2 ^ r.p).testBit (List.range te.length).reverse
  simp only [List.length_reverse, List.length_range] at this
  omega
 have hsplit := _root_.Mine.C.split (C := C) (n := n + 4) (st := S) (x := (rowTxt te r).2) (by show (rowTxt te r).2.cps.size ≤ _; omega) hlen
 rw [hw] at hsplit
 generalize hS1 : S ++ [Ob.list ((nmP te r.d :: (bitsD te.length (r.x ^^^ 2 ^ r.p)).map (nmP te)).map .str)] = S1 at hsplit
 have e01 : SExt S S1 := hS1 ▸ SExt.app _ _
 have g1 : S1[S.length]? = some (.list ((nmP te r.d :: (bitsD te.length (r.x ^^^ 2 ^ r.p)).map (nmP te)).map .str)) := hS1 ▸ gl
 have hbl : (bitsD te.length (r.x ^^^ 2 ^ r.p)).length ≤ te.length := by
  unfold bitsD
  have := List.length_filter_le (r.x ^^^ 2 ^ r.p).testBit (List.range te.length).reverse
  simpa using this
 have hsl : Ev C (n + 4) φre (("row", .str (rowTxt te r).2) :: ("low", .str (nmP te p)) :: loC cid tr i h pd t th) (fI RFt) S (.ref S1.length) (S1 ++ [.list (((nmP te r.d :: (bitsD te.length (r.x ^^^ 2 ^ r.p)).map (nmP te)).map PV.str).drop 1)]) := by
  refine Ev.slice_from (k := 1) (i := S.length) ?_ Ev.cint g1 (by rw [List.length_map, List.length_cons, List.length_map]; omega)
  apply Ev.meth_split (p := .str (rowTxt te r).2) (ps := []) (st1 := S) (st2 := S)
  ·exact Ev.loc rfl rfl (by decide)
  ·exact TyP.str
  ·exact EvL.nil
  ·exact hsplit
  ·intro _; rfl
  ·intro _; rfl
  ·rfl
  ·intro _; rfl
 have hdrop : ((nmP te r.d :: (bitsD te.length (r.x ^^^ 2 ^ r.p)).map (nmP te)).map PV.str).drop 1 = (bitsD te.length (r.x ^^^ 2 ^ r.p)).map fun p => PV.str (nmP te p) := by
  rw [List.map_cons, List.drop_one, List.tail_cons, List.map_map]; rfl
 rw [hdrop] at hsl
 have e12 : SExt S1 (S1 ++ [Ob.list ((bitsD te.length (r.x ^^^ 2 ^ r.p)).map fun p => PV.str (nmP te p))]) := SExt.app _ _
 have hcl := (List.getElem?_eq_some_iff.mp hcid).1
 have e02 := e01.trans e12
 obtain ⟨ys, k1, k2⟩ := turn_loop px T hc (n := n) (h := h) (th := th) (E.ext e02) gl (e02 _ _ hcid) K (flip_lt hro.x hro.p) h1 h2 h3 (by have := e01.len; omega)
 rw [hrp, xor_cancel] at k1
 refine ⟨_, ys, ?_, (E.ext e02).set (e02 _ _ hcid) h1 h2 h3, gs_self (e02 _ _ hcid), k1, ?_⟩
 ·exact (SB.of e02).trans SB.set1
 ·refine Ex.one (Ex1.forE (ItrE.of hsl (Itr.list gl)) (k2.pre (SubL.ok ⟨rfl, rfl, rfl, rfl, rfl, rfl, rfl, trivial⟩)) (by intro _ _; rfl))
theorem col_while {v v' : List Nat} {d0 : Nat} (hv : v = d0 :: v') (hd0 : d0 < te.length) (hvl : v.length ≤ 100) (hR : R.length ≤ 100) : ∀ (k x : Nat) (xs : List Int) (st : Sto) (cid : Nat), x < 2 ^ k → Col te.length xs x → RE te st t pd tr i d l v R →
  st[cid]? = some (.list (xs.map .int)) → cid ≠ t → cid ≠ tr → cid ≠ l →
  ∃ st' cid', SB cid l st st' ∧ RE te st' t pd tr i d l v (redR te.length d0 R (redF te.length R k x)) ∧
   Wh C (n + 4) φre (loC cid tr i h pd t th) (tOf RW2) (bOf RW2) st .next (loC cid' tr i h pd t th) st' :=
 by
 have hnil : ∀ (k x : Nat) (xs : List Int) (st : Sto) (cid : Nat), Col te.length xs x → RE te st t pd tr i d l v R → st[cid]? = some (.list (xs.map .int)) → bitsD te.length x = [] →
   ∃ st' cid', SB cid l st st' ∧ RE te st' t pd tr i d l v (redR te.length d0 R (redF te.length R k x)) ∧
    Wh C (n + 4) φre (loC cid tr i h pd t th) (tOf RW2) (bOf RW2) st .next (loC cid' tr i h pd t th) st' := by
  intro k x xs st cid K E hcid hb
  have hxs : xs = [] := by
   have := K.perm.length_eq
   rw [hb] at this
   exact List.eq_nil_of_length_eq_zero this
  subst hxs
  have hred : redR te.length d0 R (redF te.length R k x) = R := by
   have : redF te.length R k x = x := by cases k with | zero => rfl | succ k => unfold redF; rw [hb]
   rw [this]; unfold redR; rw [hb]
  rw [hred]
  exact ⟨st ++ [.list []], cid, SB.of (SExt.app _ _), E.ext (SExt.app _ _), col_done px hcid⟩
 intro k
 induction k with
 | zero =>
  intro x xs st cid hk K E hcid h1 h2 h3
  have : x = 0 := by simpa using hk
  subst this
  exact hnil 0 0 xs st cid K E hcid (bitsD_zero _)
 | succ k ih =>
  intro x xs st cid hk K E hcid h1 h2 h3
  cases hb : bitsD te.length x with
  | nil => exact hnil (k + 1) x xs st cid K E hcid hb
  | cons p rest =>
   obtain ⟨hp, hbit⟩ := top_bit hb
   have hpk : p ≤ k := by
    have := Nat.ge_two_pow_of_testBit hbit
    rcases Nat.lt_or_ge k p with q | q
    ·have := Nat.pow_le_pow_right (n := 2) (by decide) (show k + 1 ≤ p from q)
     omega
    ·exact q
   have hne0 : xs ≠ [] := by
    intro q; subst q
    have := K.perm.length_eq
    rw [hb] at this; simp at this
   obtain ⟨ys0, a, rfl⟩ : ∃ ys0 a, xs = ys0 ++ [a] := ⟨xs.dropLast, xs.getLast hne0, (List.dropLast_concat_getLast hne0).symm⟩
   have hnil : (st ++ [Ob.list []])[st.length]? = some (.list []) := gl
   have hh1 : (st ++ [Ob.list []])[cid]? = some (.list ((ys0 ++ [a]).map .int)) := ga hcid
   have hcmp : Op2 C (n + 4) (compareOp .NotEq) (.ref cid) (.ref st.length) (st ++ [Ob.list []]) (.bool true) (st ++ [Ob.list []]) := by
    have := O.ne_nil (C := C) (n := n + 4) hh1 hnil
    rwa [show (!((ys0 ++ [a]).map PV.int).isEmpty) = true by simp] at this
   have htest : Tr C (n + 4) φre (loC cid tr i h pd t th) (tOf RW2) st true (st ++ [Ob.list []]) := by
    apply Tr.cmp
    ·exact Ev.loc rfl rfl (by decide)
    ·exact Ev.list EvL.nil (by decide)
    ·exact hcmp
    ·with_unfolding_all rfl
   have E1 := E.ext (SExt.app st [Ob.list []])
   obtain ⟨ys, q1, q2⟩ := pop_low px T hc (n := n) (h := h) (th := th) E1 hh1 K hb h1 h2 h3
   have E2 := E1.set (o := .list (ys.map .int)) hh1 h1 h2 h3
   have hc2 : ((st ++ [Ob.list []]).set cid (.list (ys.map .int)))[cid]? = some (.list (ys.map .int)) := gs_self hh1
   have sb2 : SB cid l st ((st ++ [Ob.list []]).set cid (.list (ys.map .int))) := (SB.of (SExt.app _ _)).trans SB.set1
   have hl2 : st.length ≤ ((st ++ [Ob.list []]).set cid (.list (ys.map .int))).length := by rw [List.length_set]; simp
   generalize (st ++ [Ob.list []]).set cid (.list (ys.map .int)) = S2 at q2 E2 hc2 sb2 hl2
   have q3 := ask_row px T hc (n := n) (cid := cid) (h := h) (th := th) E2 hp
   cases hf : R.find? (fun r => r.p == p) with
   | none =>
    rw [hf] at q3
    obtain ⟨S3, cid', s1, s2, s3, s4, s5⟩ := store_row px T hc (n := n) (h := h) (th := th) hv hd0 E2 hc2 q1 K.lt hb hf hR hvl
    have hred : redR te.length d0 R (redF te.length R (k + 1) x) = R ++ [⟨p, d0, x⟩] := by
     have : redF te.length R (k + 1) x = x := by unfold redF; rw [hb]; dsimp only; rw [hf]
     rw [this]; unfold redR; rw [hb]
    rw [hred]
    refine ⟨S3 ++ [.list []], cid', (sb2.trans s1).trans (SB.of (SExt.app _ _)), s3.ext (SExt.app _ _), ?_⟩
    refine Wh.turn htest (.inl ?_) (col_done px s4)
    refine Ex.cons q2 (Ex.cons q3 (Ex.one ?_))
    apply Ex1.if_t
    ·apply Tr.cmp
     ·exact Ev.loc rfl rfl (by decide)
     ·exact Ev.cnone
     ·exact O.isNone'
     ·with_unfolding_all rfl
    ·exact s5
   | some r =>
    rw [hf] at q3
    obtain ⟨S3, zs, s1, s2, s3, s4, s5⟩ := found_row px T hc (n := n) (h := h) (th := th) E2 hc2 q1 hf h1 h2 h3
    have hro := E.rows r (List.mem_of_find?_eq_some hf)
    have hrp : r.p = p := by simpa using List.find?_some hf
    obtain ⟨rest2, hrt⟩ := hro.top
    rw [hrp] at hrt
    have hlt : x ^^^ r.x < 2 ^ k := Nat.lt_of_lt_of_le (xor_top K.lt hro.x hb hrt) (Nat.pow_le_pow_right (by decide) hpk)
    obtain ⟨st', cid', w1, w2, w3⟩ := ih (x ^^^ r.x) zs S3 cid hlt s4 s2 s3 h1 h2 h3
    have hred : redF te.length R (k + 1) x = redF te.length R k (x ^^^ r.x) := by
     show (match bitsD te.length x with | [] => x | p :: _ => _) = _
     rw [hb]; dsimp only; rw [hf]
    rw [hred]
    refine ⟨st', cid', (sb2.trans s1).trans w1, w2, ?_⟩
    refine Wh.turn htest (.inl ?_) w3
    refine Ex.cons q2 (Ex.cons q3 (Ex.one ?_))
    have hnn : Op2 C (n + 4) (compareOp .Is) (.str (rowTxt te r).2) .none S2 (.bool false) S2 := O.isNone (by intro q; cases q) (by intro v q; cases q)
    apply Ex1.if_f
    ·apply Tr.cmp
     ·exact Ev.loc rfl rfl (by decide)
     ·exact Ev.cnone
     ·exact hnn
     ·with_unfolding_all rfl
    ·exact s5
end
end
section
theorem lexLt_eq : ∀ xs ys : List Int, lexLt xs ys = decide (xs < ys)
 | [], [] => by simp [lexLt]
 | [], b :: bs => by simp [lexLt]
 | a :: as, [] => by simp [lexLt]
 | a :: as, b :: bs => by
  unfold lexLt
  rw [lexLt_eq as bs]
  by_cases h : a = b
  ·subst h; simp
  ·have : (a == b) = false := by simpa using h
   rw [this]
   simp [List.cons_lt_cons_iff, h]
theorem lex_irr (a : List Int) : lexLt a a = false := by rw [lexLt_eq]; simp [List.lt_irrefl]
theorem lex_asym {a b : List Int} (h : lexLt a b = true) : lexLt b a = false := by
 rw [lexLt_eq] at *
 simp only [decide_eq_true_eq, decide_eq_false_iff_not] at *
 exact List.lt_asymm h
theorem lex_nt {a b c : List Int} (h1 : lexLt b a = false) (h2 : lexLt c b = false) : lexLt c a = false := by
 rw [lexLt_eq] at *
 simp only [decide_eq_false_iff_not] at *
 exact List.not_lt.mpr (List.le_trans (List.not_lt.mp h1) (List.not_lt.mp h2))
noncomputable def listAt (st : Sto) (j : Nat) : List Int := match st[j]? with
 | some (.list xs) => xs.map fun p => match p with | .int a => a | _ => 0
 | _ => []
noncomputable abbrev vI (v : List Nat) : List PV := v.map fun (k : Nat) => PV.int (k : Int)
noncomputable abbrev vZ (v : List Nat) : List Int := v.map fun (k : Nat) => (k : Int)
theorem vI_eq (v : List Nat) : vI v = (vZ v).map .int := by unfold vI vZ; rw [List.map_map]; rfl
theorem listAt_v {st : Sto} {j : Nat} {v : List Nat} (h : st[j]? = some (.list (vI v))) : listAt st j = vZ v := by
 unfold listAt; rw [h]; dsimp only; unfold vI vZ; rw [List.map_map]; rfl
noncomputable def ltS (st : Sto) : PV → PV → Bool
 | .ref a, .ref b => lexLt (listAt st a) (listAt st b)
 | _, _ => false
noncomputable def SRef (st : Sto) (h : Nat) (p : PV) : Prop := ∃ j v, p = .ref j ∧ j ≠ h ∧ st[j]? = some (.list (vI v))
theorem ltOk_ref {C : Cx} {n h : Nat} {st : Sto} : LtOk C n h (SRef st h) (ltS st) st := by
 rintro p q o ⟨a, v, rfl, ha, h1⟩ ⟨b, u, rfl, hb, h2⟩
 have := O.lt_list (C := C) (n := n) (st := st.set h o) (i := a) (j := b) (xs := vZ v) (ys := vZ u) (by rw [← vI_eq]; exact gs_ne (Ne.symm ha) h1) (by rw [← vI_eq]; exact gs_ne (Ne.symm hb) h2)
 show Op2 C n _ _ _ _ (.bool (lexLt (listAt st a) (listAt st b))) _
 rw [listAt_v h1, listAt_v h2]; exact this
theorem ord_ref {st : Sto} {h : Nat} : Ord (SRef st h) (ltS st) where
 asym := by
  rintro a b ⟨a, v, rfl, _, _⟩ ⟨b, u, rfl, _, _⟩ q
  exact lex_asym q
 nt := by
  rintro a b c ⟨a, v, rfl, _, _⟩ ⟨b, u, rfl, _, _⟩ ⟨c, w, rfl, _, _⟩ h1 h2
  exact lex_nt h1 h2
 irr := by
  rintro a ⟨a, v, rfl, _, _⟩
  exact lex_irr _
theorem heap_congr {lt lt' : PV → PV → Bool} {K : List PV} (e : ∀ a ∈ K, ∀ b ∈ K, lt a b = lt' a b) (H : HeapP lt K) : HeapP lt' K := fun i v u hi hv hu ha => by
 have := H i v u hi hv hu ha
 unfold le at *
 rw [← e _ (List.mem_of_getElem? hv) _ (List.mem_of_getElem? hu)]; exact this
theorem ltS_congr {st st' : Sto} {K : List PV} (e : ∀ j v, PV.ref j ∈ K → st[j]? = some (.list (vI v)) → st'[j]? = some (.list (vI v))) (hK : ∀ p ∈ K, ∃ j v, p = PV.ref j ∧ st[j]? = some (.list (vI v))) : ∀ a ∈ K, ∀ b ∈ K, ltS st a b = ltS st' a b := fun a ha b hb => by
 obtain ⟨i, v, rfl, h1⟩ := hK a ha
 obtain ⟨j, u, rfl, h2⟩ := hK b hb
 show lexLt _ _ = lexLt _ _
 rw [listAt_v h1, listAt_v h2, listAt_v (e i v ha h1), listAt_v (e j u hb h2)]
structure V3 (m : Nat) (v : List Nat) : Prop where
 lt : ∀ p ∈ v, p < m
 nodup : v.Nodup
 three : v.length = 3
section
variable {C : Cx} (px : Px C) {n : Nat} {c : Nat} {te : List Tie} (T : TieOk c te) (hc : c ≤ 5) {t pd i d l h th : Nat} {R : List Row}
include px
theorem push_loop {S : Sto} {tr cid m : Nat} {v : List Nat} (hm : m ≤ 10) (hv : V3 m v) (htr : S[tr]? = some (.list (vI v))) (hcid : S[cid]? = some (.list [])) (hne : cid ≠ tr) :
  ∃ xs : List Int, Col m xs (xorL v 0) ∧ Fo C (n + 2) φre (loC cid tr i h pd t th) (fT RFp) (bOf RFp) (ListIt tr) 0 S .next (loC cid tr i h pd t th) (S.set cid (.list (xs.map .int))) := by
 obtain ⟨lo', st', ⟨e1, ys, e2, e3⟩, hf⟩ := Fo.inv0 (C := C) (n := n + 2) (φ := φre) (t := fT RFp) (b := bOf RFp) (It := ListIt tr)
  (fun k lo s => lo = loC cid tr i h pd t th ∧ ∃ ys : List Int, s = S.set cid (.list (ys.map .int)) ∧ Col m ys (xorL (v.take k) 0))
  v.length (lo := loC cid tr i h pd t th) (st := S) ⟨rfl, [], (set_same hcid).symm, Col.nil m⟩
  (fun k lo s hk ⟨e1, ys, e2, e3⟩ => by
   subst e1 e2
   have hp : v[k]? = some v[k] := List.getElem?_eq_getElem hk
   have hpm := hv.lt _ (List.getElem_mem hk)
   have htake := take_snoc hp
   have hnd : (v.take (k + 1)).Nodup := List.Nodup.sublist (List.take_sublist _ _) hv.nodup
   generalize v[k] = p at hp hpm htake
   rw [htake] at hnd
   have hb : (xorL (v.take k) 0).testBit p = false := by
    rw [xorL_bit _ _ _ (List.Nodup.sublist (List.take_sublist _ _) hv.nodup)]
    have : (v.take k).contains p = false := by
     rw [List.nodup_append] at hnd
     have := hnd.2.2
     cases q : (v.take k).contains p with
     | false => rfl
     | true =>
      rw [List.contains_iff_mem] at q
      exact absurd rfl (this p q p (by simp))
    rw [this]; simp
   have g0 : (S.set cid (.list (ys.map .int)))[cid]? = some (.list (ys.map .int)) := gs_self hcid
   have hpush := sp_heappush px (n := n) (i := cid) (xs := ys.map .int) (x := .int (-(p : Int))) (st := S.set cid (.list (ys.map .int))) ltOk_int (SInt.map _) ⟨_, rfl⟩ g0 (by rw [List.length_map]; have := e3.len; omega)
   rw [List.set_set] at hpush
   obtain ⟨zs, f1, f2⟩ := e3.push hpm hb
   rw [f1] at hpush
   apply StepI.mk (p := .int (p : Int)) (lo3 := loC cid tr i h pd t th) (st2 := S.set cid (.list (zs.map .int)))
   ·exact ⟨rfl, zs, rfl, by rw [htake, xorL_snoc]; exact f2⟩
   ·exact ⟨_, gs_ne hne htr, by unfold vI; rw [List.getElem?_map, hp]; rfl⟩
   ·exact As.name (.inl rfl)
   ·apply Ex.cons
    ·apply Ex1.expr (p := .none)
     ·apply Ev.callf
      ·walk_at "ev"
      ·apply EvL.cons
       ·exact Ev.loc rfl rfl (by decide)
       ·apply EvL.cons
        ·exact Ev.un (Ev.loc rfl rfl (by decide)) O.neg
        ·exact EvL.nil
        ·intro _; rfl
       ·intro _; rfl
      ·exact Px.K ‹Px _› _ _ rfl
      ·rfl
      ·exact hpush
      ·intro _; rfl
      ·intro _; rfl
    exact Ex.nil
   ·exact ⟨rfl, rfl, rfl, rfl, rfl, rfl, rfl, trivial⟩)
  (fun lo s ⟨e1, ys, e2, e3⟩ => by
   subst e2
   exact ⟨_, gs_ne hne htr, by rw [List.getElem?_eq_none (by unfold vI; rw [List.length_map]; omega)]⟩)
 subst e1 e2
 rw [List.take_of_length_le (Nat.le_refl _)] at e3
 exact ⟨ys, e3, hf⟩
end
end
section
noncomputable def vAt (st : Sto) : PV → List Nat
 | .ref j => (listAt st j).map Int.toNat
 | _ => []
theorem vAt_v {st : Sto} {j : Nat} {v : List Nat} (h : st[j]? = some (.list (vI v))) : vAt st (.ref j) = v := by
 show (listAt st j).map Int.toNat = v
 rw [listAt_v h]; unfold vZ; rw [List.map_map]
 have : (Int.toNat ∘ fun (k : Nat) => (k : Int)) = id := by funext k; simp
 rw [this, List.map_id]
noncomputable def stepV (m : Nat) (R : List Row) (v : List Nat) : List Row := redR m (v.headD 0) R (redF m R m (xorL v 0))
theorem stepV_len (m : Nat) (R : List Row) (v : List Nat) : (stepV m R v).length ≤ R.length + 1 := by
 unfold stepV redR
 split
 ·omega
 ·simp
structure RB (te : List Tie) (st : Sto) (t pd i d l : Nat) (R : List Row) : Prop where
 ties : st[t]? = some (.list (tpe te))
 plc : st[pd]? = some (.dict (placesD te))
 hdr : Hdr st i d l (R.map (rowTxt te))
 rows : ∀ r ∈ R, RowOk te.length r
 l1 : l ≠ t
theorem RB.ext {te : List Tie} {st st' : Sto} {t pd i d l : Nat} {R : List Row} (B : RB te st t pd i d l R) (e : SExt st st') : RB te st' t pd i d l R := ⟨e _ _ B.ties, e _ _ B.plc, B.hdr.ext e, B.rows, B.l1⟩
theorem RB.set {te : List Tie} {st : Sto} {t pd i d l cid : Nat} {R : List Row} {ys : List PV} {o : Ob} (E : RB te st t pd i d l R) (hc : st[cid]? = some (.list ys)) (h1 : cid ≠ t) (h3 : cid ≠ l) : RB te (st.set cid o) t pd i d l R where
 ties := gs_ne h1 E.ties
 plc := gs_ne (ne_kind hc E.plc (by intro q; cases q)) E.plc
 hdr := ⟨gs_ne (ne_kind hc E.hdr.inst (by intro q; cases q)) E.hdr.inst, gs_ne (ne_kind hc E.hdr.ns (by intro q; cases q)) E.hdr.ns, gs_ne h3 E.hdr.list, E.hdr.keys, E.hdr.small⟩
 rows := E.rows
 l1 := E.l1
theorem RB.re {te : List Tie} {st : Sto} {t pd i d l tr : Nat} {v : List Nat} {R : List Row} (B : RB te st t pd i d l R) (h1 : st[tr]? = some (.list (vI v))) (h2 : l ≠ tr) : RE te st t pd tr i d l v R := ⟨B.ties, B.plc, h1, B.hdr, B.rows, B.l1, h2⟩
theorem RE.rb {te : List Tie} {st : Sto} {t pd i d l tr : Nat} {v : List Nat} {R : List Row} (E : RE te st t pd tr i d l v R) : RB te st t pd i d l R := ⟨E.ties, E.plc, E.hdr, E.rows, E.l1⟩
section
variable {C : Cx} (px : Px C) {n : Nat} {c : Nat} {te : List Tie} (T : TieOk c te) (hc : c ≤ 5) {t pd i d l h th : Nat}
include px T hc
theorem red_while (hht : h ≠ t) (hhl : h ≠ l) : ∀ (k : Nat) (K : List PV) (R : List Row) (st : Sto), K.length = k → HeapP (ltS st) K → st[h]? = some (.list K) →
  (∀ p ∈ K, ∃ j v, p = PV.ref j ∧ j ≠ h ∧ j ≠ l ∧ st[j]? = some (.list (vI v)) ∧ V3 te.length v) → RB te st t pd i d l R → k + R.length ≤ 90 →
  ∃ (st' : Sto) (vs : List (List Nat)), vs.Perm (K.map (vAt st)) ∧ vs.Pairwise (fun a b => lexLt (vZ b) (vZ a) = false) ∧ SB h l st st' ∧ RB te st' t pd i d l (vs.foldl (stepV te.length) R) ∧
   Wh C (n + 4) φre (loR i h pd t th) (tOf RW1) (bOf RW1) st .next (loR i h pd t th) st'
 | 0, K, R, st, hK, H, hst, hp, B, hz => by
  have : K = [] := List.eq_nil_of_length_eq_zero hK
  subst this
  have hnil : (st ++ [Ob.list []])[st.length]? = some (.list []) := gl
  have hh1 : (st ++ [Ob.list []])[h]? = some (.list []) := ga hst
  have hcmp : Op2 C (n + 4) (compareOp .NotEq) (.ref h) (.ref st.length) (st ++ [Ob.list []]) (.bool false) (st ++ [Ob.list []]) := O.ne_nil hh1 hnil
  refine ⟨st ++ [.list []], [], List.Perm.refl _, List.Pairwise.nil, SB.of (SExt.app _ _), B.ext (SExt.app _ _), ?_⟩
  apply Wh.done
  apply Tr.cmp
  ·exact Ev.loc rfl rfl (by decide)
  ·exact Ev.list EvL.nil (by decide)
  ·exact hcmp
  ·with_unfolding_all rfl
 | k + 1, K, R, st, hK, H, hst, hp, B, hz => by
  have hm := tie_len T hc
  have hne0 : K ≠ [] := by intro q; subst q; cases hK
  obtain ⟨K0, a, rfl⟩ : ∃ K0 a, K = K0 ++ [a] := ⟨K.dropLast, K.getLast hne0, (List.dropLast_concat_getLast hne0).symm⟩
  have hnil : (st ++ [Ob.list []])[st.length]? = some (.list []) := gl
  have hh1 : (st ++ [Ob.list []])[h]? = some (.list (K0 ++ [a])) := ga hst
  have e01 : SExt st (st ++ [Ob.list []]) := SExt.app _ _
  have hl01 : (st ++ [Ob.list []]).length = st.length + 1 := by simp
  have hcmp : Op2 C (n + 4) (compareOp .NotEq) (.ref h) (.ref st.length) (st ++ [Ob.list []]) (.bool true) (st ++ [Ob.list []]) := by
   have := O.ne_nil (C := C) (n := n + 4) hh1 hnil
   rwa [show (!(K0 ++ [a]).isEmpty) = true by simp] at this
  have htest : Tr C (n + 4) φre (loR i h pd t th) (tOf RW1) st true (st ++ [Ob.list []]) := by
   apply Tr.cmp
   ·exact Ev.loc rfl rfl (by decide)
   ·exact Ev.list EvL.nil (by decide)
   ·exact hcmp
   ·with_unfolding_all rfl
  have hkl := List.length_append ▸ hK
  simp only [List.length_singleton] at hkl
  generalize st ++ [Ob.list []] = st1 at hh1 e01 hl01 htest
  have hp1 : ∀ p ∈ K0 ++ [a], ∃ j v, p = PV.ref j ∧ j ≠ h ∧ j ≠ l ∧ st1[j]? = some (.list (vI v)) ∧ V3 te.length v := fun p hq => by
   obtain ⟨j, v, q1, q2, q3, q4, q5⟩ := hp p hq
   exact ⟨j, v, q1, q2, q3, e01 _ _ q4, q5⟩
  have hS : ∀ y ∈ K0 ++ [a], SRef st1 h y := fun y hy => by
   obtain ⟨j, v, q1, q2, q3, q4, q5⟩ := hp1 y hy
   exact ⟨j, v, q1, q2, q4⟩
  have H1 : HeapP (ltS st1) (K0 ++ [a]) := heap_congr (ltS_congr (fun j v _ q => e01 _ _ q) fun p hq => by
   obtain ⟨j, v, q1, q2, q3, q4, q5⟩ := hp p hq
   exact ⟨j, v, q1, q4⟩) H
  have hpp := sp_heappop px (n := n + 1) (i := h) (xs := K0) (x := a) (st := st1) (S := SRef st1 h) (lt := ltS st1) ltOk_ref (fun y hy => hS y (List.mem_append_left _ hy)) (hS a (by simp)) hh1 (by omega)
  have hperm := pop_perm (lt := ltS st1) (xs := K0) (x := a)
  have hmin := pop_min ord_ref hS H1
  have hheap := pop_heap ord_ref hS H1
  have hlen := hpop_len (ltS st1) K0 a
  generalize hr : hpop (ltS st1) K0 a = r at hpp hperm hmin hheap hlen
  obtain ⟨K', r⟩ := r
  dsimp only at hpp hperm hmin hheap hlen
  have hrm : r ∈ K0 ++ [a] := hperm.mem_iff.mp List.mem_cons_self
  obtain ⟨j, v, q1, q2, q3, q4, q5⟩ := hp1 r hrm
  subst q1
  have B1 := B.ext e01
  have B2 := B1.set (o := .list K') hh1 hht hhl
  have hj2 : (st1.set h (.list K'))[j]? = some (.list (vI v)) := gs_ne (Ne.symm q2) q4
  have hh2 : (st1.set h (.list K'))[h]? = some (.list K') := gs_self hh1
  have sb2 : SB h l st (st1.set h (.list K')) := (SB.of e01).trans SB.set1
  have hl2 : (st1.set h (.list K')).length = st.length + 1 := by rw [List.length_set, hl01]
  generalize st1.set h (.list K') = st2 at hpp B2 hj2 hh2 sb2 hl2
  have e23 : SExt st2 (st2 ++ [Ob.list []]) := SExt.app _ _
  have hc3 : (st2 ++ [Ob.list []])[st2.length]? = some (.list []) := gl
  have B3 := B2.ext e23
  have hjl := (List.getElem?_eq_some_iff.mp hj2).1
  have htl := (List.getElem?_eq_some_iff.mp B2.ties).1
  have hll := (List.getElem?_eq_some_iff.mp B2.hdr.list).1
  have hhl2 := (List.getElem?_eq_some_iff.mp hh2).1
  obtain ⟨xs, p1, p2⟩ := push_loop px (n := n + 2) (i := i) (h := h) (pd := pd) (t := t) (th := th) (S := st2 ++ [Ob.list []]) (tr := j) (cid := st2.length) hm q5 (e23 _ _ hj2) hc3 (by omega)
  have E3 : RE te (st2 ++ [Ob.list []]) t pd j i d l v R := B3.re (e23 _ _ hj2) (Ne.symm q3)
  have E4 := E3.set (cid := st2.length) (o := .list (xs.map .int)) hc3 (by omega) (by omega) (by omega)
  have hc4 : ((st2 ++ [Ob.list []]).set st2.length (.list (xs.map .int)))[st2.length]? = some (.list (xs.map .int)) := gs_self hc3
  obtain ⟨d0, v', hv⟩ : ∃ d0 v', v = d0 :: v' := by
   have := q5.three
   cases v with
   | nil => cases this
   | cons d0 v' => exact ⟨d0, v', rfl⟩
  obtain ⟨st5, cid', w1, w2, w3⟩ := col_while px T hc (n := n) (h := h) (th := th) hv (q5.lt d0 (by rw [hv]; exact List.mem_cons_self)) (by rw [q5.three]; omega) (by omega) te.length (xorL v 0) xs _ st2.length p1.lt p1 E4 hc4 (by omega) (by omega) (by omega)
  have hstep : redR te.length d0 R (redF te.length R te.length (xorL v 0)) = stepV te.length R v := by unfold stepV; rw [hv]; rfl
  rw [hstep] at w2
  have sb5 : SB h l st st5 := SB.new (sb2.trans (SB.of e23)) (by omega : st.length ≤ st2.length) (SB.set1.trans w1)
  have hh5 : st5[h]? = some (.list K') := w1 h _ (by omega) hhl (gs_ne (by omega) (e23 _ _ hh2))
  have hmem : ∀ p ∈ K', p ∈ K0 ++ [a] := fun p hp => hperm.mem_iff.mp (List.mem_cons_of_mem _ hp)
  have hp5 : ∀ p ∈ K', ∃ j v, p = PV.ref j ∧ j ≠ h ∧ j ≠ l ∧ st5[j]? = some (.list (vI v)) ∧ V3 te.length v := fun p hq => by
   obtain ⟨j, v, q1, q2, q3, q4, q5⟩ := hp p (hmem p hq)
   exact ⟨j, v, q1, q2, q3, sb5 _ _ q2 q3 q4, q5⟩
  have H5 : HeapP (ltS st5) K' := heap_congr (ltS_congr (fun j' v' hq q => by
   obtain ⟨j2, v2, z1, z2, z3, z4, z5⟩ := hp _ (hmem _ hq)
   cases z1
   have := e01 _ _ z4
   rw [q] at this
   simp only [Option.some.injEq, Ob.list.injEq] at this
   rw [this]; exact sb5 _ _ z2 z3 z4) fun p hq => by
   obtain ⟨j, v, q1, q2, q3, q4, q5⟩ := hp1 p (hmem p hq)
   exact ⟨j, v, q1, q4⟩) hheap
  obtain ⟨st', vs, r1, r2, r3, r4, r5⟩ := red_while hht hhl k K' (stepV te.length R v) st5 (by omega) H5 hh5 hp5 w2.rb (by have := stepV_len te.length R v; omega)
  have hvat : ∀ p ∈ K', vAt st5 p = vAt st p := fun p hq => by
   obtain ⟨j, v, q1, q2, q3, q4, q5⟩ := hp p (hmem p hq)
   subst q1
   rw [vAt_v q4, vAt_v (sb5 _ _ q2 q3 q4)]
  have hvr : vAt st (.ref j) = v := by
   obtain ⟨j2, v2, z1, z2, z3, z4, z5⟩ := hp _ hrm
   cases z1
   have := e01 _ _ z4
   rw [q4] at this
   simp only [Option.some.injEq, Ob.list.injEq] at this
   rw [← vAt_v q4, vAt_v z4, vAt_v (st := st1) (v := v2) (by rw [q4, this])]
  have hm1 : K'.map (vAt st5) = K'.map (vAt st) := List.map_congr_left hvat
  refine ⟨st', v :: vs, ?_, List.Pairwise.cons (fun u hu => ?_) r2, sb5.trans r3, r4, ?_⟩
  ·rw [hm1] at r1
   refine (r1.cons v).trans ?_
   have := hperm.map (vAt st)
   rw [List.map_cons, hvr] at this
   exact this
  ·rw [hm1] at r1
   obtain ⟨p, hpK, rfl⟩ := List.mem_map.mp (r1.mem_iff.mp hu)
   have hle := hmin p (hmem p hpK)
   obtain ⟨j2, v2, z1, z2, z3, z4, z5⟩ := hp _ (hmem p hpK)
   subst z1
   rw [vAt_v z4]
   have : lexLt (listAt st1 j2) (listAt st1 j) = false := hle
   rwa [listAt_v (e01 _ _ z4), listAt_v q4] at this
  ·refine Wh.turn htest (.inl ?_) r5
   apply Ex.cons (lo1 := ("three", .ref j) :: loR i h pd t th) (st1 := st2)
   ·apply Ex1.asg (p := .ref j)
    ·apply Ev.callf
     ·walk_at "ev"
     ·exact EvL.cons (Ev.loc rfl rfl (by decide)) EvL.nil
     ·exact Px.K ‹Px _› _ _ rfl
     ·rfl
     ·exact hpp
     ·intro _; rfl
     ·intro _; rfl
    ·exact As.name (.inl rfl)
   apply Ex.cons (lo1 := loC st2.length j i h pd t th) (st1 := st2 ++ [Ob.list []])
   ·apply Ex1.asg
    ·exact Ev.list EvL.nil (by decide)
    ·exact As.name (.inl rfl)
    ·intro _ _; rfl
    ·intro _; rfl
    ·intro _; rfl
   apply Ex.cons
   ·exact Ex1.forE (ItrE.of (Ev.loc rfl rfl (by decide)) (Itr.list (e23 _ _ hj2))) p2 (by intro _ _; rfl)
   refine Ex.to (lo1 := loC cid' j i h pd t th) (Ex.one (Ex1.while w3)) ⟨rfl, rfl, rfl, rfl, rfl, trivial⟩
end
end
section
noncomputable def posN (te : List Tie) (s : Str) : Nat := ((te.map tnm).map (·.2)).idxOf s
noncomputable def pls (te : List Tie) (three : List Str) : List Nat := (three.map (posN te)).mergeSort fun a b => decide (b ≤ a)
theorem pls_perm (te : List Tie) (three : List Str) : (pls te three).Perm (three.map (posN te)) := List.mergeSort_perm ..
theorem pls_desc (te : List Tie) (three : List Str) : (pls te three).Pairwise (fun a b => b ≤ a) := by
 have := List.pairwise_mergeSort (le := fun a b : Nat => decide (b ≤ a)) (fun a b c h1 h2 => by simp at *; omega) (fun a b => by simp; omega) (three.map (posN te))
 exact this.imp fun h => by simpa using h
theorem posN_at {te : List Tie} {s : Str} (h : s ∈ (te.map tnm).map (·.2)) : posN te s < te.length ∧ nmP te (posN te s) = s := by
 have hl : posN te s < ((te.map tnm).map (·.2)).length := List.idxOf_lt_length_of_mem h
 have hlt : posN te s < te.length := by simpa using hl
 refine ⟨hlt, ?_⟩
 have h1 := names_at te hlt
 have h2 : ((te.map tnm).map (·.2))[posN te s]? = some s := by
  rw [List.getElem?_eq_getElem hl]
  exact congrArg some (List.getElem_idxOf hl)
 rw [h2] at h1
 exact (Option.some.inj h1).symm
theorem posN_inj {te : List Tie} {s s' : Str} (h : s ∈ (te.map tnm).map (·.2)) (h' : s' ∈ (te.map tnm).map (·.2)) (e : posN te s = posN te s') : s = s' := by
 rw [← (posN_at h).2, e, (posN_at h').2]
theorem names_mem {c : Nat} {te : List Tie} (T : TieOk c te) {j i : Nat} (h1 : j < i) (h2 : i < c) : nm j i ∈ (te.map tnm).map (·.2) := by
 have : (j, i) ∈ te.map (·.2) := T.pairs.mem_iff.mpr (mem_pairs h1 h2)
 obtain ⟨e, he, q⟩ := List.mem_map.mp this
 rw [List.map_map]
 refine List.mem_map.mpr ⟨e, he, ?_⟩
 show nm e.2.1 e.2.2 = _
 rw [q]
theorem threes_mem {c : Nat} {x : List Str} (h : x ∈ threesP c) : ∃ k j i, k < j ∧ j < i ∧ i < c ∧ x = threeOf k j i := by
 unfold threesP threesCol threesRow at h
 obtain ⟨i, hi, h⟩ := List.mem_flatMap.mp h
 obtain ⟨j, hj, h⟩ := List.mem_flatMap.mp h
 obtain ⟨k, hk, rfl⟩ := List.mem_map.mp h
 exact ⟨k, j, i, List.mem_range.mp hk, List.mem_range.mp hj, List.mem_range.mp hi, rfl⟩
theorem three_names {c : Nat} {te : List Tie} (T : TieOk c te) {x : List Str} (h : x ∈ threesP c) : ∀ s ∈ x, s ∈ (te.map tnm).map (·.2) := fun s hs => by
 obtain ⟨k, j, i, h1, h2, h3, rfl⟩ := threes_mem h
 unfold threeOf at hs
 simp only [List.mem_cons, List.not_mem_nil, or_false] at hs
 rcases hs with rfl | rfl | rfl
 ·exact names_mem T h1 (by omega)
 ·exact names_mem T (by omega) h3
 ·exact names_mem T h2 h3
theorem three_nodup {c : Nat} {x : List Str} (h : x ∈ threesP c) : x.Nodup ∧ x.length = 3 := by
 obtain ⟨k, j, i, h1, h2, h3, rfl⟩ := threes_mem h
 refine ⟨?_, rfl⟩
 unfold threeOf
 simp only [List.nodup_cons, List.mem_cons, List.not_mem_nil, or_false, not_or, not_false_eq_true, List.nodup_nil, and_true]
 refine ⟨⟨fun q => ?_, fun q => ?_⟩, fun q => ?_⟩
 ·have := nm_inj q; omega
 ·have := nm_inj q; omega
 ·have := nm_inj q; omega
theorem map_nodup {α β : Type} {f : α → β} : ∀ {l : List α}, l.Nodup → (∀ a ∈ l, ∀ b ∈ l, f a = f b → a = b) → (l.map f).Nodup
 | [], _, _ => List.nodup_nil
 | a :: l, h, hf => by
  obtain ⟨h1, h2⟩ := List.nodup_cons.mp h
  rw [List.map_cons, List.nodup_cons]
  refine ⟨fun q => ?_, map_nodup h2 fun x hx y hy => hf x (List.mem_cons_of_mem _ hx) y (List.mem_cons_of_mem _ hy)⟩
  obtain ⟨b, hb, e⟩ := List.mem_map.mp q
  have := hf b (List.mem_cons_of_mem _ hb) a List.mem_cons_self e
  exact h1 (this ▸ hb)
theorem pls_3 {c : Nat} {te : List Tie} (T : TieOk c te) {x : List Str} (h : x ∈ threesP c) : V3 te.length (pls te x) := by
 obtain ⟨n1, n2⟩ := three_nodup h
 have hn := three_names T h
 refine ⟨fun p hp => ?_, ?_, ?_⟩
 ·obtain ⟨s, hs, rfl⟩ := List.mem_map.mp ((pls_perm te x).mem_iff.mp hp)
  exact (posN_at (hn s hs)).1
 ·exact (pls_perm te x).nodup_iff.mpr (map_nodup n1 fun a ha b hb e => posN_inj (hn a ha) (hn b hb) e)
 ·rw [(pls_perm te x).length_eq, List.length_map, n2]
noncomputable abbrev RF0 : Stmt := sAt (bodyOf (stAt 26)) 2
noncomputable abbrev RSo : Expr := argE 1 (vOf (sAt (bOf RF0) 0))
noncomputable def plF (te : List Tie) : PV → Option PV
 | .str s => some (.int (posN te s : Nat))
 | _ => none
theorem plF_map (te : List Tie) : ∀ xs : List Str, (sv xs).filterMap (plF te) = (vZ (xs.map (posN te))).map .int
 | [] => rfl
 | x :: xs => by
  have ih := plF_map te xs
  unfold sv vZ at *
  rw [List.map_cons, List.filterMap_cons, ih]; rfl
section
variable {C : Cx} (px : Px C) {n : Nat} {c : Nat} {te : List Tie} (T : TieOk c te) (hc : c ≤ 5) {t pd h th : Nat}
include px T hc
noncomputable def loF (h pd t th : Nat) : Loc := [("heap", .ref h), ("places", .ref pd), ("ties", .ref t), ("threes", .ref th)]
noncomputable abbrev RLp : Expr := argE 0 RSo
theorem sort_three {S : Sto} {j : Nat} {x : List Str} (hx : x ∈ threesP c) (hj : S[j]? = some (.list (sv x))) (hp : S[pd]? = some (.dict (placesD te))) :
  ∃ S', SExt S S' ∧ Ev C n φre (("three", .ref j) :: loF h pd t th) RSo S (.ref S'.length) (S' ++ [.list (vI (pls te x))]) := by
 have hm := tie_len T hc
 have hn := three_names T hx
 have side : CompSide C φre (("three", .ref j) :: loF h pd t th) [("places", .ref pd)] (lcI RLp) (lcS RLp) :=
  ⟨⟨rfl, rfl, trivial⟩, by decide, rfl, by decide, by intro _ _; rfl⟩
 obtain ⟨S', f1, f2, f3⟩ := Ev.compE (C := C) (n := n) (φ := φre) (e := RLp) (ps := sv x) (plF te) (ItrE.of (Ev.loc (p := .ref j) rfl rfl (by decide)) (Itr.list hj)) side (listIt_ext hj)
  (fun p hp1 S1 e1 => by
   obtain ⟨s, hs, rfl⟩ := List.mem_map.mp hp1
   obtain ⟨k1, k2⟩ := posN_at (hn s hs)
   have hlk : (placesD te).lookup s = some (.int ((posN te s : Nat) : Int)) := by
    have := places_at T hc k1
    rwa [k2] at this
   show StepC C n _ _ _ _ _ S1 (.str s) (some (.int ((posN te s : Nat) : Int)))
   refine StepC.some (lo1 := ("name", .str s) :: [("places", .ref pd)]) (S1 := S1) (S2 := S1) (AsL.name rfl) ⟨rfl, trivial⟩ TrL.nil ?_
   exact Ev.sub (Ev.cell rfl rfl (by decide)) (Ev.loc rfl rfl (by decide)) (O.sub_dict (e1 _ _ hp) hlk (by intro _ _; with_unfolding_all rfl)))
  (by unfold sv; rw [List.length_map, (three_nodup hx).2]; decide)
 rw [plF_map] at f2
 refine ⟨S', f1, ?_⟩
 have hs := Ev.sorted_rev (C := C) (n := n) (φ := φre) (lo := ("three", .ref j) :: loF h pd t th) (st := S) (st1 := S) (st2 := S') (func := .Name "sorted" ⟨218, 23, 218, 29⟩) (e := RLp) (ke := .Constant (.bool true) 0 ⟨218, 72, 218, 76⟩) (kp := ⟨218, 64, 218, 76⟩) (pos := ⟨218, 23, 218, 77⟩) (i := S.length)
  (xs := vZ (x.map (posN te))) (ys := vZ (pls te x)) (Ev.blt2 (b_sorted px) rfl (by decide)) f3 Ev.cbool f2 (by unfold vZ; rw [List.length_map, List.length_map, (three_nodup hx).2]; decide) ((pls_perm te x).map _)
  (by unfold vZ; rw [List.pairwise_map]; exact (pls_desc te x).imp fun h => by omega)
 rw [vI_eq]
 exact hs
theorem red_push {base st : Sto} {ids : List Nat} (hth : base[th]? = some (.list (ids.map .ref))) (L : Lists base ids ((threesP c).map sv)) (hpd : base[pd]? = some (.dict (placesD te))) (hb : base.length ≤ h) (he : SExt base st) (hh : st[h]? = some (.list [])) :
  ∃ (st' : Sto) (ids' : List Nat) (K : List PV), SExt base st' ∧ st'[h]? = some (.list K) ∧ Lists st' ids' ((threesP c).map fun x => vI (pls te x)) ∧ h ∉ ids' ∧ K.Perm (ids'.map .ref) ∧ HeapP (ltS st') K ∧
   Fo C (n + 2) φre (loF h pd t th) (fT RF0) (bOf RF0) (ListIt th) 0 st .next (loF h pd t th) st' := by
 have hll : (threesP c).length ≤ 10 := by
  exact lts6 (Nat.lt_succ_of_le hc) (by decide) (by decide) (by decide) (by decide) (by decide) (by decide)
 have hil : ids.length = (threesP c).length := by have := L.len; rwa [List.length_map] at this
 obtain ⟨lo', st', ⟨e1, e2, ids', K, k1, k2, k3, k4, k5⟩, hf⟩ := Fo.inv0 (C := C) (n := n + 2) (φ := φre) (t := fT RF0) (b := bOf RF0) (It := ListIt th)
  (fun k lo s => lo = loF h pd t th ∧ SExt base s ∧ ∃ (ids' : List Nat) (K : List PV), s[h]? = some (.list K) ∧ Lists s ids' (((threesP c).take k).map fun x => vI (pls te x)) ∧ h ∉ ids' ∧ K.Perm (ids'.map .ref) ∧ HeapP (ltS s) K)
  (threesP c).length (lo := loF h pd t th) (st := st) ⟨rfl, he, [], [], hh, Lists.nil, by simp, List.Perm.refl _, heap_nil⟩
  (fun k lo s hk ⟨e1, e2, ids', K, k1, k2, k3, k4, k5⟩ => by
   subst e1
   have hx : (threesP c)[k]? = some (threesP c)[k] := List.getElem?_eq_getElem hk
   have hxm := List.getElem_mem hk
   have hj : ids[k]? = some (ids[k]'(by omega)) := List.getElem?_eq_getElem (by omega)
   generalize (threesP c)[k] = x at hx hxm
   generalize ids[k]'(by omega) = j at hj
   have hjl : base[j]? = some (.list (sv x)) := L.at_ k j _ hj (by rw [List.getElem?_map, hx]; rfl)
   obtain ⟨S', f1, f2⟩ := sort_three px T hc (n := n + 2) (h := h) (t := t) (th := th) hxm (e2 _ _ hjl) (e2 _ _ hpd)
   have hl4 : K.length ≤ 10 := by
    rw [k4.length_eq, List.length_map, k2.len, List.length_map, List.length_take]; omega
   have hv3 := pls_3 T hxm
   have e3 : SExt s (S' ++ [Ob.list (vI (pls te x))]) := f1.trans (SExt.app _ _)
   have hnew : (S' ++ [Ob.list (vI (pls te x))])[S'.length]? = some (.list (vI (pls te x))) := gl
   have hhl := (List.getElem?_eq_some_iff.mp k1).1
   have hhS : h < S'.length := Nat.lt_of_lt_of_le hhl f1.len
   generalize hs1 : S' ++ [Ob.list (vI (pls te x))] = s1 at f2 e3 hnew
   have hKr : ∀ p ∈ K, ∃ j v, p = PV.ref j ∧ j ≠ h ∧ s[j]? = some (.list (vI v)) := fun p hp => by
    obtain ⟨j, hj, rfl⟩ := List.mem_map.mp (k4.mem_iff.mp hp)
    obtain ⟨q, hq, e⟩ := List.getElem_of_mem hj
    have hq' : ids'[q]? = some j := by rw [List.getElem?_eq_getElem hq, e]
    have hl := k2.len
    rw [List.length_map] at hl
    have hq2 : q < ((threesP c).take k).length := by omega
    refine ⟨j, pls te ((threesP c).take k)[q], rfl, fun z => k3 (z ▸ hj), ?_⟩
    exact k2.at_ q j _ hq' (by rw [List.getElem?_map, List.getElem?_eq_getElem hq2]; rfl)
   have H1 : HeapP (ltS s1) K := heap_congr (ltS_congr (fun j v _ q => e3 _ _ q) fun p hq => by
    obtain ⟨j, v, q1, q2, q3⟩ := hKr p hq
    exact ⟨j, v, q1, q3⟩) k5
   have hS1 : ∀ y ∈ K, SRef s1 h y := fun y hy => by
    obtain ⟨j, v, q1, q2, q3⟩ := hKr y hy
    exact ⟨j, v, q1, q2, e3 _ _ q3⟩
   have hSn : SRef s1 h (.ref S'.length) := ⟨S'.length, _, rfl, by omega, hnew⟩
   have hpsh := sp_heappush px (n := n) (i := h) (xs := K) (x := .ref S'.length) (st := s1) (S := SRef s1 h) (lt := ltS s1) ltOk_ref hS1 hSn (e3 _ _ k1) (by omega)
   have hperm := push_perm (lt := ltS s1) (xs := K) (x := .ref S'.length)
   have hheap := push_heap ord_ref hS1 hSn H1
   generalize hpush (ltS s1) K (.ref S'.length) = K' at hpsh hperm hheap
   have hKs1 : ∀ p ∈ K', ∃ j v, p = PV.ref j ∧ j ≠ h ∧ s1[j]? = some (.list (vI v)) := fun p hp => by
    rcases List.mem_cons.mp (hperm.mem_iff.mp hp) with rfl | q
    ·exact ⟨_, _, rfl, by omega, hnew⟩
    ·obtain ⟨j, v, q1, q2, q3⟩ := hKr p q
     exact ⟨j, v, q1, q2, e3 _ _ q3⟩
   apply StepI.mk (p := .ref j) (lo3 := loF h pd t th) (st2 := s1.set h (.list K'))
   ·refine ⟨rfl, (e2.trans e3).setNew hb, ids' ++ [S'.length], K', gs_self (e3 _ _ k1), ?_, ?_, ?_, ?_⟩
    ·have := ((k2.ext e3).snoc hnew).set (j := h) (o := .list K') (by
      intro q
      rcases List.mem_append.mp q with q | q
      ·exact k3 q
      ·simp at q; omega)
     have e4 : ((threesP c).take (k + 1)).map (fun x => vI (pls te x)) = ((threesP c).take k).map (fun x => vI (pls te x)) ++ [vI (pls te x)] := by rw [take_snoc hx, List.map_append]; rfl
     rw [e4]; exact this
    ·intro q
     rcases List.mem_append.mp q with q | q
     ·exact k3 q
     ·simp at q; omega
    ·refine hperm.trans ?_
     rw [List.map_append]
     exact (k4.cons _).trans (List.perm_append_comm (l₁ := [PV.ref S'.length]) (l₂ := ids'.map .ref))
    ·refine heap_congr (ltS_congr (fun j v hj q => ?_) fun p hq => ?_) hheap
     ·obtain ⟨j2, v2, z1, z2, z3⟩ := hKs1 _ hj
      cases z1
      exact gs_ne (Ne.symm z2) q
     ·obtain ⟨j, v, q1, q2, q3⟩ := hKs1 p hq
      exact ⟨j, v, q1, q3⟩
   ·exact ⟨_, e2 _ _ hth, by rw [List.getElem?_map, hj]; rfl⟩
   ·exact As.name (.inl rfl)
   ·apply Ex.cons
    ·apply Ex1.expr (p := .none)
     ·apply Ev.callf
      ·walk_at "ev"
      ·apply EvL.cons
       ·exact Ev.loc rfl rfl (by decide)
       ·apply EvL.cons
        ·exact f2
        ·exact EvL.nil
        ·intro _; rfl
       ·intro _; rfl
      ·exact Px.K ‹Px _› _ _ rfl
      ·rfl
      ·exact hpsh
      ·intro _; rfl
      ·intro _; rfl
    exact Ex.nil
   ·exact ⟨rfl, rfl, rfl, rfl, trivial⟩)
  (fun lo s ⟨e1, e2, _⟩ => ⟨_, e2 _ _ hth, by rw [List.getElem?_eq_none (by rw [List.length_map]; omega)]⟩)
 subst e1
 rw [List.take_of_length_le (Nat.le_refl _)] at k2
 exact ⟨st', ids', K, e2, k1, k2, k3, k4, k5, hf⟩
end
end
section
theorem ItrE.pre' {C : Cx} {n : Nat} {φ : Scope} {lo lo' : Loc} {e : Expr} {st st' : Sto} {It : ItR} (h : ItrE C n φ lo e st It st') (hs : SubL lo lo') : ItrE C n φ lo' e st It st' := fun A s ρ env hA H F => h A s ρ env hA H (F.sub hs.ok)
theorem SB.ext {a b : Nat} {st0 st st' : Sto} (h : SB a b st st') (e : SExt st0 st) (ha : st0.length ≤ a) (hb : st0.length ≤ b) : SExt st0 st' := fun i o q => by
 have := (List.getElem?_eq_some_iff.mp q).1
 exact h i o (by omega) (by omega) (e i o q)
structure RedOk (c : Nat) (te : List Tie) (R : List Row) : Prop where
 rows : ∀ r ∈ R, RowOk te.length r
 made : ∃ vs : List (List Nat), vs.Perm ((threesP c).map (pls te)) ∧ vs.Pairwise (fun a b => lexLt (vZ b) (vZ a) = false) ∧ R = vs.foldl (stepV te.length) []
theorem sp_reduced {C : Cx} (px : Px C) {n : Nat} {c : Nat} {te : List Tie} (T : TieOk c te) (hc : c ≤ 5) {t th : Nat} {ids : List Nat} {st : Sto} (ht : st[t]? = some (.list (tpe te))) (hth : st[th]? = some (.list (ids.map .ref))) (L : Lists st ids ((threesP c).map sv)) :
  ∃ (st' : Sto) (i d l : Nat) (R : List Row), SExt st st' ∧ Hdr st' i d l (R.map (rowTxt te)) ∧ RedOk c te R ∧ Cl C (n + 5) (.ref 276) [.ref t, .ref th] st (.ref i) st' := by
 have hm := tie_len T hc
 have hm0 : ((List.range (((te.length : Int)) - 0).toNat).map fun (k : Nat) => PV.int (0 + (k : Int))) = (List.range te.length).map fun (k : Nat) => PV.int (k : Int) := by
  rw [show (((te.length : Int)) - 0).toNat = te.length by omega]
  refine List.map_congr_left fun k _ => ?_
  show PV.int (0 + (k : Int)) = PV.int (k : Int)
  rw [Int.zero_add]
 have hlr : Cl C (n + 4) (.type "list") [.rng 0 (te.length : Int) 1] st (.ref st.length) (st ++ [.list ((List.range te.length).map fun (k : Nat) => PV.int (k : Int))]) := by
  have := _root_.Mine.C.list_range (C := C) (n := n + 4) (st := st) (a := 0) (b := (te.length : Int)) (by omega) (by omega) (by omega) (by omega) (by omega)
  rwa [hm0] at this
 have hlen : Cl C (n + 4) (.builtin "len") [.ref t] st (.int (te.length : Int)) st := by
  have := _root_.Mine.C.len_list (C := C) (n := n + 4) ht (by rw [tpe_len]; omega)
  rwa [tpe_len] at this
 have e01 : SExt st (st ++ [Ob.list ((List.range te.length).map fun (k : Nat) => PV.int (k : Int))]) := SExt.app _ _
 have g1 : (st ++ [Ob.list ((List.range te.length).map fun (k : Nat) => PV.int (k : Int))])[st.length]? = some (.list ((List.range te.length).map fun (k : Nat) => PV.int (k : Int))) := gl
 generalize hS1 : st ++ [Ob.list ((List.range te.length).map fun (k : Nat) => PV.int (k : Int))] = S1 at hlr e01 g1
 have hby := sp_byname px (n := n + 3) (tl := te.map tnm) (vs := (List.range te.length).map fun (k : Nat) => PV.int (k : Int)) (t := t) (v := st.length) (st := S1) (by exact e01 _ _ ht) g1 (by simp) (by rw [List.length_map]; omega) (T.names hc)
 have e12 : SExt S1 (S1 ++ [Ob.dict (((te.map tnm).map (·.2)).zip ((List.range te.length).map fun (k : Nat) => PV.int (k : Int)))]) := SExt.app _ _
 have g2 : (S1 ++ [Ob.dict (((te.map tnm).map (·.2)).zip ((List.range te.length).map fun (k : Nat) => PV.int (k : Int)))])[S1.length]? = some (.dict (placesD te)) := gl
 generalize hS2 : S1 ++ [Ob.dict (((te.map tnm).map (·.2)).zip ((List.range te.length).map fun (k : Nat) => PV.int (k : Int)))] = S2 at hby e12 g2
 have e02 := e01.trans e12
 have L2 := L.ext e02
 obtain ⟨S4, ids', K, a1, a2, a3, a4, a5, a6, a7⟩ := red_push px T hc (n := n + 2) (h := S2.length) (t := t) (base := S2) (st := S2 ++ [.list []]) (e02 _ _ hth) L2 g2 (Nat.le_refl _) (SExt.app _ _) gl
 have e45 : SExt S4 (stH S4) := stH_ext
 have hh : S2.length < S4.length := (List.getElem?_eq_some_iff.mp a2).1
 have htl : t < S2.length := Nat.lt_of_lt_of_le (List.getElem?_eq_some_iff.mp ht).1 e02.len
 have B : RB te (stH S4) t S1.length (S4.length + 1) S4.length (S4.length + 2) [] := ⟨e45 _ _ (a1 _ _ (e02 _ _ ht)), e45 _ _ (a1 _ _ g2), stH_hdr, by simp, by omega⟩
 have hKr : ∀ p ∈ K, ∃ j x, p = PV.ref j ∧ j ≠ S2.length ∧ j < S4.length ∧ S4[j]? = some (.list (vI (pls te x))) ∧ x ∈ threesP c := fun p hp => by
  obtain ⟨j, hj, rfl⟩ := List.mem_map.mp (a5.mem_iff.mp hp)
  obtain ⟨q, hq, e⟩ := List.getElem_of_mem hj
  have hq' : ids'[q]? = some j := by rw [List.getElem?_eq_getElem hq, e]
  have hl := a3.len
  rw [List.length_map] at hl
  have hq2 : q < (threesP c).length := by omega
  have hat := a3.at_ q j _ hq' (by rw [List.getElem?_map, List.getElem?_eq_getElem hq2]; rfl)
  exact ⟨j, (threesP c)[q], rfl, fun z => a4 (z ▸ hj), (List.getElem?_eq_some_iff.mp hat).1, hat, List.getElem_mem hq2⟩
 have hK5 : ∀ p ∈ K, ∃ j v, p = PV.ref j ∧ j ≠ S2.length ∧ j ≠ S4.length + 2 ∧ (stH S4)[j]? = some (.list (vI v)) ∧ V3 te.length v := fun p hp => by
  obtain ⟨j, x, q1, q2, q3, q4, q5⟩ := hKr p hp
  exact ⟨j, pls te x, q1, q2, by omega, e45 _ _ q4, pls_3 T q5⟩
 have H5 : HeapP (ltS (stH S4)) K := heap_congr (ltS_congr (fun j v _ q => e45 _ _ q) fun p hq => by
  obtain ⟨j, x, q1, q2, q3, q4, q5⟩ := hKr p hq
  exact ⟨j, _, q1, q4⟩) a6
 have hKl : K.length ≤ 10 := by
  rw [a5.length_eq, List.length_map, a3.len, List.length_map]
  exact lts6 (Nat.lt_succ_of_le hc) (by decide) (by decide) (by decide) (by decide) (by decide) (by decide)
 obtain ⟨S6, vs, b1, b2, b3, b4, b5⟩ := red_while px T hc (n := n) (h := S2.length) (th := th) (by omega) (by omega) K.length K [] (stH S4) rfl H5 (e45 _ _ a2) hK5 B (by simp only [List.length_nil]; omega)
 have hids : K.map (vAt (stH S4)) |>.Perm ((threesP c).map (pls te)) := by
  refine (a5.map _).trans ?_
  rw [List.map_map]
  have hl := a3.len
  rw [List.length_map] at hl
  have : ids'.map (vAt (stH S4) ∘ PV.ref) = (threesP c).map (pls te) := by
   apply List.ext_getElem?
   intro q
   rw [List.getElem?_map, List.getElem?_map]
   rcases Nat.lt_or_ge q ids'.length with hq | hq
   ·have hq2 : q < (threesP c).length := by omega
    rw [List.getElem?_eq_getElem hq, List.getElem?_eq_getElem hq2]
    have hat := a3.at_ q (ids'[q]) _ (List.getElem?_eq_getElem hq) (by rw [List.getElem?_map, List.getElem?_eq_getElem hq2]; rfl)
    show some (vAt (stH S4) (.ref ids'[q])) = some (pls te (threesP c)[q])
    rw [vAt_v (e45 _ _ hat)]
   ·rw [List.getElem?_eq_none hq, List.getElem?_eq_none (by omega)]; rfl
  rw [this]
 refine ⟨S6, S4.length + 1, S4.length, S4.length + 2, vs.foldl (stepV te.length) [], ?_, b4.hdr, ⟨b4.rows, vs, b1.trans hids, b2, rfl⟩, ?_⟩
 ·have e24 := e02.trans a1
  refine SB.ext b3 (e24.trans e45) ?_ ?_
  ·exact e02.len
  ·have := e24.len; omega
 ·have hit : ItrE C (n + 4) φre (loF S2.length S1.length t th) (fI RF0) (S2 ++ [.list []]) (ListIt th) (S2 ++ [.list []]) := ItrE.of (Ev.loc rfl rfl (by decide)) (Itr.list (ga (e02 _ _ hth)))
  have body : ∃ lo', Ex C (n + 4) φre [("ties", .ref t), ("threes", .ref th)] (bodyOf (stAt 26)) st (.ret (.ref (S4.length + 1))) lo' S6 := by
   apply Exists.intro
   apply Ex.cons
   ·apply Ex1.asg (p := .ref S1.length) (st1 := S2)
    ·apply Ev.callf (ps := [.ref t, .ref st.length]) (st1 := st) (st2 := S1)
     ·walk_at "ev"
     ·apply EvL.cons (st1 := st)
      ·exact Ev.cell rfl rfl (by decide)
      ·apply EvL.cons (st1 := S1)
       ·apply Ev.callt (ps := [.rng 0 (te.length : Int) 1]) (st1 := st) (st2 := st)
        ·walk_at "ev"
        ·apply EvL.cons (st1 := st)
         ·apply Ev.callt (ps := [.int (te.length : Int)]) (st1 := st) (st2 := st)
          ·walk_at "ev"
          ·apply EvL.cons (st1 := st)
           ·apply Ev.callb (ps := [.ref t]) (st1 := st) (st2 := st)
            ·walk_at "ev"
            ·exact EvL.cons (Ev.cell rfl rfl (by decide)) EvL.nil
            ·exact hlen
           ·exact EvL.nil
          ·exact _root_.Mine.C.range1
         ·exact EvL.nil
        ·exact hlr
       ·exact EvL.nil
     ·exact Px.K ‹Px _› _ _ rfl
     ·rfl
     ·exact hby
    ·exact As.name (.inr rfl)
   apply Ex.cons
   ·apply Ex1.asg
    ·exact Ev.list EvL.nil (by decide)
    ·exact As.name (.inl rfl)
    ·intro _ _; rfl
    ·intro _; rfl
    ·intro _; rfl
   apply Ex.cons
   ·exact Ex1.forE (hit.pre' ⟨rfl, rfl, rfl, rfl, trivial⟩) (a7.pre (SubL.ok ⟨rfl, rfl, rfl, rfl, trivial⟩)) (by intro _ _; rfl)
   apply Ex.cons
   ·apply Ex1.asg (p := .ref (S4.length + 1)) (st1 := stH S4)
    ·exact Ev.newHdr px (n := n + 2) (Ev.glob (g_Headers px) (fun _ _ => .sta _) rfl (by decide))
    ·exact As.name (.inl rfl)
   apply Ex.cons
   ·exact Ex1.while (b5.pre ⟨rfl, rfl, rfl, rfl, rfl, trivial⟩)
   apply Ex.stop
   ·exact Ex1.ret (Ev.loc rfl rfl (by decide))
   ·intro h; cases h
  obtain ⟨lo', h⟩ := body
  refine Cl.fn (names := ["ties", "threes"]) (body := bodyOf (stAt 26)) (px.K 276 _ rfl) rfl rfl rfl (codeRec_of px.K rfl) rfl rfl ?_ ?_ ?_ h rfl ?_
  ·intro vs hv
   obtain ⟨v1, v2, rfl⟩ := len2 hv
   rfl
  ·decide
  ·decide +kernel
  ·decide
end
section
noncomputable def tabOf (led : Bool) (ns : List Nat) : SetTable := { mask := if ns.length < 5 then 7 else 31, place := ns.toArray, dummies := #[], finger := 0, led := led, moves := if ns.length < 5 then 0 else 1, plain := true }
noncomputable def tabA (led : Bool) (ns : List Nat) (v : Nat) : SetTable := { mask := 7, place := (ns ++ [v]).toArray, dummies := #[], finger := 0, led := led, moves := 0, plain := true }
noncomputable def subs : List Nat → List (List Nat)
 | [] => [[]]
 | x :: l => subs l ++ (subs l).map (x :: ·)
noncomputable def trans5 : List (List Nat × Nat) := (List.range 5).flatMap fun v => (subs (List.range v)).map fun ns => (ns, v)
theorem tab_facts : ∀ led : Bool, ∀ p ∈ trans5, (tabOf led p.1).freeSlot (p.2 : Int) = some (p.2, false) ∧ (tabOf led p.1).put p.2 = (tabA led p.1 p.2, p.1.length) ∧ (tabA led p.1 p.2).fits (p.1.length + 1) = true ∧ (tabA led p.1 p.2).tooFull = decide (p.1.length = 4) ∧
  (tabOf led p.1).fits p.1.length = true ∧ (p.1.length < 4 → tabA led p.1 p.2 = tabOf led (p.1 ++ [p.2])) ∧ (p.1.length = 4 → p = ([0, 1, 2, 3], 4)) := by decide +kernel
theorem tab_relaid : ∀ led : Bool, (tabA led [0, 1, 2, 3] 4).relaid #[0, 1, 2, 3, 4] 20 = some (tabOf led [0, 1, 2, 3, 4], #[0, 1, 2, 3, 4]) ∧ coversAll #[0, 1, 2, 3, 4] 5 = true ∧ (tabOf led [0, 1, 2, 3, 4]).fits 5 = true := by decide +kernel
noncomputable def slotOf (ns : List Nat) (i : Nat) : Nat := if i = 0 then 0 else ns.getD (i - 1) 0 + 1
theorem tab_next : ∀ led : Bool, ∀ ns ∈ subs (List.range 5), ∀ i ∈ List.range 7, SetTable.below (tabOf led ns).place (slotOf ns i) = (if i ≤ ns.length then i else ns.length) ∨ i > ns.length := by decide +kernel
theorem rise_step : ∀ ns ∈ subs (List.range 5), ∀ v ∈ List.range 5, (∀ n ∈ ns, n < v) → (ns, v) ∈ trans5 ∧ ns ++ [v] ∈ subs (List.range 5) := by decide +kernel
theorem subs_len : ∀ ns ∈ subs (List.range 5), ns.length ≤ 5 ∧ (∀ n ∈ ns, n < 5) := by decide +kernel
theorem subs_fits : ∀ led : Bool, ∀ ns ∈ subs (List.range 5), (tabOf led ns).fits ns.length = true := by decide +kernel
theorem insertAt_end {α : Type} (xs : Array α) (x : α) : SetTable.insertAt xs xs.size x = xs.push x := by
 unfold SetTable.insertAt; simp
noncomputable def mkEs : List Nat → List Tok → List (Int × Value)
 | n :: ns, t :: ts => ((n : Int), .int (n : Int) t) :: mkEs ns ts
 | _, _ => []
theorem mkEs_len : ∀ {ns : List Nat} {ts : List Tok}, ts.length = ns.length → (mkEs ns ts).length = ns.length
 | [], [], _ => rfl
 | n :: ns, t :: ts, h => by simp [mkEs, mkEs_len (ns := ns) (ts := ts) (by simpa using h)]
theorem mkEs_snoc : ∀ {ns : List Nat} {ts : List Tok} {v : Nat} {t : Tok}, ts.length = ns.length → mkEs (ns ++ [v]) (ts ++ [t]) = mkEs ns ts ++ [((v : Int), .int (v : Int) t)]
 | [], [], v, t, _ => rfl
 | n :: ns, u :: ts, v, t, h => by simp [mkEs, mkEs_snoc (ns := ns) (ts := ts) (v := v) (t := t) (by simpa using h)]
theorem mkEs_mem {ns : List Nat} : ∀ {ts : List Tok} {e : Int × Value}, ts.length = ns.length → e ∈ mkEs ns ts → ∃ n t, n ∈ ns ∧ e = ((n : Int), .int (n : Int) t) := by
 induction ns with
 | nil => intro ts e hl h; cases ts with | nil => cases h | cons u ts => cases hl
 | cons n ns ih =>
  intro ts e hl h
  cases ts with
  | nil => cases hl
  | cons u ts =>
   rcases List.mem_cons.mp h with rfl | h
   ·exact ⟨n, u, List.mem_cons_self, rfl⟩
   ·obtain ⟨m, t, h1, h2⟩ := ih (Nat.succ.inj hl) h
    exact ⟨m, t, List.mem_cons_of_mem _ h1, h2⟩
theorem mkEs_has : ∀ {ns : List Nat} {ts : List Tok} {v : Nat}, ts.length = ns.length → v ∈ ns → ∃ t, ((v : Int), Value.int (v : Int) t) ∈ mkEs ns ts
 | n :: ns, u :: ts, v, hl, h => by
  rcases List.mem_cons.mp h with rfl | h
  ·exact ⟨u, by simp [mkEs]⟩
  ·obtain ⟨t, q⟩ := mkEs_has (ts := ts) (by simpa using hl) h
   exact ⟨t, by simp [mkEs, q]⟩
theorem mkEs_at : ∀ {ns : List Nat} {ts : List Tok} {i : Nat}, ts.length = ns.length → (mkEs ns ts)[i]? = (ns[i]?).map fun n => ((n : Int), Value.int (n : Int) (ts.getD i 0))
 | [], [], i, _ => by simp [mkEs]
 | n :: ns, u :: ts, 0, _ => rfl
 | n :: ns, u :: ts, i + 1, h => by
  simp only [mkEs, List.getElem?_cons_succ]
  rw [mkEs_at (by simpa using h)]; rfl
theorem lay_new {led : Bool} {ns : List Nat} {v : Nat} (hp : (ns, v) ∈ trans5) {es : Array (Int × Value)} (hs : es.size = ns.length) (x : Value) :
  layNew (tabOf led ns) es (v : Int) x = (es.push ((v : Int), x), tabA led ns v, false, false) := by
 obtain ⟨h1, h2, h3, h4, h5, h6⟩ := tab_facts led _ hp
 unfold layNew
 dsimp only at h1 h2 h3
 rw [h1]
 dsimp only
 rw [h2]
 dsimp only
 rw [← hs, insertAt_end]
 have e : (es.push ((v : Int), x)).size = ns.length + 1 := by rw [Array.size_push, hs]
 unfold SetTable.orStandIn
 rw [e, h3]; rfl
theorem len5 {α : Type} {l : List α} (h : l.length = 5) : ∃ a b c d e, l = [a, b, c, d, e] := by
 cases l with
 | nil => cases h
 | cons a l =>
  cases l with
  | nil => cases h
  | cons b l => obtain ⟨c, d, e, rfl⟩ := len3 (Nat.succ.inj (Nat.succ.inj h)); exact ⟨a, b, c, d, e, rfl⟩
theorem relay_all {led : Bool} {ts : List Tok} (ht : ts.length = 5) : relayAll (tabA led [0, 1, 2, 3] 4) (mkEs [0, 1, 2, 3, 4] ts).toArray 20 = ((mkEs [0, 1, 2, 3, 4] ts).toArray, tabOf led [0, 1, 2, 3, 4], false) := by
  obtain ⟨a, b, c, d, e, rfl⟩ := len5 ht
  obtain ⟨h1, h2, h3⟩ := tab_relaid led
  unfold relayAll
  have e1 : (mkEs [0, 1, 2, 3, 4] [a, b, c, d, e]).toArray.map (·.1) = #[0, 1, 2, 3, 4] := by simp [mkEs]
  rw [e1, h1]
  dsimp only
  have e2 : (#[0, 1, 2, 3, 4] : Array Nat).filterMap ((mkEs [0, 1, 2, 3, 4] [a, b, c, d, e]).toArray[·]?) = (mkEs [0, 1, 2, 3, 4] [a, b, c, d, e]).toArray := by simp [mkEs]
  rw [e2]
  have e3 : (mkEs [0, 1, 2, 3, 4] [a, b, c, d, e]).toArray.size = 5 := rfl
  rw [e3, h2, h3]; rfl
theorem pick_go {α : Type} (next : Nat → Nat) : ∀ (fuel k : Nat) (left : List α) (out : Array α), left.length ≤ fuel → (pickOrder.go next fuel k left out).toList.Perm (out.toList ++ left)
 | 0, k, left, out, h => by
  have : left = [] := List.eq_nil_of_length_eq_zero (by omega)
  subst this
  unfold pickOrder.go; simp
 | fuel + 1, k, left, out, h => by
  unfold pickOrder.go
  cases hl : left[next k % left.length]? with
  | none =>
   cases left with
   | nil => simp
   | cons a l =>
    have hlt : next k % (a :: l).length < (a :: l).length := Nat.mod_lt _ (by simp)
    rw [List.getElem?_eq_getElem hlt] at hl; cases hl
  | some x =>
   dsimp only
   obtain ⟨hlt, hx⟩ := List.getElem?_eq_some_iff.mp hl
   refine (pick_go next fuel (k + 1) (left.eraseIdx (next k % left.length)) (out.push x) (by rw [List.length_eraseIdx]; split <;> omega)).trans ?_
   rw [Array.toList_push, List.append_assoc]
   refine List.Perm.append_left _ ?_
   show (x :: left.eraseIdx (next k % left.length)).Perm left
   generalize next k % left.length = i at hlt hx
   subst hx
   clear hl h
   induction left generalizing i with
   | nil => simp at hlt
   | cons a l ih =>
    cases i with
    | zero => simp
    | succ i =>
     simp only [List.getElem_cons_succ, List.eraseIdx_cons_succ]
     exact (List.Perm.swap a _ _).trans ((ih i (by simpa using hlt)).cons a)
theorem pick_perm {α : Type} (next : Nat → Nat) (xs : Array α) : (pickOrder next xs).toList.Perm xs.toList := by
 unfold pickOrder
 have := pick_go next xs.size 0 xs.toList #[] (by simp)
 simpa using this
end
section
structure SetN (h : Heap) (a : Addr) (led : Bool) (ns : List Nat) (ts : List Tok) (ep : Nat) : Prop where
 at_ : h.get? a = some { cls := .type "set", dict := none, data := .set (mkEs ns ts).toArray ep (tabOf led ns) }
 len : ts.length = ns.length
 rise : ns ∈ subs (List.range 5)
theorem SetN.keep {h h' : Heap} {a : Addr} {led : Bool} {ns : List Nat} {ts : List Tok} {ep : Nat} (H : SetN h a led ns ts ep) (k : ∀ o, h.get? a = some o → h'.get? a = some o) : SetN h' a led ns ts ep := ⟨k _ H.at_, H.len, H.rise⟩
theorem SetN.size {h : Heap} {a : Addr} {led : Bool} {ns : List Nat} {ts : List Tok} {ep : Nat} (H : SetN h a led ns ts ep) : (mkEs ns ts).toArray.size = ns.length := by rw [List.size_toArray, mkEs_len H.len]
theorem SetN.fits {h : Heap} {a : Addr} {led : Bool} {ns : List Nat} {ts : List Tok} {ep : Nat} (H : SetN h a led ns ts ep) : (tabOf led ns).fits (mkEs ns ts).toArray.size = true := by rw [H.size]; exact subs_fits led ns H.rise
section
variable {prog : Program} {w : World} {A : Around} {E : Value → Shared → Prop} {s : Shared}
theorem hash_small (v : Nat) (hv : v < 5) : (intKind prog w).hash (v : Int) = (v : Int) := by
 exact lts5 hv (by rfl) (by rfl) (by rfl) (by rfl) (by rfl)
theorem is_int {n v : Nat} {t : Tok} : (intKind prog w).is (v : Int) (.int (n : Int) t) = decide (n = v) := by
 have h := KeyKind.is_eq_decide (intKind_is prog w (n : Int) t) (v : Int)
 rw [h]
 have : ((v : Int) = (n : Int)) ↔ (n = v) := by omega
 exact decide_eq_decide.mpr this
theorem elems_mk {ns : List Nat} {ts : List Tok} (hl : ts.length = ns.length) (h5 : ∀ n ∈ ns, n < 5) : PySem.ElemsOf (intKind prog w) (mkEs ns ts) := fun e he => by
 obtain ⟨n, t, h1, rfl⟩ := mkEs_mem hl he
 exact ⟨⟨(n : Int), intKind_is _ _ _ _, (hash_small n (h5 n h1)).symm⟩, rfl⟩
theorem add_small {a : Addr} {led : Bool} {ns : List Nat} {ts : List Tok} {ep v : Nat} {t : Tok} {Q : Bool → Shared → Prop} (H : SetN s.heap a led ns ts ep) (hv : v < 5) (hle : ∀ n ∈ ns, n ≤ v) (hin : v ∈ ns ∨ ∀ n ∈ ns, n < v)
  (h : ∀ h' ts' ep', Heap.SameBut a s.heap h' → SetN h' a led (if v ∈ ns then ns else ns ++ [v]) ts' ep' → Q (!decide (v ∈ ns)) { s with heap := h' }) :
  wpAny (model prog w) A (setAddHashed a (.int (v : Int) t) (v : Int)) Q E s := by
 obtain ⟨h5a, h5b⟩ := subs_len ns H.rise
 have hel := elems_mk (prog := prog) (w := w) H.len h5b
 have hf := H.fits
 have hsz := H.size
 have ho := H.at_
 unfold setAddHashed setAddHashedIn
 refine wpAny_holding (wpAny_bind (wpAny_setState_of ho rfl hf ?_))
 dsimp only
 rw [byScan_of (knd := intKind prog w) rfl (by rw [hsz]; show ns.length < 4096; omega) (by simpa using hel)]
 simp only [↓reduceIte]
 unfold setAddByScan
 refine wpAny_bind ?_
 refine wpAny_bind (wpAny_rule ?_)
 have hh := hash_small (prog := prog) (w := w) v hv
 have key : wpAny (model prog w) A (setScan a (.int (v : Int) t) ((intKind prog w).hash (v : Int)) true (mkEs ns ts).toArray) (fun r s' => s' = s ∧ ((∃ j, r = .found j) ∧ v ∈ ns ∨ r = .absent ∧ v ∉ ns)) E s := by
  refine wpAny_setScan_of (intKind_is _ _ _ _) ho rfl hf (by simpa using hel) ?_
  refine ⟨rfl, ?_⟩
  rw [List.toList_toArray]
  cases hr : (mkEs ns ts).findIdx? (fun e => (intKind prog w).is (v : Int) e.2) with
  | some j =>
   left
   refine ⟨⟨_, rfl⟩, ?_⟩
   obtain ⟨hj, hpj, _⟩ := List.findIdx?_eq_some_iff_getElem.mp hr
   obtain ⟨n, u, h1, e⟩ := mkEs_mem H.len (List.getElem_mem hj)
   rw [e, is_int] at hpj
   have : n = v := by simpa using hpj
   exact this ▸ h1
  | none =>
   right
   refine ⟨rfl, fun q => ?_⟩
   obtain ⟨u, hu⟩ := mkEs_has H.len q
   have := List.findIdx?_eq_none_iff.mp hr _ hu
   rw [is_int] at this; simp at this
 rw [hh] at key
 refine wpAny_bind (wpAny_mono key (fun r s' hr => ?_) fun _ _ e => e)
 obtain ⟨rfl, hr⟩ := hr
 rcases hr with ⟨⟨j, rfl⟩, hmem⟩ | ⟨rfl, hno⟩
 ·dsimp only
  refine wpAny_pure (wpAny_pure ?_)
  have := h s'.heap ts ep (Heap.SameBut.refl a s'.heap) (by rw [if_pos hmem]; exact H)
  rw [decide_eq_true hmem] at this
  exact this
 ·have hlt : ∀ n ∈ ns, n < v := hin.resolve_left hno
  obtain ⟨hp, hrise⟩ := rise_step ns H.rise v (List.mem_range.mpr hv) hlt
  obtain ⟨k1, k2, k3, k4, k5, k6, k7⟩ := tab_facts led _ hp
  dsimp only at k3 k4 k6 k7
  dsimp only
  rw [lay_new hp hsz]
  dsimp only
  refine wpAny_bind (wpAny_pure ?_)
  rw [show (tabA led ns v).plain = true from rfl, if_pos rfl]
  refine wpAny_bind ?_
  rw [hashByValue_scannable 8 (show (Value.int (v : Int) t).scannable = true from rfl)]
  refine wpAny_pure ?_
  rw [show plainKind (.int (v : Int) t) = true from rfl, if_pos rfl]
  have hpush : (mkEs ns ts).toArray.push ((v : Int), Value.int (v : Int) t) = (mkEs (ns ++ [v]) (ts ++ [t])).toArray := by rw [mkEs_snoc H.len]; simp
  rw [hpush]
  have hl2 : (ts ++ [t]).length = (ns ++ [v]).length := by simp [H.len]
  have hsz2 : (mkEs (ns ++ [v]) (ts ++ [t])).toArray.size = ns.length + 1 := by rw [List.size_toArray, mkEs_len hl2]; simp
  refine wpAny_bind (wpAny_storeSet_of ho rfl ?_ (by rw [hsz2, sizeLine_eq]; omega))
  have hg := Heap.get?_update_self (Obj.putSet (mkEs (ns ++ [v]) (ts ++ [t])).toArray (tabA led ns v)) ho (by rw [putSet_of _ _ rfl]; rfl)
  rw [putSet_of _ _ rfl] at hg
  dsimp only at hg
  rw [k4]
  have hend : ∀ h', Heap.SameBut a s'.heap h' → ∀ ep', SetN h' a led (ns ++ [v]) (ts ++ [t]) ep' → Q true { s' with heap := h' } := fun h' hsb ep' hS => by
   have := h h' (ts ++ [t]) ep' hsb (by rw [if_neg hno]; exact hS)
   rw [decide_eq_false hno] at this
   exact this
  by_cases h4 : ns.length = 4
  ·rw [show (!false && decide (ns.length = 4)) = true by simp [h4], if_pos rfl]
   have e := k7 h4
   simp only [Prod.mk.injEq] at e
   obtain ⟨rfl, rfl⟩ := e
   rw [hsz2]
   have hr := relay_all (led := led) (ts := ts ++ [t]) (by rw [hl2]; rfl)
   have hgr : SetTable.grown (([0, 1, 2, 3] : List Nat).length + 1) = 20 := by decide
   rw [hgr]
   have e4 : ([0, 1, 2, 3] : List Nat) ++ [4] = [0, 1, 2, 3, 4] := rfl
   rw [e4] at hg hl2 hend hrise ⊢
   rw [hr]
   dsimp only
   refine wpAny_bind (wpAny_pure ?_)
   refine wpAny_bind (wpAny_storeSet_of hg rfl ?_ (by rw [List.size_toArray, mkEs_len hl2, sizeLine_eq]; decide))
   have hg2 := Heap.get?_update_self (Obj.putSet (mkEs [0, 1, 2, 3, 4] (ts ++ [t])).toArray (tabOf led [0, 1, 2, 3, 4])) hg (by rw [putSet_of _ _ rfl]; rfl)
   rw [putSet_of _ _ rfl] at hg2
   exact wpAny_pure (wpAny_pure (hend _ ((Heap.SameBut.update ..).trans (Heap.SameBut.update ..)) _ ⟨hg2, hl2, hrise⟩))
  ·rw [show (!false && decide (ns.length = 4)) = false by simp [h4], if_neg (by decide)]
   have hlen4 : ns.length < 4 := by
    have := (subs_len _ hrise).1
    simp at this; omega
   rw [k6 hlen4] at hg
   exact wpAny_pure (wpAny_pure (hend _ (by rw [k6 hlen4]; exact Heap.SameBut.update ..) _ ⟨by rw [k6 hlen4]; exact hg, hl2, hrise⟩))
end
end
section
noncomputable def dedS (ns : List Nat) (v : Nat) : List Nat := if v ∈ ns then ns else ns ++ [v]
noncomputable def dedN (vs : List Nat) : List Nat := vs.foldl dedS []
theorem dedN_snoc (vs : List Nat) (v : Nat) : dedN (vs ++ [v]) = dedS (dedN vs) v := by unfold dedN; rw [List.foldl_append]; rfl
theorem dedS_mem {ns : List Nat} {v x : Nat} : x ∈ dedS ns v ↔ x ∈ ns ∨ x = v := by
 unfold dedS
 split
 ·rename_i h
  exact ⟨.inl, fun h' => h'.elim id fun e => e ▸ h⟩
 ·simp
theorem fold_mem : ∀ (vs ns : List Nat) (x : Nat), x ∈ vs.foldl dedS ns ↔ x ∈ ns ∨ x ∈ vs
 | [], ns, x => by simp
 | v :: vs, ns, x => by
  rw [List.foldl_cons, fold_mem vs, dedS_mem, List.mem_cons, or_assoc]
theorem dedN_mem (vs : List Nat) (x : Nat) : x ∈ dedN vs ↔ x ∈ vs := by unfold dedN; rw [fold_mem]; simp
theorem fold_rise : ∀ (vs ns : List Nat), ns.Pairwise (· < ·) → vs.Pairwise (· ≤ ·) → (∀ n ∈ ns, ∀ v ∈ vs, n ≤ v) → (vs.foldl dedS ns).Pairwise (· < ·)
 | [], ns, h, _, _ => h
 | v :: vs, ns, h, hv, hn => by
  rw [List.foldl_cons]
  obtain ⟨v1, v2⟩ := List.pairwise_cons.mp hv
  refine fold_rise vs _ ?_ v2 fun n hn' u hu => ?_
  ·unfold dedS
   split
   ·exact h
   ·rename_i hno
    rw [List.pairwise_append]
    refine ⟨h, by simp, fun a ha b hb => ?_⟩
    simp at hb; subst hb
    have := hn a ha b List.mem_cons_self
    rcases Nat.lt_or_eq_of_le this with q | q
    ·exact q
    ·exact absurd (q ▸ ha) hno
  ·rcases dedS_mem.mp hn' with q | rfl
   ·exact hn n q u (List.mem_cons_of_mem _ hu)
   ·exact v1 u hu
theorem dedN_rise {vs : List Nat} (h : vs.Pairwise (· ≤ ·)) : (dedN vs).Pairwise (· < ·) := fold_rise vs [] List.Pairwise.nil h (by simp)
section
variable {prog : Program} {w : World} {A : Around} {E : Value → Shared → Prop} {s : Shared}
theorem set_loop {R : Result → Shared → Prop} {I : Addr} {fp wr : List Addr} {G : Array GenState → Array GenState → Prop} {P : Nat → Value → Prop} {St : Nat → Shared → Prop} {vs : List Nat}
  (W : WalksS prog w A.in1 I fp wr G vs.length P St) (S : Addr) (hSf : S ∉ fp) (led : Bool) (hval : ∀ i v, P i v → ∃ t, v = .int ((vs.getD i 0 : Nat) : Int) t) (h5 : ∀ v ∈ vs, v < 5) (hs : vs.Pairwise (· ≤ ·)) :
  ∀ (k i : Nat) (s : Shared) (ts : List Tok) (ep : Nat), vs.length - i = k → i ≤ vs.length → St i s → SetN s.heap S led (dedN (vs.take i)) ts ep →
   (∀ s' ts' ep', Moved (S :: wr) G s s' → SetN s'.heap S led (dedN vs) ts' ep' → R (.ok (.ret .none)) s') →
   codeAny (model prog w) A (.builtin "set.update.loop" ⟨[.ref S, .ref I], []⟩) R s := by
 have hSw : S ∉ wr := fun h => hSf (W.sub _ h)
 have hsub : ∀ b ∈ wr, b ∈ S :: wr := fun b hb => List.mem_cons_of_mem _ hb
 intro k
 induction k with
 | zero =>
  intro i s ts ep hk hi hst hS hR
  have hin : i = vs.length := by omega
  subst hin
  rw [List.take_of_length_le (Nat.le_refl _)] at hS
  refine codeAny_builtin F.entry_set_update_loop ?_
  rw [Around.under_plainId F.plain_set_update_loop _]
  show wpAny _ A.in1 (pyNext (.ref I) >>= _) _ _ s
  refine wpAny_bind (W.done s _ _ hst fun s' hm => ?_)
  exact wpAny_pure (hR s' ts ep (hm.mono hsub) (hS.keep fun o e => hm.heap S _ hSw e))
 | succ k ih =>
  intro i s ts ep hk hi hst hS hR
  have hlt : i < vs.length := by omega
  have hvi : vs[i]? = some vs[i] := List.getElem?_eq_getElem hlt
  have hmem := List.getElem_mem hlt
  have hgd : vs.getD i 0 = vs[i] := by rw [List.getD_eq_getElem?_getD, hvi]; rfl
  have htk := take_snoc hvi
  have hle : ∀ n ∈ dedN (vs.take i), n ≤ vs[i] := fun n hn => by
   rw [dedN_mem] at hn
   have hpw : (vs.take i ++ [vs[i]]).Pairwise (· ≤ ·) := by rw [← htk]; exact List.Pairwise.sublist (List.take_sublist _ _) hs
   rw [List.pairwise_append] at hpw
   exact hpw.2.2 n hn _ (by simp)
  generalize vs[i] = v at hvi hmem hgd htk hle
  refine codeAny_builtin F.entry_set_update_loop ?_
  rw [Around.under_plainId F.plain_set_update_loop _]
  show wpAny _ A.in1 (pyNext (.ref I) >>= _) _ _ s
  refine wpAny_bind (W.item i s _ _ hlt hst fun u s' hP hst' hm => ?_)
  obtain ⟨t, rfl⟩ := hval i u hP
  rw [hgd]
  have hS' := hS.keep fun o e => hm.heap S _ hSw e
  have hv5 := h5 v hmem
  show wpAny _ A.in1 (holding [Value.int (v : Int) t] (setAdd S (.int (v : Int) t)) >>= _) _ _ s'
  refine wpAny_bind (wpAny_holding ?_)
  unfold setAdd
  refine wpAny_holding ?_
  refine wpAny_bind ((intKind prog w).pyHash (k := (v : Int)) (intKind_is _ _ _ _) ?_)
  rw [hash_small v hv5]
  have hin : v ∈ dedN (vs.take i) ∨ ∀ n ∈ dedN (vs.take i), n < v := by
   by_cases q : v ∈ dedN (vs.take i)
   ·exact .inl q
   ·right; intro n hn
    have := hle n hn
    rcases Nat.lt_or_eq_of_le this with z | z
    ·exact z
    ·exact absurd (z ▸ hn) q
  refine add_small (s := { s' with toks := s'.toks + 1 }) hS' hv5 hle hin fun h' ts' ep' hsb hS2 => ?_
  have hSi : SetN h' S led (dedN (vs.take (i + 1))) ts' ep' := by rw [htk, dedN_snoc]; exact hS2
  refine wpAny_pure ⟨plainId_quiet F.plain_set_update_loop _, ih (i + 1) _ ts' ep' (by omega) hlt (W.frame _ s' _ _ hst' (Nat.le_succ _) fun b hb o e => ?_) hSi fun s'' ts'' ep'' hm'' hS'' => ?_⟩
  ·rw [hsb.2 b (fun h : b = S => hSf (by rw [← h]; exact hb))]; exact e
  ·refine hR s'' ts'' ep'' (Moved.trans W.gtrans ((hm.mono hsub).then_heap (Nat.le_succ _) fun b o hb e => ?_) hm'') hS''
   rw [hsb.2 b (fun h : b = S => hb (by rw [h]; exact List.mem_cons_self))]; exact e
noncomputable def byTxt (w : World) : Bool := w.params.followText "set-order"
theorem set_new (a : Value) {Q₁ : Value → Shared → Prop}
  (h : Q₁ (.ref s.heap.objs.size) { s with heap := s.heap.push { cls := .type "set", dict := none, data := .set #[] 0 (.fresh 0 0 (!byTxt w)) } }) :
  codeAny (model prog w) A (.call (.builtin "set.__new__") ⟨[.type "set", a], []⟩) (wants Q₁ E) s := by
 refine codeAny_of_tree ?_
 show wpAny _ A.in1 (do checkBuiltinCall "set.__new__" ⟨[.type "set", a], []⟩; again (.builtin "set.__new__" ⟨[.type "set", a], []⟩)) _ _ s
 refine wpAny_bind (wpAny_of_eq (_root_.PySem.F.newCall_set_1 a) (wpAny_pure ⟨plainId_quiet _root_.PySem.F.plain_set_new _, codeAny_builtin _root_.PySem.F.entry_set_new ?_⟩))
 rw [Around.under_plainId _root_.PySem.F.plain_set_new _]
 unfold Builtin.«set.__new__» Builtin.Frozenset.newClass
 have hsub := sub_set_self
 obtain ⟨hp, g, d, tk, os⟩ := s
 dsimp only
 wp_walk
 refine wpAny_askSetting (wpAny_pure ?_)
 dsimp only
 simp only [newObj]
 refine wpAny_bind (wpAny_alloc (wpAny_pure ?_))
 exact wpAny_pure h
end
end
section
section
variable {prog : Program} {w : World} {A : Around} {E : Value → Shared → Prop} {s : Shared}
theorem set_init {S l : Addr} {items : Array Value} {vs : List Nat} {led : Bool} {Q : Value → Shared → Prop} (hh : A.handled = none) (hl : s.heap.IsList l items) (hi : IntsAre items.toList (vZ vs)) (h5 : ∀ v ∈ vs, v < 5) (hs : vs.Pairwise (· ≤ ·))
  (hS : SetN s.heap S led [] [] 0) (hne : S ≠ l)
  (h : ∀ h' tk ts ep, SetN h' S led (dedN vs) ts ep → (∀ b o, b ≠ S → s.heap.get? b = some o → h'.get? b = some o) → Q .none { s with heap := h', toks := tk }) :
  codeAny (model prog w) A (.call (.builtin "set.__init__") ⟨[.ref S, .ref l], []⟩) (wants Q E) s := by
 have hT : s.TypeIs (.ref S) "set" := ⟨_, hS.at_, rfl⟩
 refine codeAny_call_builtin _root_.PySem.F.called_set.init.plain _root_.PySem.F.entry_set_init (check_set_init_1 hT ?_)
 have hsz : items.size = vs.length := by
  have := hi.length
  unfold vZ at this
  rw [List.length_map] at this; simpa using this
 obtain ⟨ol, hol, hcl, nl, hdl⟩ := hl
 obtain ⟨ocls, odict, odata, oslots⟩ := ol
 simp only at hcl hdl
 subst hcl; subst hdl
 have hl1 : s.heap.IsList l items := ⟨_, hol, rfl, nl, rfl⟩
 have hSl : S < s.heap.objs.size := Heap.lt_size hS.at_
 have hll : l < s.heap.objs.size := Heap.lt_size hol
 have hSf : S ∉ [s.heap.objs.size, l] := by
  simp only [List.mem_cons, List.mem_singleton, List.not_mem_nil, or_false, not_or]
  exact ⟨Nat.ne_of_lt hSl, hne⟩
 have hval : ∀ (i : Nat) (v : Value), items[i]? = some v → ∃ t, v = .int ((vs.getD i 0 : Nat) : Int) t := fun i v hv => by
  obtain ⟨t, e⟩ := PyProof.Rows.IntsAre.int_at hi i v (by rw [Array.getElem?_toList]; exact hv)
  refine ⟨t, ?_⟩
  rw [e]
  congr 1
  unfold vZ
  rw [List.getD_eq_getElem?_getD, List.getD_eq_getElem?_getD, List.getElem?_map]
  cases vs[i]? <;> rfl
 have hsls := _root_.PySem.F.sub_list_set
 have hslf := _root_.PySem.F.sub_list_frozenset
 have hne2 : (Value.type "list" == Value.type "dict") = false := by decide
 have hSo := hS.at_
 obtain ⟨hp, g, d, tk, os⟩ := s
 dsimp only at hol hSo hl1 hSl hll hSf hS
 unfold Builtin.«set.__init__» noKeywords Builtin.Frozenset.updateFrom
 generalize hPI : pyIter = PI
 wp_walk
 subst hPI
 refine wpAny_pyIter_list hl1 ?_
 refine wpAny_bind (wpAny_runValue ?_)
 have W := (Walks.list (prog := prog) (w := w) (A := A.in1.in1) (by simp [hh]) hp.objs.size l (Nat.ne_of_lt hll) items).toS
 rw [hsz] at W
 refine set_loop W S hSf led hval h5 hs (vs.length - 0) 0 _ [] 0 (by omega) (Nat.zero_le _) ⟨⟨_, Heap.get?_push_size _ rfl, rfl, rfl⟩, hl1.push _⟩ (hS.keep fun o e => Heap.get?_push_of_some _ e) fun s' ts' ep' hm hS' => ?_
 obtain ⟨h', g', d', tk', os'⟩ := s'
 have eg : g' = g := hm.gens
 have ed : d' = d := hm.drawn
 have eo : os' = os := hm.os
 subst eg; subst ed; subst eo
 show wpAny _ _ _ _ _ _
 refine wpAny_pure ?_
 show wpAny _ _ (ret Value.none) _ _ _
 refine wpAny_pure (h h' tk' ts' ep' hS' fun b o hb e => ?_)
 have hlt := Heap.lt_size e
 exact hm.heap b o (by simp only [List.mem_cons, List.mem_singleton, List.not_mem_nil, or_false, not_or]; exact ⟨hb, Nat.ne_of_lt hlt⟩) (Heap.get?_push_of_some _ e)
set_option maxHeartbeats 1000000 in
theorem call_set_small {l : Addr} {items : Array Value} {vs : List Nat} {Q : Value → Shared → Prop} (hh : A.handled = none) (hl : s.heap.IsList l items) (hi : IntsAre items.toList (vZ vs)) (h5 : ∀ v ∈ vs, v < 5) (hs : vs.Pairwise (· ≤ ·))
  (h : ∀ h' tk ts ep, SetN h' s.heap.objs.size (!byTxt w) (dedN vs) ts ep → (∀ b o, s.heap.get? b = some o → h'.get? b = some o) → Q (.ref s.heap.objs.size) { s with heap := h', toks := tk }) :
  wpAny (model prog w) A (call (.type "set") [.ref l]) Q E s := by
 obtain ⟨c, tl, hmro⟩ := _root_.PySem.F.called_set.mro
 have hmade := _root_.PySem.F.called_set.made
 have hsub := _root_.PySem.F.called_set.sub
 refine wpAny_call (codeAny_of_tree ?_)
 show wpAny _ _ (callAny (.type "set") _) _ _ _
 refine wpAny_pure ⟨Code.quiet_builtin _ (by decide +kernel), codeAny_builtin _root_.PySem.F.entry_type_call ?_⟩
 rw [Around.under_plain (weight_type_call_type "set" [.ref l] []) rfl]
 have h1 := _root_.PySem.F.called_set.notType
 have h2 := _root_.PySem.F.called_set.canCreate
 have hct := _root_.PySem.F.typeCall_set_1 (.ref l)
 repeat (any_goals (first | assumption | wp_step))
 refine codeAny_mono (set_new (.ref l) (E := E) (Q₁ := fun obj s₁ => obj = .ref s.heap.objs.size ∧ s₁ = { s with heap := s.heap.push { cls := .type "set", dict := none, data := .set #[] 0 (.fresh 0 0 (!byTxt w)) } }) ⟨rfl, rfl⟩) fun r s₁ hr => ?_
 cases r with
 | error e => exact hr
 | ok fl =>
  cases fl with
  | ret obj =>
   obtain ⟨rfl, rfl⟩ := hr
   have hS : (s.heap.push { cls := .type "set", dict := none, data := .set #[] 0 (.fresh 0 0 (!byTxt w)) }).get? s.heap.objs.size = some { cls := .type "set", dict := none, data := .set #[] 0 (.fresh 0 0 (!byTxt w)) } := Heap.get?_push_size _ rfl
   have hT : Shared.TypeIs { s with heap := s.heap.push { cls := .type "set", dict := none, data := .set #[] 0 (.fresh 0 0 (!byTxt w)) } } (.ref s.heap.objs.size) "set" := ⟨_, hS, rfl⟩
   have hli := _root_.PySem.F.called_set.init.lookup
   have hbi := _root_.PySem.F.called_set.init.bind (.ref s.heap.objs.size)
   repeat (any_goals (first | assumption | wp_step))
   have hll : l < s.heap.objs.size := by obtain ⟨o, ho, _⟩ := hl; exact Heap.lt_size ho
   have hSN : SetN (s.heap.push { cls := .type "set", dict := none, data := .set #[] 0 (.fresh 0 0 (!byTxt w)) }) s.heap.objs.size (!byTxt w) [] [] 0 := ⟨hS, rfl, by decide⟩
   refine codeAny_mono (set_init (Q := fun r s₂ => r = .none ∧ ∃ h' tk ts ep, s₂ = { s with heap := h', toks := tk } ∧ SetN h' s.heap.objs.size (!byTxt w) (dedN vs) ts ep ∧ (∀ b o, s.heap.get? b = some o → h'.get? b = some o)) (E := E) (by simp [hh]) (hl.push _) hi h5 hs hSN (Nat.ne_of_gt hll) fun h' tk ts ep hS' hk => ⟨rfl, h', tk, ts, ep, rfl, hS', fun b o e => hk b o (Nat.ne_of_lt (Heap.lt_size e)) (Heap.get?_push_of_some _ e)⟩) fun r₂ s₂ hr₂ => ?_
   cases r₂ with
   | error e => exact hr₂
   | ok fl₂ =>
    cases fl₂ with
    | ret r =>
     obtain ⟨rfl, h', tk, ts, ep, rfl, hS', hk'⟩ := hr₂
     repeat (any_goals (first | assumption | wp_step))
     exact h _ _ _ _ hS' hk'
    | _ => exact hr₂.elim
  | _ => exact hr.elim
end
end
section
namespace RF
theorem slot_si_next : Slot "set_iterator" "__next__" "set_iterator.__next__" :=
 .of (owner := "set_iterator") (n := "__next__") (by rw [typeLookup_type, builtinLookup_eq_fast]; kernel_rfl) (by decide +kernel) (by decide +kernel) (by decide +kernel)
  (by first | exact .inl (by decide +kernel) | exact .inr (by decide +kernel)) (by rw [isSubtype_type]; kernel_rfl)
theorem entry_si_next : entryFor table "set_iterator.__next__" = some Builtin.«set_iterator.__next__» := entryFor_of_tree (by kernel_rfl)
theorem args_si_next (a : Value) : argsOk "set_iterator.__next__" ⟨[a], []⟩ := by unfold argsOk; kernel_rfl
theorem slot_si_iter : Slot "set_iterator" "__iter__" "set_iterator.__iter__" :=
 .of (owner := "set_iterator") (n := "__iter__") (by rw [typeLookup_type, builtinLookup_eq_fast]; kernel_rfl) (by decide +kernel) (by decide +kernel) (by decide +kernel)
  (by first | exact .inl (by decide +kernel) | exact .inr (by decide +kernel)) (by rw [isSubtype_type]; kernel_rfl)
theorem entry_si_iter : entryFor table "set_iterator.__iter__" = some Builtin.«dict_keyiterator.__iter__» :=
 entryFor_alias (id' := "dict_keyiterator.__iter__") (by kernel_rfl) rfl (by decide +kernel) (by kernel_rfl)
theorem args_si_iter (a : Value) : argsOk "set_iterator.__iter__" ⟨[a], []⟩ := by unfold argsOk; kernel_rfl
theorem entry_set_iter : entryFor table "set.__iter__" = some Builtin.«frozenset.__iter__» :=
 entryFor_alias (id' := "frozenset.__iter__") (by kernel_rfl) rfl (by decide +kernel) (by kernel_rfl)
end RF
noncomputable def sl (b : Bool) (ns : List Nat) (i : Nat) : Nat := if b then 0 else slotOf ns i
noncomputable def ordE (w : World) (S : Addr) (ep : Nat) (es : Array (Int × Value)) : Array (Int × Value) := if byTxt w then pickOrder (w.params.setOrder S ep) es else es
noncomputable def IterS (h : Heap) (I S : Addr) (b : Bool) (ns : List Nat) (ep i : Nat) : Prop :=
 h.get? I = some { cls := .type "set_iterator", data := .fields #[.int (sl b ns i : Nat) 0, .int (i : Nat) 0, .ref S, .int (ns.length : Nat) 0, .int (ep : Nat) 0] }
section
variable {prog : Program} {w : World} {A : Around} {E : Value → Shared → Prop} {s : Shared}
theorem wp_iff {α : Type} {M : Model} {c : Bool} {x y : Sem α} {Q : α → Shared → Prop} (hc : c = false) (h : wpAny M A y Q E s) : wpAny M A (if c = true then x else y) Q E s := by
 rw [hc]; exact h
theorem next_at {S : Addr} {ns : List Nat} {ts : List Tok} {ep i : Nat} {Q : Option (Value × Nat) → Shared → Prop} (H : SetN s.heap S (!byTxt w) ns ts ep)
  (hi : i ≤ ns.length) (h : Q ((ordE w S ep (mkEs ns ts).toArray)[i]?.map fun e => (e.2, sl (byTxt w) ns (i + 1))) s) :
  wpAny (model prog w) A (setNext S (sl (byTxt w) ns i) i ep) Q E s := by
 have hf := H.fits
 have ho := H.at_
 unfold setNext
 refine wpAny_bind (wpAny_setState_of ho rfl hf ?_)
 dsimp only
 unfold setsByText
 refine wpAny_bind (wpAny_bind (wpAny_askSetting (wpAny_pure ?_)))
 have hb : ((⟨(model prog w).prog, (model prog w).w.params⟩ : Setting).params.followText "set-order") = byTxt w := rfl
 rw [hb]
 unfold ordE at h
 cases hbt : byTxt w with
 | true =>
  rw [hbt] at h
  simp only [if_true] at h ⊢
  rw [if_neg (by simp)]
  unfold setWalk
  refine wpAny_bind (wpAny_bind (wpAny_setState_of ho rfl hf ?_))
  dsimp only
  unfold setsByText
  refine wpAny_bind (wpAny_bind (wpAny_askSetting (wpAny_pure ?_)))
  rw [hb, hbt, if_pos rfl]
  refine wpAny_bind (wpAny_askSetting (wpAny_pure (wpAny_pure ?_)))
  exact h
 | false =>
  rw [hbt] at h
  simp only [Bool.false_eq_true, if_false] at h ⊢
  refine wp_iff ?_ ?_
  ·show (!(tabOf (!false) ns).plain && decide ((mkEs ns ts).toArray.size > 1)) = false
   simp [tabOf]
  refine wpAny_bind (m := if (!(tabOf (!false) ns).led && !(mkEs ns ts).toArray.isEmpty) = true then unsupported "set:maker-not-led" else pure ()) ?_
  rw [if_neg (by simp [tabOf])]
  refine wpAny_pure (wpAny_pure ?_)
  have hbel : SetTable.below (tabOf (!false) ns).place (sl false ns i) = i := by
   have := tab_next true ns H.rise i (List.mem_range.mpr (by have := (subs_len ns H.rise).1; omega))
   rcases this with q | q
   ·rw [if_pos hi] at q; exact q
   ·omega
  rw [hbel]
  have hpl : (tabOf (!false) ns).place[i]? = ns[i]? := by simp [tabOf]
  have hes : (mkEs ns ts).toArray[i]? = (ns[i]?).map fun n => ((n : Int), Value.int (n : Int) (ts.getD i 0)) := by rw [List.getElem?_toArray]; exact mkEs_at H.len
  rw [hpl, hes]
  rw [hes] at h
  cases hn : ns[i]? with
  | none => rw [hn] at h; exact h
  | some n =>
   rw [hn] at h
   have hsl : sl false ns (i + 1) = n + 1 := by
    show slotOf ns (i + 1) = n + 1
    unfold slotOf
    rw [if_neg (by omega), List.getD_eq_getElem?_getD, show i + 1 - 1 = i by omega, hn]; rfl
   rw [hsl] at h
   exact h
theorem IterS.typeIs {I S : Addr} {b : Bool} {ns : List Nat} {ep i : Nat} (h : IterS s.heap I S b ns ep i) : s.TypeIs (.ref I) "set_iterator" := ⟨_, h, rfl⟩
theorem ordE_size {S : Addr} {ep : Nat} {es : Array (Int × Value)} : (ordE w S ep es).size = es.size := by
 unfold ordE
 split
 ·have := (pick_perm (w.params.setOrder S ep) es).length_eq
  simpa using this
 ·rfl
theorem pyNext_item {I S : Addr} {ns : List Nat} {ts : List Tok} {ep i : Nat} {Q : Option Value → Shared → Prop} (H : SetN s.heap S (!byTxt w) ns ts ep) (hI : IterS s.heap I S (byTxt w) ns ep i) (hi : i < ns.length)
  (hQ : ∀ h', IterS h' I S (byTxt w) ns ep (i + 1) → Heap.SameBut I s.heap h' → Q (some ((ordE w S ep (mkEs ns ts).toArray)[i]?.map (·.2) |>.getD .none)) { s with heap := h' }) :
  wpAny (model prog w) A (pyNext (.ref I)) Q E s := by
 unfold pyNext
 refine wpAny_bind (wpAny_attempt (wpAny_callSpecial?_slot (name := Str.ofString "__next__") hI.typeIs RF.slot_si_next
  (wpAny_call_entry RF.slot_si_next hI.typeIs RF.entry_si_next ?_ (RF.args_si_next _))))
 have ho := hI
 unfold IterS at ho
 show wpAny _ _ (fieldsOf (.ref I) >>= _) _ _ s
 refine wpAny_bind (wpAny_fieldsOf ho rfl ?_)
 dsimp only
 refine wpAny_bind (wpAny_setEntries_of H.at_ rfl H.fits ?_)
 rw [H.size, if_neg (by simp)]
 simp only [Int.toNat_natCast]
 refine wpAny_bind (next_at H (by omega) ?_)
 have hsz : i < (ordE w S ep (mkEs ns ts).toArray).size := by rw [ordE_size, H.size]; exact hi
 rw [Array.getElem?_eq_getElem hsz] at hQ ⊢
 simp only [Option.map_some, Option.getD_some] at hQ ⊢
 generalize (ordE w S ep (mkEs ns ts).toArray)[i].2 = x at hQ ⊢
 refine wpAny_bind (wpAny_setField_rec (prog := prog) (w := w) ho (by simp) fun h1 g1 sb1 => ?_)
 refine wpAny_bind (wpAny_setField_rec (prog := prog) (w := w) (s := { s with heap := h1 }) g1 (by simp) fun h2 g2 sb2 => ?_)
 refine wpAny_pure ⟨x, rfl, wpAny_pure (hQ h2 ?_ (sb1.trans sb2))⟩
 unfold IterS
 rw [g2]; simp [rawInt]
end
end
section
section
variable {prog : Program} {w : World} {A : Around} {E : Value → Shared → Prop} {s : Shared}
theorem pyNext_end {I S : Addr} {ns : List Nat} {ts : List Tok} {ep : Nat} {Q : Option Value → Shared → Prop} (hh : A.handled = none) (H : SetN s.heap S (!byTxt w) ns ts ep) (hI : IterS s.heap I S (byTxt w) ns ep ns.length)
  (hQ : ∀ h', Heap.ExtBut I s.heap h' → Q none { s with heap := h' }) :
  wpAny (model prog w) A (pyNext (.ref I)) Q E s := by
 unfold pyNext
 refine wpAny_bind (wpAny_attempt (wpAny_callSpecial?_slot (name := Str.ofString "__next__") hI.typeIs RF.slot_si_next
  (wpAny_call_entry RF.slot_si_next hI.typeIs RF.entry_si_next ?_ (RF.args_si_next _))))
 have ho := hI
 unfold IterS at ho
 show wpAny _ _ (fieldsOf (.ref I) >>= _) _ _ s
 refine wpAny_bind (wpAny_fieldsOf ho rfl ?_)
 dsimp only
 refine wpAny_bind (wpAny_setEntries_of H.at_ rfl H.fits ?_)
 rw [H.size, if_neg (by simp)]
 simp only [Int.toNat_natCast]
 refine wpAny_bind (next_at H (Nat.le_refl _) ?_)
 have hsz : ¬ ns.length < (ordE w S ep (mkEs ns ts).toArray).size := by rw [ordE_size, H.size]; omega
 rw [Array.getElem?_eq_none (by omega)]
 dsimp only [Option.map_none]
 refine wpAny_bind (wpAny_setField ho rfl (by simp) ?_)
 show wpAny _ _ (newExc (.type "StopIteration") [] >>= _) _ _ _
 refine wpAny_bind ?_
 simp only [newExc, newTuple]
 refine wpAny_bind (wpAny_newObj_type ?_ (by size_fits))
 refine wpAny_bind (m := firstArgMember _ _) (wpAny_of_eq (a := Value.none) (by first | rfl | (simp only [firstArgMember]; rfl)) ?_)
 refine wpAny_newObj_type ?_ (by size_fits)
 simp only [raiseNew]
 refine wpAny_bind (wpAny_handled ?_)
 rw [show A.in1.handled = none from hh]
 refine wpAny_bind (wpAny_pure (wpAny_throw ?_))
 refine wpAny_bind (wpAny_isInstance (T := "StopIteration") (b := true) ⟨_, Heap.get?_push_size _ rfl, rfl⟩ isSubtype_stop ?_)
 exact wpAny_pure (hQ _ (((Heap.SameBut.update ..).extBut.push _).push _))
theorem pyIter_iter {I S : Addr} {ns : List Nat} {ep i : Nat} {b : Bool} {Q : Value → Shared → Prop} (hI : IterS s.heap I S b ns ep i) (h : Q (.ref I) s) : wpAny (model prog w) A (pyIter (.ref I)) Q E s := by
 refine wpAny_pyIter_slot hI.typeIs RF.slot_si_iter (wpAny_call_entry RF.slot_si_iter hI.typeIs RF.entry_si_iter ?_ (RF.args_si_iter _))
 show wpAny _ _ (ret (.ref I)) _ _ s
 exact wpAny_pure ⟨_, rfl, "set_iterator", _, hI.typeIs, RF.slot_si_next.lookup, h⟩
theorem pyIter_set {S : Addr} {ns : List Nat} {ts : List Tok} {ep : Nat} {Q : Value → Shared → Prop} (H : SetN s.heap S (!byTxt w) ns ts ep)
  (h : ∀ o, (s.heap.push o).get? s.heap.objs.size = some o → IterS (s.heap.push o) s.heap.objs.size S (byTxt w) ns ep 0 → Q (.ref s.heap.objs.size) { s with heap := s.heap.push o }) :
  wpAny (model prog w) A (pyIter (.ref S)) Q E s := by
 have hT : s.TypeIs (.ref S) "set" := ⟨_, H.at_, rfl⟩
 have ho := H.at_
 have hf := H.fits
 refine wpAny_pyIter_slot hT _root_.PySem.F.slot_set_iter (wpAny_call_entry _root_.PySem.F.slot_set_iter hT RF.entry_set_iter ?_ (_root_.PySem.F.args_set_iter_1 _))
 unfold Builtin.«frozenset.__iter__»
 refine wpAny_bind (m := Builtin.Frozenset.slot0 "__iter__" ⟨[.ref S], []⟩) (wpAny_pure ?_)
 unfold Builtin.Frozenset.sizeOf
 refine wpAny_bind (wpAny_bind (wpAny_setEntries_of ho rfl hf (wpAny_pure ?_)))
 unfold setDrawn
 refine wpAny_bind (wpAny_bind (wpAny_setState_of ho rfl hf ?_))
 dsimp only
 unfold setsByText
 refine wpAny_bind (wpAny_bind (wpAny_askSetting (wpAny_pure ?_)))
 refine wpAny_pure ?_
 refine wp_iff ?_ (wpAny_bind (wpAny_pure ?_))
 ·show (!_ && (!(tabOf (!byTxt w) ns).plain && decide ((mkEs ns ts).toArray.size > 1))) = false
  simp [tabOf]
 ·refine wpAny_bind (wpAny_setEpoch_of ho rfl hf ?_)
  rw [H.size]
  unfold newFields
  refine wpAny_bind (wpAny_newObj_type ?_)
  have e : IterS (s.heap.push { cls := .type "set_iterator", data := .fields [rawInt 0, rawInt 0, .ref S, rawInt (ns.length : Nat), rawInt (ep : Nat)].toArray }) s.heap.objs.size S (byTxt w) ns ep 0 := by
   unfold IterS
   rw [Heap.get?_push_size _ rfl]
   have : sl (byTxt w) ns 0 = 0 := by unfold sl slotOf; split <;> rfl
   rw [this]; rfl
  exact wpAny_pure ⟨_, rfl, "set_iterator", _, ⟨_, Heap.get?_push_size _ rfl, rfl⟩, RF.slot_si_next.lookup, h _ (Heap.get?_push_size _ rfl) e⟩
theorem walksSet (hh : A.handled = none) (I S : Addr) (hne : S ≠ I) (ns : List Nat) (ts : List Tok) (ep : Nat) :
  WalksS prog w A I [I, S] [I] (fun a b => b = a) ns.length (fun i v => v = ((ordE w S ep (mkEs ns ts).toArray)[i]?.map (·.2)).getD .none) (fun i s => IterS s.heap I S (byTxt w) ns ep i ∧ SetN s.heap S (!byTxt w) ns ts ep) where
 sub := fun b hb => by simp at hb; simp [hb]
 grefl := fun _ => rfl
 gtrans := fun a b c h1 h2 => h2.trans h1
 frame := fun i s h' tk st _ hk => ⟨hk I (by simp) _ st.1, st.2.keep fun o e => hk S (by simp) o e⟩
 item := fun i s Q E hi st hQ => pyNext_item st.2 st.1 hi fun h' hit hs => hQ _ _ rfl ⟨hit, st.2.keep fun o e => (hs.2 S hne).trans e⟩ ⟨fun b o hb e => (hs.2 b (by simpa using hb)).trans e, rfl, rfl, rfl, Nat.le_refl _⟩
 done := fun s Q E st hQ => pyNext_end hh st.2 st.1 fun h' he => hQ _ ⟨fun b o hb e => he b o (by simpa using hb) e, rfl, rfl, rfl, Nat.le_refl _⟩
 self := fun i s Q E st hQ => pyIter_iter st.1 hQ
end
end
section
section
variable {prog : Program} {w : World} {A : Around} {E : Value → Shared → Prop} {s : Shared}
theorem wp_ift {α : Type} {M : Model} {c : Bool} {x y : Sem α} {Q : α → Shared → Prop} (hc : c = true) (h : wpAny M A x Q E s) : wpAny M A (if c = true then x else y) Q E s := by
 rw [hc]; exact h
theorem hint_set {S : Addr} {Q : Bool → Shared → Prop} (hT : s.TypeIs (.ref S) "set") (h : Q false s) : wpAny (model prog w) A (Builtin.List.listLengthHint (.ref S)) Q E s := by
 unfold Builtin.List.listLengthHint
 refine wpAny_bind (wpAny_specialOf hT _root_.PySem.F.slot_set_len.lookup ?_)
 generalize hid : ("set.__len__" : String) = id0
 (fail_if_success (clear hid id0))
 dsimp only
 rw [show splitId id0 = some ("set", "__len__") from by subst hid; decide +kernel]
 subst hid
 dsimp only
 refine wpAny_bind (wpAny_isInstance (b := true) hT (by rw [isSubtype_type]; kernel_rfl) ?_)
 rw [if_neg (by decide)]
 refine wp_ift (by kernel_rfl) ?_
 refine wpAny_bind (wpAny_typeOf hT ?_)
 exact wpAny_pure h
theorem collect_set {S : Addr} {ns : List Nat} {ts : List Tok} {ep : Nat} {Q : List Value → Shared → Prop} (hh : A.handled = none) (H : SetN s.heap S (!byTxt w) ns ts ep)
  (hQ : ∀ (h' : Heap) (tk : Nat), (∀ b o, s.heap.get? b = some o → h'.get? b = some o) → Q ((ordE w S ep (mkEs ns ts).toArray).toList.map (·.2)) { s with heap := h', toks := tk }) :
  wpAny (model prog w) A (collect (.ref S)) Q E s := by
 have hSl : S < s.heap.objs.size := Heap.lt_size H.at_
 have hn5 := (subs_len ns H.rise).1
 unfold collect
 refine wpAny_bind (wpAny_runValue (codeAny_builtin _root_.PySem.F.entry_proto_collect ?_))
 rw [Around.under_plainId _root_.PySem.F.plain_proto_collect _]
 show wpAny _ A.in1 (newList [] >>= fun l => again (.builtin "list.__iadd__" ⟨[l, .ref S], []⟩)) _ _ s
 refine wpAny_bind (wpAny_newObj_type ?_)
 refine wpAny_pure ⟨plainId_quiet _root_.PySem.F.plain_list_iadd _, codeAny_builtin _root_.PySem.F.entry_list_iadd ?_⟩
 rw [Around.under_plainId _root_.PySem.F.plain_list_iadd _]
 have e0 : s.heap.push { cls := .type "list", dict := none, data := .seq ([] : List Value).toArray } = s.heap.push (listO [] 0) := rfl
 rw [e0]
 generalize hL : s.heap.objs.size = L at hSl
 have hg1 : (s.heap.push (listO [] 0)).get? L = some (listO [] 0) := hL ▸ Heap.get?_push_size _ rfl
 have hsz1 : (s.heap.push (listO [] 0)).objs.size = L + 1 := by rw [Heap.size_push, hL]
 have hk1 : ∀ b o, s.heap.get? b = some o → (s.heap.push (listO [] 0)).get? b = some o := fun b o e => Heap.get?_push_of_some _ e
 have hlt : ∀ b o, s.heap.get? b = some o → b < L := fun b o e => hL ▸ Heap.lt_size e
 generalize s.heap.push (listO [] 0) = h1 at hg1 hsz1 hk1
 have H1 := H.keep (h' := h1) fun o e => hk1 _ _ e
 have hT1 : Shared.TypeIs { s with heap := h1 } (.ref S) "set" := ⟨_, H1.at_, rfl⟩
 show wpAny _ A.in1 (Builtin.List.listExtendWith (.ref L) (.ref S) (.ref L)) _ _ { s with heap := h1 }
 have hne1 : Builtin.List.listSameRef (.ref L) (.ref S) = false := by
  have : L ≠ S := Nat.ne_of_gt hSl
  simpa [Builtin.List.listSameRef] using this
 unfold Builtin.List.listExtendWith
 refine wpAny_bind (wpAny_typeOf hT1 ?_)
 rw [if_neg (by rw [hne1]; decide)]
 refine wpAny_bind (pyIter_set (s := { s with heap := h1 }) H1 fun oI gI hI => ?_)
 dsimp only at gI hI
 have hk2 : ∀ b o, h1.get? b = some o → (h1.push oI).get? b = some o := fun b o e => Heap.get?_push_of_some _ e
 rw [hsz1] at gI hI
 dsimp only
 rw [hsz1]
 generalize h1.push oI = h2 at gI hI hk2
 have H2 := H1.keep (h' := h2) fun o e => hk2 _ _ e
 have hg2 := hk2 _ _ hg1
 refine wpAny_bind (wpAny_holding (hint_set (s := { s with heap := h2 }) ⟨_, H2.at_, rfl⟩ ?_))
 refine wp_ift (by kernel_rfl) ?_
 refine wpAny_bind (wpAny_rule ?_)
 unfold Builtin.List.listTouch
 refine wpAny_bind (wpAny_bind (listUpdate_at (s := { s with heap := h2 }) (f := fun x => x.push .none) hg2 rfl ?_ (by simp [sizeLine_eq]) (by simp [sizeLine_eq])))
 have hu1 := get?_update_seq (c := "list") (show h2.get? L = some (seqObj "list" #[] 0) from hg2) (fun x => x.push .none)
 have hb1 := Heap.SameBut.update h2 L (Obj.mapSeq fun x => x.push .none)
 dsimp only
 generalize h2.update L (Obj.mapSeq fun x => x.push .none) = h3 at hu1 hb1
 refine listUpdate_at (s := { s with heap := h3 }) (f := fun x => x.pop) hu1 rfl ?_ (by simp [sizeLine_eq]) (by simp [sizeLine_eq])
 have hu2 := get?_update_seq hu1 (fun x => x.pop)
 have hb2 := Heap.SameBut.update h3 L (Obj.mapSeq fun x => x.pop)
 dsimp only
 generalize h3.update L (Obj.mapSeq fun x => x.pop) = h4 at hu2 hb2
 have hne2 : S ≠ L := Nat.ne_of_lt hSl
 have hk4 : ∀ b o, b ≠ L → h2.get? b = some o → h4.get? b = some o := fun b o hb e => (hb2.2 b hb).trans ((hb1.2 b hb).trans e)
 have H4 := H2.keep (h' := h4) fun o e => hk4 _ _ hne2 e
 have hI4 : IterS h4 (L + 1) S (byTxt w) ns ep 0 := hk4 _ _ (Nat.succ_ne_self L) hI
 have W := walksSet (prog := prog) (w := w) (A := A.in1) (by simp [hh]) (L + 1) S (Nat.ne_of_lt (Nat.lt_succ_of_lt hSl)) ns ts ep
 refine wpAny_pure ⟨plainId_quiet _root_.PySem.F.plain_extend_loop _, codeAny_extend_loopS W (by rw [sizeLine_eq]; omega) L (by simp only [List.mem_cons, List.not_mem_nil, or_false, not_or]; exact ⟨Nat.ne_of_lt (Nat.lt_succ_self L), Ne.symm hne2⟩) _ ns.length 0 _ #[] _ rfl (Nat.zero_le _) ⟨hI4, H4⟩ hu2 (ItemsOf.nil _) fun s' acc' c' hm hS' hacc => ?_⟩
 show wpAny _ A (load L >>= _) _ _ s'
 refine wpAny_bind (wpAny_load hS' ?_)
 have hacc2 : acc'.toList = (ordE w S ep (mkEs ns ts).toArray).toList.map (·.2) := by
  obtain ⟨z1, z2⟩ := hacc
  have hz : (ordE w S ep (mkEs ns ts).toArray).size = ns.length := by rw [ordE_size, H.size]
  apply List.ext_getElem?
  intro j
  rw [List.getElem?_map, Array.getElem?_toList, Array.getElem?_toList]
  rcases Nat.lt_or_ge j ns.length with hj | hj
  ·have hj1 : j < acc'.size := by omega
   have hj2 : j < (ordE w S ep (mkEs ns ts).toArray).size := by omega
   have := z2 j _ (Array.getElem?_eq_getElem hj1)
   rw [Array.getElem?_eq_getElem hj1, Array.getElem?_eq_getElem hj2, this, Array.getElem?_eq_getElem hj2]; rfl
  ·rw [Array.getElem?_eq_none (by omega), Array.getElem?_eq_none (by omega)]; rfl
 obtain ⟨h', g', d', tk', os'⟩ := s'
 have eg : g' = s.gens := hm.gens
 have ed : d' = s.drawn := hm.drawn
 have eo : os' = s.os := hm.os
 subst eg; subst ed; subst eo
 have fin := hQ h' tk' fun b o e => hm.heap b o (by simp only [List.mem_cons, List.not_mem_nil, or_false, not_or]; exact ⟨Nat.ne_of_lt (hlt b o e), Nat.ne_of_lt (Nat.lt_succ_of_lt (hlt b o e))⟩) (hk4 b o (Nat.ne_of_lt (hlt b o e)) (hk2 _ _ (hk1 _ _ e)))
 rw [← hacc2] at fin
 exact wpAny_pure fin
end
end
section
theorem ints_ord {w : World} {S : Addr} {ep : Nat} {ns : List Nat} {ts : List Tok} (hl : ts.length = ns.length) : ∃ ms : List Nat, ms.Perm ns ∧ IntsAre ((ordE w S ep (mkEs ns ts).toArray).toList.map (·.2)) (vZ ms) := by
 have key : ∀ (l : List (Int × Value)), (∀ e ∈ l, ∃ n t, e = (((n : Nat) : Int), Value.int (n : Int) t)) → IntsAre (l.map (·.2)) (vZ (l.map fun e => e.1.toNat)) := by
  intro l
  induction l with
  | nil => intro _; exact .nil
  | cons e l ih =>
   intro h
   obtain ⟨n, t, rfl⟩ := h e List.mem_cons_self
   exact .cons _ _ (ih fun e he => h e (List.mem_cons_of_mem _ he))
 have hp : (ordE w S ep (mkEs ns ts).toArray).toList.Perm (mkEs ns ts) := by
  unfold ordE
  split
  ·exact pick_perm _ _
  ·exact List.Perm.refl _
 refine ⟨(ordE w S ep (mkEs ns ts).toArray).toList.map fun e => e.1.toNat, ?_, key _ fun e he => ?_⟩
 ·refine (hp.map _).trans ?_
  have : ∀ (ns : List Nat) (ts : List Tok), ts.length = ns.length → (mkEs ns ts).map (fun e => e.1.toNat) = ns := by
   intro ns
   induction ns with
   | nil => intro ts h; cases ts <;> rfl
   | cons n ns ih =>
    intro ts h
    cases ts with
    | nil => cases h
    | cons t ts => simp [mkEs, ih ts (by simpa using h)]
  rw [this ns ts hl]
 ·obtain ⟨n, t, h1, h2⟩ := mkEs_mem hl (hp.mem_iff.mp he)
  exact ⟨n, t, h2⟩
section
variable {C : Cx} {n : Nat} {φ : Scope} {lo : Loc} {st st1 st2 st3 : Sto}
noncomputable def EvSetN (C : Cx) (n : Nat) (φ : Scope) (lo : Loc) (e : Expr) (st : Sto) (ns : List Nat) (st' : Sto) : Prop :=
 ∀ A s ρ env, Lv n A → Hp C ρ st s → FrAt C φ lo ρ s.heap env → wpAny (model C.prog C.w) A (eval e env) (fun v s' => ∃ ρ' a ts ep, v = .ref a ∧ Hp C ρ' st' s' ∧ Go [] ρ s.heap ρ' s'.heap ∧ SetN s'.heap a (!byTxt C.w) ns ts ep) NoE s
theorem EvSetN.ofList {func e : Expr} {pos : Pos} {i : Nat} {vs : List Nat} (h1 : Ev C n φ lo func st (.sta (.type "set")) st1) (h2 : Ev C n φ lo e st1 (.ref i) st2) (hi : st2[i]? = some (.list (vI vs))) (h5 : ∀ v ∈ vs, v < 5) (hs : vs.Pairwise (· ≤ ·))
  (hv : ∀ env, starEach [e] env = [(false, eval e env)] := by intro _; rfl)
  (hp : ∀ env, (backTo pos (starEach [e] env)).any (·.1) = false := by intro _; rfl)
  (he : ∀ env, eval (.Call func [e] [] pos) env = (do callWith pos (← eval func env) [] (backTo pos (starEach [e] env)) (backToKw pos (keywordEach [] env))) := by intro _; rfl) :
  EvSetN C n φ lo (.Call func [e] [] pos) st (dedN vs) st2 := fun A s ρ env hA H F =>
 callEval (noE (h1 A s ρ env hA H F) fun v s1 ⟨ρ1, H1, G1, R1⟩ => by
  (replace R1 := R1.inv; first | obtain rfl := R1 | obtain ⟨_, rfl⟩ := R1)
  refine PyProof.Rows.callWith_type (hp env) (evalArgsJ (hp env) (args1 (noE (h2 A s1 ρ1 env hA H1 (F.go0 G1)) fun v s2 ⟨ρ2, H2, G2, R2⟩ => ?_) (hv env)))
  (replace R2 := R2.inv; obtain ⟨a, rfl, ha⟩ := R2)
  rw [vI_eq] at hi
  obtain ⟨ws, m, ho, rl, hL, hlen⟩ := isList_of H2 ha hi
  have hI := repl_ints rl
  refine wpAny_size (call_set_small hA.1 hL (by simpa using hI) h5 hs fun h' tk ts ep hS hk hz' => ?_)
  obtain ⟨H3, G3⟩ := H2.grow (t' := tk) hk hz'
  exact ⟨ρ2, _, ts, ep, rfl, H3, (G1.trans G2).trans G3, hS⟩) (he env)
theorem Ev.sorted_set {func e : Expr} {pos : Pos} {ns : List Nat} (h1 : Ev C n φ lo func st (.sta (.builtin "sorted")) st1) (h2 : EvSetN C n φ lo e st1 ns st2) (hr : ns.Pairwise (· < ·))
  (hv : ∀ env, starEach [e] env = [(false, eval e env)] := by intro _; rfl)
  (hp : ∀ env, (backTo pos (starEach [e] env)).any (·.1) = false := by intro _; rfl)
  (he : ∀ env, eval (.Call func [e] [] pos) env = (do callWith pos (← eval func env) [] (backTo pos (starEach [e] env)) (backToKw pos (keywordEach [] env))) := by intro _; rfl) :
  Ev C n φ lo (.Call func [e] [] pos) st (.ref st2.length) (st2 ++ [.list (vI ns)]) := fun A s ρ env hA H F =>
 callEval (noE (h1 A s ρ env hA H F) fun v s1 ⟨ρ1, H1, G1, R1⟩ => by
  (replace R1 := R1.inv; first | obtain rfl := R1 | obtain ⟨_, rfl⟩ := R1)
  refine Calls.callWith_builtin (hp env) (evalArgsJ (hp env) (args1 (noE (h2 A s1 ρ1 env hA H1 (F.go0 G1)) fun v s2 ⟨ρ2, a, ts, ep, e, H2, G2, hS⟩ => ?_) (hv env)))
  subst e
  obtain ⟨ms, hms, hI⟩ := ints_ord (w := C.w) (S := a) (ep := ep) hS.len
  have hn5 := (subs_len ns hS.rise).1
  have hml : ((ordE C.w a ep (mkEs ns ts).toArray).toList.map (·.2)).length < 64 := by
   rw [List.length_map, Array.length_toList, ordE_size, hS.size]; omega
  show wpAny _ A (call (.builtin "sorted") [.ref a]) _ _ s2
  refine Calls.call_function_entry kind_sorted plain_sorted entry_sorted (args_sorted1 _) ?_
  unfold Builtin.«sorted»
  refine wpAny_bind (m := checkCount "sorted" 1 1 _) (wpAny_pure ?_)
  refine wpAny_bind (wpAny_size (collect_set (by simp [hA.1]) hS fun h' tk hk hz => ?_))
  dsimp only at hz
  generalize (ordE C.w a ep (mkEs ns ts).toArray).toList.map (·.2) = vs at hI hml
  refine wpAny_bind (wpAny_newList ?_)
  dsimp only
  have hoL : (h'.push (seqObj "list" vs.toArray 0)).get? h'.objs.size = some (seqObj "list" vs.toArray 0) := Heap.get?_push_size _ rfl
  have hk2 : ∀ b o, s2.heap.get? b = some o → (h'.push (seqObj "list" vs.toArray 0)).get? b = some o := fun b o e => Heap.get?_push_of_some _ (hk b o e)
  have hsz2 : (h'.push (seqObj "list" vs.toArray 0)).objs.size = h'.objs.size + 1 := Heap.size_push ..
  show wpAny _ _ _ _ _ { s2 with heap := h'.push (seqObj "list" vs.toArray 0), toks := tk }
  generalize h'.push (seqObj "list" vs.toArray 0) = h2 at hoL hk2 hsz2
  refine wpAny_bind (wpAny_size (wpAny_holding (wpAny_call_entry slot_list_sort ⟨_, hoL, rfl⟩ entry_list_sort (list_sort_tree (s := { s2 with heap := h2, toks := tk }) hoL hI hml fun out ns' a1 a2 a3 => ⟨_, rfl, fun hz3 => ?_⟩) (args_list_sort _))))
  dsimp only at hz3
  have hu : ns' = vZ ns := lks_uniq (a2.trans (hms.map _)) a3 (by unfold vZ; rw [List.pairwise_map]; exact hr.imp fun h => by omega)
  subst hu
  obtain ⟨e, hf⟩ := sortedHeap_at (out := out) hoL
  have hold : ∀ b o, s2.heap.get? b = some o → (sortedHeap h2 h'.objs.size vs out).get? b = some o := fun b o e => by
   have hlt := Heap.lt_size e
   rw [sortedHeap_old (Nat.ne_of_lt (Nat.lt_of_lt_of_le hlt hz)) (by rw [hsz2]; exact Nat.lt_succ_of_lt (Nat.lt_of_lt_of_le hlt hz))]
   exact hk2 b o e
  refine wpAny_pure ⟨_, rfl, ?_⟩
  have := adoptP H2 (a := h'.objs.size) (ob := .list (vI ns)) tk hold (Nat.le_trans hz (Nat.le_trans (by rw [hsz2]; exact Nat.le_succ _) hz3)) hz fun G => ⟨out.toList, e, by simpa using hf, by rw [vI_eq]; exact ints_repl a1⟩
  exact this.more (G1.trans G2)) (he env)
end
end
section
noncomputable abbrev φla : Scope := scopeOf (stAt 29)
noncomputable abbrev LB : List Stmt := bodyOf (stAt 29)
noncomputable abbrev LF1 : Stmt := sAt LB 4
noncomputable abbrev LF2 : Stmt := sAt (bOf LF1) 0
noncomputable def loD (due t c w : Nat) : Loc := [("due", .ref due), ("ties", .ref t), ("count", .int (c : Int)), ("words", .ref w)]
section
variable {C : Cx} (px : Px C) {n : Nat} {xs : List Str} (hk : ∀ x ∈ xs, x ∈ kindsL) (h5 : xs.length ≤ 5) {w due t : Nat} {base : Sto}
include px hk h5
theorem ldue_in {st : Sto} {i : Nat} {D : List PV} (hb : base.length ≤ due) (hs : SExt base st) (hw : base[w]? = some (.list (xs.map .str))) (hd : st[due]? = some (.list D)) (hi : i < xs.length) (hz : D.length ≤ 100) :
  ∃ st', SExt base st' ∧ st'[due]? = some (.list (D ++ (List.range i).map fun j => tieOf xs levD j i)) ∧
   Fo C (n + 2) φla (("i", .int (i : Int)) :: loD due t xs.length w) (fT LF2) (bOf LF2) (RangeIt 0 1 i) 0 st .next (loD due t xs.length w) st' := by
 obtain ⟨lo', st', ⟨e1, e2, e3⟩, hf⟩ := Fo.inv0 (C := C) (n := n + 2) (φ := φla) (t := fT LF2) (b := bOf LF2) (It := RangeIt 0 1 i)
  (fun j lo s => lo = (("i", .int (i : Int)) :: loD due t xs.length w : Loc) ∧ SExt base s ∧ s[due]? = some (.list (D ++ (List.range j).map fun j => tieOf xs levD j i)))
  i (lo := ("i", .int (i : Int)) :: loD due t xs.length w) (st := st) ⟨rfl, hs, by simpa using hd⟩
  (fun j lo s hj ⟨e1, e2, e3⟩ => by
   subst e1
   have hj5 : j < xs.length := by omega
   have hxj := getD_mem' hj5
   have hxi := getD_mem' hi
   have hww : s[w]? = some (.list (xs.map PV.str)) := e2 _ _ hw
   have aj : at? (xs.map PV.str) (j : Int) = some (.str (xs.getD j default)) := at_nat (by rw [List.getElem?_map, getD_at' hj5]; rfl)
   have ai : at? (xs.map PV.str) (i : Int) = some (.str (xs.getD i default)) := at_nat (by rw [List.getElem?_map, getD_at' hi]; rfl)
   have zw : (xs.map PV.str).length ≤ 2 ^ 24 := by rw [List.length_map]; omega
   obtain ⟨s1, f1, f2⟩ := sp_dueW px (n := n) (st := s) (hk _ hxj) (hk _ hxi)
   have k1 := f1 _ _ e3
   have happ := _root_.Mine.C.append (C := C) (n := n + 2) (p := tieOf xs levD j i) k1 (by rw [List.length_append, List.length_map, List.length_range]; omega)
   have hadd : Op2 C (n + 2) (binaryOp .Add) (.str (one (97 + j))) (.str (one (97 + i))) s1 (.str (nm j i)) s1 := O.adds (show 1 + 1 ≤ sizeLine by rw [sizeLine_eq]; decide)
   apply StepI.mk (p := .int (j : Int)) (lo3 := ("i", .int (i : Int)) :: loD due t xs.length w) (st2 := s1.set due (.list (D ++ (List.range j).map (fun j => tieOf xs levD j i) ++ [tieOf xs levD j i])))
   ·refine ⟨rfl, (e2.trans f1).setNew hb, ?_⟩
    rw [gs_self k1, List.range_succ, List.map_append, List.append_assoc]; rfl
   ·exact rangeIt_at hj
   ·exact As.name (.inl rfl)
   ·apply Ex.cons
    ·apply Ex1.expr (p := .none)
     ·apply Ev.meth_append (p := .ref due) (ps := [tieOf xs levD j i]) (st1 := s) (st2 := s1)
      ·exact Ev.loc rfl rfl (by decide)
      ·exact TyP.list e3
      ·apply EvL.cons (st1 := s1)
       ·apply Ev.tup (ps := [.int (levD (xs.getD j default) (xs.getD i default)), .str (nm j i)])
        ·apply EvL.cons (st1 := s1)
         ·apply Ev.callf
          ·walk_at "ev"
          ·apply EvL.cons
           ·exact Ev.sub (Ev.loc rfl rfl (by decide)) (Ev.loc rfl rfl (by decide)) (O.sub_list hww zw aj (by intro _ _; with_unfolding_all rfl))
           ·apply EvL.cons
            ·exact Ev.sub (Ev.loc rfl rfl (by decide)) (Ev.loc rfl rfl (by decide)) (O.sub_list hww zw ai (by intro _ _; with_unfolding_all rfl))
            ·exact EvL.nil
            ·intro _; rfl
           ·intro _; rfl
          ·exact Px.K ‹Px _› _ _ rfl
          ·rfl
          ·exact f2
          ·intro _; rfl
          ·intro _; rfl
         ·apply EvL.cons
          ·apply Ev.bin
           ·exact Ev.sub Ev.cstr (Ev.loc rfl rfl (by decide)) (chr_op (chr_abc j (by omega)) (by omega) (by omega) (by intro _ _; with_unfolding_all rfl))
           ·exact Ev.sub Ev.cstr (Ev.loc rfl rfl (by decide)) (chr_op (chr_abc i (by omega)) (by omega) (by omega) (by intro _ _; with_unfolding_all rfl))
           ·exact hadd
          ·exact EvL.nil
          ·intro _; rfl
       ·exact EvL.nil
      ·exact happ
      ·intro _; rfl
      ·intro _; rfl
      ·rfl
      ·intro _; rfl
    exact Ex.nil
   ·exact ⟨rfl, rfl, rfl, rfl, rfl, trivial⟩)
  (fun lo s h => rangeIt_end)
 subst e1
 exact ⟨st', e2, e3, hf.sub (SubL.ok ⟨rfl, rfl, rfl, rfl, trivial⟩)⟩
theorem ldue_out {st : Sto} (hb : base.length ≤ due) (hs : SExt base st) (hw : base[w]? = some (.list (xs.map .str))) (hd : st[due]? = some (.list [])) :
  ∃ st', SExt base st' ∧ st'[due]? = some (.list (tieList xs levD xs.length)) ∧
   Fo C (n + 2) φla (loD due t xs.length w) (fT LF1) (bOf LF1) (RangeIt 0 1 xs.length) 0 st .next (loD due t xs.length w) st' := by
 obtain ⟨lo', st', ⟨e1, e2, e3⟩, hf⟩ := Fo.inv0 (C := C) (n := n + 2) (φ := φla) (t := fT LF1) (b := bOf LF1) (It := RangeIt 0 1 xs.length)
  (fun i lo s => lo = loD due t xs.length w ∧ SExt base s ∧ s[due]? = some (.list (tieList xs levD i)))
  xs.length (lo := loD due t xs.length w) (st := st) ⟨rfl, hs, hd⟩
  (fun i lo s hi ⟨e1, e2, e3⟩ => by
   subst e1
   have hl := tieList_len (xs := xs) (L := levD) (m := i) (by omega)
   obtain ⟨s1, f1, f2, f3⟩ := ldue_in px hk h5 (n := n) (t := t) hb e2 hw e3 hi (by omega)
   apply StepI.mk (p := .int (i : Int)) (lo3 := loD due t xs.length w) (st2 := s1)
   ·refine ⟨rfl, f1, ?_⟩
    rw [f2]
    unfold tieList
    rw [List.range_succ, List.flatMap_append]; simp
   ·exact rangeIt_at hi
   ·exact As.name (.inl rfl)
   ·exact Ex.one (Ex1.forE (it_var px (m := i) rfl rfl (by decide) rfl (by omega)) f3 (by intro _ _; rfl))
   ·exact ⟨rfl, rfl, rfl, rfl, trivial⟩)
  (fun lo s h => rangeIt_end)
 subst e1
 exact ⟨st', e2, e3, hf⟩
end
end
section
theorem bits_succ (m x : Nat) : bitsD (m + 1) x = (if x.testBit m then [m] else []) ++ bitsD m x := by
 unfold bitsD
 rw [List.range_succ, List.reverse_append, List.reverse_singleton, List.singleton_append, List.filter_cons]
 cases x.testBit m <;> rfl
theorem bits_congr {m x y : Nat} (h : ∀ q, q < m → x.testBit q = y.testBit q) : bitsD m x = bitsD m y := by
 unfold bitsD
 refine List.filter_congr fun q hq => h q ?_
 simpa using hq
theorem bits_sum : ∀ (m x : Nat), x < 2 ^ m → ((bitsD m x).map (2 ^ ·)).sum = x
 | 0, x, h => by
  have : x = 0 := by simpa using h
  subst this; rfl
 | m + 1, x, h => by
  have hmod : x % 2 ^ m < 2 ^ m := Nat.mod_lt _ (Nat.two_pow_pos m)
  have ih := bits_sum m (x % 2 ^ m) hmod
  have hc : bitsD m (x % 2 ^ m) = bitsD m x := bits_congr fun q hq => by rw [Nat.testBit_mod_two_pow]; simp [hq]
  rw [hc] at ih
  have hd := Nat.div_add_mod x (2 ^ m)
  have hlt : x / 2 ^ m < 2 := by
   rw [Nat.div_lt_iff_lt_mul (Nat.two_pow_pos m)]
   have : (2 : Nat) ^ (m + 1) = 2 * 2 ^ m := by rw [Nat.pow_succ]; omega
   omega
  rw [bits_succ, List.map_append, List.sum_append, ih]
  have ht : x.testBit m = decide (x / 2 ^ m % 2 = 1) := Nat.testBit_eq_decide_div_mod_eq
  generalize x / 2 ^ m = k at hd hlt ht
  match k, hlt with
  | 0, _ => rw [ht]; simp at hd ⊢; exact hd
  | 1, _ => rw [ht]; simp at hd ⊢; exact hd
theorem bits_tail {m x p : Nat} {rest : List Nat} (h : bitsD m x = p :: rest) : bitsD m (x ^^^ 2 ^ p) = rest := by
 obtain ⟨hp, hbit⟩ := top_bit h
 have e1 := bitsD_off hp hbit
 rw [h, List.erase_cons_head] at e1
 have d1 := bitsD_desc m (x ^^^ 2 ^ p)
 have d2 := bitsD_desc m x
 rw [h] at d2
 exact e1.eq_of_pairwise (fun a b _ _ h1 h2 => absurd h1 (by omega)) d1 (List.pairwise_cons.mp d2).2
theorem int_pow_cast (k : Nat) : ((2 : Int) ^ k) = ((2 ^ k : Nat) : Int) := by simp
theorem sum_cast : ∀ l : List Nat, (l.map fun (k : Nat) => (k : Int)).sum = (l.sum : Int)
 | [] => rfl
 | a :: l => by rw [List.map_cons, List.sum_cons, List.sum_cons, sum_cast l]; omega
theorem bits_sumZ {m x : Nat} (h : x < 2 ^ m) : ((bitsD m x).map fun (q : Nat) => (2 : Int) ^ q).sum = (x : Int) := by
 have := sum_cast ((bitsD m x).map (2 ^ ·))
 rw [bits_sum m x h, List.map_map] at this
 rw [← this]
 congr 1
noncomputable def szP (te : List Tie) (p : Nat) : Int := match te[p]? with
 | some e => e.1
 | none => 0
noncomputable def sizesD (te : List Tie) : List (Str × PV) := ((te.map tnm).map (·.2)).zip (te.map fun e => PV.int e.1)
noncomputable def bitsT (te : List Tie) : List (Str × PV) := ((te.map tnm).map (·.2)).zip ((List.range te.length).map fun (k : Nat) => PV.int ((2 : Int) ^ k))
section
variable {c : Nat} {te : List Tie} (T : TieOk c te) (hc : c ≤ 5)
include T hc
theorem sizes_at {p : Nat} (hp : p < te.length) : (sizesD te).lookup (nmP te p) = some (.int (szP te p)) :=
 lookup_zip (T.names hc) (names_at te hp) (by rw [List.getElem?_map, List.getElem?_eq_getElem hp]; unfold szP; rw [List.getElem?_eq_getElem hp]; rfl)
theorem bits_at {p : Nat} (hp : p < te.length) : (bitsT te).lookup (nmP te p) = some (.int ((2 : Int) ^ p)) :=
 lookup_zip (T.names hc) (names_at te hp) (by rw [List.getElem?_map, List.getElem?_range hp]; rfl)
end
noncomputable def tupF (g : Int → Str → Option PV) : PV → Option PV
 | .tup [.int s, .str x] => g s x
 | _ => none
theorem tupF_map (g : Int → Str → Option PV) : ∀ te : List Tie, (tpe te).filterMap (tupF g) = te.filterMap fun e => g e.1 (nm e.2.1 e.2.2)
 | [] => rfl
 | e :: te => by
  have ih := tupF_map g te
  unfold tpe tpv at *
  rw [List.map_cons, List.map_cons, List.filterMap_cons, List.filterMap_cons, ih]
  rfl
noncomputable def barT (te : List Tie) (r : Row) : PV := .tup [.int (szP te r.p), .int (szP te r.d), .int (r.x : Nat)]
noncomputable def barF (g : Int → Int → Int → Option PV) : PV → Option PV
 | .tup [.int a, .int b, .int c] => g a b c
 | _ => none
theorem barF_map (te : List Tie) (g : Int → Int → Int → Option PV) : ∀ R : List Row, (R.map (barT te)).filterMap (barF g) = R.filterMap fun r => g (szP te r.p) (szP te r.d) (r.x : Nat)
 | [] => rfl
 | r :: R => by
  rw [List.map_cons, List.filterMap_cons, List.filterMap_cons, barF_map te g R]
  rfl
noncomputable def intG (g : Int → Option PV) : PV → Option PV
 | .int a => g a
 | _ => none
theorem intG_map (g : Int → Option PV) : ∀ xs : List Int, (xs.map PV.int).filterMap (intG g) = xs.filterMap g
 | [] => rfl
 | a :: xs => by
  rw [List.map_cons, List.filterMap_cons, List.filterMap_cons, intG_map g xs]
  rfl
theorem filterMap_if {α : Type} (l : List α) (c : α → Bool) (f : α → PV) : l.filterMap (fun a => if c a then some (f a) else none) = (l.filter c).map f := by
 induction l with
 | nil => rfl
 | cons a l ih =>
  rw [List.filterMap_cons, List.filter_cons]
  cases h : c a with
  | true => simp [ih]
  | false => simp [ih]
end
section
section
variable {C : Cx} {n : Nat} {φ : Scope} {lo lo' : Loc} {S : Sto} {e : Expr} {te : List Tie} {R : List Row} {t : Nat}
theorem ties_comp (g : Int → Str → Option PV) (hI : Ev C n φ lo (lcI e) S (.ref t) S) (ht : S[t]? = some (.list (tpe te))) (side : CompSide C φ lo lo' (lcI e) (lcS e)) (hz : te.length ≤ 10)
  (step : ∀ q ∈ te, ∀ S1, SExt S S1 → StepC C n (compScope (lcS e) φ) lo' (lcE e) (lcT e) (lcIfs e) S1 (.tup [.int q.1, .str (nm q.2.1 q.2.2)]) (g q.1 (nm q.2.1 q.2.2)))
  (he : e = .ListComp (lcE e) [⟨lcT e, lcI e, lcIfs e, 0⟩] (lcS e) (lcP e) := by rfl) :
  ∃ S', SExt S S' ∧ S'[S.length]? = some (.list (te.filterMap fun e => g e.1 (nm e.2.1 e.2.2))) ∧ Ev C n φ lo e S (.ref S.length) S' := by
 obtain ⟨S', f1, f2, f3⟩ := Ev.compE (C := C) (n := n) (φ := φ) (e := e) (ps := tpe te) (tupF g) (ItrE.of hI (Itr.list ht)) side (listIt_ext ht)
  (fun p hp S1 e1 => by
   unfold tpe tpv at hp
   rw [List.map_map] at hp
   obtain ⟨q, hq, rfl⟩ := List.mem_map.mp hp
   exact step q hq S1 e1)
  (by rw [tpe_len]; omega) he
 rw [tupF_map] at f2
 exact ⟨S', f1, f2, f3⟩
theorem bars_comp (g : Int → Int → Int → Option PV) (hI : Ev C n φ lo (lcI e) S (.ref t) S) (ht : S[t]? = some (.list (R.map (barT te)))) (side : CompSide C φ lo lo' (lcI e) (lcS e)) (hz : R.length ≤ 1000)
  (step : ∀ r ∈ R, ∀ S1, SExt S S1 → StepC C n (compScope (lcS e) φ) lo' (lcE e) (lcT e) (lcIfs e) S1 (barT te r) (g (szP te r.p) (szP te r.d) (r.x : Nat)))
  (he : e = .ListComp (lcE e) [⟨lcT e, lcI e, lcIfs e, 0⟩] (lcS e) (lcP e) := by rfl) :
  ∃ S', SExt S S' ∧ S'[S.length]? = some (.list (R.filterMap fun r => g (szP te r.p) (szP te r.d) (r.x : Nat))) ∧ Ev C n φ lo e S (.ref S.length) S' := by
 obtain ⟨S', f1, f2, f3⟩ := Ev.compE (C := C) (n := n) (φ := φ) (e := e) (ps := R.map (barT te)) (barF g) (ItrE.of hI (Itr.list ht)) side (listIt_ext ht)
  (fun p hp S1 e1 => by
   obtain ⟨r, hr, rfl⟩ := List.mem_map.mp hp
   exact step r hr S1 e1)
  (by rw [List.length_map]; omega) he
 rw [barF_map] at f2
 exact ⟨S', f1, f2, f3⟩
theorem ints_comp {xs : List Int} (g : Int → Option PV) (hI : Ev C n φ lo (lcI e) S (.ref t) S) (ht : S[t]? = some (.list (xs.map .int))) (side : CompSide C φ lo lo' (lcI e) (lcS e)) (hz : xs.length ≤ 2 ^ 20)
  (step : ∀ a ∈ xs, ∀ S1, SExt S S1 → StepC C n (compScope (lcS e) φ) lo' (lcE e) (lcT e) (lcIfs e) S1 (.int a) (g a))
  (he : e = .ListComp (lcE e) [⟨lcT e, lcI e, lcIfs e, 0⟩] (lcS e) (lcP e) := by rfl) :
  ∃ S', SExt S S' ∧ S'[S.length]? = some (.list (xs.filterMap g)) ∧ Ev C n φ lo e S (.ref S.length) S' := by
 obtain ⟨S', f1, f2, f3⟩ := Ev.compE (C := C) (n := n) (φ := φ) (e := e) (ps := xs.map .int) (intG g) (ItrE.of hI (Itr.list ht)) side (listIt_ext ht)
  (fun p hp S1 e1 => by
   obtain ⟨a, ha, rfl⟩ := List.mem_map.mp hp
   exact step a ha S1 e1)
  (by rw [List.length_map]; omega) he
 rw [intG_map] at f2
 exact ⟨S', f1, f2, f3⟩
theorem stepC_test {φ' : Scope} {elt tgt : Expr} {test : Expr} {lo1 : Loc} {S1 : Sto} {p q : PV} {b : Bool} (h1 : AsL C n φ' lo tgt p S1 lo1 S1) (h2 : SubL lo lo1) (h3 : Tr C n φ' lo1 test S1 b S1) (h4 : Ev C n φ' lo1 elt S1 q S1) :
  StepC C n φ' lo elt tgt [test] S1 p (if b then Option.some q else Option.none) := by
 cases b with
 | true => exact StepC.some h1 h2 (TrL.one h3) h4
 | false => exact StepC.none h1 h2 (TrL.one h3)
end
noncomputable abbrev szE (te : List Tie) : List PV := te.map fun e => PV.int e.1
theorem szE_eq (te : List Tie) : te.filterMap (fun e => (fun a (_ : Str) => some (PV.int a)) e.1 (nm e.2.1 e.2.2)) = szE te := by
 induction te with
 | nil => rfl
 | cons e te ih => rw [List.filterMap_cons]; simp only; unfold szE at *; rw [List.map_cons, ← ih]
noncomputable abbrev EC8 : Expr := argE 1 (vOf (sAt LB 8))
noncomputable abbrev EC9 : Expr := argE 1 (vOf (sAt LB 9))
noncomputable abbrev EC12 : Expr := vOf (sAt LB 12)
noncomputable abbrev EC13 : Expr := argE 0 (argE 0 (vOf (sAt LB 13)))
section
variable {C : Cx} (px : Px C) {n : Nat} {c : Nat} {te : List Tie} (T : TieOk c te) (hc : c ≤ 5) {t th i d l w due : Nat} {R : List Row} {S : Sto}
include px T hc
noncomputable def loE (i th due t c w : Nat) : Loc := [("table", .ref i), ("threes", .ref th), ("due", .ref due), ("ties", .ref t), ("count", .int (c : Int)), ("words", .ref w)]
theorem sizes_walk (ht : S[t]? = some (.list (tpe te))) :
  ∃ S' si, SExt S S' ∧ S'[si]? = some (.dict (sizesD te)) ∧ Ex1 C (n + 1) φla (loE i th due t c w) (sAt LB 8) S .next (("sizes", .ref si) :: loE i th due t c w) S' := by
 have hm := tie_len T hc
 have side : CompSide C φla (loE i th due t c w) [] (lcI EC8) (lcS EC8) := ⟨trivial, by decide, rfl, by decide, by intro _ _; rfl⟩
 obtain ⟨S1, f1, f2, f3⟩ := ties_comp (C := C) (n := n + 1) (e := EC8) (fun a _ => some (.int a)) (Ev.loc rfl rfl (by decide)) ht side hm
  (fun q hq S1 e1 => StepC.some (lo1 := [("name", .str (nm q.2.1 q.2.2)), ("size", .int q.1)]) (S1 := S1) (S2 := S1) (AsL.tup (AoL.cons rfl (AoL.cons rfl AoL.nil))) trivial TrL.nil (Ev.loc rfl rfl (by decide)))
 rw [szE_eq] at f2
 have hby := sp_byname px (n := n) (tl := te.map tnm) (vs := szE te) (t := t) (v := S.length) (st := S1) (by exact f1 _ _ ht) f2 (by simp) (by rw [List.length_map]; omega) (T.names hc)
 refine ⟨_, S1.length, f1.trans (SExt.app _ _), gl, ?_⟩
 apply Ex1.asg
 ·apply Ev.callf
  ·walk_at "ev"
  ·apply EvL.cons
   ·exact Ev.loc rfl rfl (by decide)
   ·apply EvL.cons
    ·exact f3
    ·exact EvL.nil
    ·intro _; rfl
   ·intro _; rfl
  ·exact Px.K ‹Px _› _ _ rfl
  ·rfl
  ·exact hby
  ·intro _; rfl
  ·intro _; rfl
 ·exact As.name (.inr rfl)
 ·intro _ _; rfl
 ·intro _; rfl
 ·intro _; rfl
theorem bits_walk {si : Nat} (ht : S[t]? = some (.list (tpe te))) :
  ∃ S' bi, SExt S S' ∧ S'[bi]? = some (.dict (bitsT te)) ∧ Ex1 C (n + 1) φla (("sizes", .ref si) :: loE i th due t c w) (sAt LB 9) S .next (("bits", .ref bi) :: ("sizes", .ref si) :: loE i th due t c w) S' := by
 have hm := tie_len T hc
 have side : CompSide C φla (("sizes", .ref si) :: loE i th due t c w) [] (lcI EC9) (lcS EC9) := ⟨trivial, by decide, rfl, by decide, by intro _ _; rfl⟩
 have hlen : Cl C (n + 1) (.builtin "len") [.ref t] S (.int (te.length : Int)) S := by
  have := _root_.Mine.C.len_list (C := C) (n := n + 1) ht (by rw [tpe_len]; omega)
  rwa [tpe_len] at this
 have hit : ItrE C (n + 1) φla (("sizes", .ref si) :: loE i th due t c w) (lcI EC9) S (RangeIt 0 1 te.length) S := by
  have := ItrE.of (C := C) (n := n + 1) (φ := φla) (lo := ("sizes", .ref si) :: loE i th due t c w) (e := lcI EC9) (st := S) (p := .rng 0 (te.length : Int) 1) (st1 := S)
   (Ev.callt (Ev.blt2 (b_range px) rfl (by decide)) (EvL.cons (Ev.callb (Ev.blt2 (b_len px) rfl (by decide)) (EvL.cons (Ev.loc rfl rfl (by decide)) EvL.nil) hlen (by intro _; rfl) (by intro _; rfl)) EvL.nil) _root_.Mine.C.range1 (by intro _; rfl) (by intro _; rfl)) (Itr.rng (by omega) (by omega) (by omega) (by omega))
  rwa [show ((te.length : Int) - 0).toNat = te.length by omega] at this
 obtain ⟨S1, f1, f2, f3⟩ := Ev.compE (C := C) (n := n + 1) (φ := φla) (e := EC9) (ps := (List.range te.length).map fun (k : Nat) => PV.int (k : Int)) (intG fun a => some (.int ((2 : Int) ^ a.toNat))) hit side rangeIt_ext
  (fun p hp S1 e1 => by
   obtain ⟨k, hk, rfl⟩ := List.mem_map.mp hp
   have hk' := List.mem_range.mp hk
   have hpow := O.pow (C := C) (n := n + 1) (st := S1) (a := 2) (b := (k : Int)) (by omega) (by omega) (by decide)
   show StepC C (n + 1) _ _ _ _ _ S1 (.int (k : Int)) (some (.int ((2 : Int) ^ (k : Int).toNat)))
   refine StepC.some (lo1 := [("k", .int (k : Int))]) (S1 := S1) (S2 := S1) (AsL.name rfl) trivial TrL.nil ?_
   exact Ev.bin Ev.cint (Ev.loc rfl rfl (by decide)) hpow)
  (by rw [List.length_map, List.length_range]; omega)
 have e2 : ((List.range te.length).map fun (k : Nat) => PV.int (k : Int)).filterMap (intG fun a => some (.int ((2 : Int) ^ a.toNat))) = (List.range te.length).map fun (k : Nat) => PV.int ((2 : Int) ^ k) := by
  rw [List.filterMap_map]
  generalize List.range te.length = l
  induction l with
  | nil => rfl
  | cons k l ih => rw [List.filterMap_cons, List.map_cons, ← ih]; rfl
 rw [e2] at f2
 have hby := sp_byname px (n := n) (tl := te.map tnm) (vs := (List.range te.length).map fun (k : Nat) => PV.int ((2 : Int) ^ k)) (t := t) (v := S.length) (st := S1) (by exact f1 _ _ ht) f2 (by simp) (by rw [List.length_map]; omega) (T.names hc)
 refine ⟨_, S1.length, f1.trans (SExt.app _ _), gl, ?_⟩
 apply Ex1.asg
 ·apply Ev.callf
  ·walk_at "ev"
  ·apply EvL.cons
   ·exact Ev.loc rfl rfl (by decide)
   ·apply EvL.cons
    ·exact f3
    ·exact EvL.nil
    ·intro _; rfl
   ·intro _; rfl
  ·exact Px.K ‹Px _› _ _ rfl
  ·rfl
  ·exact hby
  ·intro _; rfl
  ·intro _; rfl
 ·exact As.name (.inr rfl)
 ·intro _ _; rfl
 ·intro _; rfl
 ·intro _; rfl
end
end
section
noncomputable abbrev LF3 : Stmt := sAt LB 11
noncomputable abbrev EC11 : Expr := argE 0 (vOf (sAt (bOf LF3) 0))
noncomputable def loG (br bi si i th due t c w : Nat) : Loc := ("bars", .ref br) :: ("bits", .ref bi) :: ("sizes", .ref si) :: loE i th due t c w
noncomputable def strH (g : Str → Option PV) : PV → Option PV
 | .str a => g a
 | _ => none
theorem strH_map (g : Str → Option PV) : ∀ xs : List Str, (xs.map PV.str).filterMap (strH g) = xs.filterMap g
 | [] => rfl
 | a :: xs => by
  rw [List.map_cons, List.filterMap_cons, List.filterMap_cons, strH_map g xs]
  rfl
theorem posN_nmP {c : Nat} {te : List Tie} (T : TieOk c te) (hc : c ≤ 5) {p : Nat} (hp : p < te.length) : posN te (nmP te p) = p := by
 have hm : nmP te p ∈ (te.map tnm).map (·.2) := List.mem_of_getElem? (names_at te hp)
 obtain ⟨h1, h2⟩ := posN_at hm
 exact nmP_inj T hc h1 hp h2
theorem bits_len (m x : Nat) : (bitsD m x).length ≤ m := by
 unfold bitsD
 have := List.length_filter_le x.testBit (List.range m).reverse
 simpa using this
section
variable {C : Cx} (px : Px C) {n : Nat} {c : Nat} {te : List Tie} (T : TieOk c te) (hc : c ≤ 5) {t th i d l w due br bi si : Nat} {R : List Row} {S : Sto}
include px T hc
theorem split_row {lo : Loc} {r : Row} {e : Expr} {ap cp : Pos} (hr : RowOk te.length r) (he : Ev C (n + 1) φla lo e S (.str (rowTxt te r).2) S)
  (hbase : ∀ env, attributeBase e "split" env (eval e env) = eval e env := by intro _; rfl)
  (hfew : ∀ env, ((backTo cp (starEach [] env)).all (fun x => !x.1) && (backToKw cp (keywordEach [] env)).all (fun x => x.1.isSome)
   && decide (([] : List Expr).length + ([] : List Keyword).length + (if ([] : List Keyword).isEmpty then 0 else 1) < 30)) = true := by intro _; rfl)
  (hline : (ap.endLine == cp.line) = true := by rfl)
  (hp : ∀ env, (backTo cp (starEach [] env)).any (·.1) = false := by intro _; rfl) :
  Ev C (n + 1) φla lo (.Call (.Attribute e "split" ap) [] [] cp) S (.ref S.length) (S ++ [.list ((nmP te r.d :: (bitsD te.length (r.x ^^^ 2 ^ r.p)).map (nmP te)).map .str)]) := by
 have hm := tie_len T hc
 have hw := row_words T hc hr
 have hsz := row_size T hc hr
 have hbl := bits_len te.length (r.x ^^^ 2 ^ r.p)
 have hlen : (Builtin.Str.spaceWords (rowTxt te r).2 ((rowTxt te r).2.length + 1)).length ≤ 2 ^ 20 := by
  have e : (Builtin.Str.spaceWords (rowTxt te r).2 ((rowTxt te r).2.length + 1)).length = (_root_.PySem.wordsOf (rowTxt te r).2).length := by unfold _root_.PySem.wordsOf; rw [List.length_map]
  rw [e, hw, List.length_cons, List.length_map]; omega
 have hsplit := _root_.Mine.C.split (C := C) (n := n + 1) (st := S) (x := (rowTxt te r).2) (by show (rowTxt te r).2.cps.size ≤ _; omega) hlen
 rw [hw] at hsplit
 exact Ev.meth_split he TyP.str EvL.nil hsplit hbase hfew hline hp
theorem ring_walk {r : Row} (hr : RowOk te.length r) (hb : S[bi]? = some (.dict (bitsT te))) :
  ∃ S', SExt S S' ∧ Ex1 C (n + 1) φla (("row", .str (rowTxt te r).2) :: ("name", .str (rowTxt te r).1) :: loG br bi si i th due t c w) (sAt (bOf LF3) 0) S .next
   (("ring", .int (r.x : Nat)) :: ("row", .str (rowTxt te r).2) :: ("name", .str (rowTxt te r).1) :: loG br bi si i th due t c w) S' := by
 have hm := tie_len T hc
 have hbl := bits_len te.length (r.x ^^^ 2 ^ r.p)
 obtain ⟨rest, htop⟩ := hr.top
 have htail := bits_tail htop
 have hlow : Cl C (n + 1) (.builtin "str.lower") [.str (rowTxt te r).1] S (.str (nmP te r.p)) S := by
  have := _root_.Mine.C.lower (C := C) (n := n + 1) (st := S) (x := (rowTxt te r).1) (upP_kok T hc hr.p).fit
  have e : Txt.lower (rowTxt te r).1 = nmP te r.p := nmP_lowerU T hc hr.p
  rwa [e] at this
 generalize hS1 : S ++ [Ob.list [.str (nmP te r.p)]] = S1
 have e01 : SExt S S1 := hS1 ▸ SExt.app _ _
 have g1 : S1[S.length]? = some (.list [.str (nmP te r.p)]) := hS1 ▸ gl
 have hsp := split_row px T hc (n := n) (S := S1) (lo := ("row", .str (rowTxt te r).2) :: ("name", .str (rowTxt te r).1) :: loG br bi si i th due t c w) (e := .Name "row" ⟨266, 58, 266, 61⟩) (ap := ⟨266, 58, 266, 67⟩) (cp := ⟨266, 58, 266, 69⟩) hr (Ev.loc rfl rfl (by decide))
 generalize hS2 : S1 ++ [Ob.list ((nmP te r.d :: (bitsD te.length (r.x ^^^ 2 ^ r.p)).map (nmP te)).map .str)] = S2 at hsp
 have e12 : SExt S1 S2 := hS2 ▸ SExt.app _ _
 have g2 : S2[S1.length]? = some (.list ((nmP te r.d :: (bitsD te.length (r.x ^^^ 2 ^ r.p)).map (nmP te)).map .str)) := hS2 ▸ gl
 have hsl := Ev.slice_from (C := C) (n := n + 1) (k := 1) (sp := ⟨266, 70, 266, 72⟩) (pos := ⟨266, 58, 266, 73⟩) (e := .Constant (.int 1) 0 ⟨266, 70, 266, 71⟩) hsp Ev.cint g2 (by rw [List.length_map, List.length_cons, List.length_map]; omega)
 have hdrop : ((nmP te r.d :: (bitsD te.length (r.x ^^^ 2 ^ r.p)).map (nmP te)).map PV.str).drop 1 = ((bitsD te.length (r.x ^^^ 2 ^ r.p)).map (nmP te)).map PV.str := by
  rw [List.map_cons, List.drop_one, List.tail_cons]
 rw [hdrop] at hsl
 generalize hS3 : S2 ++ [Ob.list (((bitsD te.length (r.x ^^^ 2 ^ r.p)).map (nmP te)).map PV.str)] = S3 at hsl
 have e23 : SExt S2 S3 := hS3 ▸ SExt.app _ _
 have g3 : S3[S2.length]? = some (.list (((bitsD te.length (r.x ^^^ 2 ^ r.p)).map (nmP te)).map PV.str)) := hS3 ▸ gl
 have hadd := O.add_list (C := C) (n := n + 1) (e23 _ _ (e12 _ _ g1)) g3 (by rw [List.length_map, List.length_map]; simp only [List.length_singleton]; omega)
 have hcat : [PV.str (nmP te r.p)] ++ ((bitsD te.length (r.x ^^^ 2 ^ r.p)).map (nmP te)).map PV.str = ((bitsD te.length r.x).map (nmP te)).map PV.str := by rw [htop, htail]; rfl
 rw [hcat] at hadd
 generalize hS4 : S3 ++ [Ob.list (((bitsD te.length r.x).map (nmP te)).map PV.str)] = S4 at hadd
 have e34 : SExt S3 S4 := hS4 ▸ SExt.app _ _
 have g4 : S4[S3.length]? = some (.list (((bitsD te.length r.x).map (nmP te)).map PV.str)) := hS4 ▸ gl
 have e04 : SExt S S4 := ((e01.trans e12).trans e23).trans e34
 have hit : Ev C (n + 1) φla (("row", .str (rowTxt te r).2) :: ("name", .str (rowTxt te r).1) :: loG br bi si i th due t c w) (lcI EC11) S (.ref S3.length) S4 := by
  apply Ev.bin (p := .ref S.length) (q := .ref S2.length) (st1 := S1) (st2 := S3)
  ·rw [← hS1]
   apply Ev.list (ps := [.str (nmP te r.p)])
   ·apply EvL.cons (st1 := S)
    ·apply Ev.meth_lower (p := .str (rowTxt te r).1) (ps := []) (st1 := S) (st2 := S)
     ·exact Ev.loc rfl rfl (by decide)
     ·exact TyP.str
     ·exact EvL.nil
     ·exact hlow
     ·intro _; rfl
     ·intro _; rfl
     ·rfl
     ·intro _; rfl
    ·exact EvL.nil
  ·exact hsl
  ·exact hadd
 have side : CompSide C φla (("row", .str (rowTxt te r).2) :: ("name", .str (rowTxt te r).1) :: loG br bi si i th due t c w) [("bits", .ref bi)] (lcI EC11) (lcS EC11) := ⟨⟨rfl, rfl, trivial⟩, by decide, rfl, by decide, by intro _ _; rfl⟩
 obtain ⟨S5, f1, f2, f3⟩ := Ev.compE (C := C) (n := n + 1) (φ := φla) (e := EC11) (ps := ((bitsD te.length r.x).map (nmP te)).map PV.str) (strH fun s => some (.int ((2 : Int) ^ posN te s))) (ItrE.of hit (Itr.list g4)) side (listIt_ext g4)
  (fun p hp S1 e1 => by
   obtain ⟨s, hs, rfl⟩ := List.mem_map.mp hp
   obtain ⟨q, hq, rfl⟩ := List.mem_map.mp hs
   have hqm := (mem_bitsD.mp hq).1
   show StepC C (n + 1) _ _ _ _ _ S1 (.str (nmP te q)) (some (.int ((2 : Int) ^ posN te (nmP te q))))
   rw [posN_nmP T hc hqm]
   refine StepC.some (lo1 := ("one", .str (nmP te q)) :: [("bits", .ref bi)]) (S1 := S1) (S2 := S1) (AsL.name rfl) ⟨rfl, trivial⟩ TrL.nil ?_
   exact Ev.sub (Ev.cell rfl rfl (by decide)) (Ev.loc rfl rfl (by decide)) (O.sub_dict (e1 _ _ (e04 _ _ hb)) (bits_at T hc hqm) (by intro _ _; with_unfolding_all rfl)))
  (by rw [List.length_map, List.length_map]; have := bits_len te.length r.x; omega)
 rw [strH_map] at f2
 have hsum : ((bitsD te.length r.x).map (nmP te)).filterMap (fun s => some (PV.int ((2 : Int) ^ posN te s))) = ((bitsD te.length r.x).map fun (q : Nat) => (2 : Int) ^ q).map PV.int := by
  have : ∀ l : List Nat, (∀ q ∈ l, q < te.length) → (l.map (nmP te)).filterMap (fun s => some (PV.int ((2 : Int) ^ posN te s))) = (l.map fun (q : Nat) => (2 : Int) ^ q).map PV.int := by
   intro l
   induction l with
   | nil => intro _; rfl
   | cons q l ih =>
    intro h
    rw [List.map_cons, List.filterMap_cons, List.map_cons, List.map_cons, ih fun x hx => h x (List.mem_cons_of_mem _ hx), posN_nmP T hc (h q List.mem_cons_self)]
  exact this _ fun q hq => (mem_bitsD.mp hq).1
 rw [hsum] at f2
 have hs := _root_.Mine.C.sum_list (C := C) (n := n + 1) f2
 rw [bits_sumZ hr.x] at hs
 refine ⟨S5, e04.trans f1, ?_⟩
 apply Ex1.asg (p := .int (r.x : Nat)) (st1 := S5)
 ·apply Ev.callb
  ·walk_at "ev"
  ·exact EvL.cons f3 EvL.nil
  ·exact hs
  ·intro _; rfl
  ·intro _; rfl
 ·exact As.name (.inl rfl)
end
end
section
noncomputable def looseP (te : List Tie) (R : List Row) : List Int := te.filterMap fun e => if getP (R.map (rowTxt te)) (Txt.lower (nm e.2.1 e.2.2)) == none then some e.1 else none
noncomputable def boundsP (te : List Tie) : List Nat := dedN (te.map fun e => e.1.toNat)
theorem ints_if {α : Type} (l : List α) (c : α → Bool) (f : α → Int) : l.filterMap (fun a => if c a then some (PV.int (f a)) else none) = (l.filterMap fun a => if c a then some (f a) else none).map .int := by
 induction l with
 | nil => rfl
 | cons a l ih =>
  rw [List.filterMap_cons, List.filterMap_cons]
  cases h : c a with
  | true => simp [ih]
  | false => simp [ih]
section
variable {C : Cx} (px : Px C) {n : Nat} {c : Nat} {te : List Tie} (T : TieOk c te) (hc : c ≤ 5) {t th i d l w due br bi si : Nat} {R : List Row} {S : Sto}
include px T hc
theorem bar_walk {base : Sto} {r : Row} {k : Nat} (hr : RowOk te.length r) (he : SExt base S) (hbl : base.length ≤ br) (hb : base[bi]? = some (.dict (bitsT te))) (hs : base[si]? = some (.dict (sizesD te))) {D : List PV} (hbr : S[br]? = some (.list D)) (hD : D.length ≤ 1000) :
  ∃ S', SExt base S' ∧ S'[br]? = some (.list (D ++ [barT te r])) ∧ (∀ (j : Nat) (o : Ob), j ≠ br → S[j]? = some o → S'[j]? = some o) ∧ ∃ lo', SubL (loG br bi si i th due t c w) lo' ∧ Ex C (n + 1) φla (("row", .str (rowTxt te r).2) :: ("name", .str (rowTxt te r).1) :: loG br bi si i th due t c w) (bOf LF3) S .next lo' S' := by
 have hm := tie_len T hc
 obtain ⟨S1, f1, f2⟩ := ring_walk px T hc (n := n) (i := i) (th := th) (due := due) (t := t) (w := w) (br := br) (si := si) hr (he _ _ hb)
 have hlow : ∀ S : Sto, Cl C (n + 1) (.builtin "str.lower") [.str (rowTxt te r).1] S (.str (nmP te r.p)) S := fun S => by
  have := _root_.Mine.C.lower (C := C) (n := n + 1) (st := S) (x := (rowTxt te r).1) (upP_kok T hc hr.p).fit
  have e : Txt.lower (rowTxt te r).1 = nmP te r.p := nmP_lowerU T hc hr.p
  rwa [e] at this
 have hsp := split_row px T hc (n := n) (S := S1) (lo := ("ring", .int (r.x : Nat)) :: ("row", .str (rowTxt te r).2) :: ("name", .str (rowTxt te r).1) :: loG br bi si i th due t c w) (e := .Name "row" ⟨267, 48, 267, 51⟩) (ap := ⟨267, 48, 267, 57⟩) (cp := ⟨267, 48, 267, 59⟩) hr (Ev.loc rfl rfl (by decide))
 generalize hS2 : S1 ++ [Ob.list ((nmP te r.d :: (bitsD te.length (r.x ^^^ 2 ^ r.p)).map (nmP te)).map .str)] = S2 at hsp
 have e12 : SExt S1 S2 := hS2 ▸ SExt.app _ _
 have g2 : S2[S1.length]? = some (.list ((nmP te r.d :: (bitsD te.length (r.x ^^^ 2 ^ r.p)).map (nmP te)).map .str)) := hS2 ▸ gl
 have hb2 : S2[br]? = some (.list D) := e12 _ _ (f1 _ _ hbr)
 have hbits := bits_len te.length (r.x ^^^ 2 ^ r.p)
 have happ := _root_.Mine.C.append (C := C) (n := n + 1) (p := barT te r) hb2 (by omega)
 have hs1 := f1 _ _ (he _ _ hs)
 have hs2 := e12 _ _ hs1
 refine ⟨S2.set br (.list (D ++ [barT te r])), ((he.trans f1).trans e12).setNew hbl, gs_self hb2, fun j o hj ho => gs_ne (Ne.symm hj) (e12 _ _ (f1 _ _ ho)), _, ?_, Ex.cons f2 (Ex.one (?_ : Ex1 C (n + 1) φla _ _ _ .next (("ring", .int (r.x : Nat)) :: ("row", .str (rowTxt te r).2) :: ("name", .str (rowTxt te r).1) :: loG br bi si i th due t c w) _))⟩
 ·exact ⟨rfl, rfl, rfl, rfl, rfl, rfl, rfl, rfl, rfl, trivial⟩
 ·apply Ex1.expr (p := .none)
  ·apply Ev.meth_append (p := .ref br) (ps := [barT te r]) (st1 := S1) (st2 := S2)
   ·exact Ev.loc rfl rfl (by decide)
   ·exact TyP.list (f1 _ _ hbr)
   ·apply EvL.cons (st1 := S2)
    ·apply Ev.tup (ps := [.int (szP te r.p), .int (szP te r.d), .int (r.x : Nat)])
     ·apply EvL.cons (st1 := S1)
      ·apply Ev.sub (st1 := S1) (st2 := S1) (q := .str (nmP te r.p))
       ·exact Ev.cell rfl rfl (by decide)
       ·apply Ev.meth_lower (p := .str (rowTxt te r).1) (ps := []) (st1 := S1) (st2 := S1)
        ·exact Ev.loc rfl rfl (by decide)
        ·exact TyP.str
        ·exact EvL.nil
        ·exact hlow S1
        ·intro _; rfl
        ·intro _; rfl
        ·rfl
        ·intro _; rfl
       ·exact O.sub_dict hs1 (sizes_at T hc hr.p) (by intro _ _; with_unfolding_all rfl)
      ·apply EvL.cons (st1 := S2)
       ·apply Ev.sub (st1 := S1) (st2 := S2) (q := .str (nmP te r.d))
        ·exact Ev.cell rfl rfl (by decide)
        ·apply Ev.sub (st1 := S2) (st2 := S2) (q := .int 0)
         ·exact hsp
         ·exact Ev.cint
         ·exact O.sub_list g2 (by rw [List.length_map, List.length_cons, List.length_map]; omega) rfl (by intro _ _; with_unfolding_all rfl)
        ·exact O.sub_dict hs2 (sizes_at T hc hr.d) (by intro _ _; with_unfolding_all rfl)
       ·apply EvL.cons (st1 := S2)
        ·exact Ev.loc rfl rfl (by decide)
        ·exact EvL.nil
    ·exact EvL.nil
   ·exact happ
   ·intro _; rfl
   ·intro _; rfl
   ·rfl
   ·intro _; rfl
theorem bars_loop {base : Sto} {it : Nat} (hR : ∀ r ∈ R, RowOk te.length r) (he : SExt base S) (hbl : base.length ≤ br) (hb : base[bi]? = some (.dict (bitsT te))) (hs : base[si]? = some (.dict (sizesD te))) (hit : S[it]? = some (.list (hpv (R.map (rowTxt te))))) (hib : it ≠ br) (hbr : S[br]? = some (.list [])) (hz : R.length ≤ 100) :
  ∃ S', SExt base S' ∧ S'[br]? = some (.list (R.map (barT te))) ∧ Fo C (n + 1) φla (loG br bi si i th due t c w) (fT LF3) (bOf LF3) (ListIt it) 0 S .next (loG br bi si i th due t c w) S' := by
 obtain ⟨lo', st', ⟨e1, e2, e3, _⟩, hf⟩ := Fo.inv0 (C := C) (n := n + 1) (φ := φla) (t := fT LF3) (b := bOf LF3) (It := ListIt it)
  (fun k lo s => lo = loG br bi si i th due t c w ∧ SExt base s ∧ s[br]? = some (.list ((R.take k).map (barT te))) ∧ s[it]? = some (.list (hpv (R.map (rowTxt te)))))
  R.length (lo := loG br bi si i th due t c w) (st := S) ⟨rfl, he, hbr, hit⟩
  (fun k lo s hk ⟨e1, e2, e3, e4⟩ => by
   subst e1
   have hp : R[k]? = some R[k] := List.getElem?_eq_getElem hk
   have hro := hR _ (List.getElem_mem hk)
   generalize R[k] = r at hp hro
   obtain ⟨S', f1, f2, f5, lo2, f3, f4⟩ := bar_walk px T hc (n := n) (k := k) (i := i) (th := th) (due := due) (t := t) (w := w) hro e2 hbl hb hs e3 (by rw [List.length_map, List.length_take]; omega)
   apply StepI.mk (p := .tup [.str (rowTxt te r).1, .str (rowTxt te r).2]) (lo3 := loG br bi si i th due t c w) (st2 := S')
   ·exact ⟨rfl, f1, by rw [f2, take_snoc hp, List.map_append]; rfl, f5 _ _ hib e4⟩
   ·exact ⟨_, e4, by unfold hpv; rw [List.getElem?_map, List.getElem?_map, hp]; rfl⟩
   ·exact AsL.as (AsL.tup (AoL.cons rfl (AoL.cons rfl AoL.nil)))
   ·exact f4
   ·exact f3)
  (fun lo s ⟨e1, e2, _, e4⟩ => ⟨_, e4, by rw [List.getElem?_eq_none (by rw [hpv_len, List.length_map]; omega)]⟩)
 subst e1
 rw [List.take_of_length_le (Nat.le_refl _)] at e3
 exact ⟨st', e2, e3, hf⟩
theorem loose_walk (ht : S[t]? = some (.list (tpe te))) (H : Hdr S i d l (R.map (rowTxt te))) :
  ∃ S', SExt S S' ∧ S'[S.length]? = some (.list ((looseP te R).map .int)) ∧ Ex1 C (n + 2) φla (loG br bi si i th due t c w) (sAt LB 12) S .next (("loose", .ref S.length) :: loG br bi si i th due t c w) S' := by
 have hm := tie_len T hc
 have side : CompSide C φla (loG br bi si i th due t c w) [("table", .ref i)] (lcI EC12) (lcS EC12) := ⟨⟨rfl, rfl, trivial⟩, by decide, rfl, by decide, by intro _ _; rfl⟩
 have hit : Ev C (n + 2) φla (loG br bi si i th due t c w) (lcI EC12) S (.ref t) S := Ev.loc rfl rfl (by decide)
 have step : ∀ q ∈ te, ∀ S1, SExt S S1 → StepC C (n + 2) (compScope (lcS EC12) φla) [("table", .ref i)] (lcE EC12) (lcT EC12) (lcIfs EC12) S1 (.tup [.int q.1, .str (nm q.2.1 q.2.2)])
   (if getP (R.map (rowTxt te)) (Txt.lower (nm q.2.1 q.2.2)) == none then some (.int q.1) else none) := fun q hq S1 e1 => by
  have hq2 := te_lt T hc hq
  have H1 := H.ext e1
  have hget := sp_get px (n := n) H1 (nm_kok (j := q.2.1) (i := q.2.2) (by omega) (by omega))
  generalize hg : getP (R.map (rowTxt te)) (Txt.lower (nm q.2.1 q.2.2)) = o at hget
  refine stepC_test (lo1 := ("name", .str (nm q.2.1 q.2.2)) :: ("size", .int q.1) :: [("table", .ref i)]) (AsL.tup (AoL.cons rfl (AoL.cons rfl AoL.nil))) ⟨rfl, trivial⟩ ?_ (Ev.loc rfl rfl (by decide))
  have hcmp : Op2 C (n + 2) (compareOp .Is) (optS o) .none S1 (.bool (o == none)) S1 := by
   cases o with
   | none => exact O.isNone'
   | some v => exact O.isNone (by intro q; cases q) (by intro v q; cases q)
  apply Tr.cmp (p := optS o) (q := .none) (st1 := S1) (st2 := S1)
  ·apply Ev.methH px (st1 := S1) (st2 := S1) (st3 := S1) (ks := []) (qs := []) (ps := [.str (nm q.2.1 q.2.2)]) (i := i) (d := d) (f := 167)
   ·exact Ev.cell rfl rfl (by decide)
   ·exact H1.inst
   ·exact H1.ns
   ·rfl
   ·exact hd_get _
   ·kernel_rfl
   ·kernel_rfl
   ·exact EvL.cons (Ev.loc rfl rfl (by decide)) EvL.nil
   ·exact KwL.nil
   ·exact hget
  ·exact Ev.cnone
  ·exact hcmp
 obtain ⟨S', f1, f2, f3⟩ := Ex1.compS (C := C) (n := n + 2) (s := sAt LB 12) (y := "loose") (ps := tpe te) rfl (tupF fun a x => if getP (R.map (rowTxt te)) (Txt.lower x) == none then some (.int a) else none) (ItrE.of hit (Itr.list ht)) side (listIt_ext ht)
  (fun p hp S1 e1 => by
   unfold tpe tpv at hp
   rw [List.map_map] at hp
   obtain ⟨q, hq, rfl⟩ := List.mem_map.mp hp
   exact step q hq S1 e1)
  (by rw [tpe_len]; omega) rfl (by intro env h; unfold swapsWith Env.blockKind Env.kindOf; rw [h]; rfl)
 rw [tupF_map] at f2
 refine ⟨S', f1, ?_, f3⟩
 rw [f2]
 congr 2
 exact ints_if te _ _
theorem bounds_walk {lz : Nat} (ht : S[t]? = some (.list (tpe te))) :
  ∃ S' bo, SExt S S' ∧ S'[bo]? = some (.list (vI (boundsP te))) ∧ Ex1 C (n + 1) φla (("loose", .ref lz) :: loG br bi si i th due t c w) (sAt LB 13) S .next (("bounds", .ref bo) :: ("loose", .ref lz) :: loG br bi si i th due t c w) S' := by
 have hm := tie_len T hc
 have side : CompSide C φla (("loose", .ref lz) :: loG br bi si i th due t c w) [] (lcI EC13) (lcS EC13) := ⟨trivial, by decide, rfl, by decide, by intro _ _; rfl⟩
 obtain ⟨S1, f1, f2, f3⟩ := ties_comp (C := C) (n := n + 1) (lo := ("loose", .ref lz) :: loG br bi si i th due t c w) (e := EC13) (fun a _ => some (.int a)) (Ev.loc rfl rfl (by decide)) ht side hm
  (fun q hq S1 e1 => StepC.some (lo1 := [("name", .str (nm q.2.1 q.2.2)), ("size", .int q.1)]) (S1 := S1) (S2 := S1) (AsL.tup (AoL.cons rfl (AoL.cons rfl AoL.nil))) trivial TrL.nil (Ev.loc rfl rfl (by decide)))
 rw [szE_eq] at f2
 have e1 : szE te = vI (te.map fun e => e.1.toNat) := by
  unfold szE vI
  rw [List.map_map]
  refine List.map_congr_left fun e he => ?_
  have := (T.size e he).1
  show PV.int e.1 = PV.int (e.1.toNat : Int)
  rw [Int.toNat_of_nonneg this]
 rw [e1] at f2
 have h5 : ∀ v ∈ te.map (fun e => e.1.toNat), v < 5 := fun v hv => by
  obtain ⟨e, he, rfl⟩ := List.mem_map.mp hv
  have := T.size e he
  omega
 have hs : (te.map fun e => e.1.toNat).Pairwise (· ≤ ·) := by
  rw [List.pairwise_map]
  exact T.sizes.imp fun h => by omega
 have hset := EvSetN.ofList (C := C) (n := n + 1) (φ := φla) (lo := ("loose", .ref lz) :: loG br bi si i th due t c w) (func := .Name "set" ⟨269, 20, 269, 23⟩) (e := EC13) (pos := ⟨269, 20, 269, 54⟩) (Ev.blt2 (b_set px) rfl (by decide)) f3 f2 h5 hs
 have hso := Ev.sorted_set (C := C) (n := n + 1) (φ := φla) (lo := ("loose", .ref lz) :: loG br bi si i th due t c w) (func := .Name "sorted" ⟨269, 13, 269, 19⟩) (pos := ⟨269, 13, 269, 55⟩) (st := S) (Ev.blt2 (b_sorted px) rfl (by decide)) hset (dedN_rise hs)
 exact ⟨_, S1.length, f1.trans (SExt.app _ _), gl, Ex1.asg hso (As.name (.inl rfl)) (by intro _ _; rfl) (by intro _; rfl) (by intro _; rfl)⟩
end
end
section
noncomputable abbrev LF4 : Stmt := sAt LB 14
noncomputable abbrev BB : List Stmt := bOf LF4
noncomputable abbrev ECs : Expr := vOf (sAt BB 0)
noncomputable abbrev ECn : Expr := argE 0 (lOf ((lcIfs ECs).getD 0 (.Constant .none 0 default)))
noncomputable abbrev ECm : Expr := argE 0 (vOf (sAt BB 1))
noncomputable abbrev ECb : Expr := argE 0 (lcE ECm)
noncomputable def nmsAt (st : Sto) (j : Nat) : List Str := match st[j]? with
 | some (.list xs) => xs.map fun p => match p with | .str s => s | _ => default
 | _ => []
theorem nmsAt_sv {st : Sto} {j : Nat} {x : List Str} (h : st[j]? = some (.list (sv x))) : nmsAt st j = x := by
 unfold nmsAt; rw [h]; dsimp only; unfold sv; rw [List.map_map]
 have : ((fun p : PV => match p with | .str s => s | _ => default) ∘ PV.str) = id := rfl
 rw [this, List.map_id]
noncomputable def szS (te : List Tie) (s : Str) : Int := szP te (posN te s)
noncomputable def bitS (te : List Tie) (s : Str) : Int := (2 : Int) ^ posN te s
noncomputable def shortB (te : List Tie) (b : Int) (x : List Str) : Bool := x.all fun s => decide (szS te s ≤ b)
noncomputable def masksP (te : List Tie) (c : Nat) (b : Int) : List Int := ((threesP c).filter (shortB te b)).map fun x => (x.map (bitS te)).sum
structure LS (c : Nat) (te : List Tie) (R : List Row) (S : Sto) (t th si bi br lz bo : Nat) (ids : List Nat) : Prop where
 ties : S[t]? = some (.list (tpe te))
 thr : S[th]? = some (.list (ids.map .ref))
 lists : Lists S ids ((threesP c).map sv)
 sizes : S[si]? = some (.dict (sizesD te))
 bits : S[bi]? = some (.dict (bitsT te))
 bars : S[br]? = some (.list (R.map (barT te)))
 loose : S[lz]? = some (.list ((looseP te R).map .int))
 bounds : S[bo]? = some (.list (vI (boundsP te)))
theorem LS.ext {c : Nat} {te : List Tie} {R : List Row} {S S' : Sto} {t th si bi br lz bo : Nat} {ids : List Nat} (H : LS c te R S t th si bi br lz bo ids) (e : SExt S S') : LS c te R S' t th si bi br lz bo ids :=
 ⟨e _ _ H.ties, e _ _ H.thr, H.lists.ext e, e _ _ H.sizes, e _ _ H.bits, e _ _ H.bars, e _ _ H.loose, e _ _ H.bounds⟩
theorem lists_at {st : Sto} {ids : List Nat} {xss : List (List Str)} (L : Lists st ids (xss.map sv)) : ∀ j ∈ ids, ∃ x ∈ xss, st[j]? = some (.list (sv x)) := fun j hj => by
 obtain ⟨q, hq, e⟩ := List.getElem_of_mem hj
 have hl := L.len
 rw [List.length_map] at hl
 have hq2 : q < xss.length := by omega
 refine ⟨xss[q], List.getElem_mem hq2, ?_⟩
 exact L.at_ q j _ (by rw [List.getElem?_eq_getElem hq, e]) (by rw [List.getElem?_map, List.getElem?_eq_getElem hq2]; rfl)
theorem lists_nms {st : Sto} {ids : List Nat} {xss : List (List Str)} (L : Lists st ids (xss.map sv)) : ids.map (nmsAt st) = xss := by
 have hl := L.len
 rw [List.length_map] at hl
 apply List.ext_getElem?
 intro q
 rw [List.getElem?_map]
 rcases Nat.lt_or_ge q ids.length with hq | hq
 ·have hq2 : q < xss.length := by omega
  rw [List.getElem?_eq_getElem hq, List.getElem?_eq_getElem hq2]
  have := L.at_ q (ids[q]) _ (List.getElem?_eq_getElem hq) (by rw [List.getElem?_map, List.getElem?_eq_getElem hq2]; rfl)
  show some (nmsAt st ids[q]) = _
  rw [nmsAt_sv this]
 ·rw [List.getElem?_eq_none hq, List.getElem?_eq_none (by omega)]; rfl
noncomputable def refG (g : Nat → Option PV) : PV → Option PV
 | .ref j => g j
 | _ => none
theorem refG_map (g : Nat → Option PV) : ∀ xs : List Nat, (xs.map PV.ref).filterMap (refG g) = xs.filterMap g
 | [] => rfl
 | a :: xs => by
  rw [List.map_cons, List.filterMap_cons, List.filterMap_cons, refG_map g xs]
  rfl
section
variable {C : Cx} {n : Nat} {φ : Scope} {lo lo' : Loc} {S : Sto} {e : Expr} {j : Nat}
theorem name_comp {x : List Str} (val : Str → Int) (hI : Ev C n φ lo (lcI e) S (.ref j) S) (hj : S[j]? = some (.list (sv x))) (side : CompSide C φ lo lo' (lcI e) (lcS e)) (hz : x.length ≤ 1000)
  (step : ∀ s ∈ x, ∀ S1, SExt S S1 → StepC C n (compScope (lcS e) φ) lo' (lcE e) (lcT e) (lcIfs e) S1 (.str s) (some (.int (val s))))
  (he : e = .ListComp (lcE e) [⟨lcT e, lcI e, lcIfs e, 0⟩] (lcS e) (lcP e) := by rfl) :
  ∃ S', SExt S S' ∧ S'[S.length]? = some (.list ((x.map val).map .int)) ∧ Ev C n φ lo e S (.ref S.length) S' := by
 obtain ⟨S', f1, f2, f3⟩ := Ev.compE (C := C) (n := n) (φ := φ) (e := e) (ps := sv x) (strH fun s => some (.int (val s))) (ItrE.of hI (Itr.list hj)) side (listIt_ext hj)
  (fun p hp S1 e1 => by
   obtain ⟨s, hs, rfl⟩ := List.mem_map.mp hp
   exact step s hs S1 e1)
  (by unfold sv; rw [List.length_map]; omega) he
 have e2 : (sv x).filterMap (strH fun s => some (.int (val s))) = (x.map val).map PV.int := by
  unfold sv
  rw [strH_map]
  clear hj hz step f1 f2 f3
  induction x with
  | nil => rfl
  | cons s x ih => rw [List.filterMap_cons, List.map_cons, List.map_cons, ← ih]
 rw [e2] at f2
 exact ⟨S', f1, f2, f3⟩
end
noncomputable def loH (bo lz br bi si i th due t c w : Nat) : Loc := ("bounds", .ref bo) :: ("loose", .ref lz) :: loG br bi si i th due t c w
section
variable {C : Cx} (px : Px C) {n : Nat} {c : Nat} {te : List Tie} (T : TieOk c te) (hc : c ≤ 5) {t th i d l w due br bi si lz bo : Nat} {R : List Row} {ids : List Nat} {S : Sto} {b : Int}
include px T hc
theorem short_walk (H : LS c te R S t th si bi br lz bo ids) :
  ∃ S', SExt S S' ∧ S'[S.length]? = some (.list ((ids.filter fun j => shortB te b (nmsAt S j)).map .ref)) ∧
   Ex1 C n φla (("bound", .int b) :: loH bo lz br bi si i th due t c w) (sAt BB 0) S .next (("short", .ref S.length) :: ("bound", .int b) :: loH bo lz br bi si i th due t c w) S' := by
 have hm := tie_len T hc
 have side : CompSide C φla (("bound", .int b) :: loH bo lz br bi si i th due t c w) [("sizes", .ref si), ("bound", .int b)] (lcI ECs) (lcS ECs) := ⟨⟨rfl, rfl, rfl, rfl, trivial⟩, by decide, rfl, by decide, by intro _ _; rfl⟩
 have hil : ids.length ≤ 10 := by
  have := H.lists.len
  rw [List.length_map] at this
  rw [this]
  exact lts6 (Nat.lt_succ_of_le hc) (by decide) (by decide) (by decide) (by decide) (by decide) (by decide)
 obtain ⟨S', f1, f2, f3⟩ := Ex1.compS (C := C) (n := n) (s := sAt BB 0) (y := "short") (ps := ids.map PV.ref) rfl (refG fun j => if shortB te b (nmsAt S j) then some (.ref j) else none) (ItrE.of (Ev.loc (p := .ref th) rfl rfl (by decide)) (Itr.list H.thr)) side (listIt_ext H.thr)
  (fun p hp S1 e1 => by
   obtain ⟨j, hj, rfl⟩ := List.mem_map.mp hp
   obtain ⟨x, hx, hjx⟩ := lists_at H.lists j hj
   have hnm := nmsAt_sv hjx
   have hn := three_names T hx
   have H1 := H.ext e1
   show StepC C n _ _ _ _ _ S1 (.ref j) (if shortB te b (nmsAt S j) then some (.ref j) else none)
   rw [hnm]
   have side2 : CompSide C (compScope (lcS ECs) φla) (("three", .ref j) :: [("sizes", .ref si), ("bound", .int b)]) [("sizes", .ref si)] (lcI ECn) (lcS ECn) := ⟨⟨rfl, rfl, trivial⟩, by decide, rfl, by decide, by intro _ _; rfl⟩
   obtain ⟨S2, g1, g2, g3⟩ := name_comp (C := C) (n := n) (φ := compScope (lcS ECs) φla) (e := ECn) (j := j) (szS te) (Ev.loc rfl rfl (by decide)) (e1 _ _ hjx) side2 (by rw [(three_nodup hx).2]; decide)
    (fun s hs S3 e3 => by
     obtain ⟨k1, k2⟩ := posN_at (hn s hs)
     have hlk := sizes_at T hc k1
     rw [k2] at hlk
     refine StepC.some (lo1 := ("name", .str s) :: [("sizes", .ref si)]) (S1 := S3) (S2 := S3) (AsL.name rfl) ⟨rfl, trivial⟩ TrL.nil ?_
     exact Ev.sub (Ev.cell rfl rfl (by decide)) (Ev.loc rfl rfl (by decide)) (O.sub_dict (e3 _ _ H1.sizes) hlk (by intro _ _; with_unfolding_all rfl)))
   obtain ⟨M, hM1, hM2, hM3⟩ : ∃ M, M ∈ x.map (szS te) ∧ (∀ y ∈ x.map (szS te), y ≤ M) ∧ (decide (M ≤ b) = shortB te b x) := by
    have hne : x.map (szS te) ≠ [] := by
     intro q
     have := (three_nodup hx).2
     rw [List.map_eq_nil_iff.mp q] at this; cases this
    have hmax : ∀ l : List Int, l ≠ [] → ∃ M, M ∈ l ∧ ∀ y ∈ l, y ≤ M := by
     intro l
     induction l with
     | nil => intro h; exact absurd rfl h
     | cons a l ih =>
      intro _
      by_cases hl : l = []
      ·subst hl; exact ⟨a, by simp, by simp⟩
      ·obtain ⟨M, h1, h2⟩ := ih hl
       by_cases h : a ≤ M
       ·exact ⟨M, List.mem_cons_of_mem _ h1, fun y hy => by
         rcases List.mem_cons.mp hy with rfl | hy
         ·exact h
         ·exact h2 y hy⟩
       ·exact ⟨a, List.mem_cons_self, fun y hy => by
         rcases List.mem_cons.mp hy with rfl | hy
         ·exact Int.le_refl _
         ·have := h2 y hy; omega⟩
    obtain ⟨M, h1, h2⟩ := hmax _ hne
    refine ⟨M, h1, h2, ?_⟩
    unfold shortB
    rw [Bool.eq_iff_iff, decide_eq_true_eq, List.all_eq_true]
    constructor
    ·intro h s hs
     have := h2 (szS te s) (List.mem_map.mpr ⟨s, hs, rfl⟩)
     simp; omega
    ·intro h
     obtain ⟨s, hs, rfl⟩ := List.mem_map.mp h1
     simpa using h s hs
   have hmx := _root_.Mine.C.max_list (C := C) (n := n) g2 hM1 hM2
   have hle : Op2 C n (compareOp .LtE) (.int M) (.int b) S2 (.bool (shortB te b x)) S2 := by
    rw [← hM3]; exact O.le
   have htr : TrL C n (compScope (lcS ECs) φla) (("three", .ref j) :: [("sizes", .ref si), ("bound", .int b)]) (lcIfs ECs) S1 (shortB te b x) S2 := by
    apply TrL.one
    apply Tr.cmp (p := .int M) (q := .int b) (st1 := S2) (st2 := S2)
    ·apply Ev.callb (id := "max") (ps := [.ref S1.length]) (st1 := S1) (st2 := S2)
     ·walk_at "ev"
     ·exact EvL.cons g3 EvL.nil
     ·exact hmx
    ·exact Ev.cell rfl rfl (by decide)
    ·exact hle
   cases hb : shortB te b x with
   | true =>
    rw [hb] at htr
    exact StepC.some (lo1 := ("three", .ref j) :: [("sizes", .ref si), ("bound", .int b)]) (S1 := S2) (S2 := S2) (AsL.name rfl) ⟨rfl, rfl, trivial⟩ htr (Ev.loc rfl rfl (by decide)) g1
   | false =>
    rw [hb] at htr
    exact StepC.none (lo1 := ("three", .ref j) :: [("sizes", .ref si), ("bound", .int b)]) (S1 := S2) (AsL.name rfl) ⟨rfl, rfl, trivial⟩ htr g1)
  (by rw [List.length_map]; omega) rfl (by intro env h; unfold swapsWith Env.blockKind Env.kindOf; rw [h]; rfl)
 rw [refG_map, filterMap_if] at f2
 exact ⟨S', f1, f2, f3⟩
end
end
section
theorem masks_of {te : List Tie} {c : Nat} {b : Int} {S : Sto} {ids : List Nat} (L : Lists S ids ((threesP c).map sv)) :
  ((ids.filter fun j => shortB te b (nmsAt S j)).map fun j => ((nmsAt S j).map (bitS te)).sum) = masksP te c b := by
 unfold masksP
 rw [← lists_nms L, List.filter_map, List.map_map]
 rfl
theorem masks_len {te : List Tie} {c : Nat} {b : Int} (hc : c ≤ 5) : (masksP te c b).length ≤ 10 := by
 unfold masksP
 rw [List.length_map]
 have h1 := List.length_filter_le (shortB te b) (threesP c)
 have h2 : (threesP c).length ≤ 10 := by
  exact lts6 (Nat.lt_succ_of_le hc) (by decide) (by decide) (by decide) (by decide) (by decide) (by decide)
 omega
noncomputable def loI (sh : Nat) (b : Int) (bo lz br bi si i th due t c w : Nat) : Loc := ("short", .ref sh) :: ("bound", .int b) :: loH bo lz br bi si i th due t c w
section
variable {C : Cx} (px : Px C) {n : Nat} {c : Nat} {te : List Tie} (T : TieOk c te) (hc : c ≤ 5) {t th i d l w due br bi si lz bo sh : Nat} {R : List Row} {ids : List Nat} {S0 S : Sto} {b : Int}
include px T hc
theorem sums_walk (H : LS c te R S0 t th si bi br lz bo ids) (e0 : SExt S0 S) (hsh : S[sh]? = some (.list ((ids.filter fun j => shortB te b (nmsAt S0 j)).map .ref))) :
  ∃ S' su, SExt S S' ∧ S'[su]? = some (.list ((sumsP (masksP te c b)).map .int)) ∧
   Ex1 C (n + 1) φla (loI sh b bo lz br bi si i th due t c w) (sAt BB 1) S .next (("sums", .ref su) :: loI sh b bo lz br bi si i th due t c w) S' := by
 have hm := tie_len T hc
 have hml := masks_len (te := te) (b := b) hc
 have hfl : ((ids.filter fun j => shortB te b (nmsAt S0 j))).length ≤ 10 := by
  rw [← masks_of H.lists, List.length_map] at hml
  exact hml
 have side : CompSide C φla (loI sh b bo lz br bi si i th due t c w) [("bits", .ref bi)] (lcI ECm) (lcS ECm) := ⟨⟨rfl, rfl, trivial⟩, by decide, rfl, by decide, by intro _ _; rfl⟩
 obtain ⟨S1, f1, f2, f3⟩ := Ev.compE (C := C) (n := n + 1) (φ := φla) (e := ECm) (ps := (ids.filter fun j => shortB te b (nmsAt S0 j)).map PV.ref) (refG fun j => some (.int ((nmsAt S0 j).map (bitS te)).sum)) (ItrE.of (Ev.loc (p := .ref sh) rfl rfl (by decide)) (Itr.list hsh)) side (listIt_ext hsh)
  (fun p hp S1 e1 => by
   obtain ⟨j, hj, rfl⟩ := List.mem_map.mp hp
   have hj := (List.mem_filter.mp hj).1
   obtain ⟨x, hx, hjx⟩ := lists_at H.lists j hj
   have hnm := nmsAt_sv hjx
   have hn := three_names T hx
   have H1 := H.ext (e0.trans e1)
   show StepC C (n + 1) _ _ _ _ _ S1 (.ref j) (some (.int ((nmsAt S0 j).map (bitS te)).sum))
   rw [hnm]
   have side2 : CompSide C (compScope (lcS ECm) φla) (("three", .ref j) :: [("bits", .ref bi)]) [("bits", .ref bi)] (lcI ECb) (lcS ECb) := ⟨⟨rfl, rfl, trivial⟩, by decide, rfl, by decide, by intro _ _; rfl⟩
   obtain ⟨S2, g1, g2, g3⟩ := name_comp (C := C) (n := n + 1) (φ := compScope (lcS ECm) φla) (e := ECb) (j := j) (bitS te) (Ev.loc rfl rfl (by decide)) ((e0.trans e1) _ _ hjx) side2 (by rw [(three_nodup hx).2]; decide)
    (fun s hs S3 e3 => by
     obtain ⟨k1, k2⟩ := posN_at (hn s hs)
     have hlk := bits_at T hc k1
     rw [k2] at hlk
     refine StepC.some (lo1 := ("name", .str s) :: [("bits", .ref bi)]) (S1 := S3) (S2 := S3) (AsL.name rfl) ⟨rfl, trivial⟩ TrL.nil ?_
     exact Ev.sub (Ev.cell rfl rfl (by decide)) (Ev.loc rfl rfl (by decide)) (O.sub_dict (e3 _ _ H1.bits) hlk (by intro _ _; with_unfolding_all rfl)))
   have hs := _root_.Mine.C.sum_list (C := C) (n := n + 1) g2
   refine StepC.some (lo1 := ("three", .ref j) :: [("bits", .ref bi)]) (S1 := S1) (S2 := S2) (AsL.name rfl) ⟨rfl, trivial⟩ TrL.nil ?_ (SExt.refl _) g1
   apply Ev.callb (id := "sum") (ps := [.ref S1.length]) (st1 := S1) (st2 := S2)
   ·walk_at "ev"
   ·exact EvL.cons g3 EvL.nil
   ·exact hs)
  (by rw [List.length_map]; omega) rfl
 rw [refG_map] at f2
 have e2 : ∀ l : List Nat, l.filterMap (fun j => some (PV.int ((nmsAt S0 j).map (bitS te)).sum)) = (l.map fun j => ((nmsAt S0 j).map (bitS te)).sum).map PV.int := by
  intro l
  induction l with
  | nil => rfl
  | cons a l ih => rw [List.filterMap_cons, List.map_cons, List.map_cons, ← ih]
 rw [e2, masks_of H.lists] at f2
 obtain ⟨S2, su, g1, g2, g3⟩ := sp_sums px (n := n) f2 hml
 refine ⟨S2, su, f1.trans g1, g2, ?_⟩
 apply Ex1.asg (p := .ref su) (st1 := S2)
 ·apply Ev.callf (ps := [.ref S.length]) (st1 := S) (st2 := S1)
  ·walk_at "ev"
  ·exact EvL.cons f3 EvL.nil
  ·exact Px.K ‹Px _› _ _ rfl
  ·rfl
  ·exact g3
 ·exact As.name (.inr rfl)
end
end
section
noncomputable abbrev EC1l : Expr := lOf (tOf (sAt BB 2))
noncomputable abbrev EC1r : Expr := rOf (tOf (sAt BB 2))
noncomputable abbrev EC2l : Expr := argE 0 (rOf (rOf (tOf (sAt BB 3))))
noncomputable def loJ (su sh : Nat) (b : Int) (bo lz br bi si i th due t c w : Nat) : Loc := ("sums", .ref su) :: loI sh b bo lz br bi si i th due t c w
theorem fm_some {α : Type} (f : α → PV) : ∀ l : List α, l.filterMap (fun a => some (f a)) = l.map f
 | [] => rfl
 | a :: l => by rw [List.filterMap_cons, List.map_cons, fm_some f l]
noncomputable def looseN (te : List Tie) (R : List Row) (b : Int) : Nat := ((looseP te R).filter fun a => decide (a ≤ b)).length
section
variable {C : Cx} (px : Px C) {n : Nat} {c : Nat} {te : List Tie} (T : TieOk c te) (hc : c ≤ 5) {t th i d l w due br bi si lz bo sh su : Nat} {R : List Row} {ids : List Nat} {S : Sto} {b : Int}
include px T hc
theorem check1_walk (H : LS c te R S t th si bi br lz bo ids) (hsu : S[su]? = some (.list ((sumsP (masksP te c b)).map .int))) (hz : R.length ≤ 100)
  (h1 : ∀ r ∈ R, (sumsP (masksP te c b)).contains ((r.x : Nat) : Int) = decide (szP te r.d ≤ b)) :
  ∃ S', SExt S S' ∧ Ex1 C n φla (loJ su sh b bo lz br bi si i th due t c w) (sAt BB 2) S .next (loJ su sh b bo lz br bi si i th due t c w) S' := by
 have side : CompSide C φla (loJ su sh b bo lz br bi si i th due t c w) [("sums", .ref su)] (lcI EC1l) (lcS EC1l) := ⟨⟨rfl, rfl, trivial⟩, by decide, rfl, by decide, by intro _ _; rfl⟩
 have side2 : CompSide C φla (loJ su sh b bo lz br bi si i th due t c w) [("bound", .int b)] (lcI EC1r) (lcS EC1r) := ⟨⟨rfl, rfl, trivial⟩, by decide, rfl, by decide, by intro _ _; rfl⟩
 obtain ⟨S1, f1, f2, f3⟩ := bars_comp (C := C) (n := n) (φ := φla) (e := EC1l) (te := te) (R := R) (t := br) (fun _ _ x => some (.bool ((sumsP (masksP te c b)).contains x))) (Ev.loc rfl rfl (by decide)) H.bars side (by omega)
  (fun r hr S1 e1 => StepC.some (lo1 := [("ring", .int (r.x : Nat)), ("dead", .int (szP te r.d)), ("born", .int (szP te r.p)), ("sums", .ref su)]) (S1 := S1) (S2 := S1) (AsL.tup (AoL.cons rfl (AoL.cons rfl (AoL.cons rfl AoL.nil)))) ⟨rfl, trivial⟩ TrL.nil
   (Ev.cmp (Ev.loc rfl rfl (by decide)) (Ev.cell rfl rfl (by decide)) (O.in_ints (e1 _ _ hsu))))
 obtain ⟨S2, g1, g2, g3⟩ := bars_comp (C := C) (n := n) (φ := φla) (e := EC1r) (te := te) (R := R) (t := br) (fun _ y _ => some (.bool (decide (y ≤ b)))) (Ev.loc (lo := loJ su sh b bo lz br bi si i th due t c w) rfl rfl (by decide)) (f1 _ _ H.bars) side2 (by omega)
  (fun r hr S1 e1 => StepC.some (lo1 := [("ring", .int (r.x : Nat)), ("dead", .int (szP te r.d)), ("born", .int (szP te r.p)), ("bound", .int b)]) (S1 := S1) (S2 := S1) (AsL.tup (AoL.cons rfl (AoL.cons rfl (AoL.cons rfl AoL.nil)))) ⟨rfl, trivial⟩ TrL.nil
   (Ev.cmp (Ev.loc rfl rfl (by decide)) (Ev.cell rfl rfl (by decide)) O.le))
 rw [fm_some] at f2
 rw [fm_some] at g2
 have hne := O.ne_same (C := C) (n := n) (g1 _ _ f2) g2 (by rw [List.length_map, List.length_map]) (fun k p q hp hq => by
  rw [List.getElem?_map] at hp hq
  rcases Nat.lt_or_ge k R.length with hk | hk
  ·rw [List.getElem?_eq_getElem hk] at hp hq
   have h := h1 _ (List.getElem_mem hk)
   simp only [Option.map_some, Option.some.injEq] at hp hq
   subst hp hq
   have := EqP.bool (C := C) (n := n) (st := S2) (a := (sumsP (masksP te c b)).contains ((R[k].x : Nat) : Int)) (b := decide (szP te R[k].d ≤ b))
   rw [h] at this ⊢
   simpa using this
  ·rw [List.getElem?_eq_none hk] at hp
   simp at hp)
 refine ⟨S2, f1.trans g1, ?_⟩
 apply Ex1.if_f (st1 := S2)
 ·exact Tr.cmp f3 g3 hne
 ·exact Ex.nil
theorem check2_walk (H : LS c te R S t th si bi br lz bo ids) (h2 : (partsP te b c : Int) = (c : Int) - (looseN te R b : Nat)) :
  ∃ S', SExt S S' ∧ Ex1 C (n + 1) φla (loJ su sh b bo lz br bi si i th due t c w) (sAt BB 3) S .next (loJ su sh b bo lz br bi si i th due t c w) S' := by
 have hm := tie_len T hc
 have hll : (looseP te R).length ≤ 10 := by
  unfold looseP
  have := List.length_filterMap_le (fun e : Tie => if getP (R.map (rowTxt te)) (Txt.lower (nm e.2.1 e.2.2)) == none then some e.1 else none) te
  omega
 have side : CompSide C φla (loJ su sh b bo lz br bi si i th due t c w) [("bound", .int b)] (lcI EC2l) (lcS EC2l) := ⟨⟨rfl, rfl, trivial⟩, by decide, rfl, by decide, by intro _ _; rfl⟩
 obtain ⟨S1, f1, f2⟩ := sp_parts px (n := n) (bound := b) H.ties hc (fun e he => ⟨Nat.lt_trans (te_lt T hc he).1 (te_lt T hc he).2, (te_lt T hc he).2⟩)
 obtain ⟨S2, g1, g2, g3⟩ := ints_comp (C := C) (n := n + 1) (φ := φla) (e := EC2l) (t := lz) (xs := looseP te R) (fun a => if decide (a ≤ b) then some (.int a) else none) (Ev.loc (lo := loJ su sh b bo lz br bi si i th due t c w) rfl rfl (by decide)) (f1 _ _ H.loose) side (by omega)
  (fun a ha S1 e1 => stepC_test (lo1 := ("size", .int a) :: [("bound", .int b)]) (AsL.name rfl) ⟨rfl, trivial⟩ (Tr.cmp (Ev.loc rfl rfl (by decide)) (Ev.cell rfl rfl (by decide)) O.le) (Ev.loc rfl rfl (by decide)))
 rw [filterMap_if] at g2
 have hlen := _root_.Mine.C.len_list (C := C) (n := n + 1) g2 (by rw [List.length_map]; have := List.length_filter_le (fun a => decide (a ≤ b)) (looseP te R); omega)
 rw [List.length_map] at hlen
 refine ⟨S2, f1.trans g1, ?_⟩
 have hne : Op2 C (n + 1) (compareOp .NotEq) (.int (partsP te b c : Int)) (.int ((c : Int) - (looseN te R b : Nat))) S2 (.bool false) S2 := by
  have := O.ne (C := C) (n := n + 1) (a := (partsP te b c : Int)) (b := (c : Int) - (looseN te R b : Nat)) (st := S2)
  rw [h2] at this ⊢
  simpa using this
 apply Ex1.if_f (st1 := S2)
 ·apply Tr.cmp (st1 := S1) (st2 := S2)
  ·apply Ev.callf (ps := [.ref t, .int b, .int (c : Int)]) (st1 := S) (st2 := S)
   ·walk_at "ev"
   ·exact EvL.cons (Ev.loc rfl rfl (by decide)) (EvL.cons (Ev.cell rfl rfl (by decide)) (EvL.cons (Ev.loc rfl rfl (by decide)) EvL.nil))
   ·exact Px.K ‹Px _› _ _ rfl
   ·rfl
   ·exact f2
  ·apply Ev.bin (p := .int (c : Int)) (st1 := S1) (st2 := S2)
   ·exact Ev.loc rfl rfl (by decide)
   ·apply Ev.callb (id := "len") (ps := [.ref S1.length]) (st1 := S1) (st2 := S2)
    ·walk_at "ev"
    ·exact EvL.cons g3 EvL.nil
    ·exact hlen
   ·exact O.sub
  ·exact hne
 ·exact Ex.nil
end
end
section
noncomputable abbrev LF5 : Stmt := sAt BB 4
noncomputable abbrev IB : List Stmt := bOf LF5
noncomputable abbrev ECI0 : Expr := argE 0 (vOf (sAt IB 0))
noncomputable abbrev ECI1 : Expr := argE 0 (vOf (sAt IB 1))
noncomputable abbrev ECI2 : Expr := argE 0 (vOf (sAt IB 2))
noncomputable def manyN (te : List Tie) (s : Int) : Nat := (te.filter fun e => decide (e.1 ≤ s)).length
noncomputable def aliveN (te : List Tie) (R : List Row) (s b : Int) : Nat := (R.filter fun r => decide (szP te r.p ≤ s) && decide (b < szP te r.d)).length
noncomputable def lostN (te : List Tie) (c : Nat) (b : Int) (k : Nat) : Nat := ((sumsP (masksP te c b)).filter fun x => decide (x < (2 : Int) ^ k)).length
theorem sumsP_len : ∀ (ms : List Int) (X : List Int), (ms.foldl sumStep X).length ≤ 2 ^ ms.length * X.length
 | [], X => by simp
 | m :: ms, X => by
  have h1 := sumsP_len ms (sumStep X m)
  have h2 := sumStep_len X m
  rw [List.foldl_cons, List.length_cons, Nat.pow_succ]
  have h3 : 2 ^ ms.length * (sumStep X m).length ≤ 2 ^ ms.length * (2 * X.length) := Nat.mul_le_mul_left _ h2
  have h4 : 2 ^ ms.length * (2 * X.length) = 2 ^ ms.length * 2 * X.length := by rw [Nat.mul_assoc]
  omega
theorem pow_fit {k : Nat} (h : k ≤ 20) : ((2 : Int) ^ k).natAbs < 2 ^ 64 := by
 rw [Int.natAbs_pow]
 exact Nat.lt_of_le_of_lt (Nat.pow_le_pow_right (by decide) h) (by decide)
theorem partsAll_len {bound : Int} : ∀ (te : List Tie) (ms : List Int), (te.foldl (partsF bound) ms).length = ms.length
 | [], ms => rfl
 | e :: te, ms => by
  rw [List.foldl_cons, partsAll_len te]
  unfold partsF
  split
  ·unfold partStep; rw [List.length_map]
  ·rfl
theorem partsP_le (te : List Tie) (bound : Int) (c : Nat) : partsP te bound c ≤ c := by
 unfold partsP dedup
 refine Nat.le_trans (firstMet_length_le _ _) ?_
 rw [partsAll_len]
 unfold marks0
 rw [List.length_map, List.length_range]
 exact Nat.le_refl _
section
variable {C : Cx} (px : Px C) {n : Nat} {c : Nat} {te : List Tie} (T : TieOk c te) (hc : c ≤ 5) {t th i d l w due br bi si lz bo sh su : Nat} {R : List Row} {ids : List Nat} {S : Sto} {b s : Int}
include px T hc
theorem since_walk (H : LS c te R S t th si bi br lz bo ids) (hsu : S[su]? = some (.list ((sumsP (masksP te c b)).map .int))) (hz : R.length ≤ 10)
  (h0 : 0 ≤ (manyN te s : Int) - c + (partsP te s c : Nat))
  (h3 : (2 : Int) ^ aliveN te R s b * (lostN te c b (manyN te s) : Nat) = (2 : Int) ^ ((manyN te s : Int) - c + (partsP te s c : Nat)).toNat) :
  ∃ S' lo', SExt S S' ∧ SubL (loJ su sh b bo lz br bi si i th due t c w) lo' ∧ Ex C (n + 1) φla (("since", .int s) :: loJ su sh b bo lz br bi si i th due t c w) IB S .next lo' S' := by
 have hm := tie_len T hc
 have hml := masks_len (te := te) (b := b) hc
 have hsl : (sumsP (masksP te c b)).length ≤ 1024 := by
  have h1 := sumsP_len (masksP te c b) [0]
  have h2 : 2 ^ (masksP te c b).length ≤ 2 ^ 10 := Nat.pow_le_pow_right (by decide) hml
  unfold sumsP
  simp only [List.length_singleton, Nat.mul_one] at h1
  omega
 have hmany : manyN te s ≤ 10 := Nat.le_trans (List.length_filter_le _ _) hm
 have halive : aliveN te R s b ≤ 10 := Nat.le_trans (List.length_filter_le _ _) hz
 have hlost : lostN te c b (manyN te s) ≤ 1024 := Nat.le_trans (List.length_filter_le _ _) hsl
 have hparts := partsP_le te s c
 have side0 : CompSide C φla (("since", .int s) :: loJ su sh b bo lz br bi si i th due t c w) [("since", .int s)] (lcI ECI0) (lcS ECI0) := ⟨⟨rfl, rfl, trivial⟩, by decide, rfl, by decide, by intro _ _; rfl⟩
 obtain ⟨S1, a1, a2, a3⟩ := ties_comp (C := C) (n := n + 1) (φ := φla) (e := ECI0) (fun a _ => if decide (a ≤ s) then some (.int a) else none) (Ev.loc (lo := ("since", .int s) :: loJ su sh b bo lz br bi si i th due t c w) rfl rfl (by decide)) H.ties side0 hm
  (fun q hq S1 e1 => stepC_test (lo1 := [("name", .str (nm q.2.1 q.2.2)), ("size", .int q.1), ("since", .int s)]) (AsL.tup (AoL.cons rfl (AoL.cons rfl AoL.nil))) ⟨rfl, trivial⟩ (Tr.cmp (Ev.loc rfl rfl (by decide)) (Ev.cell rfl rfl (by decide)) O.le) (Ev.loc rfl rfl (by decide)))
 rw [filterMap_if te (fun e => decide (e.1 ≤ s)) (fun e => .int e.1)] at a2
 have l1 := _root_.Mine.C.len_list (C := C) (n := n + 1) a2 (by rw [List.length_map]; have := List.length_filter_le (fun e : Tie => decide (e.1 ≤ s)) te; omega)
 rw [List.length_map] at l1
 change Cl C (n + 1) _ _ _ (.int (manyN te s : Nat)) _ at l1
 have side1 : CompSide C φla (("many", .int (manyN te s : Nat)) :: ("since", .int s) :: loJ su sh b bo lz br bi si i th due t c w) [("since", .int s), ("bound", .int b)] (lcI ECI1) (lcS ECI1) := ⟨⟨rfl, rfl, rfl, rfl, trivial⟩, by decide, rfl, by decide, by intro _ _; rfl⟩
 obtain ⟨S2, b1, b2, b3⟩ := bars_comp (C := C) (n := n + 1) (φ := φla) (e := ECI1) (te := te) (R := R) (t := br) (fun p q x => if decide (p ≤ s) && decide (b < q) then some (.int x) else none) (Ev.loc (lo := ("many", .int (manyN te s : Nat)) :: ("since", .int s) :: loJ su sh b bo lz br bi si i th due t c w) rfl rfl (by decide)) (a1 _ _ H.bars) side1 (by omega)
  (fun r hr S1 e1 => by
   refine stepC_test (lo1 := [("ring", .int (r.x : Nat)), ("dead", .int (szP te r.d)), ("born", .int (szP te r.p)), ("since", .int s), ("bound", .int b)]) (AsL.tup (AoL.cons rfl (AoL.cons rfl (AoL.cons rfl AoL.nil)))) ⟨rfl, rfl, trivial⟩ ?_ (Ev.loc rfl rfl (by decide))
   cases hb : decide (szP te r.p ≤ s) with
   | false =>
    apply Tr.and_f
    refine Tr.cmp (p := .int (szP te r.p)) (q := .int s) (st1 := S1) (st2 := S1) (Ev.loc rfl rfl (by decide)) (Ev.cell rfl rfl (by decide)) ?_
    rw [← hb]; exact O.le
   | true =>
    apply Tr.and_t (st1 := S1)
    ·refine Tr.cmp (p := .int (szP te r.p)) (q := .int s) (st1 := S1) (st2 := S1) (Ev.loc rfl rfl (by decide)) (Ev.cell rfl rfl (by decide)) ?_
     rw [← hb]; exact O.le
    ·apply Tr.and_last
     exact Tr.cmp (p := .int b) (q := .int (szP te r.d)) (st1 := S1) (st2 := S1) (Ev.cell rfl rfl (by decide)) (Ev.loc rfl rfl (by decide)) O.lt)
 rw [filterMap_if R (fun r => decide (szP te r.p ≤ s) && decide (b < szP te r.d)) (fun r => .int (r.x : Nat))] at b2
 have l2 := _root_.Mine.C.len_list (C := C) (n := n + 1) b2 (by rw [List.length_map]; have : aliveN te R s b ≤ 10 := halive; unfold aliveN at this; omega)
 rw [List.length_map] at l2
 change Cl C (n + 1) _ _ _ (.int (aliveN te R s b : Nat)) _ at l2
 have side2 : CompSide C φla (("alive", .int (aliveN te R s b : Nat)) :: ("many", .int (manyN te s : Nat)) :: ("since", .int s) :: loJ su sh b bo lz br bi si i th due t c w) [("many", .int (manyN te s : Nat))] (lcI ECI2) (lcS ECI2) := ⟨⟨rfl, rfl, trivial⟩, by decide, rfl, by decide, by intro _ _; rfl⟩
 have hpw : ∀ S, Op2 C (n + 1) (binaryOp .Pow) (.int 2) (.int (manyN te s : Nat)) S (.int ((2 : Int) ^ manyN te s)) S := fun S => by
  have := O.pow (C := C) (n := n + 1) (a := 2) (b := (manyN te s : Nat)) (st := S) (by omega) (by omega) (by decide)
  rwa [Int.toNat_natCast] at this
 obtain ⟨S3, c1, c2, c3⟩ := ints_comp (C := C) (n := n + 1) (φ := φla) (e := ECI2) (t := su) (xs := sumsP (masksP te c b)) (fun a => if decide (a < (2 : Int) ^ manyN te s) then some (.int a) else none) (Ev.cell (lo := ("alive", .int (aliveN te R s b : Nat)) :: ("many", .int (manyN te s : Nat)) :: ("since", .int s) :: loJ su sh b bo lz br bi si i th due t c w) rfl rfl (by decide)) (b1 _ _ (a1 _ _ hsu)) side2 (by omega)
  (fun a ha S1 e1 => stepC_test (lo1 := ("ring", .int a) :: [("many", .int (manyN te s : Nat))]) (AsL.name rfl) ⟨rfl, trivial⟩
   (Tr.cmp (Ev.loc rfl rfl (by decide)) (Ev.bin Ev.cint (Ev.cell rfl rfl (by decide)) (hpw S1)) O.lt) (Ev.loc rfl rfl (by decide)))
 rw [filterMap_if] at c2
 have l3 := _root_.Mine.C.len_list (C := C) (n := n + 1) c2 (by rw [List.length_map]; have : lostN te c b (manyN te s) ≤ 1024 := hlost; unfold lostN at this; omega)
 rw [List.length_map] at l3
 change Cl C (n + 1) _ _ _ (.int (lostN te c b (manyN te s) : Nat)) _ at l3
 obtain ⟨S4, d1, d2⟩ := sp_parts px (n := n) (bound := s) (((H.ext a1).ext b1).ext c1).ties hc (fun e he => ⟨Nat.lt_trans (te_lt T hc he).1 (te_lt T hc he).2, (te_lt T hc he).2⟩)
 have hpa : Op2 C (n + 1) (binaryOp .Pow) (.int 2) (.int (aliveN te R s b : Nat)) S3 (.int ((2 : Int) ^ aliveN te R s b)) S3 := by
  have := O.pow (C := C) (n := n + 1) (a := 2) (b := (aliveN te R s b : Nat)) (st := S3) (by omega) (by omega) (by decide)
  rwa [Int.toNat_natCast] at this
 have hmul : Op2 C (n + 1) (binaryOp .Mult) (.int ((2 : Int) ^ aliveN te R s b)) (.int (lostN te c b (manyN te s) : Nat)) S3 (.int ((2 : Int) ^ aliveN te R s b * (lostN te c b (manyN te s) : Nat))) S3 := O.mul (pow_fit (by omega)) (by omega)
 have hpe : Op2 C (n + 1) (binaryOp .Pow) (.int 2) (.int ((manyN te s : Int) - c + (partsP te s c : Nat))) S4 (.int ((2 : Int) ^ ((manyN te s : Int) - c + (partsP te s c : Nat)).toNat)) S4 :=
  O.pow (C := C) (n := n + 1) h0 (by omega) (by decide)
 have hne : Op2 C (n + 1) (compareOp .NotEq) (.int ((2 : Int) ^ aliveN te R s b * (lostN te c b (manyN te s) : Nat))) (.int ((2 : Int) ^ ((manyN te s : Int) - c + (partsP te s c : Nat)).toNat)) S4 (.bool false) S4 := by
  have := O.ne (C := C) (n := n + 1) (a := (2 : Int) ^ aliveN te R s b * (lostN te c b (manyN te s) : Nat)) (b := (2 : Int) ^ ((manyN te s : Int) - c + (partsP te s c : Nat)).toNat) (st := S4)
  rw [h3] at this ⊢
  simpa using this
 refine ⟨S4, ("lost", .int (lostN te c b (manyN te s) : Nat)) :: ("alive", .int (aliveN te R s b : Nat)) :: ("many", .int (manyN te s : Nat)) :: ("since", .int s) :: loJ su sh b bo lz br bi si i th due t c w, ((a1.trans b1).trans c1).trans d1, ?_, ?_⟩
 ·exact ⟨rfl, rfl, rfl, rfl, rfl, rfl, rfl, rfl, rfl, rfl, rfl, rfl, rfl, rfl, trivial⟩
 ·apply Ex.cons (st1 := S1) (lo1 := ("many", .int (manyN te s : Nat)) :: ("since", .int s) :: loJ su sh b bo lz br bi si i th due t c w)
  ·apply Ex1.asg (p := .int (manyN te s : Nat)) (st1 := S1)
   ·apply Ev.callb (id := "len") (ps := [.ref S.length]) (st1 := S) (st2 := S1)
    ·walk_at "ev"
    ·exact EvL.cons a3 EvL.nil
    ·exact l1
   ·exact As.name (.inr rfl)
  apply Ex.cons (st1 := S2) (lo1 := ("alive", .int (aliveN te R s b : Nat)) :: ("many", .int (manyN te s : Nat)) :: ("since", .int s) :: loJ su sh b bo lz br bi si i th due t c w)
  ·apply Ex1.asg (p := .int (aliveN te R s b : Nat)) (st1 := S2)
   ·apply Ev.callb (id := "len") (ps := [.ref S1.length]) (st1 := S1) (st2 := S2)
    ·walk_at "ev"
    ·exact EvL.cons b3 EvL.nil
    ·exact l2
   ·exact As.name (.inl rfl)
  apply Ex.cons (st1 := S3) (lo1 := ("lost", .int (lostN te c b (manyN te s) : Nat)) :: ("alive", .int (aliveN te R s b : Nat)) :: ("many", .int (manyN te s : Nat)) :: ("since", .int s) :: loJ su sh b bo lz br bi si i th due t c w)
  ·apply Ex1.asg (p := .int (lostN te c b (manyN te s) : Nat)) (st1 := S3)
   ·apply Ev.callb (id := "len") (ps := [.ref S2.length]) (st1 := S2) (st2 := S3)
    ·walk_at "ev"
    ·exact EvL.cons c3 EvL.nil
    ·exact l3
   ·exact As.name (.inl rfl)
  apply Ex.one
  apply Ex1.if_f (st1 := S4)
  ·apply Tr.cmp (st1 := S3) (st2 := S4)
   ·exact Ev.bin (Ev.bin Ev.cint (Ev.loc rfl rfl (by decide)) hpa) (Ev.loc rfl rfl (by decide)) hmul
   ·apply Ev.bin (st1 := S3) (st2 := S4)
    ·exact Ev.cint
    ·apply Ev.bin (st1 := S3) (st2 := S4)
     ·exact Ev.bin (Ev.cell rfl rfl (by decide)) (Ev.loc rfl rfl (by decide)) O.sub
     ·apply Ev.callf (ps := [.ref t, .int s, .int (c : Int)]) (st1 := S3) (st2 := S3)
      ·walk_at "ev"
      ·exact EvL.cons (Ev.loc rfl rfl (by decide)) (EvL.cons (Ev.cell rfl rfl (by decide)) (EvL.cons (Ev.loc rfl rfl (by decide)) EvL.nil))
      ·exact Px.K ‹Px _› _ _ rfl
      ·rfl
      ·exact d2
     ·exact O.add
    ·exact hpe
   ·exact hne
  ·exact Ex.nil
end
end
section
structure LawOk (c : Nat) (te : List Tie) (R : List Row) : Prop where
 few : R.length ≤ 10
 c1 : ∀ b ∈ vZ (boundsP te), ∀ r ∈ R, (sumsP (masksP te c b)).contains ((r.x : Nat) : Int) = decide (szP te r.d ≤ b)
 c2 : ∀ b ∈ vZ (boundsP te), (partsP te b c : Int) = (c : Int) - (looseN te R b : Nat)
 c3 : ∀ b ∈ vZ (boundsP te), ∀ s ∈ vZ (boundsP te), s ≤ b → 0 ≤ (manyN te s : Int) - c + (partsP te s c : Nat) ∧
  (2 : Int) ^ aliveN te R s b * (lostN te c b (manyN te s) : Nat) = (2 : Int) ^ ((manyN te s : Int) - c + (partsP te s c : Nat)).toNat
noncomputable abbrev EC5 : Expr := fI LF5
section
variable {C : Cx} (px : Px C) {n : Nat} {c : Nat} {te : List Tie} (T : TieOk c te) (hc : c ≤ 5) {t th i d l w due br bi si lz bo sh su : Nat} {R : List Row} {ids : List Nat} {S S0 : Sto} {b : Int}
include px T hc
theorem since_loop (H : LS c te R S t th si bi br lz bo ids) (hsu : S[su]? = some (.list ((sumsP (masksP te c b)).map .int))) (hz : R.length ≤ 10)
  (hb : b ∈ vZ (boundsP te)) (L : LawOk c te R) (hbz : (boundsP te).length ≤ 1000) :
  ∃ S', SExt S S' ∧ Ex1 C (n + 1) φla (loJ su sh b bo lz br bi si i th due t c w) LF5 S .next (loJ su sh b bo lz br bi si i th due t c w) S' := by
 have side : CompSide C φla (loJ su sh b bo lz br bi si i th due t c w) [("bound", .int b)] (lcI EC5) (lcS EC5) := ⟨⟨rfl, rfl, trivial⟩, by decide, rfl, by decide, by intro _ _; rfl⟩
 have hbo := H.bounds
 rw [vI_eq] at hbo
 have hvz : (vZ (boundsP te)).length ≤ 1000 := by unfold vZ; rw [List.length_map]; exact hbz
 obtain ⟨S1, a1, a2, a3⟩ := ints_comp (C := C) (n := n + 1) (φ := φla) (e := EC5) (t := bo) (xs := vZ (boundsP te)) (fun a => if decide (a ≤ b) then some (.int a) else none) (Ev.loc (lo := loJ su sh b bo lz br bi si i th due t c w) rfl rfl (by decide)) hbo side (by omega)
  (fun a ha S1 e1 => stepC_test (lo1 := ("one", .int a) :: [("bound", .int b)]) (AsL.name rfl) ⟨rfl, trivial⟩ (Tr.cmp (Ev.loc rfl rfl (by decide)) (Ev.cell rfl rfl (by decide)) O.le) (Ev.loc rfl rfl (by decide)))
 rw [filterMap_if (vZ (boundsP te)) (fun a => decide (a ≤ b)) (fun a => .int a)] at a2
 generalize hX : (vZ (boundsP te)).filter (fun a => decide (a ≤ b)) = X at a2
 have hXm : ∀ a ∈ X, a ∈ vZ (boundsP te) ∧ a ≤ b := fun a ha => by
  rw [← hX] at ha
  have := List.mem_filter.mp ha
  exact ⟨this.1, by simpa using this.2⟩
 obtain ⟨lo', st', ⟨e1, e2⟩, hf⟩ := Fo.inv0 (C := C) (n := n + 1) (φ := φla) (t := fT LF5) (b := IB) (It := ListIt S.length)
  (fun k lo s => lo = loJ su sh b bo lz br bi si i th due t c w ∧ SExt S1 s)
  X.length (lo := loJ su sh b bo lz br bi si i th due t c w) (st := S1) ⟨rfl, SExt.refl _⟩
  (fun k lo s hk ⟨e1, e2⟩ => by
   subst e1
   have hp : X[k]? = some X[k] := List.getElem?_eq_getElem hk
   obtain ⟨m1, m2⟩ := hXm _ (List.getElem_mem hk)
   generalize X[k] = v at hp m1 m2
   obtain ⟨q1, q2⟩ := L.c3 b hb v m1 m2
   obtain ⟨S', lo', f1, f2, f3⟩ := since_walk px T hc (n := n) (i := i) (due := due) (w := w) (sh := sh) (H.ext (a1.trans e2)) ((a1.trans e2) _ _ hsu) hz q1 q2
   apply StepI.mk (p := .int v) (lo3 := loJ su sh b bo lz br bi si i th due t c w) (st2 := S')
   ·exact ⟨rfl, e2.trans f1⟩
   ·exact ⟨_, e2 _ _ a2, by rw [List.getElem?_map, hp]; rfl⟩
   ·exact As.name (.inr rfl)
   ·exact f3
   ·exact f2)
  (fun lo s ⟨e1, e2⟩ => ⟨_, e2 _ _ a2, by rw [List.getElem?_eq_none (by rw [List.length_map]; exact Nat.le_refl _)]⟩)
 subst e1
 exact ⟨st', a1.trans e2, Ex1.forE (ItrE.of a3 (Itr.list a2)) hf (by intro _ _; rfl)⟩
theorem bounds_loop (H : LS c te R S t th si bi br lz bo ids) (hz : R.length ≤ 10) (L : LawOk c te R) (hbz : (boundsP te).length ≤ 1000) :
  ∃ S', SExt S S' ∧ Ex1 C (n + 1) φla (loH bo lz br bi si i th due t c w) LF4 S .next (loH bo lz br bi si i th due t c w) S' := by
 have hbo := H.bounds
 rw [vI_eq] at hbo
 obtain ⟨lo', st', ⟨e1, e2⟩, hf⟩ := Fo.inv0 (C := C) (n := n + 1) (φ := φla) (t := fT LF4) (b := BB) (It := ListIt bo)
  (fun k lo s => lo = loH bo lz br bi si i th due t c w ∧ SExt S s)
  (vZ (boundsP te)).length (lo := loH bo lz br bi si i th due t c w) (st := S) ⟨rfl, SExt.refl _⟩
  (fun k lo s hk ⟨e1, e2⟩ => by
   subst e1
   have hp : (vZ (boundsP te))[k]? = some (vZ (boundsP te))[k] := List.getElem?_eq_getElem hk
   have hm := List.getElem_mem hk
   generalize (vZ (boundsP te))[k] = b at hp hm
   have H0 := H.ext e2
   obtain ⟨S1, f1, f2, f3⟩ := short_walk px T hc (n := n + 1) (b := b) (i := i) (due := due) (w := w) H0
   obtain ⟨S2, su, g1, g2, g3⟩ := sums_walk px T hc (n := n) (i := i) (due := due) (w := w) H0 f1 f2
   obtain ⟨S3, h1, h2⟩ := check1_walk px T hc (n := n + 1) (i := i) (due := due) (w := w) (sh := s.length) ((H0.ext f1).ext g1) g2 (by omega) (L.c1 b hm)
   obtain ⟨S4, i1, i2⟩ := check2_walk px T hc (n := n) (i := i) (due := due) (w := w) (sh := s.length) (su := su) (((H0.ext f1).ext g1).ext h1) (L.c2 b hm)
   obtain ⟨S5, j1, j2⟩ := since_loop px T hc (n := n) (i := i) (due := due) (w := w) (sh := s.length) ((((H0.ext f1).ext g1).ext h1).ext i1) ((h1.trans i1) _ _ g2) hz hm L hbz
   apply StepI.mk (p := .int b) (lo3 := loH bo lz br bi si i th due t c w) (st2 := S5)
   ·exact ⟨rfl, e2.trans ((((f1.trans g1).trans h1).trans i1).trans j1)⟩
   ·exact ⟨_, e2 _ _ hbo, by rw [List.getElem?_map, hp]; rfl⟩
   ·exact As.name (.inr rfl)
   ·exact Ex.cons f3 (Ex.cons g3 (Ex.cons h2 (Ex.cons i2 (Ex.one j2))))
   ·exact ⟨rfl, rfl, rfl, rfl, rfl, rfl, rfl, rfl, rfl, rfl, rfl, trivial⟩)
  (fun lo s ⟨e1, e2⟩ => ⟨_, e2 _ _ hbo, by rw [List.getElem?_eq_none (by rw [List.length_map]; exact Nat.le_refl _)]⟩)
 subst e1
 exact ⟨st', e2, Ex1.forE (ItrE.of (Ev.loc (p := .ref bo) rfl rfl (by decide)) (Itr.list hbo)) hf (by intro _ _; rfl)⟩
end
end
section
theorem dedF_len : ∀ (vs acc : List Nat), (vs.foldl dedS acc).length ≤ acc.length + vs.length
 | [], acc => by simp
 | v :: vs, acc => by
  have h := dedF_len vs (dedS acc v)
  have h2 : (dedS acc v).length ≤ acc.length + 1 := by
   unfold dedS
   split
   ·omega
   ·rw [List.length_append]; simp
  rw [List.foldl_cons, List.length_cons]
  omega
theorem dedN_len (vs : List Nat) : (dedN vs).length ≤ vs.length := by
 have := dedF_len vs []
 simpa [dedN] using this
theorem allT_pairs {xs : List Str} {L : Str → Str → Int} {c : Nat} : (allT xs L c).length = (pairsN c).length := by unfold allT; rw [List.length_map]
section
variable {C : Cx} (px : Px C) {n : Nat} {xs : List Str} (hk : ∀ x ∈ xs, x ∈ kindsL) (h4 : 4 ≤ xs.length) (h5 : xs.length ≤ 5) {w : Nat} {S : Sto}
include px hk h4 h5
theorem law_rest (hw : S[w]? = some (.list (xs.map .str))) (LO : ∀ te R, TieOk xs.length te → RedOk xs.length te R → LawOk xs.length te R) :
  ∃ S' lo', Ex C (n + 5) φla [("words", .ref w)] (LB.drop 1) S (.ret (.bool true)) lo' S' := by
 have hlk : LevOk xs levD := ⟨fun x hx => Nat.le_trans (word_ok (hk x hx)).len (by decide), fun x hx y hy => (lev_ok (hk x hx) (hk y hy)).1, h5⟩
 have hcnt : Cl C (n + 5) (.builtin "len") [.ref w] S (.int (xs.length : Nat)) S := by
  have := _root_.Mine.C.len_list (C := C) (n := n + 5) hw (by rw [List.length_map]; omega)
  rwa [List.length_map] at this
 obtain ⟨S1, t, a1, a2, a3⟩ := sp_ties px (n := n + 1) hlk hw
 obtain ⟨te, b1, T, b3⟩ := ties_sorted (xs := xs) (L := levD) h5 (fun q hq => by
  have hq := pairs_lt hq
  have := lev_ok (hk _ (getD_mem' (xs := xs) (i := q.1) (by omega))) (hk _ (getD_mem' (xs := xs) (i := q.2) (by omega)))
  exact ⟨this.2.2.2.1, this.2.2.2.2⟩)
 rw [b1] at a2
 have hm := tie_len T h5
 have e1 : SExt S1 (S1 ++ [.list []]) := SExt.app _ _
 obtain ⟨S2, c1, c2, c3⟩ := ldue_out px hk h5 (n := n + 3) (w := w) (t := t) (due := S1.length) (base := S1) (st := S1 ++ [.list []]) (Nat.le_refl _) e1 (a1 _ _ hw) gl
 rw [tieList_eq] at c2
 have hal : (allT xs levD xs.length).length = te.length := b3.length_eq.symm
 have hal2 : 2 ≤ (allT xs levD xs.length).length := by
  rw [allT_pairs]
  have : xs.length = 4 ∨ xs.length = 5 := by omega
  rcases this with h | h <;> rw [h] <;> decide
 have hso := _root_.Mine.C.sorted_tups (C := C) (n := n + 5) (i := S1.length) (xs := (allT xs levD xs.length).map tnm) (ys := te.map tnm) (st := S2) c2 (by rw [List.length_map]; exact hal2) (by rw [List.length_map]; omega) (b3.map _) (by rw [List.pairwise_map]; exact T.order)
 have c4 := c1 _ _ a2
 generalize hS3 : S2 ++ [Ob.list (tpv (te.map tnm))] = S3 at hso
 have d1 : SExt S2 S3 := hS3 ▸ SExt.app _ _
 have d2 : S3[S2.length]? = some (.list (tpe te)) := hS3 ▸ gl
 have hne := O.ne_same (C := C) (n := n + 5) (d1 _ _ c4) d2 rfl (fun k p q hp hq => by
  have e : p = q := by rw [hp] at hq; exact Option.some.inj hq
  subst e
  unfold tpe tpv at hp
  have hpm := List.mem_of_getElem? hp
  obtain ⟨v, _, rfl⟩ := List.mem_map.mp hpm
  have := EqP.tup (C := C) (n := n + 5) (st := S3) (a := v.1) (b := v.1) (x := v.2) (y := v.2)
  simpa using this)
 obtain ⟨S4, ids, H4, f2⟩ := sp_threes px (n := n + 4) (c := xs.length) (st := S3) h5
 have ht4 : S4[t]? = some (.list (tpe te)) := H4.ext _ _ (d1 _ _ c4)
 obtain ⟨S5, i, d, l, R, g1, g2, g3, g4⟩ := sp_reduced px (n := n) T h5 ht4 H4.tab H4.lists
 have L := LO te R T g3
 have hz := L.few
 have ht5 := g1 _ _ ht4
 obtain ⟨S6, si, h1, h2, h3⟩ := sizes_walk px T h5 (n := n + 4) (i := i) (th := S3.length) (due := S1.length) (w := w) ht5
 obtain ⟨S7, bi, i1, i2, i3⟩ := bits_walk px T h5 (n := n + 4) (i := i) (th := S3.length) (due := S1.length) (w := w) (si := si) (h1 _ _ ht5)
 have ht7 := i1 _ _ (h1 _ _ ht5)
 have H7 := (g2.ext h1).ext i1
 have j0 : SExt S7 (S7 ++ [.list []]) := SExt.app _ _
 have j0' : SExt (S7 ++ [.list []]) (S7 ++ [.list []] ++ [.list (hpv (R.map (rowTxt te)))]) := SExt.app _ _
 have hitm := sp_items px (n := n + 4) (H7.ext j0)
 obtain ⟨S8, j1, j2, j3⟩ := bars_loop px T h5 (n := n + 4) (i := i) (th := S3.length) (due := S1.length) (t := t) (w := w) (br := S7.length) (bi := bi) (si := si) (R := R) (base := S7) (S := S7 ++ [.list []] ++ [.list (hpv (R.map (rowTxt te)))]) (it := (S7 ++ [Ob.list []]).length) g3.rows (j0.trans j0') (Nat.le_refl _) i2 (i1 _ _ h2) gl (by rw [List.length_append]; simp) (ga gl) (by omega)
 have g8 : (S7 ++ [Ob.list []] ++ [Ob.list (hpv (R.map (rowTxt te)))])[(S7 ++ [Ob.list []]).length]? = some (.list (hpv (R.map (rowTxt te)))) := gl
 have ev8 : Ev C (n + 5) φla (loG S7.length bi si i S3.length S1.length t xs.length w) (fI LF3) (S7 ++ [.list []]) (.ref (S7 ++ [Ob.list []]).length) (S7 ++ [.list []] ++ [.list (hpv (R.map (rowTxt te)))]) := by
  apply Ev.methH0 px (st1 := S7 ++ [.list []]) (i := i) (d := d) (f := 184)
  ·exact Ev.cell rfl rfl (by decide)
  ·exact (H7.ext j0).inst
  ·exact (H7.ext j0).ns
  ·rfl
  ·exact hd_items _
  ·kernel_rfl
  ·kernel_rfl
  ·exact hitm
 have hit8 : ItrE C (n + 5) φla (loG S7.length bi si i S3.length S1.length t xs.length w) (fI LF3) (S7 ++ [.list []]) (ListIt (S7 ++ [Ob.list []]).length) (S7 ++ [.list []] ++ [.list (hpv (R.map (rowTxt te)))]) := ItrE.of ev8 (Itr.list g8)
 obtain ⟨S9, k1, k2, k3⟩ := loose_walk px T h5 (n := n + 3) (i := i) (th := S3.length) (due := S1.length) (w := w) (br := S7.length) (bi := bi) (si := si) (j1 _ _ ht7) (H7.ext j1)
 obtain ⟨S10, bo, l1, l2, l3⟩ := bounds_walk px T h5 (n := n + 4) (i := i) (th := S3.length) (due := S1.length) (w := w) (br := S7.length) (bi := bi) (si := si) (lz := S8.length) (k1 _ _ (j1 _ _ ht7))
 have z1 : SExt S4 S7 := (g1.trans h1).trans i1
 have z2 : SExt S8 S10 := k1.trans l1
 have z3 : SExt S7 S10 := j1.trans z2
 have HS : LS xs.length te R S10 t S3.length si bi S7.length S8.length bo ids :=
  ⟨z3 _ _ ht7, (z1.trans z3) _ _ H4.tab, H4.lists.ext (z1.trans z3), (i1.trans z3) _ _ h2, z3 _ _ i2, z2 _ _ j2, l1 _ _ k2, l2⟩
 have hbz : (boundsP te).length ≤ 1000 := by
  have := dedN_len (te.map fun e => e.1.toNat)
  rw [List.length_map] at this
  unfold boundsP; omega
 obtain ⟨S11, m1, m2⟩ := bounds_loop px T h5 (n := n + 4) (i := i) (due := S1.length) (w := w) HS hz L hbz
 refine ⟨S11, loH bo S8.length S7.length bi si i S3.length S1.length t xs.length w, ?_⟩
 apply Ex.cons (lo1 := [("count", .int (xs.length : Nat)), ("words", .ref w)]) (st1 := S)
 ·apply Ex1.asg (p := .int (xs.length : Nat)) (st1 := S)
  ·apply Ev.callb (id := "len") (ps := [.ref w]) (st1 := S) (st2 := S)
   ·walk_at "ev"
   ·exact EvL.cons (Ev.loc rfl rfl (by decide)) EvL.nil
   ·exact hcnt
  ·exact As.name (.inl rfl)
 apply Ex.cons (lo1 := [("ties", .ref t), ("count", .int (xs.length : Nat)), ("words", .ref w)]) (st1 := S1)
 ·apply Ex1.asg (p := .ref t) (st1 := S1)
  ·apply Ev.callf (ps := [.ref w]) (st1 := S) (st2 := S)
   ·walk_at "ev"
   ·exact EvL.cons (Ev.loc rfl rfl (by decide)) EvL.nil
   ·exact Px.K ‹Px _› _ _ rfl
   ·rfl
   ·exact a3
  ·exact As.name (.inl rfl)
 apply Ex.cons (lo1 := loD S1.length t xs.length w) (st1 := S1 ++ [.list []])
 ·apply Ex1.asg (p := .ref S1.length) (st1 := S1 ++ [.list []])
  ·exact Ev.list EvL.nil
  ·exact As.name (.inl rfl)
 apply Ex.cons (lo1 := loD S1.length t xs.length w) (st1 := S2)
 ·exact Ex1.forE (it_var px (m := xs.length) rfl rfl (by decide) rfl (by omega)) c3 (by intro _ _; rfl)
 apply Ex.cons (lo1 := loD S1.length t xs.length w) (st1 := S3)
 ·apply Ex1.if_f (st1 := S3)
  ·apply Tr.cmp (p := .ref t) (q := .ref S2.length) (st1 := S2) (st2 := S3)
   ·exact Ev.loc rfl rfl (by decide)
   ·apply Ev.callb (id := "sorted") (ps := [.ref S1.length]) (st1 := S2) (st2 := S2)
    ·walk_at "ev"
    ·exact EvL.cons (Ev.loc rfl rfl (by decide)) EvL.nil
    ·exact hso
   ·exact hne
  ·exact Ex.nil
 apply Ex.cons (lo1 := ("threes", .ref S3.length) :: loD S1.length t xs.length w) (st1 := S4)
 ·apply Ex1.asg (p := .ref S3.length) (st1 := S4)
  ·apply Ev.callf (ps := [.int (xs.length : Nat)]) (st1 := S3) (st2 := S3)
   ·walk_at "ev"
   ·exact EvL.cons (Ev.loc rfl rfl (by decide)) EvL.nil
   ·exact Px.K ‹Px _› _ _ rfl
   ·rfl
   ·exact f2
  ·exact As.name (.inl rfl)
 apply Ex.cons (lo1 := loE i S3.length S1.length t xs.length w) (st1 := S5)
 ·apply Ex1.asg (p := .ref i) (st1 := S5)
  ·apply Ev.callf (ps := [.ref t, .ref S3.length]) (st1 := S4) (st2 := S4)
   ·walk_at "ev"
   ·exact EvL.cons (Ev.loc rfl rfl (by decide)) (EvL.cons (Ev.loc rfl rfl (by decide)) EvL.nil)
   ·exact Px.K ‹Px _› _ _ rfl
   ·rfl
   ·exact g4
  ·exact As.name (.inr rfl)
 refine Ex.cons h3 (Ex.cons i3 ?_)
 apply Ex.cons (lo1 := loG S7.length bi si i S3.length S1.length t xs.length w) (st1 := S7 ++ [.list []])
 ·apply Ex1.asg (p := .ref S7.length) (st1 := S7 ++ [.list []])
  ·exact Ev.list EvL.nil
  ·exact As.name (.inl rfl)
 apply Ex.cons (lo1 := loG S7.length bi si i S3.length S1.length t xs.length w) (st1 := S8)
 ·exact Ex1.forE hit8 j3 (by intro _ _; rfl)
 refine Ex.cons k3 (Ex.cons l3 (Ex.cons m2 ?_))
 apply Ex.stop
 ·exact Ex1.ret Ev.cbool
 ·intro h; cases h
end
end
section
noncomputable def LawAll : Prop := ∀ c, c ≤ 5 → ∀ te R, TieOk c te → RedOk c te R → LawOk c te R
theorem sp_law {C : Cx} (px : Px C) {n : Nat} {s : List Int} {a : Addr} {S : Sto} (hs : StaI C a s) (hsz : s.length < 2 ^ 62) (LA : LawAll) :
  ∃ S', Cl C (n + 6) (.ref 291) [.sta (.ref a)] S (.bool true) S' := by
 have key : ∀ g : List Int, 4 ≤ g.length → g.length ≤ 5 → Ev C (n + 5) φla [("script", .sta (.ref a))] (argE 1 (vOf (sAt LB 0))) S (.ref S.length) (S ++ [.list (g.map .int)]) →
   ∃ S', Cl C (n + 6) (.ref 291) [.sta (.ref a)] S (.bool true) S' := by
  intro g h4 h5 hg
  obtain ⟨S1, w, a1, a2, a3⟩ := sp_words px (n := n + 4) (g := g) (gi := S.length) (st := S ++ [.list (g.map .int)]) hs hsz gl h5
  have hl := wordsP_len g s
  obtain ⟨S2, lo', b1⟩ := law_rest px (n := n) (xs := wordsP g s) (w := w) (S := S1) (fun x hx => wordsP_mem hx) (by omega) (by omega) a2 (LA _ (by omega))
  refine ⟨S2, ?_⟩
  have body : Ex C (n + 5) φla [("script", .sta (.ref a))] (bodyOf (stAt 29)) S (.ret (.bool true)) lo' S2 := by
   refine Ex.cons (lo1 := [("words", .ref w)]) (st1 := S1) ?_ b1
   refine Ex1.sub (lo1 := ("words", .ref w) :: [("script", .sta (.ref a))]) ?_ (SubL.ok ⟨rfl, trivial⟩)
   apply Ex1.asg (p := .ref w) (st1 := S1)
   ·apply Ev.callf (ps := [.sta (.ref a), .ref S.length]) (st1 := S) (st2 := S ++ [.list (g.map .int)])
    ·walk_at "ev"
    ·exact EvL.cons (Ev.loc rfl rfl (by decide)) (EvL.cons hg EvL.nil)
    ·exact Px.K ‹Px _› _ _ rfl
    ·rfl
    ·exact a3
   ·exact As.name (.inl rfl)
  refine Cl.fn (names := ["script"]) (body := bodyOf (stAt 29)) (px.K 291 _ rfl) rfl rfl rfl (codeRec_of px.K rfl) rfl rfl ?_ ?_ ?_ body rfl ?_
  ·intro vs hv
   obtain ⟨v1, rfl⟩ := len1 hv
   rfl
  ·decide
  ·decide +kernel
  ·decide
 have hlen := _root_.Mine.C.len_sta (C := C) (n := n + 5) (st := S) hs hsz
 by_cases h2 : s.length > 2
 ·refine key [5, 6, 10, 9, 8] (by decide) (by decide) ?_
  apply Ev.if_t (st1 := S)
  ·have hgt : Op2 C (n + 5) (compareOp .Gt) (.int s.length) (.int 2) S (.bool true) S := by
    have := O.gt (C := C) (n := n + 5) (a := (s.length : Nat)) (b := 2) (st := S)
    rwa [show decide (((s.length : Nat) : Int) > 2) = true by simp; omega] at this
   refine Tr.cmp (p := .int s.length) (q := .int 2) (st1 := S) (st2 := S) ?_ Ev.cint hgt
   apply Ev.callb (id := "len") (ps := [.sta (.ref a)]) (st1 := S) (st2 := S)
   ·walk_at "ev"
   ·exact EvL.cons (Ev.loc rfl rfl (by decide)) EvL.nil
   ·exact hlen
  ·exact Ev.list (ps := [.int 5, .int 6, .int 10, .int 9, .int 8]) (EvL.cons Ev.cint (EvL.cons Ev.cint (EvL.cons Ev.cint (EvL.cons Ev.cint (EvL.cons Ev.cint EvL.nil)))))
 ·refine key [5, 6, 10, 9] (by decide) (by decide) ?_
  apply Ev.if_f (st1 := S)
  ·have hgt : Op2 C (n + 5) (compareOp .Gt) (.int s.length) (.int 2) S (.bool false) S := by
    have := O.gt (C := C) (n := n + 5) (a := (s.length : Nat)) (b := 2) (st := S)
    rwa [show decide (((s.length : Nat) : Int) > 2) = false by simp; omega] at this
   refine Tr.cmp (p := .int s.length) (q := .int 2) (st1 := S) (st2 := S) ?_ Ev.cint hgt
   apply Ev.callb (id := "len") (ps := [.sta (.ref a)]) (st1 := S) (st2 := S)
   ·walk_at "ev"
   ·exact EvL.cons (Ev.loc rfl rfl (by decide)) EvL.nil
   ·exact hlen
  ·exact Ev.list (ps := [.int 5, .int 6, .int 10, .int 9]) (EvL.cons Ev.cint (EvL.cons Ev.cint (EvL.cons Ev.cint (EvL.cons Ev.cint EvL.nil))))
end
section
theorem fin {C : Cx} (px : Px C) (LA : LawAll) {xs : List Int} {a fa : Addr} {vs : List Value} {s1 : Shared} {P : Value → Shared → Prop} {E : Value → Shared → Prop}
  (hS : C.S0 = s1) (hfa : C.mg (Str.ofString "law") = some (.ref fa)) (hL : s1.heap.IsList a vs.toArray) (hI : IntsAre vs xs) (hz : xs.length ≤ 63)
  (hP : ∀ s', (∀ b o, s1.heap.get? b = some o → s'.heap.get? b = some o) → s'.os = s1.os → s'.gens = s1.gens → P (.bool true) s') :
  wpAny (model C.prog C.w) callerA (call (.ref fa) [.ref a] []) P E s1 := by
 have e : fa = 291 := by
  have := g_law px
  rw [hfa] at this
  simpa using this
 subst e
 obtain ⟨S', h⟩ := sp_law px (n := 0) (s := xs) (a := a) (S := []) ⟨vs, hS ▸ hL, hI⟩ (by omega) LA
 have H0 : Hp C [] [] s1 :=
  { old := fun b o e => hS ▸ e, ge := hS ▸ Nat.le_refl _, new := (by simp), lt := (by simp), nodup := List.nodup_nil, len := rfl, obs := (by simp), gens := hS ▸ rfl, os := hS ▸ rfl }
 have := h callerA s1 [] [.ref a] ⟨rfl, by decide, by decide⟩ H0 (RepL.cons _ _ _ _ (Rep.sta _) RepL.nil)
 refine noE this fun v s' ⟨ρ', H', G, R⟩ => ?_
 (replace R := R.inv; first | obtain rfl := R | obtain ⟨_, rfl⟩ := R)
 exact hP s' (fun b o e => H'.old b o (by rw [hS]; exact e)) (by rw [H'.os, hS]) (by rw [H'.gens, hS])
set_option tactic.hygienic true in
set_option maxHeartbeats 8000000 in
theorem top (LA : LawAll) : PySem.Challenge.rw_pg0295_01.Holds := by
 refine holds_law (by rw [Fast.te9446332074065402090]; decide +kernel) fun said => ?_
 refine holds_open (q := hd.view_39) (loose := [Str.ofString "_name_disallowed_re", Str.ofString "_value_disallowed_re"]) (Xt := fun s => xlAt hd.view_39 [] s && recOk PySem.Challenge.rw_pg0295_01.row.records s) (XP := XL hd.view_39 []) (Yf := hd.hk.obs) (Ya := hd.hk.val) (YP := hd.hk.says) (N := 3164) hd.left hd.hk.of hd.hk.keeps (fun s e => xl_of s (Bool.and_eq_true_iff.mp e).1) XL.keeps (by rfl) (by rfl) (by rfl) (fun s e => recFacts_of (Bool.and_eq_true_iff.mp e).2) (by rfl) said (by decide +kernel) ⟨rfl, rfl, rfl, rfl, rfl, by decide +kernel⟩ ⟨[WData.list []], by decide +kernel, by decide +kernel⟩ ?_
 k_fill
 intro w s0 s1 mg mb G Y fa o pm cd doc dV kV ho hdd hcd hD hmg hg args vals as hpre hlay hrd hwl hlo
 have KX := kIn_of Y
 clear Y hcd hD
 have hnm : mg (Str.ofString "law") = some (.ref fa) := hmg
 clear hmg hdd
 have T := G.T
 wrow_args hpre hlay hrd hwl hlo
 rename_i xs _ _ _ _ _ _ _ a vs _ hL _ _ _ hI _ hz _
 refine fin (C := { prog := _, w := w, S0 := s1, mg := mg, mb := mb, g := T.g, b := T.b, lim := T.nolimit, gens := hg }) ⟨KX, T.builtins⟩ LA rfl hnm hL hI (by omega) ?_
 intro s' h1 h2 h3
 refine ⟨.inl ⟨.bool true, .bool true, [], rfl, ?_, .bool _, ?_, ?_⟩, .of_keep h1, h2, .of_eq (h3.trans hg)⟩
 ·intro cls; rfl
 ·show (WShape.has [] (.bool true) .bool && WTm.holds [] (.eq .res (.lit (.bool true))) { args := [ofPy (PyData.list (List.map PyData.int xs))], res := some (.bool true), after := [ofPy (PyData.list (List.map PyData.int xs))] }) = true
  simp [WTm.holds, WTm.value, WShape.has, same_self, WShape.arms]
 ·intro _; exact ⟨List.nodup_nil, by simp⟩
end
section
inductive Sp (L : List Nat) : Nat → Prop
 | zero : Sp L 0
 | add {x y : Nat} : Sp L x → y ∈ L → Sp L (x ^^^ y)
theorem Sp.mem {L : List Nat} {y : Nat} (h : y ∈ L) : Sp L y := by
 have := Sp.add Sp.zero h
 rwa [Nat.zero_xor] at this
theorem Sp.xor {L : List Nat} {x y : Nat} (hx : Sp L x) (hy : Sp L y) : Sp L (x ^^^ y) := by
 induction hy with
 | zero => rwa [Nat.xor_zero]
 | add _ hm ih => rw [← Nat.xor_assoc]; exact .add ih hm
theorem Sp.sub {L L' : List Nat} {x : Nat} (h : Sp L x) (hs : ∀ y ∈ L, Sp L' y) : Sp L' x := by
 induction h with
 | zero => exact .zero
 | add _ hm ih => exact ih.xor (hs _ hm)
theorem Sp.mono {L L' : List Nat} {x : Nat} (h : Sp L x) (hs : ∀ y ∈ L, y ∈ L') : Sp L' x := h.sub fun y hy => .mem (hs y hy)
theorem xor_back (x a : Nat) : (x ^^^ a) ^^^ a = x := by rw [Nat.xor_assoc, Nat.xor_self, Nat.xor_zero]
theorem Sp.cons {L : List Nat} {a y : Nat} : Sp (a :: L) y ↔ Sp L y ∨ Sp L (y ^^^ a) := by
 constructor
 ·intro h
  induction h with
  | zero => exact .inl .zero
  | @add x z _ hm ih =>
   rcases List.mem_cons.mp hm with rfl | hm
   ·rcases ih with ih | ih
    ·exact .inr (by rwa [xor_back])
    ·exact .inl ih
   ·rcases ih with ih | ih
    ·exact .inl (.add ih hm)
    ·refine .inr ?_
     have := Sp.add ih hm
     rwa [Nat.xor_assoc, Nat.xor_comm a z, ← Nat.xor_assoc] at this
 ·rintro (h | h)
  ·exact h.mono fun y hy => List.mem_cons_of_mem _ hy
  ·have h1 : Sp (a :: L) (y ^^^ a) := h.mono fun y hy => List.mem_cons_of_mem _ hy
   have := Sp.add h1 (List.mem_cons_self (a := a) (l := L))
   rwa [xor_back] at this
theorem Sp.lt {L : List Nat} {k y : Nat} (hL : ∀ z ∈ L, z < 2 ^ k) (h : Sp L y) : y < 2 ^ k := by
 induction h with
 | zero => exact Nat.two_pow_pos k
 | add _ hm ih => exact Nat.xor_lt_two_pow ih (hL _ hm)
noncomputable def Tp (y p : Nat) : Prop := y.testBit p = true ∧ y < 2 ^ (p + 1)
theorem bit_hi {y p q : Nat} (h : y < 2 ^ p) (hq : p ≤ q) : y.testBit q = false := Nat.testBit_lt_two_pow (Nat.lt_of_lt_of_le h (Nat.pow_le_pow_right (by decide) hq))
theorem Tp.uniq {y p q : Nat} (h1 : Tp y p) (h2 : Tp y q) : p = q := by
 rcases Nat.lt_trichotomy p q with h | h | h
 ·have := bit_hi h1.2 (show p + 1 ≤ q by omega); rw [h2.1] at this; cases this
 ·exact h
 ·have := bit_hi h2.2 (show q + 1 ≤ p by omega); rw [h1.1] at this; cases this
theorem Tp.xor {x y p q : Nat} (hx : Tp x p) (hy : Tp y q) (h : p < q) : Tp (x ^^^ y) q := by
 refine ⟨?_, Nat.xor_lt_two_pow (Nat.lt_of_lt_of_le hx.2 (Nat.pow_le_pow_right (by decide) (by omega))) hy.2⟩
 rw [Nat.testBit_xor, hy.1, bit_hi hx.2 (by omega)]; rfl
theorem Tp.low {x y k q : Nat} (hx : x < 2 ^ k) (hy : Tp y q) (h : k ≤ q) : Tp (x ^^^ y) q := by
 refine ⟨?_, Nat.xor_lt_two_pow (Nat.lt_of_lt_of_le hx (Nat.pow_le_pow_right (by decide) (by omega))) hy.2⟩
 rw [Nat.testBit_xor, hy.1, bit_hi hx h]; rfl
theorem Tp.ne {y p : Nat} (h : Tp y p) : y ≠ 0 := by
 rintro rfl
 have := h.1
 rw [Nat.zero_testBit] at this; cases this
structure Ech (R : List Row) : Prop where
 nd : (R.map (·.p)).Nodup
 top : ∀ r ∈ R, Tp r.x r.p
theorem Ech.tail {r : Row} {R : List Row} (h : Ech (r :: R)) : Ech R := ⟨(List.nodup_cons.mp h.nd).2, fun s hs => h.top s (List.mem_cons_of_mem _ hs)⟩
theorem Ech.off {r : Row} {R : List Row} (h : Ech (r :: R)) : ∀ s ∈ R, s.p ≠ r.p := fun s hs e => (List.nodup_cons.mp h.nd).1 (List.mem_map.mpr ⟨s, hs, e⟩)
theorem Ech.filter {R : List Row} (f : Row → Bool) (h : Ech R) : Ech (R.filter f) :=
 ⟨h.nd.sublist (List.Sublist.map _ List.filter_sublist), fun r hr => h.top r (List.mem_filter.mp hr).1⟩
theorem ech_top : ∀ (R : List Row), Ech R → ∀ y, Sp (R.map (·.x)) y → y = 0 ∨ ∃ r ∈ R, Tp y r.p
 | [], _, y, h => by
  left
  have := h.lt (k := 0) (by intro z hz; simp at hz)
  simpa using this
 | r :: R, E, y, h => by
  have ih := ech_top R E.tail
  rw [List.map_cons] at h
  rcases Sp.cons.mp h with h | h
  ·rcases ih _ h with h | ⟨s, hs, ht⟩
   ·exact .inl h
   ·exact .inr ⟨s, List.mem_cons_of_mem _ hs, ht⟩
  ·right
   have hr := E.top r List.mem_cons_self
   have e : y = (y ^^^ r.x) ^^^ r.x := (xor_back y r.x).symm
   rcases ih _ h with h | ⟨s, hs, ht⟩
   ·rw [h, Nat.zero_xor] at e
    rw [e]
    exact ⟨r, List.mem_cons_self, hr⟩
   ·rcases Nat.lt_or_gt_of_ne (E.off s hs) with h1 | h1
    ·exact ⟨r, List.mem_cons_self, by rw [e]; exact ht.xor hr h1⟩
    ·exact ⟨s, List.mem_cons_of_mem _ hs, by rw [e, Nat.xor_comm]; exact hr.xor ht h1⟩
theorem ech_lt : ∀ (R : List Row), Ech R → ∀ y k, Sp (R.map (·.x)) y → y < 2 ^ k → Sp ((R.filter fun r => decide (r.p < k)).map (·.x)) y
 | [], _, y, k, h, _ => h
 | r :: R, E, y, k, h, hk => by
  have ih := ech_lt R E.tail
  rw [List.map_cons] at h
  have hr := E.top r List.mem_cons_self
  rw [List.filter_cons]
  by_cases hp : r.p < k
  ·rw [if_pos (by simpa using hp), List.map_cons]
   have hx : r.x < 2 ^ k := Nat.lt_of_lt_of_le hr.2 (Nat.pow_le_pow_right (by decide) hp)
   rcases Sp.cons.mp h with h | h
   ·exact Sp.cons.mpr (.inl (ih _ _ h hk))
   ·exact Sp.cons.mpr (.inr (ih _ _ h (Nat.xor_lt_two_pow hk hx)))
  ·rw [if_neg (by simpa using hp)]
   rcases Sp.cons.mp h with h | h
   ·exact ih _ _ h hk
   ·exfalso
    have ht : Tp (y ^^^ r.x) r.p := Tp.low hk hr (by omega)
    rcases ech_top R E.tail _ h with h0 | ⟨s, hs, hs2⟩
    ·exact ht.ne h0
    ·exact E.off s hs (hs2.uniq ht)
noncomputable def spanL : List Nat → List Nat
 | [] => [0]
 | a :: L => spanL L ++ (spanL L).map (· ^^^ a)
theorem spanL_len : ∀ L : List Nat, (spanL L).length = 2 ^ L.length
 | [] => rfl
 | a :: L => by
  unfold spanL
  rw [List.length_append, List.length_map, spanL_len L, List.length_cons, Nat.pow_succ]; omega
theorem spanL_mem : ∀ (L : List Nat) (y : Nat), y ∈ spanL L ↔ Sp L y
 | [], y => by
  unfold spanL
  rw [List.mem_singleton]
  constructor
  ·rintro rfl; exact .zero
  ·intro h
   have := h.lt (k := 0) (by intro z hz; simp at hz)
   simpa using this
 | a :: L, y => by
  unfold spanL
  rw [List.mem_append, spanL_mem L, Sp.cons, List.mem_map]
  refine or_congr Iff.rfl ?_
  constructor
  ·rintro ⟨z, hz, rfl⟩
   rw [xor_back]
   exact (spanL_mem L z).mp hz
  ·intro h
   exact ⟨y ^^^ a, (spanL_mem L _).mpr h, xor_back y a⟩
theorem spanL_nodup : ∀ R : List Row, Ech R → (spanL (R.map (·.x))).Nodup
 | [], _ => by simp [spanL]
 | r :: R, E => by
  rw [List.map_cons]
  unfold spanL
  have ih := spanL_nodup R E.tail
  have hr := E.top r List.mem_cons_self
  rw [List.nodup_append]
  refine ⟨ih, ?_, ?_⟩
  ·refine List.Pairwise.map _ (fun a b h => ?_) ih
   intro q
   apply h
   have := congrArg (· ^^^ r.x) q
   simpa only [xor_back] using this
  ·intro a ha b hb e
   subst e
   obtain ⟨z, hz, rfl⟩ := List.mem_map.mp hb
   have h1 := (spanL_mem _ _).mp ha
   have h2 := (spanL_mem _ _).mp hz
   have h3 := h1.xor h2
   have e3 : z ^^^ r.x ^^^ z = r.x := by rw [Nat.xor_comm, ← Nat.xor_assoc, Nat.xor_self, Nat.zero_xor]
   rw [e3] at h3
   rcases ech_top R E.tail _ h3 with h0 | ⟨s, hs, hs2⟩
   ·exact hr.ne h0
   ·exact E.off s hs (hs2.uniq hr)
end
section
theorem RowOk.tp {m : Nat} {r : Row} (h : RowOk m r) : Tp r.x r.p := by
 obtain ⟨rest, e⟩ := h.top
 exact ⟨(top_bit e).2, top_lt h.x e⟩
theorem redF_ok {m : Nat} {R : List Row} (hR : ∀ r ∈ R, RowOk m r) : ∀ (k x : Nat), x < 2 ^ k → x < 2 ^ m →
  redF m R k x < 2 ^ m ∧ Sp (R.map (·.x)) (x ^^^ redF m R k x) ∧ (∀ p rest, bitsD m (redF m R k x) = p :: rest → ∀ r ∈ R, r.p ≠ p)
 | 0, x, hx, hm => by
  have : x = 0 := by simpa using hx
  subst this
  refine ⟨hm, ?_, ?_⟩
  ·show Sp _ (0 ^^^ 0)
   exact .zero
  ·intro p rest h
   change bitsD m 0 = _ at h
   rw [bitsD_zero] at h; cases h
 | k + 1, x, hx, hm => by
  unfold redF
  cases hb : bitsD m x with
  | nil =>
   refine ⟨hm, ?_, ?_⟩
   ·show Sp _ (x ^^^ x)
    rw [Nat.xor_self]; exact .zero
   ·intro p rest h
    change bitsD m x = _ at h
    rw [hb] at h; cases h
  | cons p rest =>
   dsimp only
   cases hf : R.find? (fun r => r.p == p) with
   | none =>
    refine ⟨hm, ?_, ?_⟩
    ·show Sp _ (x ^^^ x)
     rw [Nat.xor_self]; exact .zero
    ·intro p' rest' h r hr e
     change bitsD m x = _ at h
     rw [hb] at h
     cases h
     have := List.find?_eq_none.mp hf r hr
     simp [e] at this
   | some r =>
    have hr := List.mem_of_find?_eq_some hf
    have hp : r.p = p := by simpa using List.find?_some hf
    have ho := hR r hr
    obtain ⟨rest', e⟩ := ho.top
    rw [hp] at e
    have hlt : x ^^^ r.x < 2 ^ p := xor_top hm ho.x hb e
    have hpk : p ≤ k := by
     rcases Nat.lt_or_ge p (k + 1) with h | h
     ·omega
     ·have := bit_hi hx h
      rw [(top_bit hb).2] at this; cases this
    obtain ⟨a1, a2, a3⟩ := redF_ok hR k (x ^^^ r.x) (Nat.lt_of_lt_of_le hlt (Nat.pow_le_pow_right (by decide) hpk)) (Nat.xor_lt_two_pow hm ho.x)
    refine ⟨a1, ?_, a3⟩
    have := a2.add (List.mem_map.mpr ⟨r, hr, rfl⟩)
    have e2 : ∀ a b c : Nat, a ^^^ b ^^^ c ^^^ b = a ^^^ c := fun a b c => by
     rw [Nat.xor_assoc a b c, Nat.xor_comm b c, ← Nat.xor_assoc, xor_back]
    rwa [e2] at this
noncomputable def fmV (M : Nat) (ws : List (List Nat)) : List Nat := (ws.filter fun v => decide (v.headD 0 < M)).map fun v => xorL v 0
noncomputable def fmR (M : Nat) (R : List Row) : List Nat := (R.filter fun r => decide (r.d < M)).map (·.x)
theorem mem_fmV {M y : Nat} {ws : List (List Nat)} : y ∈ fmV M ws ↔ ∃ v ∈ ws, v.headD 0 < M ∧ xorL v 0 = y := by
 unfold fmV; simp [List.mem_map, List.mem_filter, and_assoc]
theorem mem_fmR {M y : Nat} {R : List Row} : y ∈ fmR M R ↔ ∃ r ∈ R, r.d < M ∧ r.x = y := by
 unfold fmR; simp [List.mem_map, List.mem_filter, and_assoc]
structure RI (m : Nat) (ws : List (List Nat)) (R : List Row) : Prop where
 ech : Ech R
 rows : ∀ r ∈ R, RowOk m r
 d : ∀ r ∈ R, ∃ v ∈ ws, r.d = v.headD 0
 span : ∀ M y, Sp (fmV M ws) y ↔ Sp (fmR M R) y
theorem RI.step {m : Nat} {ws : List (List Nat)} {R : List Row} {v : List Nat} (H : RI m ws R) (hle : ∀ w ∈ ws, w.headD 0 ≤ v.headD 0) (hx : xorL v 0 < 2 ^ m) (hd : v.headD 0 < m) :
  RI m (ws ++ [v]) (stepV m R v) := by
 obtain ⟨y1, y2, y3⟩ := redF_ok H.rows m (xorL v 0) hx hx
 unfold stepV
 generalize redF m R m (xorL v 0) = y at y1 y2 y3
 have hRd : ∀ r ∈ R, r.d ≤ v.headD 0 := fun r hr => by
  obtain ⟨w, hw, e⟩ := H.d r hr
  rw [e]; exact hle w hw
 have full : ∀ M, v.headD 0 < M → ∀ z, Sp (R.map (·.x)) z → Sp (fmR M R) z := fun M hM z hz => hz.mono fun a ha => by
  obtain ⟨r, hr, e⟩ := List.mem_map.mp ha
  have := hRd r hr
  exact mem_fmR.mpr ⟨r, hr, by omega, e⟩
 have wsApp : ∀ M z, z ∈ fmV M (ws ++ [v]) ↔ z ∈ fmV M ws ∨ (v.headD 0 < M ∧ xorL v 0 = z) := fun M z => by
  rw [mem_fmV, mem_fmV]
  constructor
  ·rintro ⟨w, hw, h⟩
   rcases List.mem_append.mp hw with hw | hw
   ·exact .inl ⟨w, hw, h⟩
   ·rw [List.mem_singleton.mp hw] at h; exact .inr h
  ·rintro (⟨w, hw, h⟩ | h)
   ·exact ⟨w, List.mem_append_left _ hw, h⟩
   ·exact ⟨v, List.mem_append_right _ (List.mem_singleton.mpr rfl), h⟩
 unfold redR
 cases hb : bitsD m y with
 | nil =>
  have hy : y = 0 := bitsD_nil y1 hb
  subst hy
  rw [Nat.xor_zero] at y2
  refine ⟨H.ech, H.rows, fun r hr => ?_, fun M z => ?_⟩
  ·obtain ⟨w, hw, e⟩ := H.d r hr
   exact ⟨w, List.mem_append_left _ hw, e⟩
  ·constructor
   ·intro h
    refine h.sub fun a ha => ?_
    rcases (wsApp M a).mp ha with ha | ⟨hM, rfl⟩
    ·exact (H.span M a).mp (.mem ha)
    ·exact full M hM _ y2
   ·intro h
    exact ((H.span M z).mpr h).mono fun a ha => (wsApp M a).mpr (.inl ha)
 | cons p rest =>
  dsimp only
  have ho : RowOk m ⟨p, v.headD 0, y⟩ := ⟨(top_bit hb).1, hd, y1, rest, hb⟩
  have rApp : ∀ M z, z ∈ fmR M (R ++ [⟨p, v.headD 0, y⟩]) ↔ z ∈ fmR M R ∨ (v.headD 0 < M ∧ y = z) := fun M z => by
   rw [mem_fmR, mem_fmR]
   constructor
   ·rintro ⟨r, hr, h⟩
    rcases List.mem_append.mp hr with hr | hr
    ·exact .inl ⟨r, hr, h⟩
    ·rw [List.mem_singleton.mp hr] at h; exact .inr h
   ·rintro (⟨r, hr, h⟩ | h)
    ·exact ⟨r, List.mem_append_left _ hr, h⟩
    ·exact ⟨_, List.mem_append_right _ (List.mem_singleton.mpr rfl), h⟩
  refine ⟨⟨?_, ?_⟩, ?_, ?_, fun M z => ?_⟩
  ·rw [List.map_append, List.nodup_append]
   refine ⟨H.ech.nd, by simp, fun a ha b hb2 e => ?_⟩
   obtain ⟨r, hr, rfl⟩ := List.mem_map.mp ha
   simp only [List.map_cons, List.map_nil, List.mem_singleton] at hb2
   exact y3 p rest hb r hr (e.trans hb2)
  ·intro r hr
   rcases List.mem_append.mp hr with hr | hr
   ·exact H.ech.top r hr
   ·rw [List.mem_singleton.mp hr]; exact ho.tp
  ·intro r hr
   rcases List.mem_append.mp hr with hr | hr
   ·exact H.rows r hr
   ·rw [List.mem_singleton.mp hr]; exact ho
  ·intro r hr
   rcases List.mem_append.mp hr with hr | hr
   ·obtain ⟨w, hw, e⟩ := H.d r hr
    exact ⟨w, List.mem_append_left _ hw, e⟩
   ·rw [List.mem_singleton.mp hr]
    exact ⟨v, List.mem_append_right _ (List.mem_singleton.mpr rfl), rfl⟩
  ·constructor
   ·intro h
    refine h.sub fun a ha => ?_
    rcases (wsApp M a).mp ha with ha | ⟨hM, rfl⟩
    ·exact ((H.span M a).mp (.mem ha)).mono fun b hb => (rApp M b).mpr (.inl hb)
    ·have h1 : Sp (fmR M (R ++ [⟨p, v.headD 0, y⟩])) (xorL v 0 ^^^ y) := (full M hM _ y2).mono fun b hb => (rApp M b).mpr (.inl hb)
     have := h1.add ((rApp M y).mpr (.inr ⟨hM, rfl⟩))
     rwa [xor_back] at this
   ·intro h
    refine h.sub fun a ha => ?_
    rcases (rApp M a).mp ha with ha | ⟨hM, rfl⟩
    ·exact ((H.span M a).mpr (.mem ha)).mono fun b hb => (wsApp M b).mpr (.inl hb)
    ·have h1 : Sp (fmV M (ws ++ [v])) (xorL v 0 ^^^ y) := ((H.span M _).mpr (full M hM _ y2)).mono fun b hb => (wsApp M b).mpr (.inl hb)
     have := h1.add ((wsApp M _).mpr (.inr ⟨hM, rfl⟩))
     rwa [Nat.xor_comm (xorL v 0) y, xor_back] at this
theorem RI.fold {m : Nat} : ∀ (vs ws : List (List Nat)) (R : List Row), RI m ws R → (∀ w ∈ ws, ∀ v ∈ vs, w.headD 0 ≤ v.headD 0) → vs.Pairwise (fun a b => a.headD 0 ≤ b.headD 0) → (∀ v ∈ vs, xorL v 0 < 2 ^ m ∧ v.headD 0 < m) →
  RI m (ws ++ vs) (vs.foldl (stepV m) R)
 | [], ws, R, H, _, _, _ => by rw [List.append_nil]; exact H
 | v :: vs, ws, R, H, h1, h2, h3 => by
  obtain ⟨p1, p2⟩ := List.pairwise_cons.mp h2
  have hs := H.step (v := v) (fun w hw => h1 w hw v List.mem_cons_self) (h3 v List.mem_cons_self).1 (h3 v List.mem_cons_self).2
  have := RI.fold vs (ws ++ [v]) _ hs (fun w hw u hu => by
   rcases List.mem_append.mp hw with hw | hw
   ·exact h1 w hw u (List.mem_cons_of_mem _ hu)
   ·rw [List.mem_singleton.mp hw]; exact p1 u hu) p2 (fun u hu => h3 u (List.mem_cons_of_mem _ hu))
  rw [List.append_assoc] at this
  exact this
theorem RI.nil (m : Nat) : RI m [] [] := ⟨⟨List.nodup_nil, (fun r hr => nomatch hr)⟩, (fun r hr => nomatch hr), (fun r hr => nomatch hr), fun M y => Iff.rfl⟩
end
section
theorem par_of {c : Nat} {b : Bool} (h : c % 2 = 1 ↔ b = true) : c % 2 = b.toNat := by
 cases b with
 | true => exact h.mpr rfl
 | false => exact (Nat.mod_two_eq_zero_or_one c).resolve_right fun q => Bool.noConfusion (h.mp q)
theorem xor_step (A B X Y : Nat) (p q : Bool) (h : X + 2 * Y = A + B) : (2 * X + (p ^^ q).toNat) + 2 * (2 * Y + (p && q).toNat) = (2 * A + p.toNat) + (2 * B + q.toNat) := by
 cases p <;> cases q <;> simp only [Bool.xor_self, Bool.and_self, Bool.toNat_true, Bool.toNat_false, Bool.true_xor, Bool.false_xor, Bool.not_true, Bool.not_false, Bool.xor_false, Bool.and_false, Bool.and_true] <;> omega
theorem xor_add : ∀ (n a b : Nat), a < n → (a ^^^ b) + 2 * (a &&& b) = a + b := by
 intro n
 induction n with
 | zero => intro a b h; exact absurd h (Nat.not_lt_zero _)
 | succ n ih =>
  intro a b h
  by_cases ha : a = 0
  ·subst ha; simp
  ·have ih := ih (a / 2) (b / 2) (by omega)
   rw [← Nat.xor_div_two, ← Nat.and_div_two] at ih
   have := xor_step _ _ _ _ (a % 2 == 1) (b % 2 == 1) ih
   have pa : a % 2 = (a % 2 == 1).toNat := par_of beq_iff_eq.symm
   have pb : b % 2 = (b % 2 == 1).toNat := par_of beq_iff_eq.symm
   have px : (a ^^^ b) % 2 = ((a % 2 == 1) ^^ (b % 2 == 1)).toNat := par_of (by rw [Nat.xor_mod_two_eq_one, ← beq_iff_eq (a := a % 2), ← beq_iff_eq (a := b % 2)]; cases a % 2 == 1 <;> cases b % 2 == 1 <;> decide)
   have py : (a &&& b) % 2 = ((a % 2 == 1) && (b % 2 == 1)).toNat := par_of (by rw [Nat.and_mod_two_eq_one, ← beq_iff_eq (a := a % 2), ← beq_iff_eq (a := b % 2)]; cases a % 2 == 1 <;> cases b % 2 == 1 <;> decide)
   rw [← px, ← py, ← pa, ← pb] at this
   rwa [Nat.div_add_mod, Nat.div_add_mod, Nat.div_add_mod, Nat.div_add_mod] at this
theorem bitXor_nat (a b : Nat) : Builtin.bitXor (a : Int) (b : Int) = ((a ^^^ b : Nat) : Int) := by
 rw [bitXor_and, bitAnd_pp (by omega) (by omega)]
 have := xor_add (a + 1) a b (by omega)
 simp only [Int.toNat_natCast]
 omega
theorem sums_nat : ∀ (ms done X : List Nat), X.Nodup → (∀ y, y ∈ X ↔ Sp done y) →
  ∃ Y : List Nat, (vZ ms).foldl sumStep (vZ X) = vZ Y ∧ Y.Nodup ∧ ∀ y, y ∈ Y ↔ Sp (done ++ ms) y
 | [], done, X, h1, h2 => ⟨X, rfl, h1, by rw [List.append_nil]; exact h2⟩
 | a :: ms, done, X, h1, h2 => by
  have hm : (vZ X).contains (a : Int) = decide (a ∈ X) := by
   rw [Bool.eq_iff_iff, List.contains_iff_mem, decide_eq_true_eq]
   unfold vZ
   rw [List.mem_map]
   constructor
   ·rintro ⟨z, hz, e⟩
    have : z = a := by omega
    exact this ▸ hz
   ·exact fun h => ⟨a, h, rfl⟩
  have hsp : ∀ y, Sp (done ++ [a]) y ↔ Sp (a :: done) y := fun y => ⟨fun h => h.mono fun z hz => by
   simp at hz ⊢; rcases hz with h | h
   ·exact .inr h
   ·exact .inl h, fun h => h.mono fun z hz => by
   simp at hz ⊢; rcases hz with h | h
   ·exact .inr h
   ·exact .inl h⟩
  by_cases ha : a ∈ X
  ·have hstep : sumStep (vZ X) (a : Int) = vZ X := by unfold sumStep; rw [hm, decide_eq_true ha, if_pos rfl]
   obtain ⟨Y, e, y1, y2⟩ := sums_nat ms (done ++ [a]) X h1 fun y => by
    rw [h2, hsp, Sp.cons]
    constructor
    ·exact .inl
    ·rintro (h | h)
     ·exact h
     ·have := h.xor ((h2 a).mp ha)
      rwa [xor_back] at this
   refine ⟨Y, ?_, y1, by rw [List.append_assoc] at y2; exact y2⟩
   rw [← e]
   show (vZ ms).foldl sumStep (sumStep (vZ X) (a : Int)) = _
   rw [hstep]
  ·have hstep : sumStep (vZ X) (a : Int) = vZ (X ++ X.map (· ^^^ a)) := by
    unfold sumStep
    rw [hm, decide_eq_false ha, if_neg (by decide)]
    unfold vZ
    rw [List.map_append, List.map_map, List.map_map]
    congr 1
    refine List.map_congr_left fun z _ => ?_
    exact bitXor_nat z a
   obtain ⟨Y, e, y1, y2⟩ := sums_nat ms (done ++ [a]) (X ++ X.map (· ^^^ a)) (by
    rw [List.nodup_append]
    refine ⟨h1, ?_, ?_⟩
    ·refine List.Pairwise.map _ (fun u v h => ?_) h1
     intro q
     apply h
     have := congrArg (· ^^^ a) q
     simpa only [xor_back] using this
    ·intro u hu v hv e
     subst e
     obtain ⟨z, hz, rfl⟩ := List.mem_map.mp hv
     have h3 := ((h2 _).mp hu).xor ((h2 z).mp hz)
     have e3 : z ^^^ a ^^^ z = a := by rw [Nat.xor_comm, ← Nat.xor_assoc, Nat.xor_self, Nat.zero_xor]
     rw [e3] at h3
     exact ha ((h2 a).mpr h3)) fun y => by
    rw [hsp, Sp.cons, List.mem_append, h2, List.mem_map]
    refine or_congr Iff.rfl ?_
    constructor
    ·rintro ⟨z, hz, rfl⟩
     rw [xor_back]
     exact (h2 z).mp hz
    ·intro h
     exact ⟨y ^^^ a, (h2 _).mpr h, xor_back y a⟩
   refine ⟨Y, ?_, y1, by rw [List.append_assoc] at y2; exact y2⟩
   rw [← e]
   show (vZ ms).foldl sumStep (sumStep (vZ X) (a : Int)) = _
   rw [hstep]
theorem sumsP_nat (ms : List Nat) : ∃ Y : List Nat, sumsP (vZ ms) = vZ Y ∧ Y.Nodup ∧ ∀ y, y ∈ Y ↔ Sp ms y := by
 obtain ⟨Y, h⟩ := sums_nat ms [] [0] (by simp) (fun y => by
  rw [List.mem_singleton]
  constructor
  ·rintro rfl; exact .zero
  ·intro h
   have := h.lt (k := 0) (by intro z hz; simp at hz)
   simpa using this)
 exact ⟨Y, h⟩
theorem many_at {b : Int} : ∀ (te : List Tie), te.Pairwise (fun a b => a.1 ≤ b.1) → ∀ (p : Nat) (e : Tie), te[p]? = some e → (e.1 ≤ b ↔ p < manyN te b)
 | [], _, p, e, h => by simp at h
 | t :: te, hp, p, e, h => by
  obtain ⟨p1, p2⟩ := List.pairwise_cons.mp hp
  unfold manyN
  rw [List.filter_cons]
  by_cases ht : t.1 ≤ b
  ·rw [if_pos (by simpa using ht), List.length_cons]
   cases p with
   | zero =>
    simp at h; subst h
    exact ⟨fun _ => by omega, fun _ => ht⟩
   | succ p =>
    simp only [List.getElem?_cons_succ] at h
    have := many_at (b := b) te p2 p e h
    unfold manyN at this
    rw [this]; omega
  ·rw [if_neg (by simpa using ht)]
   have hnil : te.filter (fun e => decide (e.1 ≤ b)) = [] := by
    rw [List.filter_eq_nil_iff]
    intro x hx
    have := p1 x hx
    simp; omega
   rw [hnil]
   constructor
   ·intro he
    exfalso
    cases p with
    | zero => simp at h; subst h; exact ht he
    | succ p =>
     simp only [List.getElem?_cons_succ] at h
     have := p1 e (List.mem_of_getElem? h)
     omega
   ·intro h; simp at h
theorem szP_many {c : Nat} {te : List Tie} (T : TieOk c te) {b : Int} {p : Nat} (hp : p < te.length) : szP te p ≤ b ↔ p < manyN te b := by
 have := many_at (b := b) te T.sizes p te[p] (List.getElem?_eq_getElem hp)
 unfold szP
 rw [List.getElem?_eq_getElem hp]
 exact this
end
section
theorem sum_xorL : ∀ (l : List Nat) (x : Nat), l.Nodup → (∀ p ∈ l, x.testBit p = false) → x + (l.map (2 ^ ·)).sum = xorL l x
 | [], x, _, _ => by simp [xorL]
 | p :: l, x, h, hx => by
  obtain ⟨h1, h2⟩ := List.nodup_cons.mp h
  have hp := hx p List.mem_cons_self
  have e : x ^^^ 2 ^ p = x + 2 ^ p := by
   have := xor_add (x + 1) x (2 ^ p) (by omega)
   have h0 : x &&& 2 ^ p = 0 := by
    apply Nat.eq_of_testBit_eq
    intro q
    rw [Nat.testBit_and, Nat.testBit_two_pow, Nat.zero_testBit]
    by_cases hq : p = q
    ·subst hq; rw [hp]; rfl
    ·simp [hq]
   rw [h0] at this
   omega
  have ih := sum_xorL l (x ^^^ 2 ^ p) h2 fun q hq => by
   rw [testBit_flip, if_neg (by rintro rfl; exact h1 hq)]
   exact hx q (List.mem_cons_of_mem _ hq)
  rw [e] at ih
  show _ = xorL l (x ^^^ 2 ^ p)
  rw [e, ← ih, List.map_cons, List.sum_cons]
  omega
theorem xorL_lt {l : List Nat} {m : Nat} (hn : l.Nodup) (h : ∀ p ∈ l, p < m) : xorL l 0 < 2 ^ m := by
 refine Nat.lt_pow_two_of_testBit _ fun q hq => ?_
 rw [xorL_bit l 0 q hn, Nat.zero_testBit]
 cases hc : l.contains q with
 | false => rfl
 | true =>
  have := h q (List.contains_iff_mem.mp hc)
  omega
section
variable {c : Nat} {te : List Tie} (T : TieOk c te) (hc : c ≤ 5)
include T
theorem pls_nodup {x : List Str} (hx : x ∈ threesP c) : (pls te x).Nodup := by
 refine (pls_perm te x).nodup_iff.mpr ?_
 have hn := three_names T hx
 refine List.nodup_iff_pairwise_ne.mpr ?_
 rw [List.pairwise_map]
 have := List.nodup_iff_pairwise_ne.mp (three_nodup hx).1
 refine this.imp_of_mem fun {a b} ha hb h e => h ?_
 rw [← (posN_at (hn a ha)).2, ← (posN_at (hn b hb)).2, e]
theorem pls_small {x : List Str} (hx : x ∈ threesP c) : ∀ p ∈ pls te x, p < te.length := fun p hp => by
 obtain ⟨s, hs, rfl⟩ := List.mem_map.mp ((pls_perm te x).mem_iff.mp hp)
 exact (posN_at (three_names T hx s hs)).1
omit T in
theorem pls_cons {x : List Str} (hx : x ∈ threesP c) : ∃ a rest, pls te x = a :: rest ∧ ∀ p ∈ pls te x, p ≤ a := by
 have hl : (pls te x).length = 3 := by rw [(pls_perm te x).length_eq, List.length_map, (three_nodup hx).2]
 have hd := pls_desc te x
 match h : pls te x, hl with
 | a :: rest, _ =>
  refine ⟨a, rest, rfl, fun p hp => ?_⟩
  rw [h] at hd
  rcases List.mem_cons.mp hp with rfl | hp
  ·exact Nat.le_refl _
  ·exact (List.pairwise_cons.mp hd).1 p hp
theorem short_head {b : Int} {x : List Str} (hx : x ∈ threesP c) : shortB te b x = decide ((pls te x).headD 0 < manyN te b) := by
 obtain ⟨a, rest, e, hmax⟩ := pls_cons (te := te) hx
 rw [e]
 show _ = decide (a < manyN te b)
 unfold shortB
 rw [Bool.eq_iff_iff, List.all_eq_true, decide_eq_true_eq]
 have hn := three_names T hx
 have hmem : ∀ s ∈ x, posN te s ∈ pls te x := fun s hs => (pls_perm te x).mem_iff.mpr (List.mem_map.mpr ⟨s, hs, rfl⟩)
 constructor
 ·intro h
  have ha : a ∈ pls te x := by rw [e]; exact List.mem_cons_self
  obtain ⟨s, hs, rfl⟩ := List.mem_map.mp ((pls_perm te x).mem_iff.mp ha)
  have := h s hs
  rw [decide_eq_true_eq] at this
  exact (szP_many T (posN_at (hn s hs)).1).mp this
 ·intro h s hs
  rw [decide_eq_true_eq]
  refine (szP_many T (posN_at (hn s hs)).1).mpr ?_
  have := hmax _ (hmem s hs)
  omega
theorem mask_nat {x : List Str} (hx : x ∈ threesP c) : (x.map (bitS te)).sum = ((xorL (pls te x) 0 : Nat) : Int) := by
 have h := sum_xorL (pls te x) 0 (pls_nodup T hx) (fun p _ => Nat.zero_testBit p)
 have h2 : ((x.map (posN te)).map (2 ^ ·)).sum = ((pls te x).map (2 ^ ·)).sum := ((pls_perm te x).map _).sum_nat.symm
 have h3 := sum_cast ((x.map (posN te)).map (2 ^ ·))
 rw [h2] at h3
 have h4 : (x.map (bitS te)).sum = (((x.map (posN te)).map (2 ^ ·)).map fun (k : Nat) => (k : Int)).sum := by
  rw [List.map_map, List.map_map]
  congr 1
 rw [h4, h3]
 omega
noncomputable def natM (te : List Tie) (c : Nat) (b : Int) : List Nat := ((threesP c).filter (shortB te b)).map fun x => xorL (pls te x) 0
theorem masks_nat {b : Int} : masksP te c b = vZ (natM te c b) := by
 unfold masksP natM vZ
 rw [List.map_map]
 refine List.map_congr_left fun x hx => ?_
 exact mask_nat T (List.mem_filter.mp hx).1
theorem mem_natM {b : Int} {y : Nat} {vs : List (List Nat)} (hv : vs.Perm ((threesP c).map (pls te))) : y ∈ natM te c b ↔ y ∈ fmV (manyN te b) vs := by
 rw [mem_fmV]
 unfold natM
 rw [List.mem_map]
 constructor
 ·rintro ⟨x, hx, rfl⟩
  obtain ⟨h1, h2⟩ := List.mem_filter.mp hx
  refine ⟨pls te x, hv.mem_iff.mpr (List.mem_map.mpr ⟨x, h1, rfl⟩), ?_, rfl⟩
  rw [short_head T h1] at h2
  simpa using h2
 ·rintro ⟨v, hv2, h1, rfl⟩
  obtain ⟨x, hx, rfl⟩ := List.mem_map.mp (hv.mem_iff.mp hv2)
  refine ⟨x, List.mem_filter.mpr ⟨hx, ?_⟩, rfl⟩
  rw [short_head T hx]
  simpa using h1
include hc in
theorem red_RI {R : List Row} (G : RedOk c te R) : ∃ vs : List (List Nat), vs.Perm ((threesP c).map (pls te)) ∧ RI te.length vs R := by
 obtain ⟨vs, h1, h2, rfl⟩ := G.made
 refine ⟨vs, h1, ?_⟩
 have hin : ∀ v ∈ vs, ∃ x ∈ threesP c, pls te x = v := fun v hv => List.mem_map.mp (h1.mem_iff.mp hv)
 have := RI.fold (m := te.length) vs [] [] (RI.nil _) (fun w hw => nomatch hw) (h2.imp_of_mem fun {a b} ha hb h => by
  obtain ⟨x, hx, rfl⟩ := hin a ha
  obtain ⟨y, hy, rfl⟩ := hin b hb
  obtain ⟨p, r1, e1, _⟩ := pls_cons (te := te) hx
  obtain ⟨q, r2, e2, _⟩ := pls_cons (te := te) hy
  rw [e1, e2] at h ⊢
  unfold vZ at h
  rw [List.map_cons, List.map_cons] at h
  unfold lexLt at h
  show p ≤ q
  split at h
  ·rename_i hh
   have : (q : Int) = p := by simpa using hh
   omega
  ·have : ¬ ((q : Int) < p) := by simpa using h
   omega) (fun v hv => by
  obtain ⟨x, hx, rfl⟩ := hin v hv
  refine ⟨xorL_lt (pls_nodup T hx) (pls_small T hx), ?_⟩
  obtain ⟨p, r1, e1, _⟩ := pls_cons (te := te) hx
  have := pls_small T hx p (by rw [e1]; exact List.mem_cons_self)
  rw [e1]; exact this)
 simpa using this
end
end
section
theorem nodup_map_inj {α β : Type} (f : α → β) : ∀ (l : List α), (l.map f).Nodup → ∀ a ∈ l, ∀ b ∈ l, f a = f b → a = b
 | [], _, a, ha, _, _, _ => nomatch ha
 | x :: l, h, a, ha, b, hb, e => by
  obtain ⟨h1, h2⟩ := List.nodup_cons.mp h
  rcases List.mem_cons.mp ha with ea | ha'
  ·rcases List.mem_cons.mp hb with eb | hb'
   ·rw [ea, eb]
   ·exact (h1 (List.mem_map.mpr ⟨b, hb', by rw [← e, ea]⟩)).elim
  ·rcases List.mem_cons.mp hb with eb | hb'
   ·exact (h1 (List.mem_map.mpr ⟨a, ha', by rw [e, eb]⟩)).elim
   ·exact nodup_map_inj f l h2 a ha' b hb' e
theorem filter_split {α : Type} (f : α → Bool) : ∀ l : List α, l.length = (l.filter f).length + (l.filter fun a => !f a).length
 | [] => rfl
 | a :: l => by
  have := filter_split f l
  rw [List.filter_cons, List.filter_cons, List.length_cons]
  cases h : f a with
  | true => simp only [Bool.not_true, Bool.false_eq_true, if_false, if_true, List.length_cons]; omega
  | false => simp only [Bool.not_false, Bool.false_eq_true, if_false, if_true, List.length_cons]; omega
theorem nodup_filter {α : Type} (f : α → Bool) {l : List α} (h : l.Nodup) : (l.filter f).Nodup := h.sublist List.filter_sublist
noncomputable def isPiv (R : List Row) (q : Nat) : Bool := R.any fun r => r.p == q
noncomputable def pivN (R : List Row) (k : Nat) : Nat := ((List.range k).filter (isPiv R)).length
noncomputable def nonN (R : List Row) (k : Nat) : Nat := ((List.range k).filter fun q => !isPiv R q).length
theorem piv_non (R : List Row) (k : Nat) : pivN R k + nonN R k = k := by
 have := filter_split (isPiv R) (List.range k)
 rw [List.length_range] at this
 unfold pivN nonN; omega
theorem piv_count {R : List Row} (h : (R.map (·.p)).Nodup) (k : Nat) : pivN R k = (R.filter fun r => decide (r.p < k)).length := by
 unfold pivN
 rw [← List.length_map (f := (·.p)) (as := R.filter fun r => decide (r.p < k))]
 refine List.Perm.length_eq ((List.perm_ext_iff_of_nodup (nodup_filter _ List.nodup_range) (h.sublist (List.Sublist.map _ List.filter_sublist))).mpr fun q => ?_)
 unfold isPiv
 simp only [List.mem_filter, List.mem_range, List.any_eq_true, List.mem_map, beq_iff_eq, decide_eq_true_eq]
 constructor
 ·rintro ⟨h1, r, hr, rfl⟩; exact ⟨r, ⟨hr, h1⟩, rfl⟩
 ·rintro ⟨r, ⟨hr, h1⟩, rfl⟩; exact ⟨h1, r, hr, rfl⟩
theorem range_map {α : Type} (d : α) (l : List α) : (List.range l.length).map (fun i => l.getD i d) = l := by
 apply List.ext_getElem?
 intro q
 rw [List.getElem?_map]
 rcases Nat.lt_or_ge q l.length with hq | hq
 ·rw [List.getElem?_range hq, Option.map_some, List.getD_eq_getElem?_getD, List.getElem?_eq_getElem hq]; rfl
 ·rw [List.getElem?_eq_none (by rw [List.length_range]; exact hq), List.getElem?_eq_none hq]; rfl
theorem range_cut {m k : Nat} (h : k ≤ m) (g : Nat → Bool) : ((List.range m).filter fun q => decide (q < k) && g q).length = ((List.range k).filter g).length := by
 obtain ⟨d, rfl⟩ := Nat.exists_eq_add_of_le h
 rw [List.range_add, List.filter_append, List.length_append]
 have h1 : (List.range k).filter (fun q => decide (q < k) && g q) = (List.range k).filter g := List.filter_congr fun q hq => by
  have : q < k := by simpa using hq
  simp [this]
 have h2 : ((List.range d).map (k + ·)).filter (fun q => decide (q < k) && g q) = [] := by
  rw [List.filter_eq_nil_iff]
  intro q hq
  obtain ⟨z, _, rfl⟩ := List.mem_map.mp hq
  have : ¬ (k + z < k) := by omega
  simp [this]
 rw [h1, h2]; simp
section
variable {c : Nat} {te : List Tie} (T : TieOk c te) (hc : c ≤ 5) {R : List Row} {vs : List (List Nat)} (hv : vs.Perm ((threesP c).map (pls te))) (H : RI te.length vs R)
include T H
include hv in
theorem nat_span {b : Int} {y : Nat} : Sp (natM te c b) y ↔ Sp (fmR (manyN te b) R) y := by
 rw [← H.span]
 exact ⟨fun h => h.mono fun z hz => (mem_natM T hv).mp hz, fun h => h.mono fun z hz => (mem_natM T hv).mpr hz⟩
omit T in
theorem row_eq {r s : Row} (hr : r ∈ R) (hs : s ∈ R) (e : r.p = s.p) : r = s := nodup_map_inj _ R H.ech.nd r hr s hs e
include hv in
theorem law_c1 (b : Int) : ∀ r ∈ R, (sumsP (masksP te c b)).contains ((r.x : Nat) : Int) = decide (szP te r.d ≤ b) := fun r hr => by
 rw [masks_nat T]
 obtain ⟨Y, e, y1, y2⟩ := sumsP_nat (natM te c b)
 rw [e, Bool.eq_iff_iff, List.contains_iff_mem, decide_eq_true_eq, szP_many T (H.rows r hr).d]
 have hm : ((r.x : Nat) : Int) ∈ vZ Y ↔ r.x ∈ Y := by
  unfold vZ
  rw [List.mem_map]
  constructor
  ·rintro ⟨z, hz, e⟩
   have : z = r.x := by omega
   exact this ▸ hz
  ·exact fun h => ⟨_, h, rfl⟩
 rw [hm, y2, nat_span T hv H]
 constructor
 ·intro h
  unfold fmR at h
  rcases ech_top _ (H.ech.filter _) _ h with h0 | ⟨s, hs, hs2⟩
  ·exact absurd h0 (H.ech.top r hr).ne
  ·obtain ⟨s1, s2⟩ := List.mem_filter.mp hs
   have := row_eq H hr s1 ((H.ech.top r hr).uniq hs2)
   subst this
   simpa using s2
 ·intro h
  exact .mem (mem_fmR.mpr ⟨r, hr, h, rfl⟩)
include hv in
theorem law_lost (b : Int) (k : Nat) : lostN te c b k = 2 ^ ((R.filter fun r => decide (r.d < manyN te b)).filter fun r => decide (r.p < k)).length := by
 unfold lostN
 rw [masks_nat T]
 obtain ⟨Y, e, y1, y2⟩ := sumsP_nat (natM te c b)
 rw [e]
 have h1 : ((vZ Y).filter fun x => decide (x < (2 : Int) ^ k)).length = (Y.filter fun y => decide (y < 2 ^ k)).length := by
  unfold vZ
  rw [List.filter_map, List.length_map]
  congr 1
  refine List.filter_congr fun y _ => ?_
  show decide ((y : Int) < (2 : Int) ^ k) = _
  rw [int_pow_cast]
  exact decide_eq_decide.mpr Int.ofNat_lt
 have E := (H.ech.filter fun r => decide (r.d < manyN te b)).filter fun r => decide (r.p < k)
 have hl := spanL_len (((R.filter fun r => decide (r.d < manyN te b)).filter fun r => decide (r.p < k)).map (·.x))
 rw [List.length_map] at hl
 rw [h1, ← hl]
 refine List.Perm.length_eq ((List.perm_ext_iff_of_nodup (nodup_filter _ y1) (spanL_nodup _ E)).mpr fun y => ?_)
 rw [List.mem_filter, y2, nat_span T hv H, spanL_mem, decide_eq_true_eq]
 constructor
 ·rintro ⟨h1, h2⟩
  exact ech_lt _ (H.ech.filter _) _ _ h1 h2
 ·intro h
  refine ⟨h.mono fun z hz => ?_, h.lt fun z hz => ?_⟩
  ·obtain ⟨r, hr, e⟩ := List.mem_map.mp hz
   exact List.mem_map.mpr ⟨r, (List.mem_filter.mp hr).1, e⟩
  ·obtain ⟨r, hr, rfl⟩ := List.mem_map.mp hz
   have hp : r.p < k := by simpa using (List.mem_filter.mp hr).2
   exact Nat.lt_of_lt_of_le (E.top r hr).2 (Nat.pow_le_pow_right (by decide) hp)
omit T in
theorem law_few (hm : te.length ≤ 10) : R.length ≤ 10 := by
 have h := piv_count H.ech.nd te.length
 have h2 : R.filter (fun r => decide (r.p < te.length)) = R := List.filter_eq_self.mpr fun r hr => by simpa using (H.rows r hr).p
 rw [h2] at h
 have := piv_non R te.length
 omega
theorem law_alive (s b : Int) : aliveN te R s b = ((R.filter fun r => decide (r.p < manyN te s)).filter fun r => !decide (r.d < manyN te b)).length := by
 unfold aliveN
 rw [List.filter_filter]
 congr 1
 refine List.filter_congr fun r hr => ?_
 have ho := H.rows r hr
 have h1 := szP_many T (b := s) ho.p
 have h2 := szP_many T (b := b) ho.d
 rw [Bool.eq_iff_iff, Bool.and_eq_true, Bool.and_eq_true, decide_eq_true_eq, decide_eq_true_eq, Bool.not_eq_true', decide_eq_false_iff_not, decide_eq_true_eq, h1, ← h2]
 omega
include hc in
theorem law_loose (b : Int) : looseN te R b = nonN R (manyN te b) := by
 have h1 : looseN te R b = (te.filter fun e => decide (e.1 ≤ b) && (getP (R.map (rowTxt te)) (Txt.lower (nm e.2.1 e.2.2)) == none)).length := by
  unfold looseN looseP
  clear T H hc
  generalize R.map (rowTxt te) = D
  induction te with
  | nil => rfl
  | cons e te ih =>
   rw [List.filterMap_cons, List.filter_cons]
   cases hg : getP D (Txt.lower (nm e.2.1 e.2.2)) == none with
   | true =>
    simp only [if_true]
    rw [List.filter_cons]
    cases hb : decide (e.1 ≤ b) with
    | true => simp only [if_true, Bool.true_and, List.length_cons, ih]
    | false => simp only [Bool.false_and, Bool.false_eq_true, if_false, ih]
   | false => simp only [Bool.and_false, Bool.false_eq_true, if_false, ih]
 have hk : manyN te b ≤ te.length := List.length_filter_le _ _
 rw [h1]
 have key : ∀ f : Tie → Bool, (te.filter f).length = ((List.range te.length).filter fun q => f (te.getD q default)).length := fun f => by
  conv => lhs; rw [← range_map (default : Tie) te, List.filter_map, List.length_map]
  rfl
 rw [key]
 unfold nonN
 rw [← range_cut hk]
 congr 1
 refine List.filter_congr fun q hq => ?_
 have hq : q < te.length := by simpa using hq
 have e : te.getD q default = te[q] := by rw [List.getD_eq_getElem?_getD, List.getElem?_eq_getElem hq]; rfl
 show (decide ((te.getD q default).1 ≤ b) && (getP (R.map (rowTxt te)) (Txt.lower (nm (te.getD q default).2.1 (te.getD q default).2.2)) == none)) = _
 rw [e]
 have hs := szP_many T (b := b) hq
 unfold szP at hs
 rw [List.getElem?_eq_getElem hq] at hs
 dsimp only at hs
 have hn : nmP te q = nm te[q].2.1 te[q].2.2 := by unfold nmP; rw [List.getElem?_eq_getElem hq]
 rw [← hn]
 rw [nmP_lower T hc hq, getP_rows T hc hq H.rows, decide_eq_decide.mpr hs]
 congr 1
 unfold isPiv
 rw [Bool.eq_iff_iff, beq_iff_eq, Bool.not_eq_true', Option.map_eq_none_iff, List.find?_eq_none, List.any_eq_false]
end
end
section
theorem dedup_fold (xs : List Int) : dedup xs = xs.foldl step_dedup [] := by
 unfold dedup firstMet
 rw [range_map]
theorem sd_mem {acc : List Int} {k y : Int} : y ∈ step_dedup acc k ↔ y ∈ acc ∨ y = k := by
 unfold step_dedup
 split
 ·rename_i h
  rw [List.any_eq_true] at h
  obtain ⟨z, hz, e⟩ := h
  have : z = k := by simpa using e
  subst this
  exact ⟨.inl, fun h => h.elim id fun e => e ▸ hz⟩
 ·rw [List.mem_append, List.mem_singleton]
theorem sd_nodup {acc : List Int} {k : Int} (h : acc.Nodup) : (step_dedup acc k).Nodup := by
 unfold step_dedup
 split
 ·exact h
 ·rename_i hk
  rw [List.nodup_append]
  refine ⟨h, by simp, fun a ha b hb e => ?_⟩
  rw [List.mem_singleton] at hb
  apply hk
  rw [List.any_eq_true]
  exact ⟨a, ha, by rw [e, hb]; simp⟩
theorem fd_mem : ∀ (xs acc : List Int) (y : Int), y ∈ xs.foldl step_dedup acc ↔ y ∈ acc ∨ y ∈ xs
 | [], acc, y => by simp
 | x :: xs, acc, y => by
  rw [List.foldl_cons, fd_mem xs, sd_mem, List.mem_cons, or_assoc]
theorem fd_nodup : ∀ (xs acc : List Int), acc.Nodup → (xs.foldl step_dedup acc).Nodup
 | [], _, h => h
 | x :: xs, acc, h => fd_nodup xs _ (sd_nodup h)
theorem dd_mem {xs : List Int} {y : Int} : y ∈ dedup xs ↔ y ∈ xs := by rw [dedup_fold, fd_mem]; simp
theorem dd_nodup (xs : List Int) : (dedup xs).Nodup := by rw [dedup_fold]; exact fd_nodup _ _ List.nodup_nil
theorem dd_self {xs : List Int} (h : xs.Nodup) : (dedup xs).length = xs.length :=
 ((List.perm_ext_iff_of_nodup (dd_nodup xs) h).mpr fun y => dd_mem).length_eq
theorem dd_merge {xs : List Int} {a b : Int} (ha : a ∈ xs) (hb : b ∈ xs) (hn : b ≠ a) : (dedup (xs.map fun m => if m == a then b else m)).length + 1 = (dedup xs).length := by
 have hm : ∀ y, y ∈ xs.map (fun m => if m == a then b else m) ↔ y ∈ xs ∧ y ≠ a := fun y => by
  rw [List.mem_map]
  constructor
  ·rintro ⟨m, hm, rfl⟩
   by_cases h : m = a
   ·subst h; simpa using ⟨hb, hn⟩
   ·have : (m == a) = false := by simpa using h
    rw [this]; exact ⟨hm, h⟩
  ·rintro ⟨h1, h2⟩
   have : (y == a) = false := by simpa using h2
   exact ⟨y, h1, by rw [this]; rfl⟩
 have hp : (a :: dedup (xs.map fun m => if m == a then b else m)).Perm (dedup xs) := by
  refine (List.perm_ext_iff_of_nodup (List.nodup_cons.mpr ⟨fun h => ?_, dd_nodup _⟩) (dd_nodup _)).mpr fun y => ?_
  ·exact ((hm a).mp (dd_mem.mp h)).2 rfl
  ·rw [List.mem_cons, dd_mem, dd_mem, hm]
   constructor
   ·rintro (rfl | h)
    ·exact ha
    ·exact h.1
   ·intro h
    by_cases e : y = a
    ·exact .inl e
    ·exact .inr ⟨h, e⟩
 have := hp.length_eq
 rw [List.length_cons] at this
 exact this
noncomputable def mkF (ms : List Int) (e : Tie) : List Int := partStep ms e.2.1 e.2.2
noncomputable def marksK (te : List Tie) (c k : Nat) : List Int := (te.take k).foldl mkF (marks0 c)
noncomputable def mk (te : List Tie) (c k u : Nat) : Int := (marksK te c k).getD u 0
theorem step_len (ms : List Int) (j i : Nat) : (partStep ms j i).length = ms.length := by unfold partStep; rw [List.length_map]
theorem step_at {ms : List Int} {j i u : Nat} (hu : u < ms.length) : (partStep ms j i).getD u 0 = if ms.getD u 0 == ms.getD i 0 then ms.getD j 0 else ms.getD u 0 := by
 unfold partStep
 rw [List.getD_eq_getElem?_getD, List.getElem?_map, List.getElem?_eq_getElem hu, List.getD_eq_getElem?_getD (l := ms) (i := u), List.getElem?_eq_getElem hu]
 rfl
theorem marksK_succ {te : List Tie} {c k : Nat} {e : Tie} (h : te[k]? = some e) : marksK te c (k + 1) = partStep (marksK te c k) e.2.1 e.2.2 := by
 unfold marksK
 rw [take_snoc h, List.foldl_append]; rfl
theorem marksK_len (te : List Tie) (c : Nat) : ∀ k, (marksK te c k).length = c := fun k => by
 have h : ∀ (l : List Tie) (ms : List Int), (l.foldl mkF ms).length = ms.length := by
  intro l
  induction l with
  | nil => intro ms; rfl
  | cons e l ih => intro ms; rw [List.foldl_cons, ih]; exact step_len ..
 unfold marksK
 rw [h]
 unfold marks0
 rw [List.length_map, List.length_range]
theorem mk_zero {te : List Tie} {c u : Nat} (hu : u < c) : mk te c 0 u = (u : Int) := by
 unfold mk marksK
 rw [List.take_zero]
 show (marks0 c).getD u 0 = _
 unfold marks0
 rw [List.getD_eq_getElem?_getD, List.getElem?_map, List.getElem?_range hu]; rfl
theorem mk_succ {te : List Tie} {c k u : Nat} {e : Tie} (h : te[k]? = some e) (hu : u < c) : mk te c (k + 1) u = if mk te c k u == mk te c k e.2.2 then mk te c k e.2.1 else mk te c k u := by
 unfold mk
 rw [marksK_succ h, step_at (by rw [marksK_len]; exact hu)]
theorem take_many {b : Int} : ∀ (te : List Tie), te.Pairwise (fun a b => a.1 ≤ b.1) → te.filter (fun e => decide (e.1 ≤ b)) = te.take (manyN te b)
 | [], _ => rfl
 | t :: te, hp => by
  obtain ⟨p1, p2⟩ := List.pairwise_cons.mp hp
  unfold manyN
  rw [List.filter_cons]
  by_cases ht : t.1 ≤ b
  ·rw [if_pos (by simpa using ht), List.length_cons, List.take_succ_cons]
   congr 1
   exact take_many te p2
  ·rw [if_neg (by simpa using ht)]
   have hnil : te.filter (fun e => decide (e.1 ≤ b)) = [] := by
    rw [List.filter_eq_nil_iff]
    intro x hx
    have := p1 x hx
    simp; omega
   rw [hnil]; rfl
theorem partsF_filter {b : Int} : ∀ (te : List Tie) (ms : List Int), te.foldl (partsF b) ms = (te.filter fun e => decide (e.1 ≤ b)).foldl mkF ms
 | [], ms => rfl
 | e :: te, ms => by
  rw [List.foldl_cons, List.filter_cons, partsF_filter te]
  unfold partsF
  by_cases h : e.1 ≤ b
  ·rw [if_pos h, if_pos (by simpa using h)]; rfl
  ·rw [if_neg h, if_neg (by simpa using h)]
theorem parts_marks {c : Nat} {te : List Tie} (T : TieOk c te) (b : Int) : partsP te b c = (dedup (marksK te c (manyN te b))).length := by
 unfold partsP marksK
 rw [partsF_filter, take_many te T.sizes]
theorem marks0_count (c : Nat) : (dedup (marks0 c)).length = c := by
 have hn : (marks0 c).Nodup := by
  unfold marks0
  exact map_nodup List.nodup_range fun a _ b _ e => by omega
 rw [dd_self hn]
 unfold marks0
 rw [List.length_map, List.length_range]
theorem mk_count {c k : Nat} {te : List Tie} {e : Tie} (h : te[k]? = some e) (hj : e.2.1 < c) (hi : e.2.2 < c) :
  (dedup (marksK te c (k + 1))).length + (if mk te c k e.2.1 = mk te c k e.2.2 then 0 else 1) = (dedup (marksK te c k)).length := by
 have hl := marksK_len te c k
 have mem : ∀ u, u < c → mk te c k u ∈ marksK te c k := fun u hu => by
  unfold mk
  rw [List.getD_eq_getElem?_getD, List.getElem?_eq_getElem (by omega)]
  exact List.getElem_mem _
 rw [marksK_succ h]
 by_cases he : mk te c k e.2.1 = mk te c k e.2.2
 ·rw [if_pos he]
  have : partStep (marksK te c k) e.2.1 e.2.2 = marksK te c k := by
   unfold partStep
   conv => rhs; rw [← List.map_id (marksK te c k)]
   refine List.map_congr_left fun m _ => ?_
   change (if m == mk te c k e.2.2 then mk te c k e.2.1 else m) = m
   rw [he]
   split
   ·rename_i h; simpa using Eq.symm (by simpa using h)
   ·rfl
  rw [this]; rfl
 ·rw [if_neg he]
  exact dd_merge (mem _ hi) (mem _ hj) he
end
section
noncomputable def prt (w : Nat → Bool) : Nat → Nat → Bool
 | 0, _ => false
 | n + 1, y => prt w n y ^^ (y.testBit n && w n)
theorem prt_zero (w : Nat → Bool) : ∀ n, prt w n 0 = false
 | 0 => rfl
 | n + 1 => by unfold prt; rw [prt_zero w n, Nat.zero_testBit]; rfl
theorem prt_xor (w : Nat → Bool) : ∀ n x y, prt w n (x ^^^ y) = (prt w n x ^^ prt w n y)
 | 0, _, _ => rfl
 | n + 1, x, y => by
  unfold prt
  rw [prt_xor w n, Nat.testBit_xor]
  cases prt w n x <;> cases prt w n y <;> cases x.testBit n <;> cases y.testBit n <;> cases w n <;> rfl
theorem prt_bit (w : Nat → Bool) (p : Nat) : ∀ n, prt w n (2 ^ p) = (decide (p < n) && w p)
 | 0 => by simp [prt]
 | n + 1 => by
  unfold prt
  rw [prt_bit w p n, Nat.testBit_two_pow]
  by_cases h : p = n
  ·subst h; simp
  ·have : decide (p < n + 1) = decide (p < n) := decide_eq_decide.mpr (by omega)
   rw [this]
   simp [h]
theorem prt_top {w : Nat → Bool} {y k : Nat} (h : Tp y k) (h0 : ∀ p, p < k → w p = false) (h1 : w k = true) : ∀ n, prt w n y = decide (k < n)
 | 0 => by simp [prt]
 | n + 1 => by
  unfold prt
  rw [prt_top h h0 h1 n]
  rcases Nat.lt_trichotomy n k with hn | hn | hn
  ·have a : decide (k < n) = false := by simp; omega
   have b : decide (k < n + 1) = false := by simp; omega
   rw [a, b, h0 n hn]; simp
  ·subst hn
   rw [h.1, h1]; simp
  ·have a : decide (k < n) = true := by simp; omega
   have b : decide (k < n + 1) = true := by simp; omega
   rw [a, b, bit_hi h.2 (by omega)]; rfl
theorem prt_span {w : Nat → Bool} {n : Nat} {L : List Nat} (hL : ∀ y ∈ L, prt w n y = false) {y : Nat} (h : Sp L y) : prt w n y = false := by
 induction h with
 | zero => exact prt_zero w n
 | add _ hm ih => rw [prt_xor, ih, hL _ hm]; rfl
section
variable {c : Nat} {te : List Tie} (T : TieOk c te) (hc : c ≤ 5)
include T
theorem pls_xor {a b d : Nat} (hx : threeOf a b d ∈ threesP c) : xorL (pls te (threeOf a b d)) 0 = 2 ^ posN te (nm a b) ^^^ 2 ^ posN te (nm a d) ^^^ 2 ^ posN te (nm b d) := by
 have h1 := pls_nodup T hx
 have hp := pls_perm te (threeOf a b d)
 have e : xorL (pls te (threeOf a b d)) 0 = xorL ((threeOf a b d).map (posN te)) 0 := by
  apply Nat.eq_of_testBit_eq
  intro q
  rw [xorL_bit _ _ _ h1, xorL_bit _ _ _ (hp.nodup_iff.mp h1)]
  congr 1
  rw [Bool.eq_iff_iff, List.contains_iff_mem, List.contains_iff_mem, hp.mem_iff]
 rw [e]
 show 0 ^^^ 2 ^ posN te (nm a b) ^^^ 2 ^ posN te (nm a d) ^^^ 2 ^ posN te (nm b d) = _
 rw [Nat.zero_xor]
omit T in
theorem three_in {a b d : Nat} (h1 : a < b) (h2 : b < d) (h3 : d < c) : threeOf a b d ∈ threesP c := by
 unfold threesP threesCol threesRow
 refine List.mem_flatMap.mpr ⟨d, List.mem_range.mpr h3, List.mem_flatMap.mpr ⟨b, List.mem_range.mpr h2, List.mem_map.mpr ⟨a, List.mem_range.mpr h1, rfl⟩⟩⟩
noncomputable def wOf (te : List Tie) (f : Nat → Bool) (p : Nat) : Bool := match te[p]? with
 | some e => f e.2.1 ^^ f e.2.2
 | none => false
theorem wOf_nm {f : Nat → Bool} {u v : Nat} (h1 : u < v) (h2 : v < c) : posN te (nm u v) < te.length ∧ wOf te f (posN te (nm u v)) = (f u ^^ f v) := by
 obtain ⟨k1, k2⟩ := posN_at (names_mem T h1 h2)
 refine ⟨k1, ?_⟩
 unfold nmP at k2
 unfold wOf
 rw [List.getElem?_eq_getElem k1] at k2 ⊢
 dsimp only at k2 ⊢
 obtain ⟨e1, e2⟩ := nm_inj k2
 rw [e1, e2]
theorem prt_three {f : Nat → Bool} {x : List Str} (hx : x ∈ threesP c) : prt (wOf te f) te.length (xorL (pls te x) 0) = false := by
 obtain ⟨a, b, d, h1, h2, h3, rfl⟩ := threes_mem hx
 obtain ⟨p1, p2⟩ := wOf_nm T (f := f) h1 (Nat.lt_trans h2 h3)
 obtain ⟨q1, q2⟩ := wOf_nm T (f := f) (Nat.lt_trans h1 h2) h3
 obtain ⟨r1, r2⟩ := wOf_nm T (f := f) h2 h3
 rw [pls_xor T hx, prt_xor, prt_xor, prt_bit, prt_bit, prt_bit, p2, q2, r2, decide_eq_true p1, decide_eq_true q1, decide_eq_true r1]
 cases f a <;> cases f b <;> cases f d <;> rfl
theorem mk_stay {k u v : Nat} (hu : u < c) (hv : v < c) (h : mk te c k u = mk te c k v) : mk te c (k + 1) u = mk te c (k + 1) v := by
 rcases Nat.lt_or_ge k te.length with hk | hk
 ·have := List.getElem?_eq_getElem hk
  rw [mk_succ this hu, mk_succ this hv, h]
 ·unfold mk marksK at *
  rw [List.take_of_length_le (by omega)] at *
  exact h
theorem mk_done {p : Nat} {e : Tie} (he : te[p]? = some e) (hj : e.2.1 < c) (hi : e.2.2 < c) : ∀ k, p < k → mk te c k e.2.1 = mk te c k e.2.2
 | 0, h => by omega
 | k + 1, h => by
  rcases Nat.lt_or_ge p k with h1 | h1
  ·exact mk_stay T hj hi (mk_done he hj hi k h1)
  ·have : p = k := by omega
   subst this
   rw [mk_succ he hj, mk_succ he hi]
   rw [beq_self_eq_true, if_pos rfl]
   split <;> rfl
variable {R : List Row} {vs : List (List Nat)} (hv : vs.Perm ((threesP c).map (pls te))) (H : RI te.length vs R)
include hv H
theorem vs_rows {y : Nat} (h : Sp (fmV te.length vs) y) : Sp (R.map (·.x)) y := ((H.span _ _).mp h).mono fun z hz => by
 obtain ⟨r, hr, _, e⟩ := mem_fmR.mp hz
 exact List.mem_map.mpr ⟨r, hr, e⟩
theorem rows_vs {y : Nat} (h : Sp (R.map (·.x)) y) : Sp (fmV te.length vs) y := (H.span _ _).mpr (h.mono fun z hz => by
 obtain ⟨r, hr, e⟩ := List.mem_map.mp hz
 exact mem_fmR.mpr ⟨r, hr, (H.rows r hr).d, e⟩)
theorem fm_three {x : List Str} (hx : x ∈ threesP c) : xorL (pls te x) 0 ∈ fmV te.length vs := by
 refine mem_fmV.mpr ⟨pls te x, hv.mem_iff.mpr (List.mem_map.mpr ⟨x, hx, rfl⟩), ?_, rfl⟩
 obtain ⟨a, rest, e, _⟩ := pls_cons (te := te) hx
 have := pls_small T hx a (by rw [e]; exact List.mem_cons_self)
 rw [e]; exact this
theorem merge_loose {k : Nat} {e : Tie} (he : te[k]? = some e) (hj : e.2.1 < c) (hi : e.2.2 < c) (hlt : ∀ (p : Nat) (e : Tie), te[p]? = some e → e.2.1 < c ∧ e.2.2 < c) (hm : mk te c k e.2.1 ≠ mk te c k e.2.2) : isPiv R k = false := by
 cases hp : isPiv R k with
 | false => rfl
 | true =>
  exfalso
  unfold isPiv at hp
  rw [List.any_eq_true] at hp
  obtain ⟨r, hr, e2⟩ := hp
  have e2 : r.p = k := by simpa using e2
  have ht := H.ech.top r hr
  rw [e2] at ht
  have hk : k < te.length := (List.getElem?_eq_some_iff.mp he).1
  let f : Nat → Bool := fun u => decide (mk te c k u = mk te c k e.2.2)
  have h1 : prt (wOf te f) te.length r.x = false := prt_span (L := fmV te.length vs) (fun y hy => by
   obtain ⟨v, hv2, _, rfl⟩ := mem_fmV.mp hy
   obtain ⟨x, hx, rfl⟩ := List.mem_map.mp (hv.mem_iff.mp hv2)
   exact prt_three T hx) (rows_vs T hv H (.mem (List.mem_map.mpr ⟨r, hr, rfl⟩)))
  have h2 := prt_top (w := wOf te f) ht (fun p hp => by
   unfold wOf
   rw [List.getElem?_eq_getElem (show p < te.length by omega)]
   have hg := List.getElem?_eq_getElem (show p < te.length by omega)
   obtain ⟨l1, l2⟩ := hlt _ _ hg
   show (decide (mk te c k te[p].2.1 = _) ^^ decide (mk te c k te[p].2.2 = _)) = false
   rw [mk_done T hg l1 l2 k hp]; simp) (by
   unfold wOf
   rw [he]
   show (decide (mk te c k e.2.1 = mk te c k e.2.2) ^^ decide (mk te c k e.2.2 = mk te c k e.2.2)) = true
   rw [decide_eq_false hm, decide_eq_true rfl]; rfl) te.length
  rw [h1, decide_eq_true hk] at h2
  cases h2
end
end
section
noncomputable def eT (te : List Tie) (u v : Nat) : Nat := if u = v then 0 else if u < v then 2 ^ posN te (nm u v) else 2 ^ posN te (nm v u)
theorem eT_self (te : List Tie) (u : Nat) : eT te u u = 0 := if_pos rfl
theorem eT_lt {te : List Tie} {u v : Nat} (h : u < v) : eT te u v = 2 ^ posN te (nm u v) := by
 unfold eT; rw [if_neg (by omega), if_pos h]
theorem eT_comm (te : List Tie) (u v : Nat) : eT te u v = eT te v u := by
 unfold eT
 rcases Nat.lt_trichotomy u v with h | h | h
 ·rw [if_neg (by omega), if_pos h, if_neg (by omega), if_neg (by omega)]
 ·subst h; rfl
 ·rw [if_neg (by omega), if_neg (by omega), if_neg (by omega), if_pos h]
theorem x3a (a b d : Nat) : a ^^^ b ^^^ d = a ^^^ d ^^^ b := by rw [Nat.xor_assoc, Nat.xor_comm b d, ← Nat.xor_assoc]
theorem x3b (a b d : Nat) : a ^^^ b ^^^ d = b ^^^ a ^^^ d := by rw [Nat.xor_comm a b]
section
variable {c : Nat} {te : List Tie} (T : TieOk c te) (hc : c ≤ 5) {R : List Row} {vs : List (List Nat)} (hv : vs.Perm ((threesP c).map (pls te))) (H : RI te.length vs R)
include T hv H
theorem tri_sorted {a b d : Nat} (h1 : a < b) (h2 : b < d) (h3 : d < c) : Sp (fmV te.length vs) (eT te a b ^^^ eT te a d ^^^ eT te b d) := by
 rw [eT_lt h1, eT_lt (Nat.lt_trans h1 h2), eT_lt h2, ← pls_xor T (three_in h1 h2 h3)]
 exact .mem (fm_three T hv H (three_in h1 h2 h3))
theorem tri {u v w : Nat} (hu : u < c) (hv2 : v < c) (hw : w < c) : Sp (fmV te.length vs) (eT te u v ^^^ eT te v w ^^^ eT te u w) := by
 by_cases e1 : u = v
 ·subst e1
  rw [eT_self, Nat.zero_xor, Nat.xor_self]; exact .zero
 by_cases e2 : v = w
 ·subst e2
  rw [eT_self, Nat.xor_zero, Nat.xor_self]; exact .zero
 by_cases e3 : u = w
 ·subst e3
  rw [eT_self, Nat.xor_zero, eT_comm te u v, Nat.xor_self]; exact .zero
 rcases Nat.lt_or_gt_of_ne e1 with a1 | a1
 ·rcases Nat.lt_or_gt_of_ne e2 with a2 | a2
  ·rw [x3a]; exact tri_sorted T hv H a1 a2 hw
  ·rcases Nat.lt_or_gt_of_ne e3 with a3 | a3
   ·have := tri_sorted T hv H a3 a2 hv2
    rw [eT_comm te v w, x3a, x3b]; exact this
   ·have := tri_sorted T hv H a3 a1 hv2
    rw [eT_comm te v w, eT_comm te u w, x3a, Nat.xor_comm, ← Nat.xor_assoc, x3a]
    rw [x3b]
    have e : eT te w v ^^^ eT te w u ^^^ eT te u v = eT te w u ^^^ eT te w v ^^^ eT te u v := x3b ..
    first | exact this | (rw [x3b]; exact this) | (rw [x3a]; exact this) | (rw [x3a, x3b]; exact this) | (rw [x3b, x3a]; exact this)
 ·rcases Nat.lt_or_gt_of_ne e2 with a2 | a2
  ·rcases Nat.lt_or_gt_of_ne e3 with a3 | a3
   ·have := tri_sorted T hv H a1 a3 hw
    rw [eT_comm te u v]; exact this
   ·have := tri_sorted T hv H a2 a3 hu
    rw [eT_comm te u v, eT_comm te u w]
    first | exact this | (rw [x3b]; exact this) | (rw [x3a]; exact this) | (rw [x3a, x3b]; exact this) | (rw [x3b, x3a]; exact this)
  ·have := tri_sorted T hv H a2 a1 hu
   rw [eT_comm te u v, eT_comm te v w, eT_comm te u w]
   first | exact this | (rw [x3b]; exact this) | (rw [x3a]; exact this) | (rw [x3a, x3b]; exact this) | (rw [x3b, x3a]; exact this) | (rw [x3b, x3a, x3b]; exact this) | (rw [x3a, x3b, x3a]; exact this)
noncomputable def Rk (L : List Nat) (te : List Tie) (k u v : Nat) : Prop := ∃ y, y < 2 ^ k ∧ Sp L (y ^^^ eT te u v)
omit T hv H in
theorem Rk.refl (L : List Nat) (k u : Nat) : Rk L te k u u := ⟨0, Nat.two_pow_pos k, by rw [eT_self]; exact .zero⟩
omit T hv H in
theorem Rk.symm {L : List Nat} {k u v : Nat} (h : Rk L te k u v) : Rk L te k v u := by
 obtain ⟨y, h1, h2⟩ := h
 exact ⟨y, h1, by rw [eT_comm]; exact h2⟩
omit T hv H in
theorem Rk.up {L : List Nat} {k u v : Nat} (h : Rk L te k u v) : Rk L te (k + 1) u v := by
 obtain ⟨y, h1, h2⟩ := h
 exact ⟨y, Nat.lt_of_lt_of_le h1 (Nat.pow_le_pow_right (by decide) (by omega)), h2⟩
theorem Rk.trans {k u v w : Nat} (hu : u < c) (hv2 : v < c) (hw : w < c) (h : Rk (fmV te.length vs) te k u v) (h' : Rk (fmV te.length vs) te k v w) : Rk (fmV te.length vs) te k u w := by
 obtain ⟨y, y1, y2⟩ := h
 obtain ⟨z, z1, z2⟩ := h'
 refine ⟨y ^^^ z, Nat.xor_lt_two_pow y1 z1, ?_⟩
 have := (y2.xor z2).xor (tri T hv H hu hv2 hw)
 have e : y ^^^ eT te u v ^^^ (z ^^^ eT te v w) ^^^ (eT te u v ^^^ eT te v w ^^^ eT te u w) = y ^^^ z ^^^ eT te u w := by
  apply Nat.eq_of_testBit_eq
  intro q
  simp only [Nat.testBit_xor]
  cases y.testBit q <;> cases z.testBit q <;> cases (eT te u v).testBit q <;> cases (eT te v w).testBit q <;> cases (eT te u w).testBit q <;> rfl
 rwa [e] at this
variable (hlt : ∀ (p : Nat) (e : Tie), te[p]? = some e → e.2.1 < e.2.2 ∧ e.2.2 < c)
include hlt hc
theorem mk_path : ∀ k, k ≤ te.length → ∀ u v, u < c → v < c → mk te c k u = mk te c k v → Rk (fmV te.length vs) te k u v
 | 0, _, u, v, hu, hv2, h => by
  rw [mk_zero hu, mk_zero hv2] at h
  have : u = v := by omega
  subst this
  exact Rk.refl ..
 | k + 1, hk, u, v, hu, hv2, h => by
  have hkl : k < te.length := by omega
  have he := List.getElem?_eq_getElem hkl
  have ih := mk_path k (by omega)
  obtain ⟨l1, l2⟩ := hlt k _ he
  have lj : te[k].2.1 < c := by omega
  rw [mk_succ he hu, mk_succ he hv2] at h
  have edge : Rk (fmV te.length vs) te (k + 1) te[k].2.1 te[k].2.2 := by
   have hn : nm te[k].2.1 te[k].2.2 = nmP te k := by unfold nmP; rw [he]
   refine ⟨2 ^ k, Nat.pow_lt_pow_right (by decide) (by omega), ?_⟩
   rw [eT_lt l1, hn, posN_nmP T hc hkl, Nat.xor_self]
   exact .zero
  by_cases hu2 : mk te c k u = mk te c k te[k].2.2
  ·have r1 := (ih u _ hu l2 hu2).up
   rw [hu2, beq_self_eq_true, if_pos rfl] at h
   have r2 : Rk (fmV te.length vs) te (k + 1) u te[k].2.1 := Rk.trans T hv H hu l2 lj r1 edge.symm
   by_cases hv3 : mk te c k v = mk te c k te[k].2.2
   ·have r3 := (ih v _ hv2 l2 hv3).up
    exact Rk.trans T hv H hu l2 hv2 r1 r3.symm
   ·rw [if_neg (by simpa using hv3)] at h
    exact Rk.trans T hv H hu lj hv2 r2 (ih _ _ lj hv2 h).up
  ·rw [if_neg (by simpa using hu2)] at h
   by_cases hv3 : mk te c k v = mk te c k te[k].2.2
   ·rw [if_pos (by simpa using hv3)] at h
    have r1 := (ih u _ hu lj h).up
    have r3 := (ih v _ hv2 l2 hv3).up
    exact Rk.trans T hv H hu lj hv2 r1 (Rk.trans T hv H lj l2 hv2 edge r3.symm)
   ·rw [if_neg (by simpa using hv3)] at h
    exact (ih u v hu hv2 h).up
theorem stay_piv {k : Nat} (hk : k < te.length) (h : mk te c k te[k].2.1 = mk te c k te[k].2.2) : isPiv R k = true := by
 have he := List.getElem?_eq_getElem hk
 obtain ⟨l1, l2⟩ := hlt k _ he
 obtain ⟨y, y1, y2⟩ := mk_path T hc hv H hlt k (by omega) _ _ (by omega) l2 h
 have hn : nm te[k].2.1 te[k].2.2 = nmP te k := by unfold nmP; rw [he]
 rw [eT_lt l1, hn, posN_nmP T hc hk] at y2
 have t0 : Tp (2 ^ k) k := ⟨by rw [Nat.testBit_two_pow]; simp, Nat.pow_lt_pow_right (by decide) (by omega)⟩
 have ht : Tp (y ^^^ 2 ^ k) k := Tp.low y1 t0 (Nat.le_refl k)
 rcases ech_top R H.ech _ (vs_rows T hv H y2) with h0 | ⟨r, hr, hr2⟩
 ·exact absurd h0 ht.ne
 ·unfold isPiv
  rw [List.any_eq_true]
  exact ⟨r, hr, by simpa using hr2.uniq ht⟩
theorem count_k : ∀ k, k ≤ te.length → (dedup (marksK te c k)).length + nonN R k = c
 | 0, _ => by
  have : marksK te c 0 = marks0 c := by unfold marksK; rw [List.take_zero]; rfl
  rw [this, marks0_count]; rfl
 | k + 1, hk => by
  have hkl : k < te.length := by omega
  have he := List.getElem?_eq_getElem hkl
  have ih := count_k k (by omega)
  obtain ⟨l1, l2⟩ := hlt k _ he
  have hcnt := mk_count (c := c) he (by omega) l2
  have hn : nonN R (k + 1) = nonN R k + (if isPiv R k then 0 else 1) := by
   unfold nonN
   rw [List.range_succ, List.filter_append, List.length_append, List.filter_cons, List.filter_nil]
   cases isPiv R k <;> rfl
  rw [hn]
  by_cases h : mk te c k te[k].2.1 = mk te c k te[k].2.2
  ·rw [if_pos h] at hcnt
   rw [stay_piv T hc hv H hlt hkl h]
   simp only [if_true]
   omega
  ·rw [if_neg h] at hcnt
   rw [merge_loose T hv H he (by omega) l2 (fun p e he => ⟨Nat.lt_trans (hlt p e he).1 (hlt p e he).2, (hlt p e he).2⟩) h]
   simp only [Bool.false_eq_true, if_false]
   omega
end
theorem law_all : LawAll := by
 intro c hc te R T G
 obtain ⟨vs, hv, H⟩ := red_RI T hc G
 have hm := tie_len T hc
 have hlt : ∀ (p : Nat) (e : Tie), te[p]? = some e → e.2.1 < e.2.2 ∧ e.2.2 < c := fun p e he => te_lt T hc (List.mem_of_getElem? he)
 have hparts : ∀ b, partsP te b c + nonN R (manyN te b) = c := fun b => by
  rw [parts_marks T]
  exact count_k T hc hv H hlt _ (List.length_filter_le _ _)
 refine ⟨law_few H hm, fun b _ => law_c1 T hv H b, fun b _ => ?_, fun b _ s _ hsb => ?_⟩
 ·rw [law_loose T hc H]
  have := hparts b
  omega
 ·have h1 := hparts s
  have h2 := piv_non R (manyN te s)
  have h3 : (manyN te s : Int) - c + (partsP te s c : Nat) = (pivN R (manyN te s) : Nat) := by omega
  rw [h3]
  refine ⟨by omega, ?_⟩
  rw [Int.toNat_natCast, law_lost T hv H, law_alive T H, piv_count H.ech.nd]
  have h4 := filter_split (fun r => !decide (r.d < manyN te b)) (R.filter fun r => decide (r.p < manyN te s))
  have h5 : ((R.filter fun r => decide (r.p < manyN te s)).filter fun r => !!decide (r.d < manyN te b)) = ((R.filter fun r => decide (r.d < manyN te b)).filter fun r => decide (r.p < manyN te s)) := by
   rw [List.filter_filter, List.filter_filter]
   refine List.filter_congr fun r _ => ?_
   rw [Bool.not_not, Bool.and_comm]
  rw [h5] at h4
  rw [h4, int_pow_cast, int_pow_cast, Nat.pow_add]
  exact (Int.natCast_mul _ _).symm
end
end Mine
theorem PySem.Challenge.cw_pg0295_01_holds : PySem.Challenge.rw_pg0295_01.Holds :=
 Mine.top Mine.law_all
