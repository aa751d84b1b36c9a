import PyProof.Rows.All
import Wide.All
import OpenK.AllK
import Wide.FinOn
import Lean
import KE.KNest
import PySem.Challenge.RW_wn0011_03
set_option Elab.async false
set_option backward.eqns.nonrecursive false
set_option linter.all false
set_option bootstrap.genMatcherCode false
section
open PySem PySem.Calls PyProof.Rows
namespace Mine
theorem cps {P : Prop} (h : ∀ G : Prop, (P → G) → G) : P := h P id
inductive K where
  | int (i : Int)
  | str (s : Str)
  deriving DecidableEq
inductive D where
  | none
  | bool (b : Bool)
  | int (i : Int)
  | str (s : Str)
  | tup (l : List D)
  | lst (l : List D)
  | dct (l : List (K × D))
noncomputable def K.d : K → D
  | .int i => .int i
  | .str s => .str s
noncomputable def K.is : K → Value → Bool
  | .int i, v => Value.isInt i v
  | .str s, v => Value.isStrOf s v
theorem K.is_int {i : Int} {v : Value} (h : (K.int i).is v = true) : ∃ t, v = .int i t := Value.isInt_shape h
theorem K.is_str {s : Str} {v : Value} (h : (K.str s).is v = true) : ∃ t, v = .str s t := Value.isStrOf_shape h
theorem K.is_inj (v : Value) (a b : K) (ha : a.is v = true) (hb : b.is v = true) : a = b := by
  cases a with
  | int i =>
    obtain ⟨t, rfl⟩ := K.is_int ha
    cases b with
    | int j => obtain ⟨u, e⟩ := K.is_int hb; injection e with e; rw [e]
    | str x => obtain ⟨u, e⟩ := K.is_str hb; cases e
  | str x =>
    obtain ⟨t, rfl⟩ := K.is_str ha
    cases b with
    | int j => obtain ⟨u, e⟩ := K.is_int hb; cases e
    | str y => obtain ⟨u, e⟩ := K.is_str hb; injection e with e; rw [e]
noncomputable def K.hash (w : World) : K → Int
  | .int i => hashInt i
  | .str s => hashStr w s
noncomputable def kind (prog : Program) (w : World) : KeyKind prog w K where
  is := K.is
  hash := K.hash w
  inj := K.is_inj
  byValue := fun k v h => by
    cases k with
    | int i => obtain ⟨t, rfl⟩ := K.is_int h; rfl
    | str x => obtain ⟨t, rfl⟩ := K.is_str h; rfl
  pyHash := fun {A E s k v Q} hv h => by
    cases k with
    | int i => obtain ⟨t, rfl⟩ := K.is_int hv; exact wpAny_pyHash_int h
    | str x => obtain ⟨t, rfl⟩ := K.is_str hv; exact wpAny_pyHash_str h
  eqBool := fun {A E s a b u v Q} hu hv h => by
    cases a with
    | int i =>
      obtain ⟨t, rfl⟩ := K.is_int hu
      cases b with
      | int j => obtain ⟨t', rfl⟩ := K.is_int hv; exact wpAny_eqBool_int (by
          have e : decide (K.int i = K.int j) = (i == j) := by
            by_cases h : i = j
            · subst h; simp
            · have : ¬ (K.int i = K.int j) := fun e => h (by injection e)
              simp [this, h]
          rw [← e]; exact h)
      | str y => obtain ⟨t', rfl⟩ := K.is_str hv; exact (SeqAt.EqAt.int_str i t y t' prog w E Q (by
          have e : decide (K.int i = K.str y) = false := decide_eq_false (by intro e; cases e)
          rw [← e]; exact h))
    | str x =>
      obtain ⟨t, rfl⟩ := K.is_str hu
      cases b with
      | int j => obtain ⟨t', rfl⟩ := K.is_int hv; exact (SeqAt.EqAt.str_int x t j t' prog w E Q (by
          have e : decide (K.str x = K.int j) = false := decide_eq_false (by intro e; cases e)
          rw [← e]; exact h))
      | str y => obtain ⟨t', rfl⟩ := K.is_str hv; exact wpAny_eqBool_str (by
          have e : decide (K.str x = K.str y) = decide (x = y) := by
            by_cases h : x = y
            · subst h; simp
            · have : ¬ (K.str x = K.str y) := fun e => h (by injection e)
              simp [this, h]
          rw [← e]; exact h)
  «strs» := fun k x t v h => by
    cases k with
    | int i => obtain ⟨u, e⟩ := K.is_int h; cases e
    | str y =>
      obtain ⟨u, hu⟩ := K.is_str h
      injection hu with hx
      subst hx
      cases v <;> rfl
noncomputable def LstAt (h : Heap) (a : Addr) (vs : List Value) : Prop := ∃ n, h.get? a = some { cls := .type "list", dict := none, data := .seq vs.toArray n, slots := #[] }
noncomputable def TupAt (h : Heap) (a : Addr) (vs : List Value) : Prop := ∃ n, h.get? a = some { cls := .type "tuple", dict := none, data := .seq vs.toArray n, slots := #[] }
theorem TupAt.tup {h : Heap} {a : Addr} {vs : List Value} (x : TupAt h a vs) : h.IsTuple a vs.toArray := let ⟨n, e⟩ := x; ⟨_, e, rfl, n, rfl⟩
theorem LstAt.list {h : Heap} {a : Addr} {vs : List Value} (x : LstAt h a vs) : h.IsList a vs.toArray := let ⟨n, e⟩ := x; ⟨_, e, rfl, n, rfl⟩
theorem LstAt.keep {h h' : Heap} {a : Addr} {vs : List Value} (x : LstAt h a vs) (k : ∀ o, h.get? a = some o → h'.get? a = some o) : LstAt h' a vs := let ⟨n, e⟩ := x; ⟨n, k _ e⟩
theorem LstAt.live {h : Heap} {a : Addr} {vs : List Value} (x : LstAt h a vs) : ∃ o, h.get? a = some o := let ⟨_, e⟩ := x; ⟨_, e⟩
section
variable (w : World) (prog : Program) (F : Addr → Prop) (h : Heap)
mutual
inductive Rep : Value → D → Prop
  | none : Rep .none .none
  | bool (b : Bool) : Rep (.bool b) (.bool b)
  | int (i : Int) (t : Tok) : Rep (.int i t) (.int i)
  | str (s : Str) (t : Tok) : Rep (.str s t) (.str s)
  | tup {a : Addr} {vs : List Value} {ds : List D} : ¬ F a → h.IsTuple a vs.toArray → Reps vs ds → Rep (.ref a) (.tup ds)
  | lst {a : Addr} {vs : List Value} {ds : List D} : ¬ F a → h.IsList a vs.toArray → Reps vs ds → Rep (.ref a) (.lst ds)
  | dct {a : Addr} {kvs : List (K × Value)} {ds : List (K × D)} : ¬ F a → h.DictOf (kind prog w) a kvs → RepKs kvs ds → Rep (.ref a) (.dct ds)
inductive Reps : List Value → List D → Prop
  | nil : Reps [] []
  | cons {v : Value} {d : D} {vs : List Value} {ds : List D} : Rep v d → Reps vs ds → Reps (v :: vs) (d :: ds)
inductive RepKs : List (K × Value) → List (K × D) → Prop
  | nil : RepKs [] []
  | cons {k : K} {v : Value} {d : D} {vs : List (K × Value)} {ds : List (K × D)} : Rep v d → RepKs vs ds → RepKs ((k, v) :: vs) ((k, d) :: ds)
end
end
variable {w : World} {prog : Program} {F F' : Addr → Prop} {h h' : Heap}
theorem go_tup (k : ∀ a o, ¬ F a → h.get? a = some o → ¬ F' a ∧ h'.get? a = some o) {a : Addr} {vs : Array Value} (hF : ¬ F a) (e : h.IsTuple a vs) : ¬ F' a ∧ h'.IsTuple a vs := by
  obtain ⟨o, e, x⟩ := e
  exact ⟨(k _ _ hF e).1, o, (k _ _ hF e).2, x⟩
theorem go_lst (k : ∀ a o, ¬ F a → h.get? a = some o → ¬ F' a ∧ h'.get? a = some o) {a : Addr} {vs : Array Value} (hF : ¬ F a) (e : h.IsList a vs) : ¬ F' a ∧ h'.IsList a vs := by
  obtain ⟨o, e, x⟩ := e
  exact ⟨(k _ _ hF e).1, o, (k _ _ hF e).2, x⟩
theorem go_dct (k : ∀ a o, ¬ F a → h.get? a = some o → ¬ F' a ∧ h'.get? a = some o) {a : Addr} {kvs : List (K × Value)} (hF : ¬ F a) (e : h.DictOf (kind prog w) a kvs) : ¬ F' a ∧ h'.DictOf (kind prog w) a kvs := by
  obtain ⟨o, es, ep, e, x⟩ := e
  exact ⟨(k _ _ hF e).1, o, es, ep, (k _ _ hF e).2, x⟩
theorem Rep.go (k : ∀ a o, ¬ F a → h.get? a = some o → ¬ F' a ∧ h'.get? a = some o) {v : Value} {d : D} (r : Rep w prog F h v d) : Rep w prog F' h' v d :=
  Rep.rec (motive_1 := fun v d _ => Rep w prog F' h' v d) (motive_2 := fun v d _ => Reps w prog F' h' v d) (motive_3 := fun v d _ => RepKs w prog F' h' v d)
    .none .bool .int .str (fun hF e _ ih => .tup (go_tup k hF e).1 (go_tup k hF e).2 ih) (fun hF e _ ih => .lst (go_lst k hF e).1 (go_lst k hF e).2 ih) (fun hF e _ ih => .dct (go_dct k hF e).1 (go_dct k hF e).2 ih)
    .nil (fun _ _ a b => .cons a b) .nil (fun _ _ a b => .cons a b) r
theorem Reps.go (k : ∀ a o, ¬ F a → h.get? a = some o → ¬ F' a ∧ h'.get? a = some o) {v : List Value} {d : List D} (r : Reps w prog F h v d) : Reps w prog F' h' v d :=
  Reps.rec (motive_1 := fun v d _ => Rep w prog F' h' v d) (motive_2 := fun v d _ => Reps w prog F' h' v d) (motive_3 := fun v d _ => RepKs w prog F' h' v d)
    .none .bool .int .str (fun hF e _ ih => .tup (go_tup k hF e).1 (go_tup k hF e).2 ih) (fun hF e _ ih => .lst (go_lst k hF e).1 (go_lst k hF e).2 ih) (fun hF e _ ih => .dct (go_dct k hF e).1 (go_dct k hF e).2 ih)
    .nil (fun _ _ a b => .cons a b) .nil (fun _ _ a b => .cons a b) r
theorem RepKs.go (k : ∀ a o, ¬ F a → h.get? a = some o → ¬ F' a ∧ h'.get? a = some o) {v : List (K × Value)} {d : List (K × D)} (r : RepKs w prog F h v d) : RepKs w prog F' h' v d :=
  RepKs.rec (motive_1 := fun v d _ => Rep w prog F' h' v d) (motive_2 := fun v d _ => Reps w prog F' h' v d) (motive_3 := fun v d _ => RepKs w prog F' h' v d)
    .none .bool .int .str (fun hF e _ ih => .tup (go_tup k hF e).1 (go_tup k hF e).2 ih) (fun hF e _ ih => .lst (go_lst k hF e).1 (go_lst k hF e).2 ih) (fun hF e _ ih => .dct (go_dct k hF e).1 (go_dct k hF e).2 ih)
    .nil (fun _ _ a b => .cons a b) .nil (fun _ _ a b => .cons a b) r
noncomputable def RepV (w : World) (prog : Program) (F : Addr → Prop) (h : Heap) (v : Value) : D → Prop
  | .none => v = .none
  | .bool b => v = .bool b
  | .int i => ∃ t, v = .int i t
  | .str s => ∃ t, v = .str s t
  | .tup ds => ∃ a vs, v = .ref a ∧ ¬ F a ∧ h.IsTuple a vs.toArray ∧ Reps w prog F h vs ds
  | .lst ds => ∃ a vs, v = .ref a ∧ ¬ F a ∧ h.IsList a vs.toArray ∧ Reps w prog F h vs ds
  | .dct ds => ∃ a kvs, v = .ref a ∧ ¬ F a ∧ h.DictOf (kind prog w) a kvs ∧ RepKs w prog F h kvs ds
theorem Rep.view {v : Value} {d : D} (r : Rep w prog F h v d) : RepV w prog F h v d := by
  cases r with
  | none => rfl
  | bool b => rfl
  | int i t => exact ⟨t, rfl⟩
  | str s t => exact ⟨t, rfl⟩
  | tup a b c => exact ⟨_, _, rfl, a, b, c⟩
  | lst a b c => exact ⟨_, _, rfl, a, b, c⟩
  | dct a b c => exact ⟨_, _, rfl, a, b, c⟩
noncomputable def RepsV (w : World) (prog : Program) (F : Addr → Prop) (h : Heap) (vs : List Value) : List D → Prop
  | [] => vs = []
  | d :: ds => ∃ v vs', vs = v :: vs' ∧ Rep w prog F h v d ∧ Reps w prog F h vs' ds
theorem Reps.view {vs : List Value} {ds : List D} (r : Reps w prog F h vs ds) : RepsV w prog F h vs ds := by
  cases r with
  | nil => rfl
  | cons a b => exact ⟨_, _, rfl, a, b⟩
noncomputable def RepKsV (w : World) (prog : Program) (F : Addr → Prop) (h : Heap) (vs : List (K × Value)) : List (K × D) → Prop
  | [] => vs = []
  | (k, d) :: ds => ∃ v vs', vs = (k, v) :: vs' ∧ Rep w prog F h v d ∧ RepKs w prog F h vs' ds
theorem RepKs.view {vs : List (K × Value)} {ds : List (K × D)} (r : RepKs w prog F h vs ds) : RepKsV w prog F h vs ds := by
  cases r with
  | nil => rfl
  | cons a b => exact ⟨_, _, rfl, a, b⟩
noncomputable def RepU (w : World) (prog : Program) (F : Addr → Prop) (h : Heap) (d : D) : Value → Prop
  | .none => d = .none
  | .bool b => d = .bool b
  | .int i _ => d = .int i
  | .str s _ => d = .str s
  | .ref a => (∃ vs ds, d = .tup ds ∧ h.IsTuple a vs.toArray ∧ Reps w prog F h vs ds) ∨ (∃ vs ds, d = .lst ds ∧ h.IsList a vs.toArray ∧ Reps w prog F h vs ds) ∨ ∃ kvs ds, d = .dct ds ∧ h.DictOf (kind prog w) a kvs ∧ RepKs w prog F h kvs ds
  | _ => False
theorem Rep.uview {v : Value} {d : D} (r : Rep w prog F h v d) : RepU w prog F h d v := by
  cases r with
  | none => rfl
  | bool b => rfl
  | int i t => rfl
  | str s t => rfl
  | tup a b c => exact .inl ⟨_, _, rfl, b, c⟩
  | lst a b c => exact .inr (.inl ⟨_, _, rfl, b, c⟩)
  | dct a b c => exact .inr (.inr ⟨_, _, rfl, b, c⟩)
theorem Reps.length {vs : List Value} {ds : List D} (r : Reps w prog F h vs ds) : vs.length = ds.length := by
  induction ds generalizing vs with
  | nil => rw [r.view]; rfl
  | cons d ds ih => obtain ⟨v, vs, rfl, _, r⟩ := r.view; exact congrArg Nat.succ (ih r)
theorem RepKs.length {vs : List (K × Value)} {ds : List (K × D)} (r : RepKs w prog F h vs ds) : vs.length = ds.length := by
  induction ds generalizing vs with
  | nil => rw [r.view]; rfl
  | cons d ds ih => obtain ⟨v, vs, rfl, _, r⟩ := r.view; exact congrArg Nat.succ (ih r)
theorem RepKs.keys {vs : List (K × Value)} {ds : List (K × D)} (r : RepKs w prog F h vs ds) : vs.map (·.1) = ds.map (·.1) := by
  induction ds generalizing vs with
  | nil => rw [r.view]; rfl
  | cons d ds ih => obtain ⟨v, vs, rfl, _, r⟩ := r.view; exact congrArg (d.1 :: ·) (ih r)
theorem Reps.append {vs vs' : List Value} {ds ds' : List D} (r : Reps w prog F h vs ds) (r' : Reps w prog F h vs' ds') : Reps w prog F h (vs ++ vs') (ds ++ ds') := by
  induction ds generalizing vs with
  | nil => rw [show vs = [] from r.view]; exact r'
  | cons d ds ih => obtain ⟨v, vs, rfl, a, r⟩ := r.view; exact .cons a (ih r)
theorem Reps.get {vs : List Value} {ds : List D} (r : Reps w prog F h vs ds) {i : Nat} {d : D} (hd : ds[i]? = some d) : ∃ v, vs[i]? = some v ∧ Rep w prog F h v d := by
  induction ds generalizing vs i with
  | nil => exact nomatch hd
  | cons x ds ih =>
    obtain ⟨v, vs, rfl, a, r⟩ := r.view
    cases i with
    | zero => exact ⟨v, rfl, Option.some.inj hd ▸ a⟩
    | succ i => exact ih r hd
theorem Reps.get' {vs : List Value} {ds : List D} (r : Reps w prog F h vs ds) {i : Nat} {v : Value} (hv : vs[i]? = some v) : ∃ d, ds[i]? = some d ∧ Rep w prog F h v d := by
  induction ds generalizing vs i with
  | nil => rw [show vs = [] from r.view] at hv; exact nomatch hv
  | cons x ds ih =>
    obtain ⟨v, vs, rfl, a, r⟩ := r.view
    cases i with
    | zero => exact ⟨x, rfl, Option.some.inj hv ▸ a⟩
    | succ i => exact ih r hv
theorem Reps.drop {vs : List Value} {ds : List D} (r : Reps w prog F h vs ds) (i : Nat) : Reps w prog F h (vs.drop i) (ds.drop i) := by
  induction i generalizing vs ds with
  | zero => exact r
  | succ i ih => cases r with
    | nil => exact .nil
    | cons a r => exact ih r
theorem Reps.take {vs : List Value} {ds : List D} (r : Reps w prog F h vs ds) (i : Nat) : Reps w prog F h (vs.take i) (ds.take i) := by
  induction i generalizing vs ds with
  | zero => exact .nil
  | succ i ih => cases r with
    | nil => exact .nil
    | cons a r => exact .cons a (ih r)
theorem Reps.set {vs : List Value} {ds : List D} (r : Reps w prog F h vs ds) {i : Nat} {v : Value} {d : D} (q : Rep w prog F h v d) : Reps w prog F h (vs.set i v) (ds.set i d) := by
  induction r using Reps.rec (motive_1 := fun _ _ _ => True) (motive_3 := fun _ _ _ => True) generalizing i with
  | nil => exact .nil
  | cons a r _ ih =>
    cases i with
    | zero => exact .cons q r
    | succ i => exact .cons a ih
  | _ => trivial
noncomputable def Ext (h h' : Heap) : Prop := ∀ b o, h.get? b = some o → h'.get? b = some o
theorem Ext.refl (h : Heap) : Ext h h := fun _ _ e => e
theorem Ext.trans {h₁ h₂ h₃ : Heap} (x : Ext h₁ h₂) (y : Ext h₂ h₃) : Ext h₁ h₃ := fun b o e => y b o (x b o e)
theorem Ext.push (h : Heap) (o : Obj) : Ext h (h.push o) := fun _ _ e => Heap.get?_push_of_some o e
theorem Rep.ext {v : Value} {d : D} (r : Rep w prog F h v d) (k : Ext h h') : Rep w prog F h' v d := r.go fun a o f e => ⟨f, k a o e⟩
theorem Reps.ext {v : List Value} {d : List D} (r : Reps w prog F h v d) (k : Ext h h') : Reps w prog F h' v d := r.go fun a o f e => ⟨f, k a o e⟩
theorem RepKs.ext {v : List (K × Value)} {d : List (K × D)} (r : RepKs w prog F h v d) (k : Ext h h') : RepKs w prog F h' v d := r.go fun a o f e => ⟨f, k a o e⟩
theorem Rep.anti {v : Value} {d : D} (r : Rep w prog F h v d) (k : ∀ a, F' a → F a) : Rep w prog F' h v d := r.go fun a _ f e => ⟨fun q => f (k a q), e⟩
theorem Reps.anti {v : List Value} {d : List D} (r : Reps w prog F h v d) (k : ∀ a, F' a → F a) : Reps w prog F' h v d := r.go fun a _ f e => ⟨fun q => f (k a q), e⟩
theorem Rep.more {v : Value} {d : D} (r : Rep w prog F h v d) (k : ∀ a, F' a → F a ∨ h.get? a = Option.none) : Rep w prog F' h v d :=
  r.go fun a o f e => ⟨fun q => (k a q).elim f (fun q => by rw [q] at e; cases e), e⟩
theorem Reps.more {v : List Value} {d : List D} (r : Reps w prog F h v d) (k : ∀ a, F' a → F a ∨ h.get? a = Option.none) : Reps w prog F' h v d :=
  r.go fun a o f e => ⟨fun q => (k a q).elim f (fun q => by rw [q] at e; cases e), e⟩
structure Aft (W : Addr → Prop) (s s' : Shared) : Prop where
  heap : ∀ b o, ¬ W b → s.heap.get? b = some o → s'.heap.get? b = some o
  gens : ∀ (i : Nat) (x : GenState), s.gens[i]? = some x → s'.gens[i]? = some x
  bare : AllBare s.gens → AllBare s'.gens
  os : s'.os = s.os
theorem Aft.refl (W : Addr → Prop) (s : Shared) : Aft W s s := ⟨fun _ _ _ e => e, fun _ _ e => e, id, rfl⟩
theorem Aft.trans {W : Addr → Prop} {s₁ s₂ s₃ : Shared} (x : Aft W s₁ s₂) (y : Aft W s₂ s₃) : Aft W s₁ s₃ :=
  ⟨fun b o f e => y.heap b o f (x.heap b o f e), fun i g e => y.gens i g (x.gens i g e), fun q => y.bare (x.bare q), y.os.trans x.os⟩
theorem Aft.trans' {W W' : Addr → Prop} {s₁ s₂ s₃ : Shared} (x : Aft W s₁ s₂) (y : Aft W' s₂ s₃) (k : ∀ a, W' a → W a ∨ s₁.heap.get? a = none) : Aft W s₁ s₃ :=
  ⟨fun b o f e => y.heap b o (fun q => (k b q).elim f (fun q => by rw [q] at e; cases e)) (x.heap b o f e), fun i g e => y.gens i g (x.gens i g e), fun q => y.bare (x.bare q), y.os.trans x.os⟩
noncomputable abbrev Evl (s s' : Shared) : Prop := Aft (fun _ => False) s s'
theorem Evl.ext {s s' : Shared} (x : Evl s s') : Ext s.heap s'.heap := fun b o e => x.heap b o id e
theorem Evl.of {s : Shared} {h' : Heap} {tk : Nat} (k : Ext s.heap h') : Evl s { s with heap := h', toks := tk } := ⟨fun b o _ e => k b o e, fun _ _ e => e, id, rfl⟩
theorem Evl.toks {s : Shared} {tk : Nat} : Evl s { s with toks := tk } := ⟨fun _ _ _ e => e, fun _ _ e => e, id, rfl⟩
theorem Aft.of {W : Addr → Prop} {s : Shared} {h' : Heap} {tk : Nat} (k : ∀ b o, ¬ W b → s.heap.get? b = some o → h'.get? b = some o) : Aft W s { s with heap := h', toks := tk } := ⟨k, fun _ _ e => e, id, rfl⟩
theorem Aft.mono {W W' : Addr → Prop} {s s' : Shared} (x : Aft W s s') (k : ∀ a, W a → W' a) : Aft W' s s' := ⟨fun b o f e => x.heap b o (fun q => f (k b q)) e, x.gens, x.bare, x.os⟩
theorem Evl.aft {W : Addr → Prop} {s s' : Shared} (x : Evl s s') : Aft W s s' := x.mono fun _ q => q.elim
end Mine
end
section
open PySem PySem.Calls PyProof.Rows
namespace Mine
structure Loc (env : Env) (h : Heap) (m cm : Str → Option Value) : Prop where
  ns : h.Ns env.locals m
  cell : ∀ n c, env.cells.lookup n = some c → h.IsCell c (cm n)
  apart : env.cells.Pairwise fun x y => x.2 ≠ y.2
  ne : ∀ n c, env.cells.lookup n = some c → c ≠ env.locals
noncomputable def val (env : Env) (m cm : Str → Option Value) (x : Str) : Option Value := if env.kindOf x = some .local then m x else cm x
inductive Home (env : Env) (x : Str) : Addr → Bool → Prop
  | loc : env.kindOf x = some .local → Home env x env.locals true
  | cel {c : Addr} : env.kindOf x = some .cell → env.cells.lookup x = some c → Home env x c true
  | fre {c : Addr} : env.kindOf x = some .free → env.cells.lookup x = some c → Home env x c false
section
variable {prog : Program} {w : World} {A : Around} {E : Value → Shared → Prop} {s : Shared} {env : Env} {m cm : Str → Option Value}
theorem Loc.home {x : Str} {a : Addr} {b : Bool} (L : Loc env s.heap m cm) (H : Home env x a b) : a = env.locals ∨ ∃ n, env.cells.lookup n = some a := by
  cases H with
  | loc => exact .inl rfl
  | cel _ hc => exact .inr ⟨x, hc⟩
  | fre _ hc => exact .inr ⟨x, hc⟩
theorem Loc.load {x : Str} {a : Addr} {b : Bool} {v : Value} {Q : Value → Shared → Prop} (hk : env.scope.kind = .function) (L : Loc env s.heap m cm) (H : Home env x a b) (hv : val env m cm x = some v) (h : Q v s)
    (hn : (x == ("__classdict__" : Str)) = false) : wpAny (model prog w) A (loadName env x) Q E s := by
  cases H with
  | loc hl => unfold val at hv; rw [if_pos hl] at hv; exact wpAny_loadName_local hk hl L.ns hv h
  | cel hl hc =>
    unfold val at hv; rw [if_neg (by rw [hl]; decide)] at hv
    exact wpAny_loadName_cell hk hl hc (hv ▸ L.cell _ _ hc) h
  | fre hl hc =>
    unfold val at hv; rw [if_neg (by rw [hl]; decide)] at hv
    exact wpAny_loadName_free hk hl hc (hv ▸ L.cell _ _ hc) h hn
theorem Loc.keep {h h' : Heap} (L : Loc env h m cm) (k : ∀ a o, (a = env.locals ∨ ∃ n, env.cells.lookup n = some a) → h.get? a = some o → h'.get? a = some o) : Loc env h' m cm := by
  refine ⟨?_, fun n c hc => ?_, L.apart, L.ne⟩
  · refine cps fun gZ hZ => ?_
    obtain ⟨o, es, ep, e, r⟩ := L.ns
    refine hZ ?_
    clear hZ gZ
    exact ⟨o, es, ep, k _ _ (.inl rfl) e, r⟩
  · refine cps fun gZ hZ => ?_
    obtain ⟨o, e, r⟩ := L.cell n c hc
    refine hZ ?_
    clear hZ gZ
    exact ⟨o, k _ _ (.inr ⟨n, hc⟩) e, r⟩
theorem Loc.store {x : Str} {a : Addr} {v : Value} {Q : Unit → Shared → Prop} (hk : env.scope.kind = .function) (L : Loc env s.heap m cm) (H : Home env x a true)
    (h : ∀ h' m' cm' tk, Loc env h' m' cm' → (∀ y, val env m' cm' y = if y = x then some v else val env m cm y) → Heap.SameBut a s.heap h' → Q () { s with heap := h', toks := tk }) :
    wpAny (model prog w) A (storeName env x v) Q E s := by
  cases H with
  | loc hl =>
    refine wpAny_storeName_local hl L.ns (fun h' hn hs => h h' _ cm _ ⟨hn, fun n c hc => (L.cell n c hc).sameBut hs (L.ne n c hc), L.apart, L.ne⟩ (fun y => ?_) hs) (by rw [hk]; rfl)
    unfold val
    by_cases hy : y = x
    · subst hy; simp [hl]
    · simp [hy]
  | cel hl hc =>
    refine wpAny_storeName_cell hk hl hc (L.cell _ _ hc) fun h' hc' hs' => h h' m (fun y => if y = x then some v else cm y) s.toks ⟨L.ns.sameBut hs' (Ne.symm (L.ne _ _ hc)), fun n c' hc2 => ?_, L.apart, L.ne⟩ (fun y => ?_) hs'
    · by_cases hn : n = x
      · subst hn
        rw [hc] at hc2; cases hc2
        simpa using hc'
      · rw [if_neg hn]
        exact (L.cell n c' hc2).sameBut hs' fun e => hn (name_of_addr L.apart (mem_of_lookup hc2) (e ▸ mem_of_lookup hc))
    · unfold val
      by_cases hy : y = x
      · subst hy; simp [hl]
      · simp [hy]
end
inductive LV where
  | sh (d : D)
  | ol (ds : List D)
  | od (ds : List (K × D))
  | oll (dss : List (List D))
  | exc (msg : Str)
noncomputable def LV.owned : LV → Bool
  | .sh _ => false
  | _ => true
section
variable (w : World) (prog : Program) (F : Addr → Prop) (h : Heap)
inductive RepLs : List Addr → List (List D) → Prop
  | nil : RepLs [] []
  | cons {a : Addr} {as : List Addr} {vs : List Value} {ds : List D} {dss : List (List D)} : LstAt h a vs → Reps w prog F h vs ds → RepLs as dss → RepLs (a :: as) (ds :: dss)
noncomputable def LvRep (fp : List Addr) (v : Value) : LV → Prop
  | .sh d => Rep w prog F h v d
  | .ol ds => ∃ a vs, v = .ref a ∧ fp = [a] ∧ LstAt h a vs ∧ Reps w prog F h vs ds
  | .od ds => ∃ a kvs, v = .ref a ∧ fp = [a] ∧ h.DictOf (kind prog w) a kvs ∧ RepKs w prog F h kvs ds
  | .oll dss => ∃ a as, v = .ref a ∧ fp = a :: as ∧ LstAt h a (as.map .ref) ∧ RepLs w prog F h as dss
  | .exc msg => ∃ e t tk d sl rest, v = .ref e ∧ fp = [e] ∧ h.get? e = some ⟨.type "ValueError", d, .fields (#[.ref t] ++ rest), sl⟩ ∧ TupAt h t [.str msg tk] ∧ ¬ F t
end
section
variable {w : World} {prog : Program} {F F' : Addr → Prop} {h h' : Heap}
theorem RepLs.go (k : ∀ a o, ¬ F a → h.get? a = some o → ¬ F' a ∧ h'.get? a = some o) {as : List Addr} {dss : List (List D)} (kk : ∀ a ∈ as, ∀ o, h.get? a = some o → h'.get? a = some o) (r : RepLs w prog F h as dss) : RepLs w prog F' h' as dss := by
  induction r with
  | nil => exact .nil
  | cons e r _ ih =>
    exact .cons (e.keep fun o e => kk _ (.head _) _ e) (r.go k) (ih fun a ha => kk a (.tail _ ha))
theorem LvRep.go (k : ∀ a o, ¬ F a → h.get? a = some o → ¬ F' a ∧ h'.get? a = some o) {fp : List Addr} {v : Value} {lv : LV} (hfp : lv.owned = true → ∀ a ∈ fp, ∀ o, h.get? a = some o → h'.get? a = some o)
    (r : LvRep w prog F h fp v lv) : LvRep w prog F' h' fp v lv := by
  cases lv with
  | sh d => exact Rep.go k r
  | ol ds =>
    refine cps fun gZ hZ => ?_
    obtain ⟨a, vs, rfl, rfl, e, r⟩ := r
    refine hZ ?_
    clear hZ gZ
    exact ⟨a, vs, rfl, rfl, e.keep fun o e => hfp rfl a (.head _) _ e, r.go k⟩
  | od ds =>
    refine cps fun gZ hZ => ?_
    obtain ⟨a, kvs, rfl, rfl, ⟨o, es, ep, e, x⟩, r⟩ := r
    refine hZ ?_
    clear hZ gZ
    exact ⟨a, kvs, rfl, rfl, ⟨o, es, ep, hfp rfl a (.head _) _ e, x⟩, r.go k⟩
  | oll dss =>
    refine cps fun gZ hZ => ?_
    obtain ⟨a, as, rfl, rfl, e, r⟩ := r
    refine hZ ?_
    clear hZ gZ
    exact ⟨a, as, rfl, rfl, e.keep fun o e => hfp rfl a (.head _) _ e, r.go k fun b hb => hfp rfl b (.tail _ hb)⟩
  | exc msg =>
    refine cps fun gZ hZ => ?_
    obtain ⟨e, t, tk, d, sl, rest, rfl, rfl, ho, ⟨n, ht⟩, hnt⟩ := r
    refine hZ ?_
    clear hZ gZ
    obtain ⟨q3, q4⟩ := k _ _ hnt ht
    exact ⟨e, t, tk, d, sl, rest, rfl, rfl, hfp rfl e (.head _) _ ho, ⟨n, q4⟩, q3⟩
end
noncomputable abbrev Rho := List (Option LV)
noncomputable def Rho.at (ρ : Rho) (i : Nat) : Option LV := (ρ[i]?).join
structure Base extends Shared where
  Z : Addr → Prop
  ZI : Heap → Prop
  zs : ∀ h h', ZI h → (∀ b o, Z b → h.get? b = some o → h'.get? b = some o) → ZI h'
noncomputable def Base.of (s : Shared) : Base := { s with Z := fun _ => False, ZI := fun _ => True, zs := fun _ _ _ _ => trivial }
inductive StV (w : World) (prog : Program) (env : Env) (tbl : List Str) (s₀ : Base) (N W : Addr → Prop) (ρ : Rho) (s : Shared) : Prop
  | mk (m cm : Str → Option Value) (own : Nat → List Addr) (L : Loc env s.heap m cm) (ZL : ∀ a, s₀.Z a → (a ≠ env.locals ∧ ∀ n c, env.cells.lookup n = some c → a ≠ c) ∧ ∀ i lv, ρ.at i = some lv → lv.owned = true → a ∉ own i)
    (O1 : ∀ i lv, ρ.at i = some lv → lv.owned = true → ∀ a ∈ own i, (W a ∧ ¬ N a) ∧ a ≠ env.locals ∧ (∀ n c, env.cells.lookup n = some c → a ≠ c) ∧ ∀ j lv', ρ.at j = some lv' → lv'.owned = true → a ∈ own j → i = j)
    (O2 : ∀ i lv, ρ.at i = some lv → lv.owned = true → (own i).Nodup)
    (V : ∀ i x lv, tbl[i]? = some x → ρ.at i = some lv → ∃ v, val env m cm x = some v ∧ LvRep w prog (fun a => N a ∨ W a) s.heap (own i) v lv) : StV w prog env tbl s₀ N W ρ s
structure St (w : World) (prog : Program) (env : Env) (tbl : List Str) (s₀ : Base) (N W : Addr → Prop) (ρ : Rho) (s : Shared) : Prop where
  evl : Evl s₀.toShared s
  live : ∀ a, N a ∨ W a → ∃ o, s.heap.get? a = some o
  fresh : ∀ a, W a → s₀.heap.get? a = none
  zw : ∀ a, s₀.Z a → W a
  zi : s₀.ZI s.heap
  vals : StV w prog env tbl s₀ N W ρ s
structure Frm (env : Env) (tbl : List Str) (N W : Addr → Prop) : Prop where
  kind : env.scope.kind = .function
  nodup : tbl.Nodup
  plain : ∀ x ∈ tbl, (x == ("__debug__" : Str)) = false ∧ (x == ("__classdict__" : Str)) = false
  home : ∀ x ∈ tbl, ∃ a b, Home env x a b
  homeN : ∀ x ∈ tbl, ∀ a b, Home env x a b → N a ∨ W a
  homeW : ∀ x ∈ tbl, ∀ a, Home env x a true → W a
section
variable {prog : Program} {w : World} {A : Around} {E : Value → Shared → Prop} {s s' : Shared} {s₀ : Base} {env : Env} {tbl : List Str} {N N' W W' : Addr → Prop} {ρ : Rho}
theorem Rho.at_set (ρ : Rho) (i j : Nat) (x : Option LV) : (Rho.at (ρ.set i x) j) = if i = j ∧ j < ρ.length then x else ρ.at j := by
  unfold Rho.at
  rw [List.getElem?_set]
  by_cases h : i = j
  · subst h
    by_cases hl : i < ρ.length
    · simp [hl]
    · simp [hl]
  · simp [h]
theorem St.aft {X : Addr → Prop} (S : St w prog env tbl s₀ N W ρ s) (x : Aft X s s') (hX : ∀ a, X a → N a ∧ s₀.heap.get? a = none ∧ ¬ W a ∧ a ≠ env.locals ∧ (∀ n c, env.cells.lookup n = some c → a ≠ c))
    (hl : ∀ a, X a → ∃ o, s'.heap.get? a = some o) : St w prog env tbl s₀ N W ρ s' := by
  refine ⟨⟨fun b o _ e => ?_, fun i g e => x.gens i g (S.evl.gens i g e), fun q => x.bare (S.evl.bare q), x.os.trans S.evl.os⟩, fun a ha => ?_, S.fresh, S.zw, s₀.zs _ _ S.zi fun b o hb e => x.heap b o (fun q => (hX b q).2.2.1 (S.zw b hb)) e, ?_⟩
  · refine x.heap b o (fun q => ?_) (S.evl.heap b o id e)
    have := (hX b q).2.1
    rw [this] at e; cases e
  · by_cases q : X a
    · exact hl a q
    · obtain ⟨o, e⟩ := S.live a ha
      exact ⟨o, x.heap a o q e⟩
  · refine cps fun gZ hZ => ?_
    obtain ⟨m, cm, own, L, ZL, O1, O2, V⟩ := S.vals
    refine hZ ?_
    clear hZ gZ
    refine ⟨m, cm, own, L.keep fun a o ha e => x.heap a o (fun q => ?_) e, ZL, O1, O2, fun i y lv ht hr => ?_⟩
    · rcases ha with rfl | ⟨n, hn⟩
      · exact (hX _ q).2.2.2.1 rfl
      · exact (hX _ q).2.2.2.2 n a hn rfl
    · refine cps fun gZ hZ => ?_
      obtain ⟨v, hv, r⟩ := V i y lv ht hr
      refine hZ ?_
      clear hZ gZ
      exact ⟨v, hv, r.go (fun a o hF e => ⟨hF, x.heap a o (fun q => hF (.inl (hX a q).1)) e⟩) (fun ho a ha o e => x.heap a o (fun q => (hX a q).2.2.1 (O1 i lv hr ho a ha).1.1) e)⟩
theorem St.step (S : St w prog env tbl s₀ N W ρ s) (x : Evl s s') : St w prog env tbl s₀ N W ρ s' := S.aft x (fun _ q => q.elim) (fun _ q => q.elim)
theorem St.load {i : Nat} {x : Str} {d : D} {Q : Value → Shared → Prop} (S : St w prog env tbl s₀ N W ρ s) (R : Frm env tbl N W) (hx : tbl[i]? = some x) (hd : ρ.at i = some (.sh d))
    (h : ∀ v, Rep w prog (fun a => N a ∨ W a) s.heap v d → Q v s) : wpAny (model prog w) A (loadName env x) Q E s := by
  refine cps fun gZ hZ => ?_
  obtain ⟨m, cm, own, L, ZL, O1, O2, V⟩ := S.vals
  refine hZ ?_
  clear hZ gZ
  refine cps fun gZ hZ => ?_
  obtain ⟨v, hv, r⟩ := V i x _ hx hd
  refine hZ ?_
  clear hZ gZ
  refine cps fun gZ hZ => ?_
  obtain ⟨a, b, H⟩ := R.home x (List.mem_of_getElem? hx)
  refine hZ ?_
  clear hZ gZ
  exact L.load R.kind H hv (h v r) (R.plain x (List.mem_of_getElem? hx)).2
theorem St.loadv {i : Nat} {x : Str} {lv : LV} {Q : Value → Shared → Prop} (S : St w prog env tbl s₀ N W ρ s) (R : Frm env tbl N W) (hx : tbl[i]? = some x) (hd : ρ.at i = some lv)
    (h : ∀ v fp, LvRep w prog (fun a => N a ∨ W a) s.heap fp v lv → Q v s) : wpAny (model prog w) A (loadName env x) Q E s := by
  refine cps fun gZ hZ => ?_
  obtain ⟨m, cm, own, L, ZL, O1, O2, V⟩ := S.vals
  refine hZ ?_
  clear hZ gZ
  refine cps fun gZ hZ => ?_
  obtain ⟨v, hv, r⟩ := V i x _ hx hd
  refine hZ ?_
  clear hZ gZ
  refine cps fun gZ hZ => ?_
  obtain ⟨a, b, H⟩ := R.home x (List.mem_of_getElem? hx)
  refine hZ ?_
  clear hZ gZ
  exact L.load R.kind H hv (h v _ r) (R.plain x (List.mem_of_getElem? hx)).2
theorem St.weaken {ρ' : Rho} (S : St w prog env tbl s₀ N W ρ s) (k : ∀ i lv, ρ'.at i = some lv → ρ.at i = some lv) : St w prog env tbl s₀ N W ρ' s := by
  refine cps fun gZ hZ => ?_
  obtain ⟨m, cm, own, L, ZL, O1, O2, V⟩ := S.vals
  refine hZ ?_
  clear hZ gZ
  exact ⟨S.evl, S.live, S.fresh, S.zw, S.zi, m, cm, own, L, fun a ha => ⟨(ZL a ha).1, fun i lv hr ho => (ZL a ha).2 i lv (k i lv hr) ho⟩, fun i lv hr ho a ha => ⟨(O1 i lv (k i lv hr) ho a ha).1, (O1 i lv (k i lv hr) ho a ha).2.1, (O1 i lv (k i lv hr) ho a ha).2.2.1, fun j lv' hr' ho' ha' => (O1 i lv (k i lv hr) ho a ha).2.2.2 j lv' (k j lv' hr') ho' ha'⟩,
    fun i lv hr ho => O2 i lv (k i lv hr) ho, fun i x lv ht hr => V i x lv ht (k i lv hr)⟩
theorem St.lessN (S : St w prog env tbl s₀ N W ρ s) (k : ∀ a, N' a → N a) : St w prog env tbl s₀ N' W ρ s := by
  refine cps fun gZ hZ => ?_
  obtain ⟨m, cm, own, L, ZL, O1, O2, V⟩ := S.vals
  refine hZ ?_
  clear hZ gZ
  refine ⟨S.evl, fun a ha => S.live a (ha.imp (k a) id), S.fresh, S.zw, S.zi, m, cm, own, L, ZL, fun i lv hr ho a ha => ⟨⟨(O1 i lv hr ho a ha).1.1, fun q => (O1 i lv hr ho a ha).1.2 (k a q)⟩, (O1 i lv hr ho a ha).2⟩, O2, fun i x lv ht hr => ?_⟩
  refine cps fun gZ hZ => ?_
  obtain ⟨v, hv, r⟩ := V i x lv ht hr
  refine hZ ?_
  clear hZ gZ
  exact ⟨v, hv, r.go (fun a o hF e => ⟨fun q => hF (q.imp (k a) id), e⟩) fun _ a _ o e => e⟩
theorem St.moreN (S : St w prog env tbl s₀ N W ρ s) (x : Evl s s') (k : ∀ a, N' a → N a ∨ (s.heap.get? a = Option.none ∧ ∃ o, s'.heap.get? a = some o)) : St w prog env tbl s₀ N' W ρ s' := by
  have S' := S.step x
  refine ⟨S'.evl, fun a ha => ?_, S'.fresh, S'.zw, S'.zi, ?_⟩
  · rcases ha with ha | ha
    · rcases k a ha with q | q
      · exact S'.live a (.inl q)
      · exact q.2
    · exact S'.live a (.inr ha)
  · refine cps fun gZ hZ => ?_
    obtain ⟨m, cm, own, L, ZL, O1, O2, V⟩ := S.vals
    refine hZ ?_
    clear hZ gZ
    refine ⟨m, cm, own, L.keep fun a o _ e => x.heap a o id e, ZL, fun i lv hr ho a ha => ⟨⟨(O1 i lv hr ho a ha).1.1, fun q => ?_⟩, (O1 i lv hr ho a ha).2⟩, O2, fun i y lv ht hr => ?_⟩
    · rcases k a q with q | q
      · exact (O1 i lv hr ho a ha).1.2 q
      · obtain ⟨o, e⟩ := S.live a (.inr (O1 i lv hr ho a ha).1.1)
        rw [q.1] at e; cases e
    refine cps fun gZ hZ => ?_
    obtain ⟨v, hv, r⟩ := V i y lv ht hr
    refine hZ ?_
    clear hZ gZ
    refine ⟨v, hv, r.go (fun a o hF e => ⟨fun q => ?_, x.heap a o id e⟩) fun _ a _ o e => x.heap a o id e⟩
    rcases q with q | q
    · rcases k a q with q | q
      · exact hF (.inl q)
      · rw [q.1] at e; cases e
    · exact hF (.inr q)
theorem St.store {i : Nat} {x : Str} {a : Addr} {v : Value} {d : D} {Q : Unit → Shared → Prop} (S : St w prog env tbl s₀ N W ρ s) (R : Frm env tbl N W) (hx : tbl[i]? = some x) (H : Home env x a true) (r : Rep w prog (fun a => N a ∨ W a) s.heap v d)
    (h : ∀ s', St w prog env tbl s₀ N W (ρ.set i (some (.sh d))) s' → Aft (fun b => b = a) s s' → Q () s') : wpAny (model prog w) A (storeName env x v) Q E s := by
  refine cps fun gZ hZ => ?_
  obtain ⟨m, cm, own, L, ZL, O1, O2, V⟩ := S.vals
  refine hZ ?_
  clear hZ gZ
  have Wa := R.homeW x (List.mem_of_getElem? hx) a H
  have fr : ∀ a' o, ¬ (N a' ∨ W a') → s.heap.get? a' = some o → a' ≠ a := fun a' o hF _ e => hF (.inr (e ▸ Wa))
  refine L.store R.kind H fun h' m' cm' tk L' hv' hs => h _ ⟨⟨fun b o _ e => ?_, S.evl.gens, S.evl.bare, S.evl.os⟩, fun b hb => ?_, S.fresh, S.zw, s₀.zs _ _ S.zi fun b o hb e => (hs.2 b fun q => ?_).trans e, m', cm', own, L', fun b hb => ⟨(ZL b hb).1, fun j lv hr ho => ?_⟩, ?_, ?_, ?_⟩ (Aft.of fun b o hb e => (hs.2 b fun q => hb q).trans e)
  · refine (hs.2 b fun q => ?_).trans (S.evl.heap b o id e)
    have := S.fresh a Wa
    rw [q, this] at e; cases e
  · by_cases q : b = a
    · subst q
      cases H with
      | loc _ => obtain ⟨o, es, ep, e, _⟩ := L'.ns; exact ⟨o, e⟩
      | cel _ hc => obtain ⟨o, e, _⟩ := L'.cell x b hc; exact ⟨o, e⟩
    · obtain ⟨o, e⟩ := S.live b hb
      exact ⟨o, (hs.2 b q).trans e⟩
  · subst q
    rcases L.home H with q | ⟨n, hn⟩
    · exact (ZL b hb).1.1 q
    · exact (ZL b hb).1.2 n _ hn rfl
  · rw [Rho.at_set] at hr
    split at hr
    · cases hr; cases ho
    · exact (ZL b hb).2 j lv hr ho
  · intro j lv hr ho b hb
    rw [Rho.at_set] at hr
    split at hr
    · cases hr; cases ho
    · refine ⟨(O1 j lv hr ho b hb).1, (O1 j lv hr ho b hb).2.1, (O1 j lv hr ho b hb).2.2.1, fun j' lv' hr' ho' hb' => ?_⟩
      rw [Rho.at_set] at hr'
      split at hr'
      · cases hr'; cases ho'
      · exact (O1 j lv hr ho b hb).2.2.2 j' lv' hr' ho' hb'
  · intro j lv hr ho
    rw [Rho.at_set] at hr
    split at hr
    · cases hr; cases ho
    · exact O2 j lv hr ho
  · intro j y lv ht hr
    rw [Rho.at_set] at hr
    rw [hv']
    have k : ∀ a' o, ¬ (N a' ∨ W a') → s.heap.get? a' = some o → ¬ (N a' ∨ W a') ∧ h'.get? a' = some o := fun a' o hF e => ⟨hF, (hs.2 a' (fr a' o hF e)).trans e⟩
    split at hr
    · rename_i q
      cases hr
      obtain ⟨rfl, _⟩ := q
      rw [hx] at ht; cases ht
      exact ⟨v, by simp, r.go k⟩
    · rename_i q
      have hxy : y ≠ x := by
        intro e; subst e
        have e1 := (List.getElem?_eq_some_iff.mp hx)
        have e2 := (List.getElem?_eq_some_iff.mp ht)
        obtain ⟨l1, e1⟩ := e1
        obtain ⟨l2, e2⟩ := e2
        have : i = j := (List.getElem_inj R.nodup).mp (e1.trans e2.symm)
        subst this
        by_cases hl : i < ρ.length
        · exact q ⟨rfl, hl⟩
        · have : ρ.at i = none := by unfold Rho.at; rw [List.getElem?_eq_none (by (first | lia | omega))]; rfl
          rw [this] at hr; cases hr
      rw [if_neg hxy]
      refine cps fun gZ hZ => ?_
      obtain ⟨v', hv, r'⟩ := V j y lv ht hr
      refine hZ ?_
      clear hZ gZ
      refine ⟨v', hv, r'.go k fun ho b hb o e => (hs.2 b fun q => ?_).trans e⟩
      subst q
      rcases L.home H with rfl | ⟨n, hn⟩
      · exact (O1 j lv hr ho _ hb).2.1 rfl
      · exact (O1 j lv hr ho _ hb).2.2.1 n _ hn rfl
end
end Mine
end
section
open PySem PySem.Calls PyProof.Rows
namespace Mine
section
variable {prog : Program} {w : World} {A : Around} {E : Value → Shared → Prop} {s s' s₁ : Shared} {s₀ : Base} {env : Env} {tbl : List Str} {N N' W W' : Addr → Prop} {ρ : Rho}
theorem Frm.moreW (R : Frm env tbl N W) (k : ∀ a, W a → W' a) : Frm env tbl N W' :=
  ⟨R.kind, R.nodup, R.plain, R.home, fun x hx a b H => (R.homeN x hx a b H).imp id (k a), fun x hx a H => k a (R.homeW x hx a H)⟩
theorem Frm.moreN (R : Frm env tbl N W) (k : ∀ a, N a → N' a) : Frm env tbl N' W :=
  ⟨R.kind, R.nodup, R.plain, R.home, fun x hx a b H => (R.homeN x hx a b H).imp (k a) id, R.homeW⟩
theorem tbl_ne {i j : Nat} {x y : Str} (hn : tbl.Nodup) (hx : tbl[i]? = some x) (hy : tbl[j]? = some y) (h : i ≠ j) : y ≠ x := by
  intro e; subst e
  obtain ⟨l1, e1⟩ := List.getElem?_eq_some_iff.mp hx
  obtain ⟨l2, e2⟩ := List.getElem?_eq_some_iff.mp hy
  exact h ((List.getElem_inj hn).mp (e1.trans e2.symm))
theorem Rho.at_lt {i : Nat} {lv : LV} (h : ρ.at i = some lv) : i < ρ.length := by
  apply Decidable.byContradiction; intro hl
  have : ρ.at i = none := by unfold Rho.at; rw [List.getElem?_eq_none (by (first | lia | omega))]; rfl
  rw [this] at h; cases h
theorem St.storeOwn {i : Nat} {x : Str} {a : Addr} {v : Value} {lv : LV} {fp : List Addr} {Q : Unit → Shared → Prop} (S : St w prog env tbl s₀ N W ρ s₁) (R : Frm env tbl N W) (ev : Evl s₁ s) (hx : tbl[i]? = some x) (hi : i < ρ.length) (H : Home env x a true)
    (hnew : ∀ b ∈ fp, s₁.heap.get? b = none ∧ ∃ o, s.heap.get? b = some o) (hnd : fp.Nodup) (hN' : ∀ a, N' a → N a ∨ (s₁.heap.get? a = none ∧ ∃ o, s.heap.get? a = some o)) (hNN : ∀ a, N a → N' a) (hfN : ∀ a ∈ fp, ¬ N' a)
    (r : LvRep w prog (fun a => N' a ∨ W a ∨ a ∈ fp) s.heap fp v lv)
    (h : ∀ s', St w prog env tbl s₀ N' (fun a => W a ∨ a ∈ fp) (ρ.set i (some lv)) s' → Aft W s s' → Q () s') : wpAny (model prog w) A (storeName env x v) Q E s := by
  refine cps fun gZ hZ => ?_
  obtain ⟨m, cm, own, L₁, ZL, O1, O2, V⟩ := S.vals
  refine hZ ?_
  clear hZ gZ
  have L : Loc env s.heap m cm := L₁.keep fun b o _ e => ev.heap b o id e
  have Wa := R.homeW x (List.mem_of_getElem? hx) a H
  have old : ∀ b, W b → b ∉ fp := fun b hb q => by
    obtain ⟨o, e⟩ := S.live b (.inr hb)
    rw [(hnew b q).1] at e; cases e
  have oldN : ∀ b o, s₁.heap.get? b = some o → b ∉ fp := fun b o e q => by rw [(hnew b q).1] at e; cases e
  have locfp : env.locals ∉ fp := by obtain ⟨o, es, ep, e, _⟩ := L₁.ns; exact oldN _ _ e
  have celfp : ∀ n c, env.cells.lookup n = some c → c ∉ fp := fun n c hn => by
    refine cps fun gZ hZ => ?_
    obtain ⟨o, e, _⟩ := L₁.cell n c hn
    refine hZ ?_
    clear hZ gZ
    exact oldN _ _ e
  have fr : ∀ a' o, ¬ (N a' ∨ W a') → s.heap.get? a' = some o → a' ≠ a := fun a' o hF _ e => hF (.inr (e ▸ Wa))
  refine L.store R.kind H fun h' m' cm' tk L' hv' hs => h _ ⟨⟨fun b o _ e => ?_, fun i g e => ev.gens i g (S.evl.gens i g e), fun q => ev.bare (S.evl.bare q), ev.os.trans S.evl.os⟩, fun b hb => ?_, fun b hb => ?_, fun b hb => .inl (S.zw b hb), s₀.zs _ _ S.zi fun b o hb e => (hs.2 b fun q => ?_).trans (ev.heap b o id e), m', cm', (fun j => if j = i then fp else own j), L', fun b hb => ⟨(ZL b hb).1, fun j lv' hr ho q => ?_⟩, ?_, ?_, ?_⟩ (Aft.of fun b o hb e => (hs.2 b fun q => hb (q ▸ Wa)).trans e)
  · refine (hs.2 b fun q => ?_).trans (ev.heap b o id (S.evl.heap b o id e))
    have := S.fresh a Wa
    rw [q, this] at e; cases e
  · by_cases q : b = a
    · subst q
      cases H with
      | loc _ => obtain ⟨o, es, ep, e, _⟩ := L'.ns; exact ⟨o, e⟩
      | cel _ hc => obtain ⟨o, e, _⟩ := L'.cell x b hc; exact ⟨o, e⟩
    · have : ∃ o, s.heap.get? b = some o := by
        rcases hb with hb | hb | hb
        · rcases hN' b hb with q | q
          · obtain ⟨o, e⟩ := S.live b (.inl q); exact ⟨o, ev.heap b o id e⟩
          · exact q.2
        · obtain ⟨o, e⟩ := S.live b (.inr hb); exact ⟨o, ev.heap b o id e⟩
        · exact (hnew b hb).2
      obtain ⟨o, e⟩ := this
      exact ⟨o, (hs.2 b q).trans e⟩
  · rcases hb with hb | hb
    · exact S.fresh b hb
    · cases e : s₀.heap.get? b with
      | none => rfl
      | some o =>
        have := S.evl.heap b o id e
        rw [(hnew b hb).1] at this; cases this
  · subst q
    rcases L.home H with q | ⟨n, hn⟩
    · exact (ZL b hb).1.1 q
    · exact (ZL b hb).1.2 n _ hn rfl
  · rw [Rho.at_set] at hr
    try dsimp only at q
    by_cases hji : j = i
    · rw [if_pos hji] at q
      exact old b (S.zw b hb) q
    · rw [if_neg hji] at q
      rw [if_neg (fun q => hji q.1.symm)] at hr
      exact (ZL b hb).2 j lv' hr ho q
  · intro j lv' hr ho b hb
    rw [Rho.at_set] at hr
    try dsimp only at hb ⊢
    by_cases hji : j = i
    · subst hji
      rw [if_pos rfl] at hb
      refine ⟨⟨.inr hb, hfN b hb⟩, fun q => locfp (q ▸ hb), fun n c hn q => celfp n c hn (q ▸ hb), fun j' lv'' hr' ho' hb' => ?_⟩
      by_cases hj' : j' = j
      · exact hj'.symm
      · rw [if_neg hj'] at hb'
        rw [Rho.at_set, if_neg (fun q => hj' q.1.symm)] at hr'
        exact absurd hb (old b (O1 j' lv'' hr' ho' b hb').1.1)
    · rw [if_neg hji] at hb
      rw [if_neg (fun q => hji q.1.symm)] at hr
      have O := O1 j lv' hr ho b hb
      refine ⟨⟨.inl O.1.1, fun q => (hN' b q).elim O.1.2 fun q => by obtain ⟨o, e⟩ := S.live b (.inr O.1.1); rw [q.1] at e; cases e⟩, O.2.1, O.2.2.1, fun j' lv'' hr' ho' hb' => ?_⟩
      by_cases hj' : j' = i
      · subst hj'
        rw [if_pos rfl] at hb'
        exact absurd hb' (old b O.1.1)
      · rw [if_neg hj'] at hb'
        rw [Rho.at_set, if_neg (fun q => hj' q.1.symm)] at hr'
        exact O.2.2.2 j' lv'' hr' ho' hb'
  · intro j lv' hr ho
    rw [Rho.at_set] at hr
    try dsimp only
    by_cases hji : j = i
    · rw [if_pos hji]; exact hnd
    · rw [if_neg hji]
      rw [if_neg (fun q => hji q.1.symm)] at hr
      exact O2 j lv' hr ho
  · intro j y lv' ht hr
    rw [Rho.at_set] at hr
    rw [hv']
    dsimp only
    by_cases hji : j = i
    · subst hji
      rw [if_pos ⟨rfl, hi⟩] at hr
      cases hr
      rw [hx] at ht; cases ht
      rw [if_pos rfl, if_pos rfl]
      refine ⟨v, rfl, r.go (fun a' o hF e => ⟨hF, (hs.2 a' fun q => hF (.inr (.inl (q ▸ Wa)))).trans e⟩) fun _ b hb o e => (hs.2 b fun q => old b (q ▸ Wa) hb).trans e⟩
    · rw [if_neg (fun q => hji q.1.symm)] at hr
      have hxy : y ≠ x := tbl_ne R.nodup hx ht (Ne.symm hji)
      rw [if_neg hxy, if_neg hji]
      refine cps fun gZ hZ => ?_
      obtain ⟨v', hv, r'⟩ := V j y lv' ht hr
      refine hZ ?_
      clear hZ gZ
      refine ⟨v', hv, r'.go (fun a' o hF e => ⟨fun q => ?_, (hs.2 a' fun q => hF (.inr (q ▸ Wa))).trans (ev.heap a' o id e)⟩) fun ho b hb o e => (hs.2 b fun q => ?_).trans (ev.heap b o id e)⟩
      · rcases q with q | q | q
        · rcases hN' a' q with q | q
          · exact hF (.inl q)
          · rw [q.1] at e; cases e
        · exact hF (.inr q)
        · exact oldN a' o e q
      · subst q
        rcases L.home H with rfl | ⟨n, hn⟩
        · exact (O1 j lv' hr ho _ hb).2.1 rfl
        · exact (O1 j lv' hr ho _ hb).2.2.1 n _ hn rfl
theorem St.own {i : Nat} {x : Str} {lv : LV} (S : St w prog env tbl s₀ N W ρ s) (R : Frm env tbl N W) (hx : tbl[i]? = some x) (hd : ρ.at i = some lv) (ho : lv.owned = true) :
    ∃ v fp, LvRep w prog (fun a => N a ∨ W a) s.heap fp v lv ∧ (∀ a ∈ fp, W a ∧ ¬ N a) ∧ fp.Nodup ∧
      (∀ (A : Around) (E : Value → Shared → Prop) (Q : Value → Shared → Prop) (s₂ : Shared), Evl s s₂ → Q v s₂ → wpAny (model prog w) A (loadName env x) Q E s₂) ∧
      ∀ (s₂ : Shared) (h' : Heap) (tk : Nat) (lv' : LV), Evl s s₂ → lv'.owned = true → (∀ b o, b ∉ fp → s₂.heap.get? b = some o → h'.get? b = some o) → (∀ a ∈ fp, ∃ o, h'.get? a = some o) → LvRep w prog (fun a => N a ∨ W a) h' fp v lv' →
        St w prog env tbl s₀ N W (ρ.set i (some lv')) { s₂ with heap := h', toks := tk } ∧ Aft W s₂ { s₂ with heap := h', toks := tk } := by
  refine cps fun gZ hZ => ?_
  obtain ⟨m, cm, own, L, ZL, O1, O2, V⟩ := S.vals
  refine hZ ?_
  clear hZ gZ
  refine cps fun gZ hZ => ?_
  obtain ⟨v, hv, r⟩ := V i x _ hx hd
  refine hZ ?_
  clear hZ gZ
  refine cps fun gZ hZ => ?_
  obtain ⟨a, b, H⟩ := R.home x (List.mem_of_getElem? hx)
  refine hZ ?_
  clear hZ gZ
  refine ⟨v, own i, r, fun a ha => (O1 i lv hd ho a ha).1, O2 i lv hd ho, fun A E Q s₂ ev hq => ?_, fun s₂ h' tk lv' ev ho' hk hl r' => ?_⟩
  · exact (L.keep fun b o _ e => ev.heap b o id e).load R.kind H hv hq (R.plain x (List.mem_of_getElem? hx)).2
  · have hO : ∀ b ∈ own i, W b := fun b hb => (O1 i lv hd ho b hb).1.1
    have L' : Loc env h' m cm := L.keep fun b o hb e => hk b o (fun q => by
      rcases hb with rfl | ⟨n, hn⟩
      · exact (O1 i lv hd ho _ q).2.1 rfl
      · exact (O1 i lv hd ho _ q).2.2.1 n _ hn rfl) (ev.heap b o id e)
    refine ⟨⟨⟨fun b o _ e => hk b o (fun q => ?_) (ev.heap b o id (S.evl.heap b o id e)), fun i g e => ev.gens i g (S.evl.gens i g e), fun q => ev.bare (S.evl.bare q), ev.os.trans S.evl.os⟩, fun b hb => ?_, S.fresh, S.zw, s₀.zs _ _ S.zi fun b o hb e => hk b o ((ZL b hb).2 i lv hd ho) (ev.heap b o id e), m, cm, own, L', fun b hb => ⟨(ZL b hb).1, fun j lv₂ hr ho₂ => ?_⟩, ?_, ?_, ?_⟩, Aft.of fun b o hb e => hk b o (fun q => hb (hO b q)) e⟩
    · have := S.fresh b (hO b q)
      rw [this] at e; cases e
    · by_cases q : b ∈ own i
      · exact hl b q
      · obtain ⟨o, e⟩ := S.live b hb
        exact ⟨o, hk b o q (ev.heap b o id e)⟩
    · rw [Rho.at_set] at hr
      split at hr
      · rename_i q; exact q.1 ▸ (ZL b hb).2 i lv hd ho
      · exact (ZL b hb).2 j lv₂ hr ho₂
    · intro j lv₂ hr ho₂ b hb
      rw [Rho.at_set] at hr
      have hj : ∃ lv₃, ρ.at j = some lv₃ ∧ lv₃.owned = true := by
        split at hr
        · rename_i q; exact ⟨lv, q.1 ▸ hd, ho⟩
        · exact ⟨lv₂, hr, ho₂⟩
      refine cps fun gZ hZ => ?_
      obtain ⟨lv₃, h3, h4⟩ := hj
      refine hZ ?_
      clear hZ gZ
      refine ⟨(O1 j lv₃ h3 h4 b hb).1, (O1 j lv₃ h3 h4 b hb).2.1, (O1 j lv₃ h3 h4 b hb).2.2.1, fun j' lv₄ hr' ho' hb' => ?_⟩
      rw [Rho.at_set] at hr'
      split at hr'
      · rename_i q; exact (O1 j lv₃ h3 h4 b hb).2.2.2 j' lv (q.1 ▸ hd) ho hb'
      · exact (O1 j lv₃ h3 h4 b hb).2.2.2 j' lv₄ hr' ho' hb'
    · intro j lv₂ hr ho₂
      rw [Rho.at_set] at hr
      split at hr
      · rename_i q; exact q.1 ▸ O2 i lv hd ho
      · exact O2 j lv₂ hr ho₂
    · intro j y lv₂ ht hr
      rw [Rho.at_set] at hr
      have k : ∀ a' o, ¬ (N a' ∨ W a') → s.heap.get? a' = some o → ¬ (N a' ∨ W a') ∧ h'.get? a' = some o := fun a' o hF e => ⟨hF, hk a' o (fun q => hF (.inr (hO a' q))) (ev.heap a' o id e)⟩
      split at hr
      · rename_i q
        obtain ⟨rfl, _⟩ := q
        cases hr
        rw [hx] at ht; cases ht
        exact ⟨v, hv, r'⟩
      · rename_i q
        have hij : i ≠ j := fun e => q ⟨e, by subst e; exact Rho.at_lt hd⟩
        refine cps fun gZ hZ => ?_
        obtain ⟨v', hv', r''⟩ := V j y lv₂ ht hr
        refine hZ ?_
        clear hZ gZ
        exact ⟨v', hv', r''.go k fun ho₂ b hb o e => hk b o (fun q => hij ((O1 j lv₂ hr ho₂ b hb).2.2.2 i lv hd ho q).symm) (ev.heap b o id e)⟩
noncomputable def LV.froz : LV → Option D
  | .ol ds => some (.lst ds)
  | .od ds => some (.dct ds)
  | .oll dss => some (.lst (dss.map .lst))
  | _ => none
theorem St.freeze {i : Nat} {lv : LV} {d : D} {x : Str} (S : St w prog env tbl s₀ N W ρ s) (R : Frm env tbl N W) (hx : tbl[i]? = some x) (hd : ρ.at i = some lv) (hf : lv.froz = some d) :
    ∃ W' : Addr → Prop, (∀ a, W' a → W a) ∧ Frm env tbl N W' ∧ St w prog env tbl s₀ N W' (ρ.set i (some (.sh d))) s := by
  refine cps fun gZ hZ => ?_
  obtain ⟨m, cm, own, L, ZL, O1, O2, V⟩ := S.vals
  refine hZ ?_
  clear hZ gZ
  have ho : lv.owned = true := by cases lv <;> first | rfl | cases hf
  have le : ∀ a, (W a ∧ a ∉ own i) → W a := fun a h => h.1
  have hh : ∀ y ∈ tbl, ∀ a b, Home env y a b → a ∉ own i := fun y _ a b H q => by
    rcases L.home H with rfl | ⟨n, hn⟩
    · exact (O1 i lv hd ho _ q).2.1 rfl
    · exact (O1 i lv hd ho _ q).2.2.1 n _ hn rfl
  refine cps fun gZ hZ => ?_
  obtain ⟨v, hv, r⟩ := V i x _ hx hd
  refine hZ ?_
  clear hZ gZ
  refine ⟨fun a => W a ∧ a ∉ own i, le, ⟨R.kind, R.nodup, R.plain, R.home, fun y hy a b H => (R.homeN y hy a b H).imp id fun q => ⟨q, hh y hy a b H⟩, fun y hy a H => ⟨R.homeW y hy a H, hh y hy a true H⟩⟩,
    S.evl, fun a ha => S.live a (ha.imp id (le a)), fun a ha => S.fresh a ha.1, fun a ha => ⟨S.zw a ha, (ZL a ha).2 i lv hd ho⟩, S.zi, m, cm, own, L, fun a ha => ⟨(ZL a ha).1, fun j lv₂ hr ho₂ => ?_⟩, ?_, ?_, ?_⟩
  · rw [Rho.at_set] at hr
    split at hr
    · cases hr; cases ho₂
    · exact (ZL a ha).2 j lv₂ hr ho₂
  · intro j lv₂ hr ho₂ b hb
    rw [Rho.at_set] at hr
    split at hr
    · cases hr; cases ho₂
    · rename_i q
      have hij : i ≠ j := fun e => q ⟨e, by subst e; exact Rho.at_lt hd⟩
      have O := O1 j lv₂ hr ho₂ b hb
      refine ⟨⟨⟨O.1.1, fun q => hij (O.2.2.2 i lv hd ho q).symm⟩, O.1.2⟩, O.2.1, O.2.2.1, fun j' lv₄ hr' ho' hb' => ?_⟩
      rw [Rho.at_set] at hr'
      split at hr'
      · cases hr'; cases ho'
      · exact O.2.2.2 j' lv₄ hr' ho' hb'
  · intro j lv₂ hr ho₂
    rw [Rho.at_set] at hr
    split at hr
    · cases hr; cases ho₂
    · exact O2 j lv₂ hr ho₂
  · intro j y lv₂ ht hr
    rw [Rho.at_set] at hr
    have k : ∀ a' o, ¬ (N a' ∨ W a') → s.heap.get? a' = some o → ¬ (N a' ∨ (W a' ∧ a' ∉ own i)) ∧ s.heap.get? a' = some o := fun a' o hF e => ⟨fun q => hF (q.imp id (le a')), e⟩
    split at hr
    · rename_i q
      obtain ⟨rfl, _⟩ := q
      cases hr
      rw [hx] at ht; cases ht
      refine ⟨v, hv, ?_⟩
      have nN : ∀ a ∈ own i, ¬ (N a ∨ (W a ∧ a ∉ own i)) := fun a h1 h2 => h2.elim (O1 i lv hd ho a h1).1.2 fun q => q.2 h1
      cases lv with
      | ol ds =>
        cases hf
        refine cps fun gZ hZ => ?_
        obtain ⟨a, vs, rfl, hfp, e, r⟩ := r
        refine hZ ?_
        clear hZ gZ
        exact .lst (nN a (hfp ▸ .head _)) e.list (r.go k)
      | od ds =>
        cases hf
        refine cps fun gZ hZ => ?_
        obtain ⟨a, vs, rfl, hfp, e, r⟩ := r
        refine hZ ?_
        clear hZ gZ
        exact .dct (nN a (hfp ▸ .head _)) e (r.go k)
      | oll dss =>
        cases hf
        refine cps fun gZ hZ => ?_
        obtain ⟨a, as, rfl, hfp, e, r⟩ := r
        refine hZ ?_
        clear hZ gZ
        refine .lst (nN a (hfp ▸ .head _)) e.list ?_
        have : ∀ {as : List Addr} {dss : List (List D)}, (∀ a ∈ as, a ∈ own i) → RepLs w prog (fun a => N a ∨ W a) s.heap as dss → Reps w prog (fun a => N a ∨ (W a ∧ a ∉ own i)) s.heap (as.map .ref) (dss.map .lst) := by
          intro as dss hs r
          induction r with
          | nil => exact .nil
          | cons e r _ ih => exact .cons (.lst (nN _ (hs _ (.head _))) e.list (r.go k)) (ih fun a ha => hs a (.tail _ ha))
        exact this (fun b hb => hfp ▸ .tail _ hb) r
      | sh d => cases hf
      | exc _ => cases hf
    · exact let ⟨v', hv', r'⟩ := V j y lv₂ ht hr; ⟨v', hv', r'.go k fun _ _ _ _ e => e⟩
end
end Mine
end
section
open PySem PySem.Calls PyProof.Rows
namespace Mine
inductive Bop where | add | sub | mul | fdiv | mod | pow | band
  deriving DecidableEq
inductive Cop where | eq | ne | lt | le | gt | ge | isin | notin | isnone
  deriving DecidableEq
inductive Bi where | sum | len | min | max | abs | isTuple
  deriving DecidableEq
inductive Tgt where
  | nm (i : Nat)
  | tp (is : List Nat)
  deriving DecidableEq
set_option genSizeOf false
set_option genInjectivity false
mutual
inductive E where
  | int (i : Int)
  | str (s : Str)
  | bool (b : Bool)
  | none
  | var (i : Nat)
  | tup (es : List E)
  | lst (es : List E)
  | dct (kvs : List KV)
  | bin (op : Bop) (l r : E)
  | cmp (op : Cop) (l r : E)
  | not (e : E)
  | bop (and : Bool) (es : List E)
  | ite (c a b : E)
  | sub (o i : E)
  | slice (o lo hi : E)
  | osub (x : Nat) (i : E)
  | oin (neg : Bool) (e : E) (x : Nat)
  | call (f : Nat) (es : List E)
  | bi (b : Bi) (es : List E)
  | lcomp (elt : E) (t : Tgt) (it : I) (ifs : List E) (gs : List G) (cap : List (Option Nat)) (nt : List Str)
inductive I where
  | ex (e : E)
  | range (es : List E)
  | enum (e : E)
  | zip (es : List E)
  | items (e : E)
  | values (e : E)
inductive G where
  | mk (t : Tgt) (it : I) (ifs : List E)
inductive KV where
  | mk (k v : E)
end
set_option genSizeOf false
set_option genInjectivity false
inductive S where
  | assign (i : Nat) (e : E)
  | assignO (i : Nat) (e : E)
  | assignLL (i : Nat) (vals : List Int) (t : Nat) (it : I) (cap : List (Option Nat)) (nt : List Str)
  | unpack (is : List Nat) (e : E)
  | setitem (x : Nat) (k v : E)
  | aug (i : Nat) (op : Bop) (e : E)
  | augitem (x : Nat) (k : E) (op : Bop) (e : E)
  | augitem2 (x : Nat) (k₁ k₂ : E) (op : Bop) (e : E)
  | append (x : Nat) (e : E)
  | ife (c : E) (a b : List S)
  | fore (t : Tgt) (it : I) (body : List S) (kill : List Nat)
  | forgen (t : Nat) (e : E) (body : List S) (kill : List Nat)
  | ret (e : E)
  | brk
  | freeze (i : Nat)
  | setpair (x : Nat) (k a b : E)
  | zassign (i f : Nat) (es : List E)
  | zret (a b c d : E) (f : Nat) (es : List E)
inductive Fl where
  | next
  | brk
  | ret (d : D)
noncomputable def smallI (i : Int) : Prop := i.natAbs < 2 ^ 64
noncomputable def fits (n : Nat) : Prop := n ≤ 1048576
noncomputable def D.key? : D → Option K
  | .int i => .some (.int i)
  | .str s => .some (.str s)
  | _ => Option.none
noncomputable def klook (k : K) : List (K × D) → Option D
  | [] => .none
  | (k', d) :: r => if k' = k then some d else klook k r
noncomputable def kset (k : K) (d : D) : List (K × D) → List (K × D)
  | [] => [(k, d)]
  | (k', d') :: r => if k' = k then (k', d) :: r else (k', d') :: kset k d r
noncomputable def onI (d : D) (k : Int → Prop) : Prop := match d with
  | .int i => k i
  | _ => False
noncomputable def onL (d : D) (k : List D → Prop) : Prop := match d with
  | .lst l => k l
  | _ => False
theorem onI_inv {d : D} {k : Int → Prop} (h : onI d k) : ∃ i, d = .int i ∧ k i := by
  cases d <;> first | exact ⟨_, rfl, h⟩ | exact h.elim
theorem onL_inv {d : D} {k : List D → Prop} (h : onL d k) : ∃ l, d = .lst l ∧ k l := by
  cases d <;> first | exact ⟨_, rfl, h⟩ | exact h.elim
noncomputable def onIL (d : D) (k : Int → Prop) (l : List D → Prop) : Prop := match d with
  | .int i => k i
  | .lst x => l x
  | _ => False
noncomputable def onK (d : D) (k : List (K × D) → Prop) : Prop := match d with
  | .dct l => k l
  | _ => False
theorem onIL_inv {d : D} {k : Int → Prop} {l : List D → Prop} (h : onIL d k l) : (∃ i, d = .int i ∧ k i) ∨ ∃ x, d = .lst x ∧ l x := by
  cases d <;> first | exact .inl ⟨_, rfl, h⟩ | exact .inr ⟨_, rfl, h⟩ | exact h.elim
noncomputable def binW (op : Bop) (a b : D) (Q : D → Prop) : Prop :=
  match op with
  | .add => onIL a (fun a => onI b fun b => Q (.int (a + b))) fun a => onL b fun b => fits (a.length + b.length) ∧ Q (.lst (a ++ b))
  | .sub => onI a fun a => onI b fun b => Q (.int (a - b))
  | .mul => onIL a (fun a => onI b fun b => (smallI a ∨ smallI b) ∧ Q (.int (a * b))) fun a => onI b fun b => (0 ≤ b ∧ b ≤ 1048576 ∧ fits (a.length * b.toNat)) ∧ Q (.lst (List.replicate b.toNat a).flatten)
  | .fdiv => onI a fun a => onI b fun b => (b ≠ 0 ∧ b.natAbs < 1073741824) ∧ Q (.int (a.fdiv b))
  | .mod => onI a fun a => onI b fun b => b ≠ 0 ∧ Q (.int (a.fmod b))
  | .pow => onI a fun a => onI b fun b => (0 ≤ b ∧ b ≤ 1000000 ∧ smallI a) ∧ Q (.int (a ^ b.toNat))
  | .band => onI a fun a => onI b fun b => Q (.int (Builtin.bitAnd a b))
mutual
noncomputable def eqv : D → D → Bool
  | .none, b => match b with
    | .none => true
    | _ => false
  | .bool a, b => match b with
    | .bool b => a == b
    | .int b => (if a then 1 else 0) == b
    | _ => false
  | .int a, b => match b with
    | .bool b => a == (if b then 1 else 0)
    | .int b => a == b
    | _ => false
  | .str a, b => match b with
    | .str b => a == b
    | _ => false
  | .tup a, b => match b with
    | .tup b => eqvs a b
    | _ => false
  | .lst a, b => match b with
    | .lst b => eqvs a b
    | _ => false
  | .dct a, b => match b with
    | .dct b => a.length == b.length && eqvk a b
    | _ => false
noncomputable def eqvs : List D → List D → Bool
  | [], [] => true
  | x :: xs, y :: ys => eqv x y && eqvs xs ys
  | _, _ => false
noncomputable def eqvk : List (K × D) → List (K × D) → Bool
  | [], _ => true
  | (k, d) :: r, b => (match klook k b with | some d' => eqv d d' | none => false) && eqvk r b
end
theorem eqv_bool (a b : Bool) : eqv (.bool a) (.bool b) = (a == b) := rfl
theorem eqv_int (a b : Int) : eqv (.int a) (.int b) = (a == b) := rfl
theorem eqv_str (a b : Str) : eqv (.str a) (.str b) = (a == b) := rfl
theorem eqv_tup (a b : List D) : eqv (.tup a) (.tup b) = eqvs a b := rfl
theorem eqv_lst (a b : List D) : eqv (.lst a) (.lst b) = eqvs a b := rfl
theorem eqv_dct (a b : List (K × D)) : eqv (.dct a) (.dct b) = (a.length == b.length && eqvk a b) := rfl
theorem eqvs_nil : eqvs [] [] = true := rfl
theorem eqvs_cons (x y : D) (xs ys : List D) : eqvs (x :: xs) (y :: ys) = (eqv x y && eqvs xs ys) := rfl
theorem eqvk_nil (b : List (K × D)) : eqvk [] b = true := rfl
theorem eqvk_cons (k : K) (d : D) (r b : List (K × D)) : eqvk ((k, d) :: r) b = ((match klook k b with | some d' => eqv d d' | none => false) && eqvk r b) := rfl
noncomputable def scal : D → Bool
  | .none => true
  | .bool _ => true
  | .int _ => true
  | .str _ => true
  | _ => false
noncomputable def all2 (f : D → D → Bool) : List D → List D → Bool
  | x :: xs, ys => match ys with
    | y :: ys => f x y && all2 f xs ys
    | [] => true
  | [], _ => true
theorem all2_cons (f : D → D → Bool) (x y : D) (xs ys : List D) : all2 f (x :: xs) (y :: ys) = (f x y && all2 f xs ys) := rfl
theorem all2_nil (f : D → D → Bool) (ys : List D) : all2 f [] ys = true := rfl
noncomputable def eqP : Nat → D → D → Bool
  | 0, a, b => scal a && scal b
  | n + 1, a, b => match a with
    | .lst x => match b with
      | .lst y => all2 (eqP n) x y
      | _ => false
    | .tup x => match b with
      | .tup y => all2 (eqP n) x y
      | _ => false
    | a => scal a && scal b
theorem eqP_int (n : Nat) (a b : Int) : eqP (n + 1) (.int a) (.int b) = true := rfl
theorem eqP_lst (n : Nat) (a b : List D) : eqP (n + 1) (.lst a) (.lst b) = all2 (eqP n) a b := rfl
noncomputable def eqK : List (K × D) → List (K × D) → Bool
  | [], _ => true
  | (k, d) :: r, b => (match klook k b with | some d' => eqP 4 d d' | none => true) && eqK r b
theorem eqK_nil (b : List (K × D)) : eqK [] b = true := rfl
theorem eqK_cons (k : K) (d : D) (r b : List (K × D)) : eqK ((k, d) :: r) b = ((match klook k b with | some d' => eqP 4 d d' | none => true) && eqK r b) := rfl
noncomputable def eqC (a b : D) : Bool := match a with
  | .dct x => match b with
    | .dct y => eqK x y
    | _ => false
  | a => eqP 4 a b
noncomputable def eqOk (a b : D) : Bool := match a with
  | .tup x => match b with
    | .tup y => all2 eqC x y
    | _ => false
  | a => eqP 4 a b
theorem eqC_dct (a b : List (K × D)) : eqC (.dct a) (.dct b) = eqK a b := rfl
theorem eqC_int (a b : Int) : eqC (.int a) (.int b) = true := rfl
theorem eqOk_tup (a b : List D) : eqOk (.tup a) (.tup b) = all2 eqC a b := rfl
theorem eqOk_lst (a b : List D) : eqOk (.lst a) (.lst b) = all2 (eqP 3) a b := rfl
noncomputable def inW (x b : D) (Q : Bool → Prop) : Prop := match b with
  | .lst ys => (ys.all fun y => eqP 4 y x) = true ∧ Q (ys.any fun y => eqv y x)
  | .tup ys => (ys.all fun y => eqP 4 y x) = true ∧ Q (ys.any fun y => eqv y x)
  | .dct kvs => ∃ k, x.key? = some k ∧ Q (klook k kvs).isSome
  | _ => False
theorem inW_inv {x b : D} {Q : Bool → Prop} (h : inW x b Q) : (∃ ys, (b = .lst ys ∨ b = .tup ys) ∧ (ys.all fun y => eqP 4 y x) = true ∧ Q (ys.any fun y => eqv y x)) ∨ ∃ kvs k, b = .dct kvs ∧ x.key? = some k ∧ Q (klook k kvs).isSome := by
  cases b <;> first | exact h.elim | exact .inl ⟨_, .inl rfl, h⟩ | exact .inl ⟨_, .inr rfl, h⟩ | exact .inr ⟨_, h.1, rfl, h.2⟩ | exact .inr (h.elim fun k h => ⟨_, k, rfl, h⟩)
noncomputable def isNoneD : D → Bool
  | .none => true
  | _ => false
noncomputable def cmpW (op : Cop) (a b : D) (Q : Bool → Prop) : Prop :=
  match op with
  | .eq => eqP 4 a b = true ∧ Q (eqv a b)
  | .ne => eqOk a b = true ∧ Q (!eqv a b)
  | .lt => onI a fun a => onI b fun b => Q (decide (a < b))
  | .le => onI a fun a => onI b fun b => Q (decide (a ≤ b))
  | .gt => onI a fun a => onI b fun b => Q (decide (a > b))
  | .ge => onI a fun a => onI b fun b => Q (decide (a ≥ b))
  | .isin => inW a b Q
  | .notin => inW a b fun c => Q (!c)
  | .isnone => Q (isNoneD a)
noncomputable def idx (n : Nat) (i : Int) : Option Nat := if i.natAbs < 1152921504606846976 then (if 0 ≤ i then (if i.toNat < n then some i.toNat else none) else (if (-i).toNat ≤ n then some (n - (-i).toNat) else none)) else none
noncomputable def atL (xs : List D) (i : Int) (Q : D → Prop) : Prop := ∃ d, ((idx xs.length i).bind fun j => xs[j]?) = some d ∧ Q d
noncomputable def atK (kvs : List (K × D)) (k : D) (Q : D → Prop) : Prop := ∃ k' d, k.key? = some k' ∧ klook k' kvs = some d ∧ Q d
noncomputable def subW (o i : D) (Q : D → Prop) : Prop :=
  match o with
  | .lst xs => onI i fun i => atL xs i Q
  | .tup xs => onI i fun i => atL xs i Q
  | .dct kvs => atK kvs i Q
  | _ => False
theorem subW_inv {o i : D} {Q : D → Prop} (h : subW o i Q) : (∃ xs j, (o = .lst xs ∨ o = .tup xs) ∧ i = .int j ∧ atL xs j Q) ∨ ∃ kvs, o = .dct kvs ∧ atK kvs i Q := by
  cases o <;> first | exact h.elim | exact (onI_inv h).elim fun j h => .inl ⟨_, j, .inl rfl, h⟩ | exact (onI_inv h).elim fun j h => .inl ⟨_, j, .inr rfl, h⟩ | exact .inr ⟨_, rfl, h⟩
noncomputable def cutW (d : D) (Q : Option Int → Prop) : Prop := match d with
  | .none => Q none
  | .int i => Q (some i)
  | _ => False
theorem cutW_inv {d : D} {Q : Option Int → Prop} (h : cutW d Q) : (d = .none ∧ Q none) ∨ ∃ i, d = .int i ∧ Q (some i) := by
  cases d <;> first | exact h.elim | exact .inl ⟨rfl, h⟩ | exact .inr ⟨_, rfl, h⟩
noncomputable def cut2W (xs : List D) (lo hi : Option Int) (Q : D → Prop) : Prop := match lo with
  | none => match hi with
    | none => False
    | some b => (fits xs.length ∧ 0 ≤ b) ∧ Q (.lst (xs.take b.toNat))
  | some a => match hi with
    | none => (fits xs.length ∧ 0 ≤ a) ∧ Q (.lst (xs.drop a.toNat))
    | some b => (fits xs.length ∧ 0 ≤ a ∧ 0 ≤ b) ∧ Q (.lst ((xs.take b.toNat).drop a.toNat))
noncomputable def sliceW (o lo hi : D) (Q : D → Prop) : Prop := onL o fun xs => cutW lo fun lo => cutW hi fun hi => cut2W xs lo hi Q
theorem sliceW_to (xs : List D) (b : Int) (Q : D → Prop) : sliceW (.lst xs) .none (.int b) Q = ((fits xs.length ∧ 0 ≤ b) ∧ Q (.lst (xs.take b.toNat))) := rfl
theorem sliceW_from (xs : List D) (a : Int) (Q : D → Prop) : sliceW (.lst xs) (.int a) .none Q = ((fits xs.length ∧ 0 ≤ a) ∧ Q (.lst (xs.drop a.toNat))) := rfl
noncomputable def ints? : List D → Option (List Int)
  | [] => some []
  | .int i :: r => (ints? r).map (i :: ·)
  | _ => none
noncomputable def minL : Int → List Int → Int
  | m, [] => m
  | m, x :: r => minL (if x < m then x else m) r
noncomputable def maxL : Int → List Int → Int
  | m, [] => m
  | m, x :: r => maxL (if x > m then x else m) r
noncomputable def on1 (ds : List D) (k : D → Prop) : Prop := match ds with
  | [d] => k d
  | _ => False
noncomputable def on12 (ds : List D) (k : D → Prop) (k2 : D → D → Prop) : Prop := match ds with
  | [d] => k d
  | [d, e] => k2 d e
  | _ => False
theorem on1_inv {ds : List D} {k : D → Prop} (h : on1 ds k) : ∃ d, ds = [d] ∧ k d := by
  cases ds with
  | nil => exact h.elim
  | cons a ds =>
    cases ds with
    | nil => exact ⟨a, rfl, h⟩
    | cons _ _ => exact h.elim
theorem on12_inv {ds : List D} {k : D → Prop} {k2 : D → D → Prop} (h : on12 ds k k2) : (∃ d, ds = [d] ∧ k d) ∨ ∃ d e, ds = [d, e] ∧ k2 d e := by
  cases ds with
  | nil => exact h.elim
  | cons a ds =>
    cases ds with
    | nil => exact .inl ⟨a, rfl, h⟩
    | cons b ds =>
      cases ds with
      | nil => exact .inr ⟨a, b, rfl, h⟩
      | cons _ _ => exact h.elim
noncomputable def lenW (d : D) (Q : D → Prop) : Prop := match d with
  | .lst xs => fits xs.length ∧ Q (.int xs.length)
  | .dct xs => fits xs.length ∧ Q (.int xs.length)
  | _ => False
noncomputable def isTupW (d : D) (Q : D → Prop) : Prop := match d with
  | .tup _ => Q (.bool true)
  | .int _ => Q (.bool false)
  | _ => False
noncomputable def biW (b : Bi) (ds : List D) (Q : D → Prop) : Prop :=
  match b with
  | .sum => on1 ds fun d => onL d fun xs => ∃ is, ints? xs = some is ∧ fits is.length ∧ Q (.int is.sum)
  | .len => on1 ds fun d => lenW d Q
  | .min => on12 ds (fun d => onL d fun xs => ∃ i is, ints? xs = some (i :: is) ∧ Q (.int (minL i is))) fun a b => onI a fun a => onI b fun b => Q (.int (if b < a then b else a))
  | .max => on12 ds (fun d => onL d fun xs => ∃ i is, ints? xs = some (i :: is) ∧ Q (.int (maxL i is))) fun a b => onI a fun a => onI b fun b => Q (.int (if b > a then b else a))
  | .abs => on1 ds fun d => onI d fun a => Q (.int (if a < 0 then -a else a))
  | .isTuple => on1 ds fun d => isTupW d Q
noncomputable def truthW (d : D) (Q : Bool → Prop) : Prop :=
  match d with
  | .bool b => Q b
  | _ => False
noncomputable def rangeL (a : Int) (c : Int) : Nat → List D
  | 0 => []
  | n + 1 => .int a :: rangeL (a + c) c n
noncomputable def range1 (b : Int) (Q : List D → Prop) : Prop := (-1048576 ≤ b ∧ b ≤ 1048576) ∧ Q (rangeL 0 1 b.toNat)
noncomputable def range2 (a b : Int) (Q : List D → Prop) : Prop := (-1048576 ≤ a ∧ a ≤ 1048576 ∧ -1048576 ≤ b ∧ b ≤ 1048576) ∧ Q (rangeL a 1 (b - a).toNat)
noncomputable def range3 (a b c : Int) (Q : List D → Prop) : Prop := (a = 0 ∧ 0 ≤ b ∧ b ≤ 1048576 ∧ 0 < c ∧ c ≤ 1048576) ∧ Q (rangeL 0 c ((b + c - 1) / c).toNat)
noncomputable def rangeW (ds : List D) (Q : List D → Prop) : Prop :=
  match ds with
  | [a] => onI a fun a => range1 a Q
  | [a, b] => onI a fun a => onI b fun b => range2 a b Q
  | [a, b, c] => onI a fun a => onI b fun b => onI c fun c => range3 a b c Q
  | _ => False
theorem rangeW_1 (b : Int) (Q : List D → Prop) : rangeW [.int b] Q = ((-1048576 ≤ b ∧ b ≤ 1048576) ∧ Q (rangeL 0 1 b.toNat)) := rfl
theorem rangeW_2 (a b : Int) (Q : List D → Prop) : rangeW [.int a, .int b] Q = ((-1048576 ≤ a ∧ a ≤ 1048576 ∧ -1048576 ≤ b ∧ b ≤ 1048576) ∧ Q (rangeL a 1 (b - a).toNat)) := rfl
theorem rangeW_inv {ds : List D} {Q : List D → Prop} (h : rangeW ds Q) : (∃ b, ds = [.int b] ∧ range1 b Q) ∨ (∃ a b, ds = [.int a, .int b] ∧ range2 a b Q) ∨ ∃ a b c, ds = [.int a, .int b, .int c] ∧ range3 a b c Q := by
  cases ds with
  | nil => exact h.elim
  | cons a ds =>
    cases ds with
    | nil => exact (onI_inv h).elim fun a h => .inl ⟨a, h.1 ▸ rfl, h.2⟩
    | cons b ds =>
      cases ds with
      | nil => exact (onI_inv h).elim fun a h => (onI_inv h.2).elim fun b h2 => .inr (.inl ⟨a, b, h.1 ▸ h2.1 ▸ rfl, h2.2⟩)
      | cons c ds =>
        cases ds with
        | nil => exact (onI_inv h).elim fun a h => (onI_inv h.2).elim fun b h2 => (onI_inv h2.2).elim fun c h3 => .inr (.inr ⟨a, b, c, h.1 ▸ h2.1 ▸ h3.1 ▸ rfl, h3.2⟩)
        | cons _ _ => exact h.elim
noncomputable def enumL : Int → List D → List D
  | _, [] => []
  | i, d :: r => .tup [.int i, d] :: enumL (i + 1) r
noncomputable def seqOf : D → Option (List D)
  | .lst xs => some xs
  | .dct kvs => some (kvs.map fun p => p.1.d)
  | .str s => some (s.cps.toList.map fun c => .str ⟨#[c]⟩)
  | _ => none
noncomputable def zsrc : D → Option (List D)
  | .lst xs => some xs
  | .str s => some (s.cps.toList.map fun c => .str ⟨#[c]⟩)
  | _ => none
noncomputable def zsrcs : List D → Option (List (List D))
  | [] => some []
  | d :: ds => match zsrc d, zsrcs ds with
    | some x, some xs => some (x :: xs)
    | _, _ => none
noncomputable def zipN (n : Nat) (xss : List (List D)) : List D := (List.range n).map fun i => .tup (xss.map fun xs => xs.getD i .none)
noncomputable def zipW (ds : List D) (Q : List D → Prop) : Prop :=
  (2 ≤ ds.length ∧ ds.length ≤ 4) ∧ ∃ n xss, zsrcs ds = some xss ∧ (∀ xs ∈ xss, xs.length = n) ∧ Q (zipN n xss)
noncomputable def Rho.setAll (ρ : Rho) : List Nat → List D → Rho
  | i :: is, d :: ds => Rho.setAll (ρ.set i (some (.sh d))) is ds
  | _, _ => ρ
noncomputable def Rho.clr (ρ : Rho) : List Nat → Rho
  | [] => ρ
  | i :: is => Rho.clr (ρ.set i none) is
noncomputable def asgW (t : Tgt) (d : D) (ρ : Rho) (Q : Rho → Prop) : Prop :=
  match t, d with
  | .nm i, d => Q (ρ.set i (some (.sh d)))
  | .tp is, .tup ds => is.length = ds.length ∧ Q (ρ.setAll is ds)
  | _, _ => False
noncomputable def Tgt.names : Tgt → List Nat
  | .nm i => [i]
  | .tp is => is
noncomputable def pushW (acc d : D) (C : D → Prop) : Prop :=
  match acc with
  | .lst ds => fits (ds.length + 1) ∧ C (.lst (ds ++ [d]))
  | _ => False
noncomputable def loopW (f : D → D → (D → Prop) → Prop) : List D → D → (D → Prop) → Prop
  | [], a, Q => Q a
  | d :: ds, a, Q => f d a (fun a' => loopW f ds a' Q)
noncomputable def capture (ρ : Rho) (cap : List (Option Nat)) : Rho := cap.map fun
  | none => none
  | some j => ρ.at j
noncomputable abbrev Fns := Nat → List D → (D → Prop) → Prop
mutual
noncomputable def evE (X : Fns) : E → Rho → (D → Prop) → Prop
  | .int i, _, Q => Q (.int i)
  | .str s, _, Q => Q (.str s)
  | .bool b, _, Q => Q (.bool b)
  | .none, _, Q => Q .none
  | .var i, ρ, Q => match ρ.at i with
    | some (.sh d) => Q d
    | _ => False
  | .tup es, ρ, Q => evEs X es ρ fun ds => fits ds.length ∧ Q (.tup ds)
  | .lst es, ρ, Q => evEs X es ρ fun ds => fits ds.length ∧ Q (.lst ds)
  | .dct kvs, ρ, Q => evKV X kvs ρ [] fun kvs => Q (.dct kvs)
  | .bin op l r, ρ, Q => evE X l ρ fun a => evE X r ρ fun b => binW op a b Q
  | .cmp op l r, ρ, Q => evE X l ρ fun a => evE X r ρ fun b => cmpW op a b fun c => Q (.bool c)
  | .not e, ρ, Q => evE X e ρ fun a => truthW a fun b => Q (.bool (!b))
  | .bop and es, ρ, Q => evB X and es ρ Q
  | .ite c a b, ρ, Q => evC X c ρ fun t => match t with
    | true => evE X a ρ Q
    | false => evE X b ρ Q
  | .sub o i, ρ, Q => evE X o ρ fun a => evE X i ρ fun b => subW a b Q
  | .slice o lo hi, ρ, Q => evE X o ρ fun a => evE X lo ρ fun b => evE X hi ρ fun c => sliceW a b c Q
  | .osub x i, ρ, Q => match ρ.at x with
    | some (.ol ds) => evE X i ρ fun b => subW (.lst ds) b Q
    | some (.od ds) => evE X i ρ fun b => subW (.dct ds) b Q
    | _ => False
  | .oin neg e x, ρ, Q => evE X e ρ fun a => match ρ.at x with
    | some (.ol ds) => cmpW (if neg then .notin else .isin) a (.lst ds) fun c => Q (.bool c)
    | some (.od ds) => cmpW (if neg then .notin else .isin) a (.dct ds) fun c => Q (.bool c)
    | _ => False
  | .call f es, ρ, Q => evEs X es ρ fun ds => X f ds Q
  | .bi b es, ρ, Q => evEs X es ρ fun ds => biW b ds Q
  | .lcomp elt t it ifs gs cap _, ρ, Q => evI X it ρ fun ds =>
      loopW (fun d acc C => asgW t d (capture ρ cap) fun ρ' => evIfs X ifs ρ' fun b => match b with
        | true => evGs X gs ρ' (fun ρ'' acc C => evE X elt ρ'' fun d => pushW acc d C) acc C
        | false => C acc) ds (.lst []) Q
noncomputable def evEs (X : Fns) : List E → Rho → (List D → Prop) → Prop
  | [], _, Q => Q []
  | e :: es, ρ, Q => evE X e ρ fun d => evEs X es ρ fun ds => Q (d :: ds)
noncomputable def evKV (X : Fns) : List KV → Rho → List (K × D) → (List (K × D) → Prop) → Prop
  | .mk k v :: r, ρ, acc, Q => evE X k ρ fun dk => evE X v ρ fun dv => ∃ kk, dk.key? = some kk ∧ evKV X r ρ (kset kk dv acc) Q
  | [], _, acc, Q => Q acc
noncomputable def evB (X : Fns) (and : Bool) : List E → Rho → (D → Prop) → Prop
  | [], _, _ => False
  | [e], ρ, Q => evE X e ρ Q
  | e :: es, ρ, Q => evE X e ρ fun a => truthW a fun b => match and, b with
    | true, false => Q a
    | false, true => Q a
    | _, _ => evB X and es ρ Q
noncomputable def evC (X : Fns) : E → Rho → (Bool → Prop) → Prop
  | .not e, ρ, Q => evC X e ρ fun b => Q (!b)
  | .bop and es, ρ, Q => evA X and es ρ Q
  | .cmp op l r, ρ, Q => evE X l ρ fun a => evE X r ρ fun b => cmpW op a b Q
  | .oin neg e x, ρ, Q => evE X e ρ fun a => match ρ.at x with
    | some (.ol ds) => cmpW (if neg then .notin else .isin) a (.lst ds) Q
    | some (.od ds) => cmpW (if neg then .notin else .isin) a (.dct ds) Q
    | _ => False
  | .var i, ρ, Q => match ρ.at i with
    | some (.sh d) => truthW d Q
    | _ => False
  | .sub o i, ρ, Q => evE X o ρ fun a => evE X i ρ fun b => subW a b fun d => truthW d Q
  | .call f es, ρ, Q => evEs X es ρ fun ds => X f ds fun d => truthW d Q
  | .bi b es, ρ, Q => evEs X es ρ fun ds => biW b ds fun d => truthW d Q
  | _, _, _ => False
noncomputable def evA (X : Fns) (and : Bool) : List E → Rho → (Bool → Prop) → Prop
  | [], _, Q => Q and
  | e :: es, ρ, Q => evC X e ρ fun b => match and, b with
    | true, false => Q false
    | false, true => Q true
    | _, _ => evA X and es ρ Q
noncomputable def evI (X : Fns) : I → Rho → (List D → Prop) → Prop
  | .ex e, ρ, Q => evE X e ρ fun d => ∃ ds, seqOf d = some ds ∧ Q ds
  | .range es, ρ, Q => evEs X es ρ fun ds => rangeW ds Q
  | .enum e, ρ, Q => evE X e ρ fun d => onL d fun ds => fits ds.length ∧ Q (enumL 0 ds)
  | .zip es, ρ, Q => evEs X es ρ fun ds => zipW ds Q
  | .items e, ρ, Q => evE X e ρ fun d => onK d fun kvs => Q (kvs.map fun p => .tup [p.1.d, p.2])
  | .values e, ρ, Q => evE X e ρ fun d => onK d fun kvs => Q (kvs.map fun p => p.2)
noncomputable def evIfs (X : Fns) : List E → Rho → (Bool → Prop) → Prop
  | [], _, Q => Q true
  | e :: es, ρ, Q => evC X e ρ fun b => match b with
    | true => evIfs X es ρ Q
    | false => Q false
noncomputable def evGs (X : Fns) : List G → Rho → (Rho → D → (D → Prop) → Prop) → D → (D → Prop) → Prop
  | [], ρ, emit, acc, C => emit ρ acc C
  | .mk t it ifs :: gs, ρ, emit, acc, C => evI X it ρ fun ds =>
      loopW (fun d acc C => asgW t d ρ fun ρ' => evIfs X ifs ρ' fun b => match b with
        | true => evGs X gs ρ' emit acc C
        | false => C acc) ds acc C
end
inductive GS where
  | go (last : Option Int) (rest : List Int)
  | rep (last : Int)
noncomputable def GS.pull : GS → Option (Int × GS)
  | .rep l => some (l, .rep l)
  | .go _ [] => none
  | .go last (x :: xs) => if x = 127 then none else if x = 0 then (match last with | some l => some (l, .rep l) | none => none) else some (x, .go (some x) xs)
noncomputable def rowBad : List Int → Bool
  | 0 :: _ => true
  | _ => false
noncomputable def forW (t : Tgt) (kill : List Nat) (body : Rho → (Rho → Fl → Prop) → Prop) : List D → Rho → (Rho → Fl → Prop) → Prop
  | [], ρ, Q => Q (ρ.clr kill) .next
  | d :: ds, ρ, Q => asgW t d ρ fun ρ' => body ρ' fun ρ'' fl => match fl with
    | .next => forW t kill body ds (ρ''.clr kill) Q
    | .brk => Q (ρ''.clr kill) .next
    | .ret d => Q (ρ''.clr kill) (.ret d)
noncomputable def genW (t : Nat) (kill : List Nat) (body : Rho → (Rho → Fl → Prop) → Prop) : Nat → GS → Rho → (Rho → Fl → Prop) → Prop
  | 0, _, _, _ => False
  | n + 1, st, ρ, Q => match st.pull with
    | none => Q (ρ.clr kill) .next
    | some (x, st') => body (ρ.set t (some (.sh (.int x)))) fun ρ' fl => match fl with
      | .next => genW t kill body n st' (ρ'.clr kill) Q
      | .brk => Q (ρ'.clr kill) .next
      | .ret d => Q (ρ'.clr kill) (.ret d)
noncomputable def toLV : D → Option LV
  | .lst ds => some (.ol ds)
  | .dct ds => some (.od ds)
  | _ => none
noncomputable def iopW (op : Bop) (a b : D) (Q : D → Prop) : Prop :=
  match op with
  | .add => onI a fun a => onI b fun b => Q (.int (a + b))
  | .sub => onI a fun a => onI b fun b => Q (.int (a - b))
  | .fdiv => onI a fun a => onI b fun b => (b ≠ 0 ∧ b.natAbs < 1073741824) ∧ Q (.int (a.fdiv b))
  | _ => False
noncomputable def onOl (lv : LV) (k : List D → Prop) : Prop := match lv with
  | .ol ds => k ds
  | _ => False
theorem onOl_ol (ds : List D) (k : List D → Prop) : onOl (.ol ds) k = k ds := rfl
theorem onOl_inv {lv : LV} {k : List D → Prop} (h : onOl lv k) : ∃ ds, lv = .ol ds ∧ k ds := by
  cases lv <;> first | exact ⟨_, rfl, h⟩ | exact h.elim
noncomputable def setW (lv : LV) (k v : D) (Q : LV → Prop) : Prop :=
  match lv with
  | .ol ds => match k with
    | .int i => (0 ≤ i ∧ i < ds.length) ∧ fits ds.length ∧ Q (.ol (ds.set i.toNat v))
    | _ => False
  | .od kvs => ∃ kk, k.key? = some kk ∧ fits kvs.length ∧ Q (.od (kset kk v kvs))
  | _ => False
noncomputable def getW (lv : LV) (k : D) (Q : D → Prop) : Prop :=
  match lv with
  | .ol ds => subW (.lst ds) k Q
  | .od kvs => subW (.dct kvs) k Q
  | _ => False
mutual
noncomputable def exS (X : Fns) : S → Rho → (Rho → Fl → Prop) → Prop
  | .assign i e, ρ, Q => evE X e ρ fun d => Q (ρ.set i (some (.sh d))) .next
  | .assignO i e, ρ, Q => evE X e ρ fun d => ∃ lv, toLV d = some lv ∧ i < ρ.length ∧ Q (ρ.set i (some lv)) .next
  | .assignLL i vals _ it _ _, ρ, Q => evI X it ρ fun ds => (fits ds.length ∧ i < ρ.length) ∧ Q (ρ.set i (some (.oll (List.replicate ds.length (vals.map .int))))) .next
  | .unpack is e, ρ, Q => evE X e ρ fun d => asgW (.tp is) d ρ fun ρ' => Q ρ' .next
  | .setitem x k v, ρ, Q => match ρ.at x with
    | some lv => evE X v ρ fun dv => evE X k ρ fun dk => setW lv dk dv fun lv' => Q (ρ.set x (some lv')) .next
    | none => False
  | .aug i op e, ρ, Q => match ρ.at i with
    | some (.sh a) => evE X e ρ fun b => iopW op a b fun d => Q (ρ.set i (some (.sh d))) .next
    | _ => False
  | .augitem x k op e, ρ, Q => match ρ.at x with
    | some lv => evE X k ρ fun dk => getW lv dk fun a => evE X e ρ fun b => iopW op a b fun d => setW lv dk d fun lv' => Q (ρ.set x (some lv')) .next
    | none => False
  | .augitem2 x k₁ k₂ op e, ρ, Q => match ρ.at x with
    | some (.oll dss) => evE X k₁ ρ fun d₁ => onI d₁ fun i => ∃ j ds, idx dss.length i = some j ∧ dss[j]? = some ds ∧ evE X k₂ ρ fun dk => getW (.ol ds) dk fun a => evE X e ρ fun b => iopW op a b fun d =>
          setW (.ol ds) dk d fun lv' => onOl lv' fun ds' => Q (ρ.set x (some (.oll (dss.set j ds')))) .next
    | _ => False
  | .append x e, ρ, Q => match ρ.at x with
    | some (.ol ds) => evE X e ρ fun d => fits (ds.length + 1) ∧ Q (ρ.set x (some (.ol (ds ++ [d])))) .next
    | _ => False
  | .ife c a b, ρ, Q => evC X c ρ fun t => match t with
    | true => exSs X a ρ Q
    | false => exSs X b ρ Q
  | .fore t it body kill, ρ, Q => evI X it ρ fun ds => forW t kill (exSs X body) ds ρ Q
  | .forgen t e body kill, ρ, Q => evE X e ρ fun d => match d with
    | .lst ds => ∃ is, ints? ds = some is ∧ match rowBad is with
      | false => ∃ n, genW t kill (exSs X body) n (.go none is) ρ Q
      | true => False
    | _ => False
  | .ret e, ρ, Q => evE X e ρ fun d => Q ρ (.ret d)
  | .brk, ρ, Q => Q ρ .brk
  | .freeze i, ρ, Q => match ρ.at i with
    | some lv => ∃ d, lv.froz = some d ∧ Q (ρ.set i (some (.sh d))) .next
    | none => False
  | .setpair x k a b, ρ, Q => match ρ.at x with
    | some lv => evEs X [a, b] ρ fun ds => ∃ a₁ a₂ b₁ b₂, ds = [.tup [.int a₁, .int a₂], .tup [.int b₁, .int b₂]] ∧ evE X k ρ fun dk => setW lv dk (.tup [.int (a₁ + b₁), .int (a₂ + b₂)]) fun lv' => Q (ρ.set x (some lv')) .next
    | none => False
  | .zassign i f es, ρ, Q => evEs X es ρ fun ds => X f ds fun d => Q (ρ.set i (some (.sh d))) .next
  | .zret a b c d f es, ρ, Q => evE X a ρ fun a => evE X b ρ fun b => evE X c ρ fun c => evE X d ρ fun d => evEs X es ρ fun ds => X f ds fun x => Q ρ (.ret (.tup [a, b, c, d, x]))
noncomputable def exSs (X : Fns) : List S → Rho → (Rho → Fl → Prop) → Prop
  | [], ρ, Q => Q ρ .next
  | st :: r, ρ, Q => exS X st ρ fun ρ' fl => match fl with
    | .next => exSs X r ρ' Q
    | fl => Q ρ' fl
end
end Mine
end
section
open PySem PySem.Calls PyProof.Rows
namespace Mine
theorem evE_int (X : Fns) (i) (u1) (Q) : evE X (.int i) u1 Q = (Q (.int i)) := (rfl)
theorem evE_str (X : Fns) (s) (u1) (Q) : evE X (.str s) u1 Q = (Q (.str s)) := (rfl)
theorem evE_bool (X : Fns) (b) (u1) (Q) : evE X (.bool b) u1 Q = (Q (.bool b)) := (rfl)
theorem evE_none (X : Fns) (u1) (Q) : evE X .none u1 Q = (Q .none) := (rfl)
theorem evE_var (X : Fns) (i) (ρ) (Q) : evE X (.var i) ρ Q = (match ρ.at i with
    | some (.sh d) => Q d
    | _ => False) := (rfl)
theorem evE_tup (X : Fns) (es) (ρ) (Q) : evE X (.tup es) ρ Q = (evEs X es ρ fun ds => fits ds.length ∧ Q (.tup ds)) := (rfl)
theorem evE_lst (X : Fns) (es) (ρ) (Q) : evE X (.lst es) ρ Q = (evEs X es ρ fun ds => fits ds.length ∧ Q (.lst ds)) := (rfl)
theorem evE_dct (X : Fns) (kvs) (ρ) (Q) : evE X (.dct kvs) ρ Q = (evKV X kvs ρ [] fun kvs => Q (.dct kvs)) := (rfl)
theorem evE_bin (X : Fns) (op) (l) (r) (ρ) (Q) : evE X (.bin op l r) ρ Q = (evE X l ρ fun a => evE X r ρ fun b => binW op a b Q) := (rfl)
theorem evE_cmp (X : Fns) (op) (l) (r) (ρ) (Q) : evE X (.cmp op l r) ρ Q = (evE X l ρ fun a => evE X r ρ fun b => cmpW op a b fun c => Q (.bool c)) := (rfl)
theorem evE_bop (X : Fns) (and) (es) (ρ) (Q) : evE X (.bop and es) ρ Q = (evB X and es ρ Q) := (rfl)
theorem evE_ite (X : Fns) (c) (a) (b) (ρ) (Q) : evE X (.ite c a b) ρ Q = (evC X c ρ fun t => match t with
    | true => evE X a ρ Q
    | false => evE X b ρ Q) := (rfl)
theorem evE_sub (X : Fns) (o) (i) (ρ) (Q) : evE X (.sub o i) ρ Q = (evE X o ρ fun a => evE X i ρ fun b => subW a b Q) := (rfl)
theorem evE_slice (X : Fns) (o) (lo) (hi) (ρ) (Q) : evE X (.slice o lo hi) ρ Q = (evE X o ρ fun a => evE X lo ρ fun b => evE X hi ρ fun c => sliceW a b c Q) := (rfl)
theorem evE_call (X : Fns) (f) (es) (ρ) (Q) : evE X (.call f es) ρ Q = (evEs X es ρ fun ds => X f ds Q) := (rfl)
theorem evE_bi (X : Fns) (b) (es) (ρ) (Q) : evE X (.bi b es) ρ Q = (evEs X es ρ fun ds => biW b ds Q) := (rfl)
theorem evE_lcomp (X : Fns) (elt) (t) (it) (ifs) (gs) (cap) (u1) (ρ) (Q) : evE X (.lcomp elt t it ifs gs cap u1) ρ Q = (evI X it ρ fun ds =>
      loopW (fun d acc C => asgW t d (capture ρ cap) fun ρ' => evIfs X ifs ρ' fun b => match b with
        | true => evGs X gs ρ' (fun ρ'' acc C => evE X elt ρ'' fun d => pushW acc d C) acc C
        | false => C acc) ds (.lst []) Q) := (rfl)
theorem evEs_nil (X : Fns) (u1) (Q) : evEs X [] u1 Q = (Q []) := (rfl)
theorem evEs_cons (X : Fns) (e) (es) (ρ) (Q) : evEs X (e :: es) ρ Q = (evE X e ρ fun d => evEs X es ρ fun ds => Q (d :: ds)) := (rfl)
theorem evKV_nil (X : Fns) (u1) (acc) (Q) : evKV X [] u1 acc Q = (Q acc) := (rfl)
theorem evB_one (X : Fns) (and : Bool) (e) (ρ) (Q) : evB X and [e] ρ Q = (evE X e ρ Q) := (rfl)
theorem evB_cons (X : Fns) (and : Bool) (e) (e₂) (es) (ρ) (Q) : evB X and (e :: e₂ :: es) ρ Q = (evE X e ρ fun a => truthW a fun b => match and, b with
    | true, false => Q a
    | false, true => Q a
    | _, _ => evB X and (e₂ :: es) ρ Q) := (rfl)
theorem evC_not (X : Fns) (e) (ρ) (Q) : evC X (.not e) ρ Q = (evC X e ρ fun b => Q (!b)) := (rfl)
theorem evC_bop (X : Fns) (and) (es) (ρ) (Q) : evC X (.bop and es) ρ Q = (evA X and es ρ Q) := (rfl)
theorem evC_cmp (X : Fns) (op) (l) (r) (ρ) (Q) : evC X (.cmp op l r) ρ Q = (evE X l ρ fun a => evE X r ρ fun b => cmpW op a b Q) := (rfl)
theorem evC_sub (X : Fns) (o) (i) (ρ) (Q) : evC X (.sub o i) ρ Q = (evE X o ρ fun a => evE X i ρ fun b => subW a b fun d => truthW d Q) := (rfl)
theorem evC_bi (X : Fns) (b) (es) (ρ) (Q) : evC X (.bi b es) ρ Q = (evEs X es ρ fun ds => biW b ds fun d => truthW d Q) := (rfl)
theorem evA_nil (X : Fns) (and : Bool) (u1) (Q) : evA X and [] u1 Q = (Q and) := (rfl)
theorem evA_cons (X : Fns) (and : Bool) (e) (es) (ρ) (Q) : evA X and (e :: es) ρ Q = (evC X e ρ fun b => match and, b with
    | true, false => Q false
    | false, true => Q true
    | _, _ => evA X and es ρ Q) := (rfl)
theorem evI_ex (X : Fns) (e) (ρ) (Q) : evI X (.ex e) ρ Q = (evE X e ρ fun d => ∃ ds, seqOf d = some ds ∧ Q ds) := (rfl)
theorem evI_range (X : Fns) (es) (ρ) (Q) : evI X (.range es) ρ Q = (evEs X es ρ fun ds => rangeW ds Q) := (rfl)
theorem evI_enum (X : Fns) (e) (ρ) (Q) : evI X (.enum e) ρ Q = (evE X e ρ fun d => onL d fun ds => fits ds.length ∧ Q (enumL 0 ds)) := (rfl)
theorem evI_zip (X : Fns) (es) (ρ) (Q) : evI X (.zip es) ρ Q = (evEs X es ρ fun ds => zipW ds Q) := (rfl)
theorem evI_items (X : Fns) (e) (ρ) (Q) : evI X (.items e) ρ Q = (evE X e ρ fun d => onK d fun kvs => Q (kvs.map fun p => .tup [p.1.d, p.2])) := (rfl)
theorem evI_values (X : Fns) (e) (ρ) (Q) : evI X (.values e) ρ Q = (evE X e ρ fun d => onK d fun kvs => Q (kvs.map fun p => p.2)) := (rfl)
theorem evIfs_nil (X : Fns) (u1) (Q) : evIfs X [] u1 Q = (Q true) := (rfl)
theorem evGs_nil (X : Fns) (ρ) (emit) (acc) : evGs X [] ρ emit acc C = (emit ρ acc C) := (rfl)
theorem exS_unpack (X : Fns) (is) (e) (ρ) (Q) : exS X (.unpack is e) ρ Q = (evE X e ρ fun d => asgW (.tp is) d ρ fun ρ' => Q ρ' .next) := (rfl)
theorem exS_ife (X : Fns) (c) (a) (b) (ρ) (Q) : exS X (.ife c a b) ρ Q = (evC X c ρ fun t => match t with
    | true => exSs X a ρ Q
    | false => exSs X b ρ Q) := (rfl)
theorem exS_fore (X : Fns) (t) (it) (body) (kill) (ρ) (Q) : exS X (.fore t it body kill) ρ Q = (evI X it ρ fun ds => forW t kill (exSs X body) ds ρ Q) := (rfl)
theorem exS_forgen (X : Fns) (t) (e) (body) (kill) (ρ) (Q) : exS X (.forgen t e body kill) ρ Q = (evE X e ρ fun d => match d with
    | .lst ds => ∃ is, ints? ds = some is ∧ match rowBad is with
      | false => ∃ n, genW t kill (exSs X body) n (.go none is) ρ Q
      | true => False
    | _ => False) := (rfl)
theorem exS_ret (X : Fns) (e) (ρ) (Q) : exS X (.ret e) ρ Q = (evE X e ρ fun d => Q ρ (.ret d)) := (rfl)
theorem exS_brk (X : Fns) (ρ) (Q) : exS X .brk ρ Q = (Q ρ .brk) := (rfl)
theorem exS_freeze (X : Fns) (i) (ρ) (Q) : exS X (.freeze i) ρ Q = (match ρ.at i with
    | some lv => ∃ d, lv.froz = some d ∧ Q (ρ.set i (some (.sh d))) .next
    | none => False) := (rfl)
theorem exS_zret (X : Fns) (a) (b) (c) (d) (f) (es) (ρ) (Q) : exS X (.zret a b c d f es) ρ Q = (evE X a ρ fun a => evE X b ρ fun b => evE X c ρ fun c => evE X d ρ fun d => evEs X es ρ fun ds => X f ds fun x => Q ρ (.ret (.tup [a, b, c, d, x]))) := (rfl)
theorem exSs_nil (X : Fns) (ρ) (Q) : exSs X [] ρ Q = (Q ρ .next) := (rfl)
theorem exSs_cons (X : Fns) (st) (r) (ρ) (Q) : exSs X (st :: r) ρ Q = (exS X st ρ fun ρ' fl => match fl with
    | .next => exSs X r ρ' Q
    | fl => Q ρ' fl) := (rfl)
theorem binW_addI (a b : Int) (Q) : binW .add (.int a) (.int b) Q = Q (.int (a + b)) := (rfl)
theorem binW_addL (a b : List D) (Q) : binW .add (.lst a) (.lst b) Q = (fits (a.length + b.length) ∧ Q (.lst (a ++ b))) := (rfl)
theorem binW_sub (a b : Int) (Q) : binW .sub (.int a) (.int b) Q = Q (.int (a - b)) := (rfl)
theorem binW_mulI (a b : Int) (Q) : binW .mul (.int a) (.int b) Q = ((smallI a ∨ smallI b) ∧ Q (.int (a * b))) := (rfl)
theorem binW_mulL (a : List D) (b : Int) (Q) : binW .mul (.lst a) (.int b) Q = ((0 ≤ b ∧ b ≤ 1048576 ∧ fits (a.length * b.toNat)) ∧ Q (.lst (List.replicate b.toNat a).flatten)) := (rfl)
theorem binW_fdiv (a b : Int) (Q) : binW .fdiv (.int a) (.int b) Q = ((b ≠ 0 ∧ b.natAbs < 1073741824) ∧ Q (.int (a.fdiv b))) := (rfl)
theorem binW_mod (a b : Int) (Q) : binW .mod (.int a) (.int b) Q = (b ≠ 0 ∧ Q (.int (a.fmod b))) := (rfl)
theorem binW_pow (a b : Int) (Q) : binW .pow (.int a) (.int b) Q = ((0 ≤ b ∧ b ≤ 1000000 ∧ smallI a) ∧ Q (.int (a ^ b.toNat))) := (rfl)
theorem iopW_add (a b : Int) (Q) : iopW .add (.int a) (.int b) Q = Q (.int (a + b)) := (rfl)
theorem iopW_sub (a b : Int) (Q) : iopW .sub (.int a) (.int b) Q = Q (.int (a - b)) := (rfl)
theorem biW_sum (xs : List D) (Q) : biW .sum [.lst xs] Q = ∃ is, ints? xs = some is ∧ fits is.length ∧ Q (.int is.sum) := (rfl)
theorem biW_lenL (xs : List D) (Q) : biW .len [.lst xs] Q = (fits xs.length ∧ Q (.int xs.length)) := (rfl)
theorem biW_min2 (a b : Int) (Q) : biW .min [.int a, .int b] Q = Q (.int (if b < a then b else a)) := (rfl)
theorem biW_isT (xs : List D) (Q) : biW .isTuple [.tup xs] Q = Q (.bool true) := (rfl)
theorem biW_isI (i : Int) (Q) : biW .isTuple [.int i] Q = Q (.bool false) := (rfl)
theorem cmpW_eq (a b : D) (Q) : cmpW .eq a b Q = (eqP 4 a b = true ∧ Q (eqv a b)) := (rfl)
theorem cmpW_ne (a b : D) (Q) : cmpW .ne a b Q = (eqOk a b = true ∧ Q (!eqv a b)) := (rfl)
theorem cmpW_le (a b : Int) (Q) : cmpW .le (.int a) (.int b) Q = Q (decide (a ≤ b)) := (rfl)
theorem cmpW_inL (x : D) (ys : List D) (Q) : cmpW .isin x (.lst ys) Q = ((ys.all fun y => eqP 4 y x) = true ∧ Q (ys.any fun y => eqv y x)) := (rfl)
theorem cmpW_inD (x : D) (ys : List (K × D)) (Q) : cmpW .isin x (.dct ys) Q = ∃ k, x.key? = some k ∧ Q (klook k ys).isSome := (rfl)
theorem truthW_b (b : Bool) (Q) : truthW (.bool b) Q = Q b := (rfl)
theorem subW_l (xs : List D) (i : Int) (Q : D → Prop) : subW (.lst xs) (.int i) Q = ∃ d, ((idx xs.length i).bind fun j => xs[j]?) = some d ∧ Q d := (rfl)
theorem subW_t (xs : List D) (i : Int) (Q : D → Prop) : subW (.tup xs) (.int i) Q = ∃ d, ((idx xs.length i).bind fun j => xs[j]?) = some d ∧ Q d := (rfl)
theorem subW_d (kvs : List (K × D)) (k : D) (Q : D → Prop) : subW (.dct kvs) k Q = ∃ k' d, k.key? = some k' ∧ klook k' kvs = some d ∧ Q d := (rfl)
theorem setW_ol (ds : List D) (i : Int) (v : D) (Q) : setW (.ol ds) (.int i) v Q = ((0 ≤ i ∧ i < ds.length) ∧ fits ds.length ∧ Q (.ol (ds.set i.toNat v))) := (rfl)
theorem setW_od (kvs : List (K × D)) (k v : D) (Q) : setW (.od kvs) k v Q = ∃ kk, k.key? = some kk ∧ fits kvs.length ∧ Q (.od (kset kk v kvs)) := (rfl)
theorem getW_ol (ds : List D) (i : Int) (Q) : getW (.ol ds) (.int i) Q = ∃ d, ((idx ds.length i).bind fun j => ds[j]?) = some d ∧ Q d := (rfl)
theorem getW_od (kvs : List (K × D)) (k : D) (Q) : getW (.od kvs) k Q = ∃ k' d, k.key? = some k' ∧ klook k' kvs = some d ∧ Q d := (rfl)
theorem asgW_tp (is : List Nat) (ds : List D) (ρ : Rho) (Q) : asgW (.tp is) (.tup ds) ρ Q = (is.length = ds.length ∧ Q (ρ.setAll is ds)) := (rfl)
theorem setAll_nil (ρ : Rho) (ds : List D) : ρ.setAll [] ds = ρ := by cases ds <;> rfl
theorem clr_nil (ρ : Rho) : ρ.clr [] = ρ := (rfl)
theorem toLV_lst (ds : List D) : toLV (.lst ds) = some (.ol ds) := (rfl)
theorem toLV_dct (ds : List (K × D)) : toLV (.dct ds) = some (.od ds) := (rfl)
theorem froz_ol (ds : List D) : LV.froz (.ol ds) = some (.lst ds) := (rfl)
theorem froz_od (ds : List (K × D)) : LV.froz (.od ds) = some (.dct ds) := (rfl)
theorem froz_oll (ds : List (List D)) : LV.froz (.oll ds) = some (.lst (ds.map .lst)) := (rfl)
theorem pushW_l (ds : List D) (d : D) (C) : pushW (.lst ds) d C = (fits (ds.length + 1) ∧ C (.lst (ds ++ [d]))) := (rfl)
theorem forW_nil (t kill body) (ρ : Rho) (Q) : forW t kill body [] ρ Q = Q (ρ.clr kill) .next := (rfl)
theorem forW_cons (t kill body) (d : D) (ds : List D) (ρ : Rho) (Q) : forW t kill body (d :: ds) ρ Q = asgW t d ρ fun ρ' => body ρ' fun ρ'' fl => match fl with
    | .next => forW t kill body ds (ρ''.clr kill) Q
    | .brk => Q (ρ''.clr kill) .next
    | .ret d => Q (ρ''.clr kill) (.ret d) := (rfl)
theorem loopW_nil (f : D → D → (D → Prop) → Prop) (a : D) (Q) : loopW f [] a Q = Q a := (rfl)
theorem loopW_cons (f : D → D → (D → Prop) → Prop) (d : D) (ds : List D) (a : D) (Q) : loopW f (d :: ds) a Q = f d a (fun a' => loopW f ds a' Q) := (rfl)
theorem onL_l (l : List D) (k : List D → Prop) : onL (.lst l) k = k l := (rfl)
theorem onI_i (i : Int) (k : Int → Prop) : onI (.int i) k = k i := (rfl)
theorem onK_d (l : List (K × D)) (k : List (K × D) → Prop) : onK (.dct l) k = k l := (rfl)
theorem enumL_nil (i : Int) : enumL i [] = [] := (rfl)
theorem enumL_cons (i : Int) (d : D) (r : List D) : enumL i (d :: r) = .tup [.int i, d] :: enumL (i + 1) r := (rfl)
end Mine
end
section
open PySem PySem.Calls PyProof.Rows
open PySem.SeqAt (EqAt RcAt RcNeAt)
namespace Mine
section
variable {w : World} {prog : Program} {F : Addr → Prop} {h : Heap}
theorem lst_uniq {a : Addr} {vs vs' : List Value} (x : h.IsList a vs.toArray) (y : h.IsList a vs'.toArray) : vs = vs' := by
  obtain ⟨o, e, _, n, q⟩ := x; obtain ⟨o', e', _, m, q'⟩ := y
  rw [e] at e'
  injection e' with e'
  subst e'
  rw [q] at q'
  injection q' with e' _
  simpa using congrArg Array.toList e'
theorem tup_uniq {a : Addr} {vs vs' : List Value} (x : h.IsTuple a vs.toArray) (y : h.IsTuple a vs'.toArray) : vs = vs' := by
  obtain ⟨o, e, _, n, q⟩ := x; obtain ⟨o', e', _, m, q'⟩ := y
  rw [e] at e'
  injection e' with e'
  subst e'
  rw [q] at q'
  injection q' with e' _
  simpa using congrArg Array.toList e'
theorem pairs_uniq {knd : KeyKind prog w K} {es : List DictEntry} {kvs : List (K × Value)} (x : Pairs knd es kvs) : ∀ {kvs' : List (K × Value)}, Pairs knd es kvs' → kvs = kvs' := by
  induction x with
  | nil => intro kvs' y; cases y; rfl
  | cons hk hv hr ih =>
    intro kvs' y
    cases y with
    | cons hk' hv' hr' => rw [ih hr', Prod.ext (knd.inj _ _ _ hk hk') (hv.symm.trans hv')]
theorem DictOf_uniq {knd : KeyKind prog w K} {a : Addr} {kvs kvs' : List (K × Value)} (x : h.DictOf knd a kvs) (y : h.DictOf knd a kvs') : kvs = kvs' := by
  obtain ⟨o, es, ep, e, _, hd, _, hp, _⟩ := x
  obtain ⟨o', es', ep', e', _, hd', _, hp', _⟩ := y
  rw [e] at e'; cases e'
  rw [hd] at hd'; cases hd'
  exact pairs_uniq hp hp'
theorem tup_lst {a : Addr} {vs vs' : Array Value} (x : h.IsTuple a vs) (y : h.IsList a vs') : False := by
  obtain ⟨o, e, hc, _⟩ := x; obtain ⟨o', e', hc', _⟩ := y
  rw [Option.some.inj (e.symm.trans e'), hc'] at hc
  exact absurd hc (by simp)
theorem tup_dct {a : Addr} {vs : Array Value} {knd : KeyKind prog w K} {kvs : List (K × Value)} (x : h.IsTuple a vs) (y : h.DictOf knd a kvs) : False := by
  obtain ⟨o, e, hc, _⟩ := x; obtain ⟨o', es, ep, e', hx, _⟩ := y
  rw [Option.some.inj (e.symm.trans e'), hx.1] at hc
  exact absurd hc (by simp)
theorem lst_dct {a : Addr} {vs : Array Value} {knd : KeyKind prog w K} {kvs : List (K × Value)} (x : h.IsList a vs) (y : h.DictOf knd a kvs) : False := by
  obtain ⟨o, e, hc, _⟩ := x; obtain ⟨o', es, ep, e', hx, _⟩ := y
  rw [Option.some.inj (e.symm.trans e'), hx.1] at hc
  exact absurd hc (by simp)
theorem Rep.tup_d {a : Addr} {vs : List Value} {d : D} (e : h.IsTuple a vs.toArray) (r : Rep w prog F h (.ref a) d) : ∃ ds, d = .tup ds ∧ Reps w prog F h vs ds := by
  rcases r.uview with ⟨vs', ds, rfl, e', r⟩ | ⟨_, _, _, e', _⟩ | ⟨_, _, _, e', _⟩
  · exact ⟨ds, rfl, tup_uniq e e' ▸ r⟩
  · exact (tup_lst e e').elim
  · exact (tup_dct e e').elim
theorem Rep.lst_d {a : Addr} {vs : List Value} {d : D} (e : h.IsList a vs.toArray) (r : Rep w prog F h (.ref a) d) : ∃ ds, d = .lst ds ∧ Reps w prog F h vs ds := by
  rcases r.uview with ⟨_, _, _, e', _⟩ | ⟨vs', ds, rfl, e', r⟩ | ⟨_, _, _, e', _⟩
  · exact (tup_lst e' e).elim
  · exact ⟨ds, rfl, lst_uniq e e' ▸ r⟩
  · exact (lst_dct e e').elim
theorem Rep.dct_d {a : Addr} {kvs : List (K × Value)} {d : D} (e : h.DictOf (kind prog w) a kvs) (r : Rep w prog F h (.ref a) d) : ∃ ds, d = .dct ds ∧ RepKs w prog F h kvs ds := by
  rcases r.uview with ⟨_, _, _, e', _⟩ | ⟨_, _, _, e', _⟩ | ⟨vs', ds, rfl, e', r⟩
  · exact (tup_dct e' e).elim
  · exact (lst_dct e' e).elim
  · exact ⟨ds, rfl, DictOf_uniq e e' ▸ r⟩
theorem Reps.nil_d {ds : List D} (r : Reps w prog F h [] ds) : [] = ds := by
  cases ds with
  | nil => rfl
  | cons _ _ => obtain ⟨_, _, e, _⟩ := r.view; cases e
theorem Reps.cons_d {v : Value} {vs : List Value} {ds : List D} (r : Reps w prog F h (v :: vs) ds) : ∃ d ds', ds = d :: ds' ∧ Rep w prog F h v d ∧ Reps w prog F h vs ds' := by
  cases ds with
  | nil => exact nomatch r.view
  | cons d ds => obtain ⟨_, _, e, a, b⟩ := r.view; cases e; exact ⟨d, ds, rfl, a, b⟩
theorem RepKs.nil_d {ds : List (K × D)} (r : RepKs w prog F h [] ds) : [] = ds := by
  cases ds with
  | nil => rfl
  | cons _ _ => obtain ⟨_, _, e, _⟩ := r.view; cases e
theorem RepKs.cons_d {k : K} {v : Value} {vs : List (K × Value)} {ds : List (K × D)} (r : RepKs w prog F h ((k, v) :: vs) ds) : ∃ d ds', ds = (k, d) :: ds' ∧ Rep w prog F h v d ∧ RepKs w prog F h vs ds' := by
  cases ds with
  | nil => exact nomatch r.view
  | cons d ds => obtain ⟨_, _, e, a, b⟩ := r.view; cases e; exact ⟨d.2, ds, rfl, a, b⟩
theorem Rep.uniq {v : Value} {d : D} (r : Rep w prog F h v d) : ∀ {d' : D}, Rep w prog F h v d' → d = d' :=
  @Rep.rec w prog F h (fun v d _ => ∀ {d' : D}, Rep w prog F h v d' → d = d') (fun v d _ => ∀ {d' : List D}, Reps w prog F h v d' → d = d') (fun v d _ => ∀ {d' : List (K × D)}, RepKs w prog F h v d' → d = d')
    (fun r => Eq.symm r.uview) (fun _ _ r => Eq.symm r.uview) (fun _ _ _ r => Eq.symm r.uview) (fun _ _ _ r => Eq.symm r.uview)
    (fun _ e _ ih _ r => (r.tup_d e).elim fun _ q => q.1 ▸ congrArg D.tup (ih q.2)) (fun _ e _ ih _ r => (r.lst_d e).elim fun _ q => q.1 ▸ congrArg D.lst (ih q.2)) (fun _ e _ ih _ r => (r.dct_d e).elim fun _ q => q.1 ▸ congrArg D.dct (ih q.2))
    (fun r => r.nil_d) (fun _ _ ia ib _ r => r.cons_d.elim fun _ q => q.elim fun _ q => q.1 ▸ congr (congrArg List.cons (ia q.2.1)) (ib q.2.2))
    (fun r => r.nil_d) (fun {k _ _ _ _} _ _ ia ib _ r => r.cons_d.elim fun _ q => q.elim fun _ q => q.1 ▸ congr (congrArg List.cons (congrArg (Prod.mk k) (ia q.2.1))) (ib q.2.2)) v d r
theorem Reps.uniq {v : List Value} {d d' : List D} (r : Reps w prog F h v d) (r' : Reps w prog F h v d') : d = d' := by
  induction d generalizing v d' with
  | nil => rw [show v = [] from r.view] at r'; exact r'.nil_d
  | cons x d ih =>
    obtain ⟨v, vs, rfl, a, r⟩ := r.view
    obtain ⟨y, d', rfl, a', r'⟩ := r'.cons_d
    rw [a.uniq a', ih r r']
theorem RepKs.uniq {v : List (K × Value)} {d d' : List (K × D)} (r : RepKs w prog F h v d) (r' : RepKs w prog F h v d') : d = d' := by
  induction d generalizing v d' with
  | nil => rw [show v = [] from r.view] at r'; exact r'.nil_d
  | cons x d ih =>
    obtain ⟨v, vs, rfl, a, r⟩ := r.view
    obtain ⟨y, d', rfl, a', r'⟩ := r'.cons_d
    rw [← a.uniq a', ih r r']
theorem eqv_scal (d : D) (h : scal d = true) : eqv d d = true := by
  cases d with
  | none => rfl
  | bool b => rw [eqv_bool]; exact beq_self_eq_true b
  | int b => rw [eqv_int]; exact beq_self_eq_true b
  | str b => rw [eqv_str]; exact beq_self_eq_true b
  | tup _ => exact nomatch h
  | lst _ => exact nomatch h
  | dct _ => exact nomatch h
theorem all2_and {f : D → D → Bool} {x y : D} {xs ys : List D} (h : all2 f (x :: xs) (y :: ys) = true) : f x y = true ∧ all2 f xs ys = true := by
  rw [all2_cons, Bool.and_eq_true] at h; exact h
theorem eqvs_of_all {n : Nat} (ih : ∀ d, eqP n d d = true → eqv d d = true) (l : List D) (h : all2 (eqP n) l l = true) : eqvs l l = true := by
  induction l with
  | nil => rfl
  | cons x xs ih2 => rw [eqvs_cons, ih x (all2_and h).1, ih2 (all2_and h).2]; rfl
theorem eqv_refl (n : Nat) : ∀ d : D, eqP n d d = true → eqv d d = true := by
  induction n with
  | zero => exact fun d h => eqv_scal d (Bool.and_eq_true _ _ ▸ h : scal d = true ∧ scal d = true).1
  | succ n ih =>
    intro d h
    cases d with
    | lst a => exact eqvs_of_all ih a h
    | tup a => exact eqvs_of_all ih a h
    | none => rfl
    | bool b => rw [eqv_bool]; exact beq_self_eq_true b
    | int b => rw [eqv_int]; exact beq_self_eq_true b
    | str b => rw [eqv_str]; exact beq_self_eq_true b
    | dct a => exact nomatch h
noncomputable def pe (xs ys : List D) (j : Nat) : Bool := eqv (xs.getD j .none) (ys.getD j .none)
theorem range_all_succ (f : Nat → Bool) (n : Nat) : (List.range (n + 1)).all f = (f 0 && (List.range n).all fun j => f (j + 1)) := by
  rw [List.range_succ_eq_map, List.all_cons, List.all_map]; rfl
theorem eqvs_range (xs : List D) : ∀ ys : List D, ((List.range (min xs.length ys.length)).all (pe xs ys) && xs.length == ys.length) = eqvs xs ys := by
  induction xs with
  | nil => intro ys; cases ys <;> rfl
  | cons x xs ih =>
    intro ys
    cases ys with
    | nil => rfl
    | cons y ys =>
      rw [List.length_cons, List.length_cons, Nat.succ_min_succ, range_all_succ, eqvs_cons, ← ih, ← Bool.and_assoc]
      congr 1
      exact Bool.eq_iff_iff.mpr (by rw [beq_iff_eq, beq_iff_eq, Nat.add_right_cancel_iff])
theorem eqvs_same {xs ys : List D} (hl : xs.length = ys.length) : (List.range xs.length).all (pe xs ys) = eqvs xs ys := by
  have := eqvs_range xs ys
  rw [← hl] at this
  simpa using this
theorem eqvs_diff {xs ys : List D} (hl : xs.length ≠ ys.length) : eqvs xs ys = false := by
  have := eqvs_range xs ys
  rw [← this]
  simp [hl]
theorem all2_get {f : D → D → Bool} : ∀ {xs ys : List D}, all2 f xs ys = true → ∀ {j : Nat} {x y : D}, xs[j]? = some x → ys[j]? = some y → f x y = true := by
  intro xs
  induction xs with
  | nil => intro ys _ j x y hx; exact nomatch hx
  | cons a xs ih =>
    intro ys h j x y hx hy
    cases ys with
    | nil => exact nomatch hy
    | cons b ys =>
      cases j with
      | zero => exact Option.some.inj hx ▸ Option.some.inj hy ▸ (all2_and h).1
      | succ j => exact ih (all2_and h).2 hx hy
theorem Rep.scal_view {v : Value} {d : D} (r : Rep w prog F h v d) (hs : scal d = true) : (v = .none ∧ d = .none) ∨ (∃ b, v = .bool b ∧ d = .bool b) ∨ (∃ i t, v = .int i t ∧ d = .int i) ∨ ∃ s t, v = .str s t ∧ d = .str s := by
  cases r with
  | none => exact .inl ⟨rfl, rfl⟩
  | bool b => exact .inr (.inl ⟨b, rfl, rfl⟩)
  | int i t => exact .inr (.inr (.inl ⟨i, t, rfl, rfl⟩))
  | str s t => exact .inr (.inr (.inr ⟨s, t, rfl, rfl⟩))
  | tup _ _ _ => exact nomatch hs
  | lst _ _ _ => exact nomatch hs
  | dct _ _ _ => exact nomatch hs
theorem scal_pairs {P : Value → Value → Bool → Prop} (nn : P .none .none true) (nb : ∀ b, P .none (.bool b) false) (ni : ∀ i t, P .none (.int i t) false) (ns : ∀ i t, P .none (.str i t) false)
    (bn : ∀ b, P (.bool b) .none false) (bb : ∀ a b, P (.bool a) (.bool b) (a == b)) (bi : ∀ a b t, P (.bool a) (.int b t) ((if a then 1 else 0) == b)) (bs : ∀ a b t, P (.bool a) (.str b t) false)
    (n1 : ∀ i t, P (.int i t) .none false) (b1 : ∀ i t b, P (.int i t) (.bool b) (i == (if b then 1 else 0))) (ii : ∀ i t j u, P (.int i t) (.int j u) (i == j)) (is : ∀ i t j u, P (.int i t) (.str j u) false)
    (n2 : ∀ i t, P (.str i t) .none false) (b2 : ∀ i t b, P (.str i t) (.bool b) false) (i2 : ∀ i t j u, P (.str i t) (.int j u) false) (ss : ∀ i t j u, P (.str i t) (.str j u) (i == j))
    {v v' : Value} {d d' : D} (r : Rep w prog F h v d) (r' : Rep w prog F h v' d') (hs : scal d = true) (hs' : scal d' = true) : P v v' (eqv d d') := by
  rcases r.scal_view hs with ⟨rfl, rfl⟩ | ⟨b, rfl, rfl⟩ | ⟨i, t, rfl, rfl⟩ | ⟨i, t, rfl, rfl⟩
  · rcases r'.scal_view hs' with ⟨rfl, rfl⟩ | ⟨b', rfl, rfl⟩ | ⟨i', t', rfl, rfl⟩ | ⟨i', t', rfl, rfl⟩
    · exact nn
    · exact nb _
    · exact ni _ _
    · exact ns _ _
  · rcases r'.scal_view hs' with ⟨rfl, rfl⟩ | ⟨b', rfl, rfl⟩ | ⟨i', t', rfl, rfl⟩ | ⟨i', t', rfl, rfl⟩
    · exact bn _
    · exact bb _ _
    · exact bi _ _ _
    · exact bs _ _ _
  · rcases r'.scal_view hs' with ⟨rfl, rfl⟩ | ⟨b', rfl, rfl⟩ | ⟨i', t', rfl, rfl⟩ | ⟨i', t', rfl, rfl⟩
    · exact n1 _ _
    · exact b1 _ _ _
    · exact ii _ _ _ _
    · exact is _ _ _ _
  · rcases r'.scal_view hs' with ⟨rfl, rfl⟩ | ⟨b', rfl, rfl⟩ | ⟨i', t', rfl, rfl⟩ | ⟨i', t', rfl, rfl⟩
    · exact n2 _ _
    · exact b2 _ _ _
    · exact i2 _ _ _ _
    · exact ss _ _ _ _
theorem eqAt_scal {A : Around} {s : Shared} {v v' : Value} {d d' : D} (r : Rep w prog F s.heap v d) (r' : Rep w prog F s.heap v' d') (hs : scal d = true) (hs' : scal d' = true) : EqAt A s v v' (eqv d d') :=
  scal_pairs (P := EqAt A s) (EqAt.same _) EqAt.none_bool EqAt.none_int EqAt.none_str EqAt.bool_none EqAt.bool_bool EqAt.bool_int EqAt.bool_str EqAt.int_none EqAt.int_bool EqAt.int_int EqAt.int_str EqAt.str_none EqAt.str_bool EqAt.str_int EqAt.str_str r r' hs hs'
theorem eqP_cases {n : Nat} {d d' : D} (h : eqP n d d' = true) : (scal d = true ∧ scal d' = true) ∨ ∃ m a b, n = m + 1 ∧ all2 (eqP m) a b = true ∧ ((d = .lst a ∧ d' = .lst b) ∨ (d = .tup a ∧ d' = .tup b)) := by
  have two : ∀ {a b : D}, (scal a && scal b) = true → scal a = true ∧ scal b = true := fun h => by rw [Bool.and_eq_true] at h; exact h
  cases n with
  | zero => exact .inl (two h)
  | succ n =>
    cases d with
    | lst a => cases d' <;> first | exact absurd (h : false = true) Bool.false_ne_true | exact .inr ⟨n, _, _, rfl, h, .inl ⟨rfl, rfl⟩⟩
    | tup a => cases d' <;> first | exact absurd (h : false = true) Bool.false_ne_true | exact .inr ⟨n, _, _, rfl, h, .inr ⟨rfl, rfl⟩⟩
    | _ => exact .inl (two h)
theorem items_at {s : Shared} {A : Around} {n : Nat} (ih : ∀ {v v' : Value} {d d' : D}, Rep w prog F s.heap v d → Rep w prog F s.heap v' d' → eqP n d d' = true → EqAt A s v v' (eqv d d'))
    {vs vs' : List Value} {ds ds' : List D} (r : Reps w prog F s.heap vs ds) (r' : Reps w prog F s.heap vs' ds') (ha : all2 (eqP n) ds ds' = true) :
    ∀ j (h1 : j < vs.toArray.size) (h2 : j < vs'.toArray.size), EqAt A s vs.toArray[j] vs'.toArray[j] (pe ds ds' j) := by
  intro j h1 h2
  have h1' : j < vs.length := by simpa using h1
  have h2' : j < vs'.length := by simpa using h2
  obtain ⟨d, hd, q⟩ := r.get' (i := j) (v := vs[j]) (by simp [h1'])
  obtain ⟨d', hd', q'⟩ := r'.get' (i := j) (v := vs'[j]) (by simp [h2'])
  have e : pe ds ds' j = eqv d d' := by simp [pe, List.getD, hd, hd']
  rw [e]
  simpa using ih q q' (all2_get ha hd hd')
theorem eqAt_plain {s : Shared} (n : Nat) : ∀ (A : Around) {v v' : Value} {d d' : D}, Rep w prog F s.heap v d → Rep w prog F s.heap v' d' → eqP n d d' = true → A.units + n < cLine → EqAt A s v v' (eqv d d') := by
  induction n with
  | zero =>
    intro A v v' d d' r r' h _
    rcases eqP_cases h with ⟨h1, h2⟩ | ⟨m, _, _, e, _⟩
    · exact eqAt_scal r r' h1 h2
    · cases e
  | succ n ih =>
    intro A v v' d d' r r' h hu
    have hu1 : A.in1.units + n < cLine := by simp; (first | lia | omega)
    have hu2 : A.units < cLine := by (first | lia | omega)
    rcases eqP_cases h with ⟨h1, h2⟩ | ⟨m, a, b, e, ha, ⟨rfl, rfl⟩ | ⟨rfl, rfl⟩⟩
    · exact eqAt_scal r r' h1 h2
    · cases e
      obtain ⟨l, vs, rfl, _, el, rs⟩ := r.view
      obtain ⟨l', vs', rfl, _, el', rs'⟩ := r'.view
      by_cases hll : l = l'
      · subst hll
        have q : Reps w prog F s.heap vs b := lst_uniq el' el ▸ rs'
        have q := rs.uniq q
        subst q
        rw [eqv_refl (n + 1) _ h]
        exact EqAt.same _
      · have hi := items_at (fun q q' e => ih A.in1 q q' e hu1) rs rs' ha
        rw [eqv_lst]
        by_cases hsz : vs.length = vs'.length
        · rw [← eqvs_same (by rw [← rs.length, ← rs'.length]; exact hsz), ← rs.length]
          have := RcAt.lists el el' (by simpa using hsz) hu2 hi
          exact EqAt.of_refs hll (by simpa using this)
        · rw [eqvs_diff (by rw [← rs.length, ← rs'.length]; exact hsz)]
          exact EqAt.of_refs hll (RcAt.lists_lengths el el' (by simpa using hsz) hu2)
    · cases e
      obtain ⟨l, vs, rfl, _, el, rs⟩ := r.view
      obtain ⟨l', vs', rfl, _, el', rs'⟩ := r'.view
      by_cases hll : l = l'
      · subst hll
        have q : Reps w prog F s.heap vs b := tup_uniq el' el ▸ rs'
        have q := rs.uniq q
        subst q
        rw [eqv_refl (n + 1) _ h]
        exact EqAt.same _
      · have hi := items_at (fun q q' e => ih A.in1 q q' e hu1) rs rs' ha
        rw [eqv_tup, ← eqvs_range, ← rs.length, ← rs'.length]
        have := RcAt.tuples el el' hu2 hi
        exact EqAt.of_refs hll (by simpa using this)
end
end Mine
end
section
open PySem PySem.Calls PyProof.Rows
open PySem.SeqAt (EqAt RcAt RcNeAt)
namespace Mine
open AutoSeq1 (wpAny_loadPart')
open MeetsSeq MeetsSeq2 MeetsSeq3
noncomputable def EqIn (prog : Program) (w : World) (A : Around) (s : Shared) (y x : Value) (b : Bool) : Prop :=
  ∀ (E : Value → Shared → Prop) (Q : Bool → Shared → Prop), Q b s → wpAny (model prog w) A (eqBool y x) Q E s
theorem EqIn.of {prog : Program} {w : World} {A : Around} {s : Shared} {y x : Value} {b : Bool} (h : EqAt A s y x b) : EqIn prog w A s y x b := fun E Q hq => h prog w E Q hq
section
variable {w : World} {prog : Program} {F : Addr → Prop} {h : Heap}
theorem RepKs.find {kvs : List (K × Value)} {ds : List (K × D)} (r : RepKs w prog F h kvs ds) (k : K) :
    (klook k ds = none ∧ valueAt kvs k = none) ∨ ∃ d v, klook k ds = some d ∧ valueAt kvs k = some v ∧ Rep w prog F h v d := by
  induction ds generalizing kvs with
  | nil => rw [show kvs = [] from r.view]; exact .inl ⟨rfl, rfl⟩
  | cons p ds ih =>
    obtain ⟨v, vs, rfl, q, r⟩ := r.view
    rw [show klook k (p :: ds) = if p.1 = k then some p.2 else klook k ds from rfl]
    by_cases hk : p.1 = k
    · rw [if_pos hk]; exact .inr ⟨p.2, v, rfl, by simp [valueAt, hk], q⟩
    · rw [if_neg hk, show valueAt ((p.1, v) :: vs) k = valueAt vs k by simp [valueAt, hk]]; exact ih r
theorem hits_of {A : Around} {s : Shared} {kb : List (K × Value)} {db : List (K × D)} (rb : RepKs w prog F s.heap kb db) (hu : A.units + 4 < cLine) :
    ∀ {ka : List (K × Value)} {da : List (K × D)}, RepKs w prog F s.heap ka da → eqK da db = true → PySem.W.KeqHits A s kb ka (eqvk da db) := by
  intro ka da
  induction da generalizing ka with
  | nil => intro r _; rw [show ka = [] from r.view]; exact .nil
  | cons p da ih =>
    intro r he
    obtain ⟨v, vs, rfl, q, r⟩ := r.view
    have he' := he
    rw [eqK_cons, Bool.and_eq_true] at he'
    rw [eqvk_cons]
    rcases rb.find p.1 with ⟨h1, h2⟩ | ⟨d', v', h1, h2, h3⟩
    · rw [h1]; exact .miss h2
    · rw [h1] at he' ⊢
      exact .hit h2 (eqAt_plain 4 A q h3 he'.1 hu) (ih r he'.2)
theorem klook_self {ds : List (K × D)} (hn : (ds.map (·.1)).Nodup) {k : K} {d : D} (hm : (k, d) ∈ ds) : klook k ds = some d := by
  induction ds with
  | nil => exact nomatch hm
  | cons p ds ih =>
    rw [List.map_cons, List.nodup_cons] at hn
    rw [show klook k (p :: ds) = if p.1 = k then some p.2 else klook k ds from rfl]
    rcases List.mem_cons.mp hm with e | hm
    · rw [← e, if_pos rfl]
    · rw [if_neg fun e => hn.1 (List.mem_map.mpr ⟨(k, d), hm, e.symm⟩), ih hn.2 hm]
theorem eqvk_refl {ds : List (K × D)} (l : List (K × D)) : (∀ p ∈ l, p ∈ ds) → (ds.map (·.1)).Nodup → eqK l ds = true → eqvk l ds = true := by
  induction l with
  | nil => exact fun _ _ _ => rfl
  | cons p l ih =>
    intro hl hn he
    have e1 := klook_self hn (hl p (.head _))
    rw [eqK_cons, Bool.and_eq_true, e1] at he
    rw [eqvk_cons, e1, ih (fun p hp => hl p (.tail _ hp)) hn he.2, Bool.and_true]
    exact eqv_refl 4 p.2 he.1
theorem eqC_cases {d d' : D} (h : eqC d d' = true) : eqP 4 d d' = true ∨ ∃ x y, d = .dct x ∧ d' = .dct y ∧ eqK x y = true := by
  cases d with
  | dct x => cases d' <;> first | exact absurd (h : false = true) Bool.false_ne_true | exact .inr ⟨x, _, rfl, rfl, h⟩
  | _ => exact .inl h
theorem eqIn_dct {s : Shared} {A : Around} (hS : F sysModules) {a a' : Addr} {kvs kvs' : List (K × Value)} {ds ds' : List (K × D)} (hF : ¬ F a) (hF' : ¬ F a') (e : s.heap.DictOf (kind prog w) a kvs) (e' : s.heap.DictOf (kind prog w) a' kvs') (rk : RepKs w prog F s.heap kvs ds) (rk' : RepKs w prog F s.heap kvs' ds')
    (he' : eqK ds ds' = true) (hu : A.units + 10 < cLine) : EqIn prog w A s (.ref a) (.ref a') (eqv (.dct ds) (.dct ds')) := by
  have na : (a == sysModules) = false := beq_eq_false_iff_ne.mpr fun q => hF (q ▸ hS)
  have na' : (a' == sysModules) = false := beq_eq_false_iff_ne.mpr fun q => hF' (q ▸ hS)
  intro E Q hq
  unfold eqBool
  refine wpAny_holding ?_
  rw [eqv_dct] at hq
  by_cases haa : a = a'
  · subst haa
    have q : RepKs w prog F s.heap kvs ds' := DictOf_uniq e' e ▸ rk'
    have q := rk.uniq q
    subst q
    have hn : (ds.map (·.1)).Nodup := by
      obtain ⟨_, _, _, _, _, _, _, _, hn⟩ := e
      rw [← rk.keys]; exact hn
    rw [eqvk_refl ds (fun _ h => h) hn he', beq_self_eq_true] at hq
    rw [if_pos (by simp)]
    exact wpAny_bind (wpAny_rule (wpAny_pure hq))
  · rw [if_neg (by simpa using haa)]
    rw [← rk.length, ← rk'.length] at hq
    exact wpAny_bind (PySem.W.keq_eq na na' e e' (by (first | lia | omega)) (fun _ => hits_of rk' (by simp; (first | lia | omega)) rk he') (wpAny_truthy_bool hq))
theorem eqIn_C {s : Shared} {A : Around} (hS : F sysModules) {v v' : Value} {d d' : D} (r : Rep w prog F s.heap v d) (r' : Rep w prog F s.heap v' d') (he : eqC d d' = true) (hu : A.units + 10 < cLine) : EqIn prog w A s v v' (eqv d d') := by
  rcases eqC_cases he with e | ⟨x, y, rfl, rfl, e⟩
  · exact .of (eqAt_plain 4 A r r' e (by (first | lia | omega)))
  · obtain ⟨a, kvs, rfl, hF, ea, rk⟩ := r.view
    obtain ⟨a', kvs', rfl, hF', ea', rk'⟩ := r'.view
    exact eqIn_dct hS hF hF' ea ea' rk rk' e hu
inductive Ps (prog : Program) (w : World) (A : Around) (s : Shared) : List (Value × Value) → Bool → Prop
  | nil : Ps prog w A s [] true
  | cons {y x : Value} {e b : Bool} {r : List (Value × Value)} : EqIn prog w A s y x e → Ps prog w A s r b → Ps prog w A s ((y, x) :: r) (e && b)
theorem tuple_ne_in (l b : Addr) (xs ys : List Value) (n n2 : Nat) (dd dd2 : Option Addr) (sl sl2 : Array (Option Value)) (r : Bool) :
    MeetsIn prog w (Builtin.«tuple.__ne__» ⟨[.ref l, .ref b], []⟩)
      (fun A R s => s.heap.get? l = some { cls := .type "tuple", dict := dd, data := .seq xs.toArray n, slots := sl } ∧ s.heap.get? b = some { cls := .type "tuple", dict := dd2, data := .seq ys.toArray n2, slots := sl2 } ∧
        Ps prog w A.in1 s (xs.zip ys) r ∧ R (.ok (.ret (.bool (!(r && xs.length == ys.length))))) s) :=
  .of_wp fun A R s h => by
    obtain ⟨hp, g, d, tk, os⟩ := s; obtain ⟨hl, hb, he, h⟩ := h
    have f2 := AutoSeq1.sub_tuple_tuple
    wp_walk using wpAny_loadPart' hl, wpAny_loadPart' hb, wpAny_forIn_list _ (fun rest q s' => q.1 = none ∧ s' = ⟨hp, g, d, tk, os⟩ ∧ ∃ r', Ps prog w A.in1 ⟨hp, g, d, tk, os⟩ rest r' ∧
      R (.ok (.ret (.bool (!(r' && xs.length == ys.length))))) ⟨hp, g, d, tk, os⟩) _
    case turn =>
      rintro ⟨y, x⟩ rest q s' ⟨hq, rfl, r', hz, hR⟩
      cases hz with
      | @cons _ _ e r'' _ hy hr =>
        refine wpAny_bind (hy _ _ ?_)
        cases e with
        | true =>
          wp_walk
          exact ⟨rfl, rfl, r'', hr, by simpa using hR⟩
        | false =>
          wp_walk
          exact ⟨_, rfl, by simpa using hR⟩
    case fin =>
      rintro ⟨b1, b2⟩ s' ⟨hb', rfl, r', hz, hR⟩
      simp only at hb'
      subst hb'
      cases hz
      wp_walk
      exact ⟨_, rfl, by simpa [Builtin.Tuple.tupleCompareSizes, bne] using hR⟩
    case h =>
      exact ⟨rfl, rfl, r, by simpa using he, by simpa using h⟩
theorem ps_of {s : Shared} {A : Around} (hS : F sysModules) (hu : A.units + 10 < cLine) {vs : List Value} : ∀ {vs' : List Value} {ds ds' : List D}, Reps w prog F s.heap vs ds → Reps w prog F s.heap vs' ds' → all2 eqC ds ds' = true →
    ∃ r, Ps prog w A s (vs.zip vs') r ∧ (r && vs.length == vs'.length) = eqvs ds ds' := by
  induction vs with
  | nil =>
    intro vs' ds ds' r r' _
    rw [← r.nil_d]
    cases vs' with
    | nil => rw [← r'.nil_d]; exact ⟨true, .nil, rfl⟩
    | cons v' vs' => obtain ⟨d', ds', rfl, _⟩ := r'.cons_d; exact ⟨true, .nil, rfl⟩
  | cons v vs ih =>
    intro vs' ds ds' r r' h
    obtain ⟨d, ds, rfl, a, r⟩ := r.cons_d
    cases vs' with
    | nil => rw [← r'.nil_d]; exact ⟨true, .nil, rfl⟩
    | cons v' vs' =>
      obtain ⟨d', ds', rfl, a', r'⟩ := r'.cons_d
      obtain ⟨q, hq, e⟩ := ih r r' (all2_and h).2
      refine ⟨_, .cons (eqIn_C hS a a' (all2_and h).1 hu) hq, ?_⟩
      rw [eqvs_cons, ← e, Bool.and_assoc]
      congr 2
      exact Bool.eq_iff_iff.mpr (by rw [beq_iff_eq, beq_iff_eq, List.length_cons, List.length_cons, Nat.add_right_cancel_iff])
theorem ne_tup {s : Shared} {A : Around} {E : Value → Shared → Prop} {Q : Value → Shared → Prop} (hS : F sysModules) {v v' : Value} {ds ds' : List D} (r : Rep w prog F s.heap v (.tup ds)) (r' : Rep w prog F s.heap v' (.tup ds')) (he : all2 eqC ds ds' = true) (hu : A.units + 12 < cLine)
    (hq : Q (.bool (!eqv (.tup ds) (.tup ds'))) s) : wpAny (model prog w) A (compareOp .NotEq v v') Q E s := by
  obtain ⟨l, vs, rfl, hF, el, rs⟩ := r.view
  obtain ⟨l', vs', rfl, hF', el', rs'⟩ := r'.view
  obtain ⟨q, hp, e⟩ := ps_of (A := A.in1) hS (by simp; (first | lia | omega)) rs rs' he
  obtain ⟨⟨c, dd, da, sl⟩, el, hc, n, hd⟩ := el
  obtain ⟨⟨c', dd', da', sl'⟩, el', hc', n', hd'⟩ := el'
  simp only at hc hd hc' hd'
  subst hc hd hc' hd'
  rw [eqv_tup, ← e] at hq
  show wpAny _ _ (richCompare .NotEq _ _) _ _ _
  exact wpAny_richCompare_same_room (op := .NotEq) ⟨_, el, rfl⟩ ⟨_, el', rfl⟩ PySem.F.slot_tuple_ne
    (call_meetsIn PySem.F.slot_tuple_ne ⟨_, el, rfl⟩ PySem.F.entry_tuple_ne (PySem.F.args_tuple_ne_2 _ _) (tuple_ne_in l l' vs vs' n n' dd dd' sl sl' q)
      ⟨el, el', hp, show Value.bool _ ≠ Value.notImplemented ∧ Q (.bool _) s from ⟨(fun x => nomatch x), hq⟩⟩) (by (first | lia | omega))
end
end Mine
end
section
open PySem PySem.Calls PyProof.Rows
open PySem.SeqAt (EqAt RcAt RcNeAt)
namespace Mine
inductive Po (w : World) (prog : Program) (F : Addr → Prop) (s : Shared) (Q : D → Prop) (v : Value) (s' : Shared) : Prop
  | mk (d : D) (q : Q d) (ev : Evl s s') (r : Rep w prog F s'.heap v d) : Po w prog F s Q v s'
noncomputable abbrev PoB (s : Shared) (Q : Bool → Prop) : Bool → Shared → Prop := fun b s' => Q b ∧ Evl s s'
noncomputable abbrev PoV (s : Shared) (Q : Bool → Prop) : Value → Shared → Prop := fun v s' => ∃ b, v = .bool b ∧ Q b ∧ Evl s s'
noncomputable def Live (F : Addr → Prop) (s : Shared) : Prop := ∀ a, F a → ∃ o, s.heap.get? a = some o
section
variable {w : World} {prog : Program} {A : Around} {E : Value → Shared → Prop} {s : Shared} {F : Addr → Prop}
theorem Live.step {s' : Shared} (l : Live F s) (x : Evl s s') : Live F s' := fun a h => let ⟨o, e⟩ := l a h; ⟨o, x.heap a o id e⟩
theorem Live.new (l : Live F s) : ¬ F s.heap.objs.size := fun h => by
  obtain ⟨o, e⟩ := l _ h
  exact absurd (Heap.lt_size e) (Nat.lt_irrefl _)
theorem Evl.push (s : Shared) (o : Obj) : Evl s { s with heap := s.heap.push o } := Evl.of (tk := s.toks) (Ext.push _ _)
theorem LstAt.new (h : Heap) (vs : List Value) : LstAt (h.push { cls := .type "list", data := .seq vs.toArray }) h.objs.size vs := ⟨0, Heap.get?_push_size _ rfl⟩
theorem TupAt.new (h : Heap) (vs : List Value) : TupAt (h.push { cls := .type "tuple", data := .seq vs.toArray }) h.objs.size vs := ⟨0, Heap.get?_push_size _ rfl⟩
noncomputable def Bop.op : Bop → Operator
  | .add => .Add | .sub => .Sub | .mul => .Mult | .fdiv => .FloorDiv | .mod => .Mod | .pow => .Pow | .band => .BitAnd
theorem po_int {Q : D → Prop} {i : Int} {t : Tok} {s' : Shared} (h : Q (.int i)) (x : Evl s s') : Po w prog F s Q (.int i t) s' := ⟨_, h, x, .int _ _⟩
theorem po_lst {Q : D → Prop} {vs : List Value} {ds : List D} (l : Live F s) (r : Reps w prog F s.heap vs ds) (h : Q (.lst ds)) :
    Po w prog F s Q (.ref s.heap.objs.size) { s with heap := s.heap.push { cls := .type "list", data := .seq vs.toArray } } :=
  ⟨_, h, Evl.push _ _, .lst l.new (LstAt.new _ _).list (r.ext (Ext.push _ _))⟩
theorem smallI_bits {i : Int} (h : smallI i) : Builtin.Int.intBits i ≤ 64 := by
  unfold smallI at h
  unfold Builtin.Int.intBits
  by_cases h0 : i = 0
  · subst h0; decide
  · have hb : (i == 0) = false := by simpa using h0
    rw [hb]
    simp only [Bool.false_eq_true, if_false]
    have : i.natAbs.log2 < 64 := (Nat.log2_lt (by (first | lia | omega))).mpr h
    (first | lia | omega)
theorem foldl_append_flatten {α : Type} : ∀ (xs : List (List α)) (acc : Array α), List.foldl (fun x1 x2 => x1 ++ x2) acc (xs.map List.toArray) = acc ++ xs.flatten.toArray
  | [], acc => by simp
  | x :: xs, acc => by simp [foldl_append_flatten xs, Array.append_assoc]
theorem mul_list0 {l : Addr} {vs : List Value} {x : Int} {u : Tok} {Q : Value → Shared → Prop}
    (hl : s.heap.IsList l vs.toArray)
    (hlo : 0 ≤ x) (hhi : x < 2 ^ 63) (hsz : vs.length * x.toNat ≤ 2 ^ 24)
    (h : Q (.ref s.heap.objs.size) { s with heap := s.heap.push { cls := .type "list", data := .seq (List.replicate x.toNat vs).flatten.toArray } }) :
    wpAny (model prog w) A (binaryOp .Mult (.ref l) (.int x u)) Q E s := by
  obtain ⟨⟨cls, d, data, sl⟩, hl, hcl, k, hd⟩ := hl
  simp only at hcl hd
  subst hcl hd
  refine wpAny_binaryOp_repeat_ref (T := "list") (U := "int") (by decide) ⟨_, hl, rfl⟩ (fun s' => typeIs_int s' x u) noFill_list_mul PySem.F.fills_int_mul PySem.F.slot_int_rmul repeat_list PySem.F.slot_int_index.lookup
    (call_meets PySem.F.slot_int_rmul (typeIs_int s x u) PySem.F.entry_int_rmul (PySem.F.args_int_rmul_2 _ _) (lm_int_rmul_list_any x u l vs.toArray k d sl)
      ⟨hl, rfl, ⟨_, hl, rfl⟩, call_meets PySem.F.slot_list_mul ⟨_, hl, rfl⟩ PySem.F.entry_list_mul (PySem.F.args_list_mul_2 _ _)
        (lm_list_mul_any l vs.toArray k d sl x u (by simp [Builtin.List.listFitsIndex]; (first | lia | omega)) (by simp; (first | lia | omega)) (by simp [Builtin.List.listTooLong, sizeLine]; (first | lia | omega)))
        ⟨hl, ?_⟩⟩)
  have e : (List.foldl (fun x1 x2 => x1 ++ x2) #[] (List.replicate (if vs.toArray.isEmpty = true then 0 else x.toNat) vs.toArray)) = (List.replicate x.toNat vs).flatten.toArray := by
    by_cases hv : vs = []
    · subst hv; simp
    · have : vs.toArray.isEmpty = false := by cases vs <;> simp_all
      rw [this]
      simp only [Bool.false_eq_true, if_false]
      have := foldl_append_flatten (List.replicate x.toNat vs) #[]
      rw [List.map_replicate] at this
      simpa using this
  rw [e]
  exact h
theorem add_list0 {l b : Addr} {vs vs' : List Value} {Q : Value → Shared → Prop} (hl : s.heap.IsList l vs.toArray) (hb : s.heap.IsList b vs'.toArray) (hsz : vs.length + vs'.length ≤ sizeLine)
    (h : Q (.ref s.heap.objs.size) { s with heap := s.heap.push { cls := .type "list", data := .seq (vs ++ vs').toArray } }) : wpAny (model prog w) A (binaryOp .Add (.ref l) (.ref b)) Q E s := by
  obtain ⟨⟨cls, dd, data, sl⟩, ho, hc, n, hd⟩ := hl
  obtain ⟨⟨cls2, dd2, data2, sl2⟩, ho2, hc2, n2, hd2⟩ := hb
  simp only at hc hd hc2 hd2
  subst hc hd hc2 hd2
  have e : vs.toArray ++ vs'.toArray = (vs ++ vs').toArray := by simp
  refine concat_meets ⟨_, ho, rfl⟩ ⟨_, ho2, rfl⟩ noFill_list_add seq_list_add PySem.F.slot_list_add PySem.F.entry_list_add (PySem.F.args_list_add_2 _ _) (list_addW l b vs.toArray vs'.toArray n n2 dd dd2 sl sl2 (by simpa using hsz)) ⟨ho, ho2, ?_⟩
  rw [e]
  exact h
theorem Reps.repl {vs : List Value} {ds : List D} (r : Reps w prog F s.heap vs ds) (k : Nat) : Reps w prog F s.heap (List.replicate k vs).flatten (List.replicate k ds).flatten := by
  induction k with
  | zero => exact .nil
  | succ k ih => rw [List.replicate_succ, List.replicate_succ, List.flatten_cons, List.flatten_cons]; exact r.append ih
theorem onI2 {a b : Value} {da db : D} {k : Int → Int → Prop} (ra : Rep w prog F s.heap a da) (rb : Rep w prog F s.heap b db) (hq : onI da fun x => onI db fun y => k x y) : ∃ x t y u, a = .int x t ∧ b = .int y u ∧ k x y := by
  obtain ⟨x, rfl, h1⟩ := onI_inv hq
  obtain ⟨y, rfl, h2⟩ := onI_inv h1
  obtain ⟨t, rfl⟩ := ra.view
  obtain ⟨u, rfl⟩ := rb.view
  exact ⟨x, t, y, u, rfl, rfl, h2⟩
theorem bin_add {a b : Value} {da db : D} {Q : D → Prop} (l : Live F s) (ra : Rep w prog F s.heap a da) (rb : Rep w prog F s.heap b db) (hq : binW .add da db Q) :
    wpAny (model prog w) A (binaryOp .Add a b) (Po w prog F s Q) E s := by
  rcases onIL_inv hq with ⟨x, rfl, h1⟩ | ⟨xs, rfl, h1⟩
  · obtain ⟨x, t, y, u, rfl, rfl, hq⟩ := onI2 (k := fun x y => Q (.int (x + y))) ra rb h1
    exact PyProof.Rows.add_int (po_int hq Evl.toks)
  · obtain ⟨ys, rfl, h, hq⟩ := onL_inv h1
    obtain ⟨p, vs, rfl, _, e, r⟩ := ra.view
    obtain ⟨p', vs', rfl, _, e', r'⟩ := rb.view
    refine add_list0 e e' ?_ (po_lst l (r.append r') hq)
    unfold fits at h
    rw [sizeLine_eq, r.length, r'.length]; (first | lia | omega)
theorem bin_mul {a b : Value} {da db : D} {Q : D → Prop} (l : Live F s) (ra : Rep w prog F s.heap a da) (rb : Rep w prog F s.heap b db) (hq : binW .mul da db Q) :
    wpAny (model prog w) A (binaryOp .Mult a b) (Po w prog F s Q) E s := by
  rcases onIL_inv hq with ⟨x, rfl, h1⟩ | ⟨xs, rfl, h1⟩
  · obtain ⟨x, t, y, u, rfl, rfl, h, hq⟩ := onI2 (k := fun x y => (smallI x ∨ smallI y) ∧ Q (.int (x * y))) ra rb h1
    exact PyProof.Rows.mul_int (po_int hq Evl.toks) (h.elim (fun h => .of_left (smallI_bits h)) fun h => .of_right (smallI_bits h))
  · obtain ⟨y, rfl, ⟨h0, h1, h2⟩, hq⟩ := onI_inv h1
    obtain ⟨p, vs, rfl, _, e, r⟩ := ra.view
    obtain ⟨u, rfl⟩ := rb.view
    exact mul_list0 e h0 (by (first | lia | omega)) (by rw [r.length]; unfold fits at h2; (first | lia | omega)) (po_lst l (r.repl _) hq)
theorem bin_sound {op : Bop} {a b : Value} {da db : D} {Q : D → Prop} (l : Live F s) (ra : Rep w prog F s.heap a da) (rb : Rep w prog F s.heap b db) (hq : binW op da db Q) :
    wpAny (model prog w) A (binaryOp op.op a b) (Po w prog F s Q) E s := by
  cases op with
  | add => exact bin_add l ra rb hq
  | mul => exact bin_mul l ra rb hq
  | sub =>
    obtain ⟨x, t, y, u, rfl, rfl, hq⟩ := onI2 (k := fun x y => Q (.int (x - y))) ra rb hq
    exact PyProof.Rows.sub_int (po_int hq Evl.toks)
  | fdiv =>
    obtain ⟨x, t, y, u, rfl, rfl, hq⟩ := onI2 ra rb hq
    exact PyProof.Rows.floordiv_int hq.1.1 (po_int hq.2 Evl.toks) (.inl (PyProof.noPylong_small hq.1.2))
  | mod =>
    obtain ⟨x, t, y, u, rfl, rfl, hq⟩ := onI2 ra rb hq
    exact PyProof.Rows.mod_int hq.1 (po_int hq.2 Evl.toks)
  | pow =>
    obtain ⟨x, t, y, u, rfl, rfl, hq⟩ := onI2 ra rb hq
    exact PyProof.Rows.pow_int_small hq.1.1 hq.1.2.1 hq.1.2.2 (po_int hq.2 Evl.toks)
  | band =>
    obtain ⟨x, t, y, u, rfl, rfl, hq⟩ := onI2 ra rb hq
    exact PyProof.Rows.and_int (po_int hq Evl.toks)
theorem iop_sound {op : Bop} {a b : Value} {da db : D} {Q : D → Prop} (ra : Rep w prog F s.heap a da) (rb : Rep w prog F s.heap b db) (hq : iopW op da db Q) :
    wpAny (model prog w) A (inplaceOp op.op a b) (Po w prog F s Q) E s := by
  cases op with
  | add =>
    obtain ⟨x, t, y, u, rfl, rfl, hq⟩ := onI2 ra rb hq
    exact PyProof.Rows.iadd_int (po_int hq Evl.toks)
  | sub =>
    obtain ⟨x, t, y, u, rfl, rfl, hq⟩ := onI2 ra rb hq
    exact PyProof.Rows.isub_int (po_int hq Evl.toks)
  | fdiv =>
    obtain ⟨x, t, y, u, rfl, rfl, hq⟩ := onI2 ra rb hq
    exact PyProof.Rows.ifloordiv_int hq.1.1 (po_int hq.2 Evl.toks) (.inl (PyProof.noPylong_small hq.1.2))
  | mul => exact hq.elim
  | mod => exact hq.elim
  | pow => exact hq.elim
  | band => exact hq.elim
theorem truthW_inv {d : D} {Q : Bool → Prop} (hq : truthW d Q) : ∃ b, d = .bool b ∧ Q b := by
  cases d <;> first | exact ⟨_, rfl, hq⟩ | exact hq.elim
theorem truth_sound {v : Value} {d : D} {Q : Bool → Prop} (r : Rep w prog F s.heap v d) (hq : truthW d Q) : wpAny (model prog w) A (truthy v) (PoB s Q) E s := by
  obtain ⟨b, rfl, h1⟩ := truthW_inv hq
  rw [show v = .bool b from r.view]
  exact wpAny_truthy_bool ⟨h1, .refl _ _⟩
end
end Mine
end
section
open PySem PySem.Calls PyProof.Rows
open PySem.SeqAt (EqAt RcAt RcNeAt)
namespace Mine
section
variable {w : World} {prog : Program} {A : Around} {E : Value → Shared → Prop} {s : Shared} {F : Addr → Prop}
noncomputable def Cop.op : Cop → CmpOp
  | .eq => .Eq | .ne => .NotEq | .lt => .Lt | .le => .LtE | .gt => .Gt | .ge => .GtE | .isin => .In | .notin => .NotIn | .isnone => .Is
theorem pov {Q : Bool → Prop} {b : Bool} {s' : Shared} (h : Q b) (x : Evl s s') : PoV s Q (.bool b) s' := ⟨b, rfl, h, x⟩
theorem rcAt_scal {v v' : Value} {d d' : D} (r : Rep w prog F s.heap v d) (r' : Rep w prog F s.heap v' d') (hs : scal d = true) (hs' : scal d' = true) : RcAt A s v v' (eqv d d') :=
  scal_pairs (P := RcAt A s) RcAt.none_none RcAt.none_bool RcAt.none_int RcAt.none_str RcAt.bool_none RcAt.bool_bool RcAt.bool_int RcAt.bool_str RcAt.int_none RcAt.int_bool RcAt.int_int RcAt.int_str RcAt.str_none RcAt.str_bool RcAt.str_int RcAt.str_str r r' hs hs'
theorem rcNeAt_scal {v v' : Value} {d d' : D} (r : Rep w prog F s.heap v d) (r' : Rep w prog F s.heap v' d') (hs : scal d = true) (hs' : scal d' = true) : RcNeAt A s v v' (!eqv d d') :=
  scal_pairs (P := fun a b c => RcNeAt A s a b (!c)) RcNeAt.none_none RcNeAt.none_bool RcNeAt.none_int RcNeAt.none_str RcNeAt.bool_none RcNeAt.bool_bool RcNeAt.bool_int RcNeAt.bool_str RcNeAt.int_none RcNeAt.int_bool RcNeAt.int_int RcNeAt.int_str RcNeAt.str_none RcNeAt.str_bool RcNeAt.str_int RcNeAt.str_str r r' hs hs'
theorem rcAt_plain {n : Nat} {v v' : Value} {d d' : D} (r : Rep w prog F s.heap v d) (r' : Rep w prog F s.heap v' d') (h : eqP n d d' = true) (hu : A.units + n < cLine) : RcAt A s v v' (eqv d d') := by
  rcases eqP_cases h with ⟨h1, h2⟩ | ⟨m, a, b, rfl, ha, ⟨rfl, rfl⟩ | ⟨rfl, rfl⟩⟩
  · exact rcAt_scal r r' h1 h2
  · obtain ⟨l, vs, rfl, _, el, rs⟩ := r.view
    obtain ⟨l', vs', rfl, _, el', rs'⟩ := r'.view
    have hi := items_at (A := A.in1) (fun q q' e => eqAt_plain m A.in1 q q' e (by simp; (first | lia | omega))) rs rs' ha
    rw [eqv_lst]
    by_cases hsz : vs.length = vs'.length
    · rw [← eqvs_same (by rw [← rs.length, ← rs'.length]; exact hsz), ← rs.length]
      have := RcAt.lists el el' (by simpa using hsz) (by (first | lia | omega)) hi
      simpa using this
    · rw [eqvs_diff (by rw [← rs.length, ← rs'.length]; exact hsz)]
      exact RcAt.lists_lengths el el' (by simpa using hsz) (by (first | lia | omega))
  · obtain ⟨l, vs, rfl, _, el, rs⟩ := r.view
    obtain ⟨l', vs', rfl, _, el', rs'⟩ := r'.view
    have hi := items_at (A := A.in1) (fun q q' e => eqAt_plain m A.in1 q q' e (by simp; (first | lia | omega))) rs rs' ha
    rw [eqv_tup, ← eqvs_range, ← rs.length, ← rs'.length]
    have := RcAt.tuples el el' (by (first | lia | omega)) hi
    simpa using this
theorem rcNeAt_plain {n : Nat} {v v' : Value} {d d' : D} (r : Rep w prog F s.heap v d) (r' : Rep w prog F s.heap v' d') (h : eqP n d d' = true) (hu : A.units + n < cLine) : RcNeAt A s v v' (!eqv d d') := by
  rcases eqP_cases h with ⟨h1, h2⟩ | ⟨m, a, b, rfl, ha, ⟨rfl, rfl⟩ | ⟨rfl, rfl⟩⟩
  · exact rcNeAt_scal r r' h1 h2
  · obtain ⟨l, vs, rfl, _, el, rs⟩ := r.view
    obtain ⟨l', vs', rfl, _, el', rs'⟩ := r'.view
    have hi := items_at (A := A.in1) (fun q q' e => eqAt_plain m A.in1 q q' e (by simp; (first | lia | omega))) rs rs' ha
    rw [eqv_lst]
    by_cases hsz : vs.length = vs'.length
    · rw [← eqvs_same (by rw [← rs.length, ← rs'.length]; exact hsz), ← rs.length]
      have := RcNeAt.lists el el' (by simpa using hsz) (by (first | lia | omega)) hi
      simpa using this
    · rw [eqvs_diff (by rw [← rs.length, ← rs'.length]; exact hsz)]
      exact RcNeAt.lists_lengths el el' (by simpa using hsz) (by (first | lia | omega))
  · obtain ⟨l, vs, rfl, _, el, rs⟩ := r.view
    obtain ⟨l', vs', rfl, _, el', rs'⟩ := r'.view
    have hi := items_at (A := A.in1) (fun q q' e => eqAt_plain m A.in1 q q' e (by simp; (first | lia | omega))) rs rs' ha
    rw [eqv_tup, ← eqvs_range, ← rs.length, ← rs'.length]
    have := RcNeAt.tuples el el' (by (first | lia | omega)) hi
    simpa using this
theorem key_is {v : Value} {d : D} {k : K} (r : Rep w prog F s.heap v d) (hk : d.key? = some k) : (kind prog w).is k v = true := by
  cases d with
  | int i => obtain ⟨t, rfl⟩ := r.view; cases hk; exact beq_self_eq_true i
  | str x => obtain ⟨t, rfl⟩ := r.view; cases hk; exact beq_self_eq_true x
  | _ => exact nomatch hk
theorem look_isSome {h : Heap} {kvs : List (K × Value)} {ds : List (K × D)} (r : RepKs w prog F h kvs ds) (k : K) : (valueAt kvs k).isSome = (klook k ds).isSome := by
  rcases r.find k with ⟨h1, h2⟩ | ⟨d, v, h1, h2, _⟩ <;> rw [h1, h2] <;> rfl
noncomputable def eqTo (w : World) (prog : Program) (F : Addr → Prop) (h : Heap) (dx : D) (y : Value) : Bool :=
  @decide (∃ d, Rep w prog F h y d ∧ eqv d dx = true) (Classical.propDecidable _)
theorem eqTo_is {h : Heap} {dx d : D} {y : Value} (r : Rep w prog F h y d) : eqTo w prog F h dx y = eqv d dx := by
  unfold eqTo
  cases e : eqv d dx with
  | true => exact @decide_eq_true _ (Classical.propDecidable _) ⟨d, r, e⟩
  | false => exact @decide_eq_false _ (Classical.propDecidable _) fun ⟨d', r', e'⟩ => by rw [r.uniq r', e'] at e; cases e
theorem any_eqTo {h : Heap} {dx : D} {vs : List Value} : ∀ {ds : List D}, Reps w prog F h vs ds → vs.any (eqTo w prog F h dx) = ds.any fun y => eqv y dx := by
  induction vs with
  | nil => intro ds r; rw [← r.nil_d]; rfl
  | cons v vs ih => intro ds r; obtain ⟨d, ds, rfl, a, r⟩ := r.cons_d; rw [List.any_cons, List.any_cons, eqTo_is a, ih r]
theorem mem_rep {h : Heap} {vs : List Value} {ds : List D} (r : Reps w prog F h vs ds) {y : Value} (hy : y ∈ vs) : ∃ d ∈ ds, Rep w prog F h y d := by
  obtain ⟨i, hi⟩ := List.getElem?_of_mem hy
  obtain ⟨d, hd, q⟩ := r.get' hi
  exact ⟨d, List.mem_of_getElem? hd, q⟩
theorem eqOk_cases {a b : D} (h : eqOk a b = true) : eqP 4 a b = true ∨ ∃ x y, a = .tup x ∧ b = .tup y ∧ all2 eqC x y = true := by
  cases a with
  | tup x => cases b <;> first | exact absurd (h : false = true) Bool.false_ne_true | exact .inr ⟨x, _, rfl, rfl, h⟩
  | _ => exact .inl h
theorem is_none_sound {a : Value} {da : D} {Q : Bool → Prop} (ra : Rep w prog F s.heap a da) (hq : Q (isNoneD da)) : wpAny (model prog w) A (compareOp .Is a .none) (PoV s Q) E s := by
  refine PySem.is_none (pov ?_ (.refl _ _))
  cases ra <;> exact hq
theorem in_items (hu : A.units + 20 < cLine) {a : Value} {da : D} (ra : Rep w prog F s.heap a da) {vs : List Value} {ds : List D} (r : Reps w prog F s.heap vs ds) (he : (ds.all fun y => eqP 4 y da) = true) : ∀ y ∈ vs.toArray, EqAt A.in1 s y a (eqTo w prog F s.heap da y) := by
  intro y hy
  obtain ⟨d, hd, q⟩ := mem_rep r (List.mem_toArray.mp hy)
  rw [eqTo_is q]
  exact eqAt_plain 4 A.in1 q ra (List.all_eq_true.mp he d hd) (by simp; (first | lia | omega))
theorem in_sound {a b : Value} {da db : D} {Q : Bool → Prop} (hS : F sysModules) (hu : A.units + 20 < cLine) (ra : Rep w prog F s.heap a da) (rb : Rep w prog F s.heap b db) (hq : inW da db Q) : wpAny (model prog w) A (compareOp .In a b) (PoV s Q) E s := by
  rcases inW_inv hq with ⟨ys, rfl | rfl, h1, h2⟩ | ⟨kvs, k, rfl, h1, h2⟩
  · obtain ⟨l, vs, rfl, _, e, r⟩ := rb.view
    refine SeqAt.in_listAt (eqTo w prog F s.heap da) e (in_items hu ra r h1) (pov ?_ (.refl _ _))
    rw [List.any_toArray, any_eqTo r]; exact h2
  · obtain ⟨l, vs, rfl, _, e, r⟩ := rb.view
    refine SeqAt.in_tupleAt (eqTo w prog F s.heap da) e (in_items hu ra r h1) (pov ?_ (.refl _ _))
    rw [List.any_toArray, any_eqTo r]; exact h2
  · obtain ⟨l, vs, rfl, hF, e, r⟩ := rb.view
    exact wpAny_in_of (key_is ra h1) (beq_eq_false_iff_ne.mpr fun q => hF (q ▸ hS)) e.mapOf (pov (by rw [look_isSome r]; exact h2) Evl.toks)
theorem notin_sound {a b : Value} {da db : D} {Q : Bool → Prop} (hS : F sysModules) (hu : A.units + 20 < cLine) (ra : Rep w prog F s.heap a da) (rb : Rep w prog F s.heap b db) (hq : inW da db fun c => Q (!c)) : wpAny (model prog w) A (compareOp .NotIn a b) (PoV s Q) E s := by
  rcases inW_inv hq with ⟨ys, rfl | rfl, h1, h2⟩ | ⟨kvs, k, rfl, h1, h2⟩
  · obtain ⟨l, vs, rfl, _, e, r⟩ := rb.view
    refine SeqAt.notIn_listAt (eqTo w prog F s.heap da) e (in_items hu ra r h1) (pov ?_ (.refl _ _))
    rw [List.any_toArray, any_eqTo r]; exact h2
  · obtain ⟨l, vs, rfl, _, e, r⟩ := rb.view
    refine SeqAt.notIn_tupleAt (eqTo w prog F s.heap da) e (in_items hu ra r h1) (pov ?_ (.refl _ _))
    rw [List.any_toArray, any_eqTo r]; exact h2
  · obtain ⟨l, vs, rfl, hF, e, r⟩ := rb.view
    exact wpAny_notIn_of (key_is ra h1) (beq_eq_false_iff_ne.mpr fun q => hF (q ▸ hS)) e.mapOf (pov (by rw [look_isSome r]; exact h2) Evl.toks)
theorem cmp_sound {op : Cop} {a b : Value} {da db : D} {Q : Bool → Prop} (hS : F sysModules) (hu : A.units + 20 < cLine) (ra : Rep w prog F s.heap a da) (rb : Rep w prog F s.heap b db) (hi : op = .isnone → b = .none) (hq : cmpW op da db Q) :
    wpAny (model prog w) A (compareOp op.op a b) (PoV s Q) E s := by
  cases op with
  | eq => exact rcAt_plain ra rb hq.1 (by (first | lia | omega)) prog w E _ (pov hq.2 (.refl _ _))
  | ne =>
    rcases eqOk_cases hq.1 with h | ⟨x, y, rfl, rfl, h⟩
    · exact rcNeAt_plain ra rb h (by (first | lia | omega)) prog w E _ (pov hq.2 (.refl _ _))
    · exact ne_tup hS ra rb h (by (first | lia | omega)) (pov hq.2 (.refl _ _))
  | lt =>
    obtain ⟨x, t, y, u, rfl, rfl, h⟩ := onI2 (k := fun x y => Q (decide (x < y))) ra rb hq
    exact PyProof.Rows.lt_int (pov h (.refl _ _))
  | le =>
    obtain ⟨x, t, y, u, rfl, rfl, h⟩ := onI2 (k := fun x y => Q (decide (x ≤ y))) ra rb hq
    exact PyProof.Rows.le_int (pov h (.refl _ _))
  | gt =>
    obtain ⟨x, t, y, u, rfl, rfl, h⟩ := onI2 (k := fun x y => Q (decide (x > y))) ra rb hq
    exact PyProof.Rows.gt_int (pov h (.refl _ _))
  | ge =>
    obtain ⟨x, t, y, u, rfl, rfl, h⟩ := onI2 (k := fun x y => Q (decide (x ≥ y))) ra rb hq
    exact PyProof.Rows.ge_int (pov h (.refl _ _))
  | isnone => rw [hi rfl]; exact is_none_sound ra hq
  | isin => exact in_sound hS hu ra rb hq
  | notin => exact notin_sound hS hu ra rb hq
theorem idx_inv {n : Nat} {i : Int} {j : Nat} (h : idx n i = some j) : i.natAbs < 1152921504606846976 ∧ ((0 ≤ i ∧ i.toNat < n ∧ j = i.toNat) ∨ (i < 0 ∧ (-i).toNat ≤ n ∧ j = n - (-i).toNat)) := by
  unfold idx at h
  by_cases hs : i.natAbs < 1152921504606846976
  · rw [if_pos hs] at h
    refine ⟨hs, ?_⟩
    by_cases h0 : 0 ≤ i
    · rw [if_pos h0] at h
      by_cases h1 : i.toNat < n
      · rw [if_pos h1] at h; exact .inl ⟨h0, h1, (Option.some.inj h).symm⟩
      · rw [if_neg h1] at h; exact nomatch h
    · rw [if_neg h0] at h
      by_cases h1 : (-i).toNat ≤ n
      · rw [if_pos h1] at h; exact .inr ⟨Int.not_le.mp h0, h1, (Option.some.inj h).symm⟩
      · rw [if_neg h1] at h; exact nomatch h
  · rw [if_neg hs] at h; exact nomatch h
theorem neg_arith {n : Nat} {i : Int} (h0 : i < 0) (h1 : (-i).toNat ≤ n) : 0 ≤ i + n ∧ i + n < n ∧ (i + (n : Int)).toNat = n - (-i).toNat := by (first | lia | omega)
theorem idx_seqIndex {n : Nat} {i : Int} {j : Nat} (h : idx n i = some j) : seqIndex? i n = some j ∧ i.natAbs < 1152921504606846976 := by
  obtain ⟨hs, ⟨h0, h1, rfl⟩ | ⟨h0, h1, rfl⟩⟩ := idx_inv h
  · exact ⟨seqIndex_of h0 (by (first | lia | omega)), hs⟩
  · have q := neg_arith h0 h1
    rw [PySem.seqIndex_neg (k := i) (n := n) (by (first | lia | omega)) (by (first | lia | omega)), q.2.2]; exact ⟨rfl, hs⟩
theorem item_list {l : Addr} {vs : List Value} {i : Int} {u : Tok} {j : Nat} {x : Value} {Q : Value → Shared → Prop} (hl : s.heap.IsList l vs.toArray) (h : idx vs.length i = some j) (hx : vs[j]? = some x) (hq : Q x s) :
    wpAny (model prog w) A (getItem (.ref l) (.int i u)) Q E s := by
  obtain ⟨hs, ⟨h0, h1, rfl⟩ | ⟨h0, h1, rfl⟩⟩ := idx_inv h
  · exact wpAny_getItem_list hl h0 (by (first | lia | omega)) (by simpa using hx) hq
  · have q := neg_arith h0 h1
    refine wpAny_getItem_list_neg hl h0 (by rw [List.size_toArray]; (first | lia | omega)) (by (first | lia | omega)) ?_ hq
    rw [List.size_toArray, q.2.2]
    simpa using hx
theorem sub_sound {a b : Value} {da db : D} {Q : D → Prop} (ra : Rep w prog F s.heap a da) (rb : Rep w prog F s.heap b db) (hq : subW da db Q) :
    wpAny (model prog w) A (getItem a b) (Po w prog F s Q) E s := by
  rcases subW_inv hq with ⟨xs, i, hx, rfl, d, hd, h⟩ | ⟨kvs, rfl, k, d, hk, hl, h⟩
  · obtain ⟨j, hj, hd⟩ := Option.bind_eq_some_iff.mp hd
    obtain ⟨u, rfl⟩ := rb.view
    rcases hx with rfl | rfl
    · obtain ⟨l, vs, rfl, _, e, r⟩ := ra.view
      rw [← r.length] at hj
      obtain ⟨v, hv, q⟩ := r.get hd
      exact item_list e hj hv ⟨d, h, .refl _ _, q⟩
    · obtain ⟨l, vs, rfl, _, e, r⟩ := ra.view
      rw [← r.length] at hj
      obtain ⟨v, hv, q⟩ := r.get hd
      have := idx_seqIndex hj
      exact PyProof.Rows.getItem_tuple e (by (first | lia | omega)) (by (first | lia | omega)) (by simpa using this.1) (by simpa using hv) ⟨d, h, .refl _ _, q⟩
  · obtain ⟨l, vs, rfl, _, e, r⟩ := ra.view
    rcases r.find k with ⟨h1, _⟩ | ⟨d', v, h1, h2, q⟩
    · rw [h1] at hl; exact nomatch hl
    · rw [h1] at hl; exact wpAny_getItem_of (key_is rb hk) e.mapOf h2 ⟨d, h, Evl.toks, Option.some.inj hl ▸ q⟩
theorem fits_line {vs : List Value} {ds : List D} (r : Reps w prog F s.heap vs ds) (h : fits ds.length) : vs.toArray.size ≤ sizeLine := by
  unfold fits at h
  rw [sizeLine_eq, List.size_toArray, r.length]; (first | lia | omega)
theorem cut_take {α : Type} (vs : List α) (k m : Nat) : List.take (min m vs.length - min k vs.length) (List.drop (min k vs.length) vs) = (vs.take m).drop k := by
  apply List.ext_getElem?
  intro i
  simp only [List.getElem?_take, List.getElem?_drop]
  by_cases h1 : i < min m vs.length - min k vs.length
  · rw [if_pos h1, if_pos (by (first | lia | omega))]
    congr 1; (first | lia | omega)
  · rw [if_neg h1]
    by_cases h2 : k + i < m
    · rw [if_pos h2, List.getElem?_eq_none (by (first | lia | omega))]
    · rw [if_neg h2]
theorem slice_sound {a lo hi : Value} {sl : Addr} {da dl dh : D} {Q : D → Prop} (l : Live F s) (ra : Rep w prog F s.heap a da) (rl : Rep w prog F s.heap lo dl) (rh : Rep w prog F s.heap hi dh) (hs : s.heap.IsSliceOf sl lo hi .none) (hq : sliceW da dl dh Q) :
    wpAny (model prog w) A (getItem a (.ref sl)) (Po w prog F s Q) E s := by
  obtain ⟨xs, rfl, h4⟩ := onL_inv hq
  obtain ⟨p, vs, rfl, _, e, r⟩ := ra.view
  rcases cutW_inv h4 with ⟨rfl, h1⟩ | ⟨i, rfl, h1⟩
  · rw [show lo = .none from rl.view] at hs
    rcases cutW_inv h1 with ⟨rfl, h2⟩ | ⟨j, rfl, ⟨h, h0⟩, h2⟩
    · exact h2.elim
    · obtain ⟨u, rfl⟩ := rh.view
      obtain ⟨k, rfl⟩ := Int.eq_ofNat_of_zero_le h0
      refine wpAny_getItem_list_slice e hs IsPart.none (IsPart.int _ _) IsPart.none (by simp) ?_ (hsz := fits_line r h)
      rw [slicePick_upto' vs.toArray k]
      exact po_lst l (r.take k) h2
  · obtain ⟨t, rfl⟩ := rl.view
    rcases cutW_inv h1 with ⟨rfl, ⟨h, h0⟩, h2⟩ | ⟨j, rfl, ⟨h, h0, h3⟩, h2⟩
    · rw [show hi = .none from rh.view] at hs
      obtain ⟨k, rfl⟩ := Int.eq_ofNat_of_zero_le h0
      refine wpAny_getItem_list_slice e hs (IsPart.int _ _) IsPart.none IsPart.none (by simp) ?_ (hsz := fits_line r h)
      rw [slicePick_from' vs.toArray k]
      exact po_lst l (r.drop k) h2
    · obtain ⟨u, rfl⟩ := rh.view
      obtain ⟨k, rfl⟩ := Int.eq_ofNat_of_zero_le h0
      obtain ⟨m, rfl⟩ := Int.eq_ofNat_of_zero_le h3
      refine wpAny_getItem_list_slice e hs (IsPart.int _ _) (IsPart.int _ _) IsPart.none (by simp) ?_ (hsz := fits_line r h)
      rw [slicePick_plain]
      simp only [Option.elim, clipAt_nat, List.size_toArray]
      rw [cut_take]
      exact po_lst l ((r.take m).drop k) h2
end
end Mine
end
section
open PySem PySem.Calls PyProof.Rows
namespace Mine
structure Itr (prog : Program) (w : World) (A : Around) (it : Value) (tp sf : Bool) (h₀ : Heap) (F X : Addr → Prop) (P : List D → Heap → Prop) : Prop where
  fresh : ∀ a, X a → h₀.get? a = none
  live : ∀ ds h, P ds h → ∀ a, X a → ∃ o, h.get? a = some o
  frame : ∀ ds h h', P ds h → (∀ a o, (X a ∨ (¬ F a ∧ ∃ o', h₀.get? a = some o')) → h.get? a = some o → h'.get? a = some o) → P ds h'
  next : ∀ (target : Expr) (d : D) (ds : List D) (s : Shared) (E E' : Value → Shared → Prop) (Q : Value → Shared → Prop), (tp = true → ∃ es k p, target = .Tuple es k p) → P (d :: ds) s.heap →
    (∀ v s', P ds s'.heap → Aft X s s' → Rep w prog (fun a => F a ∨ X a ∨ (h₀.get? a = none ∧ ∃ o, s.heap.get? a = some o)) s'.heap v d → Q v s') →
    wpAny (model prog w) A (pyNext it) (fun r s₁ => ∃ v, r = some v ∧ wpAny (model prog w) A (letOwnedTupleGo target it v) (fun _ s' => Q v s') E s₁) E' s
  done : ∀ (s : Shared) (E : Value → Shared → Prop) (Q : Option Value → Shared → Prop), P [] s.heap → (∀ s', Aft X s s' → Q none s') → wpAny (model prog w) A (pyNext it) Q E s
  self : sf = true → ∀ (ds : List D) (s : Shared) (E : Value → Shared → Prop) (Q : Value → Shared → Prop), P ds s.heap → Q it s → wpAny (model prog w) A (pyIter it) Q E s
noncomputable def owners : List String := ["enumerate", "zip", "dict_itemiterator", "dict_reverseitemiterator", "odict_iterator", "itertools.zip_longest", "itertools.pairwise"]
section
variable {prog : Program} {w : World} {A : Around} {E : Value → Shared → Prop} {s : Shared} {F : Addr → Prop}
theorem letOwned_other {target : Expr} {r : Addr} {o : Obj} {n : String} {v : Value} {Q : Unit → Shared → Prop} (ho : s.heap.get? r = some o) (hc : o.cls = .type n) (hn : owners.contains n = false) (h : Q () s) :
    wpAny (model prog w) A (letOwnedTupleGo target (.ref r) v) Q E s := by
  have main : wpAny (model prog w) A (do
      let (.ref r, .ref a) := (Value.ref r, v) | return
      let o ← load r
      match o.cls, o.data with
      | .type n, .fields vs =>
        if ["enumerate", "zip", "dict_itemiterator", "dict_reverseitemiterator", "odict_iterator", "itertools.zip_longest", "itertools.pairwise"].contains n && vs[0]? == some (rawInt a) then
          rule "for.unpacks-the-owned-tuple"
          updateField r 0 .none
      | _, _ => pure () : Sem Unit) Q E s := by
    cases v with
    | ref a =>
      refine wpAny_bind (wpAny_load ho ?_)
      rw [hc]
      split
      · rename_i n' vs e _
        cases e
        rw [show (["enumerate", "zip", "dict_itemiterator", "dict_reverseitemiterator", "odict_iterator", "itertools.zip_longest", "itertools.pairwise"].contains n) = false from hn]
        exact wpAny_pure h
      · exact wpAny_pure h
    | _ => exact wpAny_pure h
  cases target <;> first | exact wpAny_pure h | exact main
theorem Rep.fresh {h₀ h' : Heap} {X : Addr → Prop} {v : Value} {d : D} {h : Heap} (r : Rep w prog F h₀ v d) (hX : ∀ a, X a → h₀.get? a = Option.none) (k : ∀ a o, ¬ F a → h₀.get? a = some o → h'.get? a = some o) :
    Rep w prog (fun a => F a ∨ X a ∨ (h₀.get? a = Option.none ∧ ∃ o, h.get? a = some o)) h' v d :=
  r.go fun a o hF e => ⟨fun q => q.elim hF fun q => q.elim (fun q => by rw [hX a q] at e; cases e) (fun q => by rw [q.1] at e; cases e), k a o hF e⟩
theorem Itr.walks {I : Addr} {fp wr : List Addr} {n : Nat} {Pv : Nat → Value → Prop} {St : Nat → Heap → Prop} {h₀ : Heap} {ds : List D} {sf : Bool} (W : Walks prog w A I fp wr n Pv St) (hn : ds.length = n)
    (hP : ∀ i v, Pv i v → ∃ d, ds[i]? = some d ∧ Rep w prog F h₀ v d) (hfp : ∀ b ∈ fp, b ∈ wr ∨ (¬ F b ∧ ∃ o, h₀.get? b = some o)) (hwr : ∀ b ∈ wr, h₀.get? b = none)
    (hlive : ∀ i h, St i h → ∀ b ∈ wr, ∃ o, h.get? b = some o) (hcls : ∀ i h, St i h → ∃ o m, h.get? I = some o ∧ o.cls = .type m ∧ owners.contains m = false) :
    Itr prog w A (.ref I) false sf h₀ F (· ∈ wr) (fun xs h => ∃ i, xs = ds.drop i ∧ i ≤ n ∧ St i h ∧ ∀ a o, ¬ F a → h₀.get? a = some o → h.get? a = some o) where
  fresh := hwr
  live := fun xs h ⟨i, _, _, st, _⟩ a ha => hlive i h st a ha
  frame := fun xs h h' ⟨i, e1, e2, st, k⟩ hk => ⟨i, e1, e2, W.frame i h h' st fun b hb o e => hk b o (hfp b hb) e, fun a o hF e => hk a o (.inr ⟨hF, o, e⟩) (k a o hF e)⟩
  next := fun target d xs s E E' Q _ ⟨i, e1, e2, st, k⟩ hQ => by
    have hi : i < n := by
      apply Decidable.byContradiction; intro hc
      rw [List.drop_of_length_le (by (first | lia | omega))] at e1; cases e1
    refine W.item i s _ _ hi st fun v h' tk hv st' hk => ⟨v, rfl, ?_⟩
    refine cps fun gZ hZ => ?_
    obtain ⟨o, m, ho, hc, hm⟩ := hcls _ _ st'
    refine hZ ?_
    clear hZ gZ
    refine letOwned_other ho hc hm (hQ _ _ ?_ (Aft.of hk) ?_)
    · refine ⟨i + 1, ?_, hi, st', fun a o hF e => hk a o (fun q => ?_) (k a o hF e)⟩
      · rw [← List.tail_drop, ← e1]; rfl
      · rw [hwr a q] at e; cases e
    · refine cps fun gZ hZ => ?_
      obtain ⟨d', hd', r⟩ := hP i v hv
      refine hZ ?_
      clear hZ gZ
      have : d' = d := by
        have : (ds.drop i)[0]? = some d := by rw [← e1]; rfl
        rw [List.getElem?_drop] at this
        rw [Nat.add_zero, hd'] at this; cases this; rfl
      subst this
      exact r.fresh hwr fun a o hF e => hk a o (fun q => by rw [hwr a q] at e; cases e) (k a o hF e)
  done := fun s E Q ⟨i, e1, e2, st, k⟩ hQ => by
    have : n ≤ i := by
      have := congrArg List.length e1
      rw [List.length_drop] at this; simp at this; (first | lia | omega)
    have hi : i = n := by (first | lia | omega)
    subst hi
    exact W.done s Q E st fun h' tk hk => hQ _ (Aft.of hk)
  self := fun _ xs s E Q ⟨i, _, _, st, _⟩ h => W.self i s Q E st h
noncomputable def Made (prog : Program) (w : World) (A : Around) (F : Addr → Prop) (tp sf : Bool) (ds : List D) (h₀ : Heap) (it : Value) (s' : Shared) : Prop :=
  Ext h₀ s'.heap ∧ ∃ X P, Itr prog w A it tp sf h₀ F X P ∧ P ds s'.heap
theorem fresh_size {h : Heap} : h.get? h.objs.size = none := by
  cases e : h.get? h.objs.size with
  | none => rfl
  | some o => exact absurd (Heap.lt_size e) (Nat.lt_irrefl _)
theorem made_list (hh : A.handled = none) {l : Addr} {vs : List Value} {ds : List D} {Q : Value → Shared → Prop} (hF : ¬ F l) (hl : s.heap.IsList l vs.toArray) (r : Reps w prog F s.heap vs ds)
    (h : ∀ it s', Evl s s' → Made prog w A F false true ds s.heap it s' → Q it s') : wpAny (model prog w) A (pyIter (.ref l)) Q E s := by
  refine wpAny_pyIter_list hl (h _ _ (Evl.push _ _) ⟨Ext.push _ _, _, _, Itr.walks (ds := ds) (Walks.list hh s.heap.objs.size l ?_ vs.toArray) (by simp [r.length]) (fun i v hv => ?_) ?_ ?_ ?_ ?_, 0, ?_, Nat.zero_le _, ⟨?_, ?_⟩, ?_⟩)
  · obtain ⟨o, e, _⟩ := hl; exact Nat.ne_of_lt (Heap.lt_size e)
  · exact r.get' (by simpa using hv)
  · intro b hb
    simp at hb
    rcases hb with rfl | rfl
    · exact .inl (by simp)
    · obtain ⟨o, e, _⟩ := hl; exact .inr ⟨hF, o, e⟩
  · intro b hb; simp at hb; subst hb; exact fresh_size
  · intro i h st b hb; simp at hb; subst hb
    obtain ⟨⟨o, e, _⟩, _⟩ := st; exact ⟨o, e⟩
  · intro i h st
    refine cps fun gZ hZ => ?_
    obtain ⟨⟨o, e, hc, _⟩, _⟩ := st
    refine hZ ?_
    clear hZ gZ
    exact ⟨o, "list_iterator", e, hc, by decide⟩
  · rfl
  · exact ⟨_, Heap.get?_push_size _ rfl, rfl, rfl⟩
  · obtain ⟨o, e, x⟩ := hl; exact ⟨o, Heap.get?_push_of_some _ e, x⟩
  · exact fun a o _ e => Heap.get?_push_of_some _ e
theorem rangeL_length (c : Int) : ∀ (n : Nat) (a : Int), (rangeL a c n).length = n
  | 0, _ => rfl
  | n + 1, a => by rw [rangeL, List.length_cons, rangeL_length c n]
theorem rangeL_get (c : Int) : ∀ (n : Nat) (a : Int) (i : Nat), i < n → (rangeL a c n)[i]? = some (.int (a + i * c))
  | 0, _, _, h => absurd h (Nat.not_lt_zero _)
  | n + 1, a, 0, _ => by simp [rangeL]
  | n + 1, a, i + 1, h => by
    rw [rangeL, List.getElem?_cons_succ, rangeL_get c n (a + c) i (by (first | lia | omega))]
    congr 2
    rw [show ((i + 1 : Nat) : Int) = (i : Int) + 1 by (first | lia | omega), Int.add_mul]; (first | lia | omega)
theorem made_range (hh : A.handled = none) {r : Addr} {a b c : Int} {t u v : Tok} {n : Nat} {Q : Value → Shared → Prop} (hr : IsRange s.heap r a b c t u v) (hs : Builtin.Range.small a b c = true) (hn : Builtin.Range.rangeSize a b c = (n : Int))
    (h : ∀ it s', Evl s s' → Made prog w A F false true (rangeL a c n) s.heap it s' → Q it s') : wpAny (model prog w) A (pyIter (.ref r)) Q E s := by
  refine wpAny_pyIter_range hr hs (h _ _ (Evl.push _ _) ⟨Ext.push _ _, _, _, Itr.walks (ds := rangeL a c n) ((Walks.range hh s.heap.objs.size a c n).bound) (rangeL_length _ _ _) (fun i v hv => ?_) ?_ ?_ ?_ ?_, 0, ?_, Nat.zero_le _, ?_, ?_⟩)
  · refine cps fun gZ hZ => ?_
    obtain ⟨hi, t, rfl⟩ := hv
    refine hZ ?_
    clear hZ gZ
    exact ⟨_, rangeL_get c n a i hi, .int _ _⟩
  · intro b hb; exact .inl hb
  · intro b hb; simp at hb; subst hb; exact fresh_size
  · intro i h st b hb; simp at hb; subst hb; exact ⟨_, st⟩
  · intro i h st; exact ⟨_, "range_iterator", st, rfl, by decide⟩
  · rfl
  · rw [hn]; simpa using (Heap.get?_push_size _ rfl)
  · exact fun a o _ e => Heap.get?_push_of_some _ e
end
end Mine
end
section
open PySem PySem.Calls PyProof.Rows
namespace Mine
section
variable {prog : Program} {w : World} {A : Around} {E : Value → Shared → Prop} {s : Shared} {F : Addr → Prop}
theorem repKs_get {h : Heap} {kvs : List (K × Value)} {ds : List (K × D)} (r : RepKs w prog F h kvs ds) {i : Nat} {k : K} {v : Value} (hx : kvs[i]? = some (k, v)) : ∃ d, ds[i]? = some (k, d) ∧ Rep w prog F h v d := by
  induction ds generalizing kvs i with
  | nil => cases r; simp at hx
  | cons p ds ih =>
    cases r with
    | cons q r =>
      cases i with
      | zero => simp at hx; obtain ⟨rfl, rfl⟩ := hx; exact ⟨_, rfl, q⟩
      | succ i => simp at hx; obtain ⟨d, e1, e2⟩ := ih r hx; exact ⟨d, by simpa using e1, e2⟩
theorem made_keys (hS : F sysModules) (hh : A.handled = none) {a : Addr} {kvs : List (K × Value)} {ds : List (K × D)} {Q : Value → Shared → Prop} (hF : ¬ F a) (hd : s.heap.DictOf (kind prog w) a kvs) (r : RepKs w prog F s.heap kvs ds)
    (h : ∀ it s', Evl s s' → Made prog w A F false true (ds.map fun p => p.1.d) s.heap it s' → Q it s') : wpAny (model prog w) A (pyIter (.ref a)) Q E s := by
  have ha : (a == sysModules) = false := by rw [beq_eq_false_iff_ne]; intro q; exact hF (q ▸ hS)
  obtain ⟨ep, hm⟩ := hd.dictAt
  refine wpAny_pyIter_dict ha hm (h _ _ (Evl.push _ _) ⟨Ext.push _ _, _, _, Itr.walks (ds := ds.map fun p => p.1.d) (Walks.dictKeys (knd := kind prog w) hh s.heap.objs.size a ?_ kvs ep) (by simp [r.length]) (fun i v hv => ?_) ?_ ?_ ?_ ?_, 0, ?_, Nat.zero_le _, ⟨?_, ?_⟩, ?_⟩)
  · exact Nat.ne_of_lt hm.lt_size
  · refine cps fun gZ hZ => ?_
    obtain ⟨k, x, hx, hk⟩ := hv
    refine hZ ?_
    clear hZ gZ
    have e : (kvs.map (·.1))[i]? = some k := by rw [List.getElem?_map, hx]; rfl
    rw [r.keys, List.getElem?_map] at e
    refine cps fun gZ hZ => ?_
    obtain ⟨p, hp, e⟩ := Option.map_eq_some_iff.mp e
    refine hZ ?_
    clear hZ gZ
    refine ⟨k.d, by rw [List.getElem?_map, hp]; simp [e], ?_⟩
    cases k with
    | int j => obtain ⟨t, rfl⟩ := K.is_int hk; exact .int _ _
    | str j => obtain ⟨t, rfl⟩ := K.is_str hk; exact .str _ _
  · intro b hb
    simp at hb
    rcases hb with rfl | rfl
    · exact .inl (by simp)
    · obtain ⟨o, es, e, _⟩ := hm; exact .inr ⟨hF, o, e⟩
  · intro b hb; simp at hb; subst hb; exact fresh_size
  · intro i h st b hb; simp at hb; subst hb
    obtain ⟨⟨o, e, _⟩, _⟩ := st; exact ⟨o, e⟩
  · intro i h st
    refine cps fun gZ hZ => ?_
    obtain ⟨⟨o, e, hc, _⟩, _⟩ := st
    refine hZ ?_
    clear hZ gZ
    exact ⟨o, "dict_keyiterator", e, hc, by decide⟩
  · rfl
  · exact ⟨_, Heap.get?_push_size _ rfl, rfl, rfl⟩
  · exact hm.push _
  · exact fun a o _ e => Heap.get?_push_of_some _ e
theorem made_values (hh : A.handled = none) {a v : Addr} {kvs : List (K × Value)} {ds : List (K × D)} {Q : Value → Shared → Prop} (hF : ¬ F a) (hv : s.heap.IsValuesView v a) (hd : s.heap.DictOf (kind prog w) a kvs) (r : RepKs w prog F s.heap kvs ds)
    (h : ∀ it s', Evl s s' → Made prog w A F false true (ds.map fun p => p.2) s.heap it s' → Q it s') : wpAny (model prog w) A (pyIter (.ref v)) Q E s := by
  obtain ⟨ep, hm⟩ := hd.dictAt
  refine wpAny_pyIter_values hv hm (h _ _ (Evl.push _ _) ⟨Ext.push _ _, _, _, Itr.walks (ds := ds.map fun p => p.2) (Walks.dictValues (knd := kind prog w) hh s.heap.objs.size a ?_ kvs ep) (by simp [r.length]) (fun i v hv => ?_) ?_ ?_ ?_ ?_, 0, ?_, Nat.zero_le _, ⟨?_, ?_⟩, ?_⟩)
  · exact Nat.ne_of_lt hm.lt_size
  · obtain ⟨k, hx⟩ := hv
    refine cps fun gZ hZ => ?_
    obtain ⟨d, h1, h2⟩ := repKs_get r hx
    refine hZ ?_
    clear hZ gZ
    exact ⟨d, by rw [List.getElem?_map, h1]; rfl, h2⟩
  · intro b hb
    simp at hb
    rcases hb with rfl | rfl
    · exact .inl (by simp)
    · obtain ⟨o, es, e, _⟩ := hm; exact .inr ⟨hF, o, e⟩
  · intro b hb; simp at hb; subst hb; exact fresh_size
  · intro i h st b hb; simp at hb; subst hb
    obtain ⟨⟨o, e, _⟩, _⟩ := st; exact ⟨o, e⟩
  · intro i h st
    refine cps fun gZ hZ => ?_
    obtain ⟨⟨o, e, hc, _⟩, _⟩ := st
    refine hZ ?_
    clear hZ gZ
    exact ⟨o, "dict_valueiterator", e, hc, by decide⟩
  · rfl
  · exact ⟨_, Heap.get?_push_size _ rfl, rfl, rfl⟩
  · exact hm.push _
  · exact fun a o _ e => Heap.get?_push_of_some _ e
theorem made_items (lf : Live F s) (hh : A.handled = none) {a v : Addr} {kvs : List (K × Value)} {ds : List (K × D)} {Q : Value → Shared → Prop} (hF : ¬ F a) (hv : s.heap.IsItemsView v a) (hd : s.heap.DictOf (kind prog w) a kvs) (r : RepKs w prog F s.heap kvs ds)
    (h : ∀ it s', Evl s s' → Made prog w A F true false (ds.map fun p => .tup [p.1.d, p.2]) s.heap it s' → Q it s') : wpAny (model prog w) A (pyIter (.ref v)) Q E s := by
  obtain ⟨ep, hm⟩ := hd.dictAt
  have hne : a ≠ s.heap.objs.size := Nat.ne_of_lt hm.lt_size
  have old : ∀ {h' : Heap}, (∀ a o, ¬ F a → s.heap.get? a = some o → h'.get? a = some o) → h'.DictAt (kind prog w) a kvs ep := fun k => hm.at' fun o e => k a o hF e
  refine wpAny_pyIter_items hv hm (h _ _ (Evl.push _ _) ⟨Ext.push _ _, (fun b => b = s.heap.objs.size),
    (fun xs h => ∃ i ok ov, xs = (ds.map fun p => D.tup [p.1.d, p.2]).drop i ∧ i ≤ ds.length ∧ IsItemIter h s.heap.objs.size a i kvs.length ep ok ov ∧ ∀ a o, ¬ F a → s.heap.get? a = some o → h.get? a = some o),
    ⟨fun b hb => hb ▸ fresh_size, fun xs h ⟨i, ok, ov, _, _, st, _⟩ b hb => hb ▸ ⟨_, st⟩,
      fun xs h h' ⟨i, ok, ov, e1, e2, st, k⟩ hk => ⟨i, ok, ov, e1, e2, hk _ _ (.inl rfl) st, fun a o hF e => hk a o (.inr ⟨hF, o, e⟩) (k a o hF e)⟩,
      fun target d xs s₁ E E' Q htp ⟨i, ok, ov, e1, e2, st, k⟩ hQ => ?_, fun s₁ E Q ⟨i, ok, ov, e1, e2, st, k⟩ hQ => ?_, fun q => by cases q⟩,
    0, .none, .none, rfl, Nat.zero_le _, Heap.get?_push_size _ rfl, fun a o _ e => Heap.get?_push_of_some _ e⟩)
  · have hi : i < ds.length := by
      apply Decidable.byContradiction; intro hc
      rw [List.drop_of_length_le (by simpa using hc)] at e1; cases e1
    refine cps fun gZ hZ => ?_
    obtain ⟨es, kk, p, rfl⟩ := htp rfl
    refine hZ ?_
    clear hZ gZ
    have hlt : i < kvs.length := by rw [r.length]; exact hi
    obtain ⟨⟨k', x⟩, hx⟩ : ∃ p, kvs[i]? = some p := ⟨kvs[i], by simp [hlt]⟩
    refine wpAny_pyNext_items_item st (old k) hx fun key h₁ hkey it₁ ht₁ hsz₁ hk₁ => ⟨_, rfl, ?_⟩
    have hTne : s₁.heap.objs.size ≠ s.heap.objs.size := Nat.ne_of_gt (Heap.lt_size st)
    refine wpAny_letOwnedTupleGo_items it₁ fun h₂ it₂ hs₂ => hQ _ _ ⟨i + 1, _, _, ?_, hi, it₂, ?_⟩ (Aft.of fun b o hb e => hs₂.extBut b o hb (hk₁ b o hb e)) ?_
    · rw [← List.tail_drop, ← e1]; rfl
    · intro a o hF e
      have hb : a ≠ s.heap.objs.size := Nat.ne_of_lt (Heap.lt_size e)
      exact hs₂.extBut a o hb (hk₁ a o hb (k a o hF e))
    · refine cps fun gZ hZ => ?_
      obtain ⟨d', hd', rx⟩ := repKs_get r hx
      refine hZ ?_
      clear hZ gZ
      have ed : d = .tup [k'.d, d'] := by
        have : ((ds.map fun p => D.tup [p.1.d, p.2]).drop i)[0]? = some d := by rw [← e1]; rfl
        rw [List.getElem?_drop, Nat.add_zero, List.getElem?_map, hd'] at this
        simpa using this.symm
      subst ed
      have hk₂ : ∀ a o, ¬ F a → s.heap.get? a = some o → h₂.get? a = some o := fun a o hF e => by
        have hb : a ≠ s.heap.objs.size := Nat.ne_of_lt (Heap.lt_size e)
        exact hs₂.extBut a o hb (hk₁ a o hb (k a o hF e))
      have rx' := rx.fresh (X := fun b => b = s.heap.objs.size) (h := s₁.heap) (fun b hb => hb ▸ fresh_size) hk₂
      refine .tup (fun q => ?_) (vs := [key, x]) ⟨_, hs₂.extBut _ _ hTne ht₁, rfl, _, rfl⟩ (.cons ?_ (.cons rx' .nil))
      · rcases q with q | q | ⟨_, o, q⟩
        · obtain ⟨o, e⟩ := lf _ q
          exact absurd (Nat.lt_trans (Heap.lt_size e) (Heap.lt_size st)) (Nat.lt_irrefl _)
        · exact hTne q
        · exact absurd (Heap.lt_size q) (Nat.lt_irrefl _)
      · cases k' with
        | int j => obtain ⟨t, rfl⟩ := K.is_int hkey; exact .int _ _
        | str j => obtain ⟨t, rfl⟩ := K.is_str hkey; exact .str _ _
  · have hi : ds.length ≤ i := by
      have := congrArg List.length e1
      rw [List.length_drop] at this; simp at this; (first | lia | omega)
    exact wpAny_pyNext_items_end hh st (old k) (List.getElem?_eq_none (by rw [r.length]; exact hi)) fun h' he => hQ _ (Aft.of (tk := s₁.toks) fun b o hb e => he b o hb e)
end
end Mine
end
section
open PySem PySem.Calls PyProof.Rows
namespace Mine
section
variable {prog : Program} {w : World} {A : Around} {E : Value → Shared → Prop} {s : Shared} {F : Addr → Prop}
theorem Itr.walksT {I : Addr} {fp wr : List Addr} {n : Nat} {Pt : Nat → Array Value → Prop} {St : Nat → Heap → Prop} {Mid : Nat → Addr → Heap → Prop} {h₀ : Heap} {ds : List D} {sf : Bool} (W : WalksT prog w A I fp wr n Pt St Mid) (hn : ds.length = n)
    (lf : ∀ a, F a → ∃ o, h₀.get? a = some o)
    (hP : ∀ i vals, i < n → Pt i vals → ∃ xs, ds[i]? = some (.tup xs) ∧ Reps w prog F h₀ vals.toList xs) (hfp : ∀ b ∈ fp, b ∈ wr ∨ (¬ F b ∧ ∃ o, h₀.get? b = some o)) (hwr : ∀ b ∈ wr, h₀.get? b = none)
    (hlive : ∀ i h, St i h → ∀ b ∈ wr, ∃ o, h.get? b = some o) (hI : I ∈ wr) (hIs : h₀.objs.size ≤ I) :
    Itr prog w A (.ref I) true sf h₀ F (· ∈ wr) (fun xs h => ∃ i, xs = ds.drop i ∧ i ≤ n ∧ St i h ∧ ∀ a o, ¬ F a → h₀.get? a = some o → h.get? a = some o) where
  fresh := hwr
  live := fun xs h ⟨i, _, _, st, _⟩ a ha => hlive i h st a ha
  frame := fun xs h h' ⟨i, e1, e2, st, k⟩ hk => ⟨i, e1, e2, W.frame i h h' st fun b hb o e => hk b o (hfp b hb) e, fun a o hF e => hk a o (.inr ⟨hF, o, e⟩) (k a o hF e)⟩
  next := fun target d xs s E E' Q htp ⟨i, e1, e2, st, k⟩ hQ => by
    have hi : i < n := by
      apply Decidable.byContradiction; intro hc
      rw [List.drop_of_length_le (by (first | lia | omega))] at e1; cases e1
    refine cps fun gZ hZ => ?_
    obtain ⟨es, kk, p, rfl⟩ := htp rfl
    refine hZ ?_
    clear hZ gZ
    refine W.item i s _ _ hi st fun T vals h' tk hv hT hTt hM hk => ⟨_, rfl, ?_⟩
    refine W.go es kk p i T _ _ _ hM fun h₂ st₂ hk₂ => ?_
    have hkk : ∀ b o, b ∉ wr → s.heap.get? b = some o → h₂.get? b = some o := fun b o hb e => hk₂ b o hb (hk b o hb e)
    have k2 : ∀ a o, ¬ F a → h₀.get? a = some o → h₂.get? a = some o := fun a o hF e => hkk a o (fun q => by rw [hwr a q] at e; cases e) (k a o hF e)
    refine hQ _ _ ⟨i + 1, ?_, hi, st₂, k2⟩ (Aft.of hkk) ?_
    · rw [← List.tail_drop, ← e1]; rfl
    · refine cps fun gZ hZ => ?_
      obtain ⟨ys, hd', r⟩ := hP i vals hi hv
      refine hZ ?_
      clear hZ gZ
      have : d = .tup ys := by
        have : (ds.drop i)[0]? = some d := by rw [← e1]; rfl
        rw [List.getElem?_drop] at this
        rw [Nat.add_zero, hd'] at this; cases this; rfl
      subst this
      have hTn : T ∉ wr := W.apart i T h' hM
      have hTt₂ : h₂.IsTuple T vals := let ⟨o, e, x⟩ := hTt; ⟨o, hk₂ _ _ hTn e, x⟩
      have rr : Reps w prog (fun a => F a ∨ a ∈ wr ∨ (h₀.get? a = none ∧ ∃ o, s.heap.get? a = some o)) h₂ vals.toList ys :=
        r.go fun a o hF e => ⟨fun q => q.elim hF fun q => q.elim (fun q => by rw [hwr a q] at e; cases e) (fun q => by rw [q.1] at e; cases e), k2 a o hF e⟩
      have hIlt : I < s.heap.objs.size := by obtain ⟨o, e⟩ := hlive i _ st I hI; exact Heap.lt_size e
      refine .tup (fun q => ?_) (by rw [Array.toArray_toList]; exact hTt₂) rr
      rcases q with q | q | ⟨_, o, q⟩
      · obtain ⟨o, e⟩ := lf _ q
        have h1 : T < h₀.objs.size := Heap.lt_size e
        exact absurd (Nat.lt_of_lt_of_le h1 (Nat.le_trans hIs (Nat.le_trans (Nat.le_of_lt hIlt) hT))) (Nat.lt_irrefl _)
      · exact hTn q
      · exact absurd (Heap.lt_size q) (Nat.not_lt.mpr hT)
  done := fun s E Q ⟨i, e1, e2, st, k⟩ hQ => by
    have : n ≤ i := by
      have := congrArg List.length e1
      rw [List.length_drop] at this; simp at this; (first | lia | omega)
    have hi : i = n := by (first | lia | omega)
    subst hi
    exact W.done s Q E st fun h' tk hk => hQ _ (Aft.of hk)
  self := fun _ xs s E Q ⟨i, _, _, st, _⟩ h => W.self i s Q E st h
theorem enumL_length : ∀ (ds : List D) (i : Int), (enumL i ds).length = ds.length
  | [], _ => rfl
  | d :: ds, i => by rw [enumL, List.length_cons, List.length_cons, enumL_length ds]
theorem enumL_get : ∀ (ds : List D) (i : Int) (j : Nat) (d : D), ds[j]? = some d → (enumL i ds)[j]? = some (.tup [.int (i + j), d])
  | [], _, _, _, h => by simp at h
  | x :: ds, i, 0, d, h => by simp at h; subst h; simp [enumL]
  | x :: ds, i, j + 1, d, h => by
    rw [List.getElem?_cons_succ] at h
    rw [enumL, List.getElem?_cons_succ, enumL_get ds (i + 1) j d h]
    congr 3
    simp; (first | lia | omega)
theorem call_enum {l : Addr} {vs : List Value} {ds : List D} {Q : Value → Shared → Prop} (lf : Live F s) (hh : A.handled = none) (hF : ¬ F l) (hl : s.heap.IsList l vs.toArray) (r : Reps w prog F s.heap vs ds)
    (h : ∀ e s', Evl s s' → (∀ (E' : Value → Shared → Prop) (Q' : Value → Shared → Prop), (Made prog w A F true true (enumL 0 ds) s.heap (.ref e) s' → Q' (.ref e) s') → wpAny (model prog w) A (pyIter (.ref e)) Q' E' s') → Q (.ref e) s') :
    wpAny (model prog w) A (call (.type "enumerate") [.ref l]) Q E s := by
  refine call_enumerate_list hl fun h' he hit hsz hk => h _ _ (Evl.of hk) fun E' Q' hQ' => wpAny_pyIter_enum he (hQ' ⟨hk, ?_⟩)
  have hlt : l < s.heap.objs.size := let ⟨o, e, _⟩ := hl; Heap.lt_size e
  have nz : ∀ k : Nat, s.heap.get? (s.heap.objs.size + k) = none := fun k => by
    cases e : s.heap.get? (s.heap.objs.size + k) with
    | none => rfl
    | some o => exact absurd (Heap.lt_size e) (Nat.not_lt.mpr (Nat.le_add_right _ _))
  refine ⟨_, _, Itr.walksT (ds := enumL 0 ds) (WalksT.enumerate hh (s.heap.objs.size + 1) s.heap.objs.size l (Nat.succ_ne_self _) (Nat.ne_of_lt (Nat.lt_succ_of_lt hlt)) (Nat.ne_of_lt hlt) vs.toArray) (by rw [enumL_length, ← r.length]; simp) lf (fun i vals hi hv => ?_) ?_ ?_ ?_ (by simp) (Nat.le_succ _), 0, ?_, Nat.zero_le _, ⟨⟨_, he⟩, hit, ?_⟩, fun a o _ e => hk a o e⟩
  · refine cps fun gZ hZ => ?_
    obtain ⟨t, x, hx, rfl⟩ := hv
    refine hZ ?_
    clear hZ gZ
    refine cps fun gZ hZ => ?_
    obtain ⟨d, hd, q⟩ := r.get' (i := i) (v := x) (by simpa using hx)
    refine hZ ?_
    clear hZ gZ
    refine ⟨_, enumL_get ds 0 i d hd, .cons ?_ (.cons q .nil)⟩
    rw [Int.zero_add]; exact .int _ _
  · intro b hb
    simp at hb
    rcases hb with rfl | rfl | rfl
    · exact .inl (by simp)
    · exact .inl (by simp)
    · obtain ⟨o, e, _⟩ := hl; exact .inr ⟨hF, o, e⟩
  · intro b hb; simp at hb
    rcases hb with rfl | rfl
    · exact nz 1
    · exact nz 0
  · intro i h st b hb; simp at hb
    refine cps fun gZ hZ => ?_
    obtain ⟨⟨old, h1⟩, ⟨o, h2, _⟩, _⟩ := st
    refine hZ ?_
    clear hZ gZ
    rcases hb with rfl | rfl
    · exact ⟨_, h1⟩
    · exact ⟨_, h2⟩
  · rfl
  · obtain ⟨o, e, x⟩ := hl; exact ⟨o, hk _ _ e, x⟩
end
end Mine
end
section
open PySem PySem.Calls PyProof.Rows
namespace Mine
structure Sb where
  it : Addr
  ds : List D
  St : Nat → Heap → Prop
structure Dr (prog : Program) (w : World) (A : Around) (F : Addr → Prop) (h₀ : Heap) (b : Sb) : Prop where
  frame : ∀ i h h', b.St i h → (∀ a o, (a = b.it ∨ (¬ F a ∧ ∃ o', h₀.get? a = some o')) → h.get? a = some o → h'.get? a = some o) → b.St i h'
  live : ∀ i h, b.St i h → ∃ o, h.get? b.it = some o
  item : ∀ i (s : Shared) (Q : Value → Shared → Prop) (E : Value → Shared → Prop), i < b.ds.length → b.St i s.heap →
    (∀ x h' tk, (∃ d, b.ds[i]? = some d ∧ Rep w prog F h₀ x d) → b.St (i + 1) h' → Heap.SameBut b.it s.heap h' → Q x { s with heap := h', toks := tk }) → wpAny (model prog w) A (Builtin.SmallTypes.nextOf (.ref b.it)) Q E s
  done : ∀ (s : Shared) (Q : Value → Shared → Prop) (E : Value → Shared → Prop), b.St b.ds.length s.heap →
    (∀ h' e, Heap.ExtBut b.it s.heap h' → (∃ o, h'.get? e = some o ∧ o.cls = .type "StopIteration") → E (.ref e) { s with heap := h' }) → wpAny (model prog w) A (Builtin.SmallTypes.nextOf (.ref b.it)) Q E s
structure Zp (prog : Program) (w : World) (A : Around) (F : Addr → Prop) (h₀ : Heap) (z TI TO : Addr) (bs : List Sb) : Prop where
  dr : ∀ b ∈ bs, Dr prog w A.in1 F h₀ b
  nodup : (bs.map (·.it)).Nodup
  zTI : TI ≠ z
  zTO : TO ≠ z
  TITO : TI ≠ TO
  zi : ∀ b ∈ bs, b.it ≠ z
  TIi : ∀ b ∈ bs, b.it ≠ TI
  TOi : ∀ b ∈ bs, b.it ≠ TO
  new : ∀ a, (a = z ∨ a = TI ∨ a = TO ∨ ∃ b ∈ bs, a = b.it) → h₀.get? a = none
  ne : 2 ≤ bs.length ∧ bs.length ≤ 4
noncomputable def Zp.X (z TI TO : Addr) (bs : List Sb) : Addr → Prop := fun a => a = z ∨ a = TI ∨ a = TO ∨ ∃ b ∈ bs, a = b.it
noncomputable abbrev ItsAt (h : Heap) (T : Addr) (vs : List Value) : Prop := h.get? T = some { cls := .type "tuple", data := .seq vs.toArray }
noncomputable def Zp.St (h₀ : Heap) (F : Addr → Prop) (z TI TO : Addr) (bs : List Sb) (i : Nat) (h : Heap) : Prop :=
  IsZip h z TI TO .none ∧ ItsAt h TI (bs.map fun b => .ref b.it) ∧ (∃ old, old.length = bs.length ∧ ItsAt h TO old) ∧ (∀ b ∈ bs, b.St i h) ∧ ∀ a o, ¬ F a → h₀.get? a = some o → h.get? a = some o
section
variable {prog : Program} {w : World} {A : Around} {E : Value → Shared → Prop} {s : Shared} {F : Addr → Prop} {h₀ : Heap} {z TI TO : Addr} {bs : List Sb}
theorem set_mid (vs old : List Value) (o x : Value) : ((vs ++ o :: old).toArray.setIfInBounds vs.length x) = (vs ++ [x] ++ old).toArray := by
  simp [List.set_append]
theorem wpAny_updateSeq_its {T : Addr} {vs : List Value} {k : Nat} {x : Value} {Q : Unit → Shared → Prop} (hT : ItsAt s.heap T vs) (hsz : vs.length ≤ 4)
    (h : ∀ h', h'.get? T = some { cls := .type "tuple", data := .seq (vs.toArray.setIfInBounds k x) } → Heap.SameBut T s.heap h' → Q () { s with heap := h' }) :
    wpAny (model prog w) A (updateSeq T (·.setIfInBounds k x)) Q E s := by
  refine wpAny_updateSeq hT rfl (h _ ?_ (Heap.SameBut.update ..)) (by rw [sizeLine_eq]; simp; (first | lia | omega)) (by rw [sizeLine_eq]; simp; (first | lia | omega))
  rw [Heap.get?_update_self _ hT rfl]
  simp [Obj.mapSeq]
inductive ZIv (prog : Program) (w : World) (F : Addr → Prop) (h₀ : Heap) (z TI TO : Addr) (bs : List Sb) (i : Nat) (s : Shared) (rest : List (Value × Nat)) (qn : Prop) (s' : Shared) : Prop
  | mk (b1 b2 : List Sb) (vs old : List Value) (hb : bs = b1 ++ b2) (hr : rest = (b2.map fun b => Value.ref b.it).zipIdx b1.length) (hq : qn) (hsz : s'.heap.objs.size = s.heap.objs.size)
    (hz : IsZip s'.heap z TI TO .ellipsis) (hT : ItsAt s'.heap TO (vs ++ old)) (ho : old.length = b2.length) (rr : Reps w prog F h₀ vs (b1.map fun b => b.ds.getD i .none)) (st1 : ∀ b ∈ b1, b.St (i + 1) s'.heap) (st2 : ∀ b ∈ b2, b.St i s'.heap)
    (af : Aft (fun a => a = z ∨ a = TO ∨ ∃ b ∈ bs, a = b.it) s s') (eqs : ∃ h' tk, s' = { s with heap := h', toks := tk }) : ZIv prog w F h₀ z TI TO bs i s rest qn s'
theorem zip_item (Z : Zp prog w A F h₀ z TI TO bs) {i n : Nat} (hn : ∀ b ∈ bs, b.ds.length = n) (hi : i < n) (st : Zp.St h₀ F z TI TO bs i s.heap) {Q : Value → Shared → Prop}
    (hQ : ∀ s' vs, IsZip s'.heap z TI TO (rawInt s.heap.objs.size) → ItsAt s'.heap TI (bs.map fun b => .ref b.it) → (∃ old, old.length = bs.length ∧ ItsAt s'.heap TO old) → (∀ b ∈ bs, b.St (i + 1) s'.heap) →
      ItsAt s'.heap s.heap.objs.size vs → Reps w prog F h₀ vs (bs.map fun b => b.ds.getD i .none) → Aft (Zp.X z TI TO bs) s s' → (∀ a o, ¬ F a → h₀.get? a = some o → s'.heap.get? a = some o) → (∃ h' tk, s' = { s with heap := h', toks := tk }) → Q (.ref s.heap.objs.size) s') :
    wpAny (model prog w) A.in1 (Builtin.«zip.__next__» ⟨[.ref z], []⟩) (fun fin s' => ∃ v, fin = .done (.ret v) ∧ Q v s') E s := by
  refine cps fun gZ hZ => ?_
  obtain ⟨hz, hTI, ⟨old, hold, hTO⟩, hst, hk⟩ := st
  refine hZ ?_
  clear hZ gZ
  show wpAny _ _ (field (.ref z) 2 >>= _) _ _ _
  refine wpAny_bind (wpAny_field hz rfl (x := .bool false) rfl ?_)
  show wpAny _ _ (field (.ref z) 3 >>= _) _ _ _
  refine wpAny_bind (wpAny_field hz rfl (x := .ref TI) rfl ?_)
  refine wpAny_bind (wpAny_seqItems hTI rfl ?_)
  have hne : ((bs.map fun b => Value.ref b.it).toArray.isEmpty) = false := by
    have := Z.ne.1
    cases bs with
    | nil => simp at this
    | cons _ _ => simp
  simp only [hne, Bool.false_eq_true, if_false]
  show wpAny _ _ (Builtin.SmallTypes.ownedTupleIsFree (.ref z) >>= _) _ _ _
  refine wpAny_bind ?_
  unfold Builtin.SmallTypes.ownedTupleIsFree
  refine wpAny_bind (wpAny_field hz rfl (x := .none) rfl (wpAny_pure ?_))
  simp only [if_true]
  refine wpAny_bind (wpAny_rule ?_)
  refine wpAny_bind (wpAny_field hz rfl (x := .ref TO) rfl ?_)
  refine wpAny_bind (wpAny_setField_rec hz (by simp) fun h₁ hz₁ hs₁ => ?_)
  replace hz₁ : IsZip h₁ z TI TO .ellipsis := hz₁
  refine wpAny_bind ?_
  have old₀ : ∀ {a o}, h₀.get? a = some o → ¬ Zp.X z TI TO bs a := fun {a o} e q => by rw [Z.new a q] at e; cases e
  have zX : Zp.X z TI TO bs z := .inl rfl
  have TOX : Zp.X z TI TO bs TO := .inr (.inr (.inl rfl))
  have bX : ∀ b ∈ bs, Zp.X z TI TO bs b.it := fun b hb => .inr (.inr (.inr ⟨b, hb, rfl⟩))
  have fr : ∀ (c : Addr) (h h' : Heap) (b : Sb) (k : Nat), b ∈ bs → Zp.X z TI TO bs c → b.it ≠ c → Heap.SameBut c h h' → b.St k h → b.St k h' := fun c h h' b k hb hc hbc hs x =>
    (Z.dr b hb).frame k h h' x fun a o ha e => hs.extBut a o (fun q => by
      rcases ha with ha | ⟨_, o', ha⟩
      · exact hbc (ha ▸ q)
      · exact old₀ ha (q ▸ hc)) e
  refine wpAny_forIn_list _ (fun rest q s' => ZIv prog w F h₀ z TI TO bs i s rest (q.1 = none) s') _ ?_ ?_ _ _ ?_
  · intro hM1 rest q s' hM2
    refine cps fun gZ hZ => ?_
    obtain ⟨x, k⟩ := hM1
    obtain ⟨b1, b2, vs, old, hb, hr, hq, hsz, hz', hTO', ho, rr, st1, st2, af, eqs⟩ := hM2
    refine hZ ?_
    clear hZ gZ
    cases b2 with
    | nil => simp at hr
    | cons b b2 =>
      have hbm : b ∈ bs := by rw [hb]; simp
      cases old with
      | nil => simp at ho
      | cons o old =>
        rw [List.map_cons, List.zipIdx_cons] at hr
        obtain ⟨hr1, hr2⟩ := List.cons.inj hr
        cases hr1
        have hvl : vs.length = b1.length := by rw [rr.length, List.length_map]
        have hlen : (vs ++ o :: old).length ≤ 4 := by
          have := Z.ne.2
          rw [hb] at this
          simp only [List.length_append, List.length_cons] at this ho ⊢
          (first | lia | omega)
        refine wpAny_bind (wpAny_onRaise ?_)
        show wpAny _ _ (Builtin.SmallTypes.nextOf (.ref b.it) >>= _) _ _ _
        refine wpAny_bind ((Z.dr b hbm).item i s' _ _ (by rw [hn b hbm]; exact hi) (st2 b (.head _)) fun x h₂ tk₂ ⟨d, hd, rx⟩ st₂ hs₂ => wpAny_pure ?_)
        have hTO₂ : ItsAt h₂ TO (vs ++ o :: old) := hs₂.extBut _ _ (Ne.symm (Z.TOi b hbm)) hTO'
        refine wpAny_bind (wpAny_seqItems hTO₂ rfl ?_)
        refine wpAny_bind (wpAny_updateSeq_its hTO₂ hlen fun h₃ hTO₃ hs₃ => ?_)
        rw [← hvl, set_mid] at hTO₃
        refine wpAny_bind (wpAny_letGo (wpAny_pure ?_))
        have nd := Z.nodup
        rw [hb, List.map_append, List.map_cons] at nd
        refine cps fun gZ hZ => ?_
        obtain ⟨nd1, nd2, nd3⟩ := List.nodup_append.mp nd
        refine hZ ?_
        clear hZ gZ
        rw [List.nodup_cons] at nd2
        refine ⟨b1 ++ [b], b2, vs ++ [x], old, by rw [hb]; simp, by rw [hr2]; simp, rfl, ?_, ?_, hTO₃, by simpa using ho, ?_, ?_, ?_, ?_, ?_⟩
        · rw [hs₃.1, hs₂.1, hsz]
        · exact hs₃.extBut _ _ (Ne.symm Z.zTO) (hs₂.extBut _ _ (Ne.symm (Z.zi b hbm)) hz')
        · rw [List.map_append]
          refine rr.append (.cons ?_ .nil)
          show Rep w prog F h₀ x (b.ds.getD i .none)
          rw [List.getD_eq_getElem?_getD, hd]; exact rx
        · intro b' hb'
          rcases List.mem_append.mp hb' with hb' | hb'
          · have hm : b' ∈ bs := by rw [hb]; exact List.mem_append_left _ hb'
            have hne' : b'.it ≠ b.it := fun e => nd3 _ (List.mem_map.mpr ⟨b', hb', rfl⟩) _ (.head _) e
            exact fr TO _ _ b' _ hm TOX (Z.TOi b' hm) hs₃ (fr b.it _ _ b' _ hm (bX b hbm) hne' hs₂ (st1 b' hb'))
          · simp at hb'; subst hb'
            exact fr TO _ _ _ _ hbm TOX (Z.TOi _ hbm) hs₃ st₂
        · intro b' hb'
          have hm : b' ∈ bs := by rw [hb]; exact List.mem_append_right _ (.tail _ hb')
          have hne' : b'.it ≠ b.it := fun e => nd2.1 (e ▸ List.mem_map.mpr ⟨b', hb', rfl⟩)
          exact fr TO _ _ b' _ hm TOX (Z.TOi b' hm) hs₃ (fr b.it _ _ b' _ hm (bX b hbm) hne' hs₂ (st2 b' (.tail _ hb')))
        · exact af.trans (Aft.of fun a o ha e => hs₃.extBut a o (fun q => ha (.inr (.inl q))) (hs₂.extBut a o (fun q => ha (.inr (.inr ⟨b, hbm, q⟩))) e))
        · obtain ⟨h', tk', rfl⟩ := eqs; exact ⟨_, _, rfl⟩
  · intro hM1 s' hM2
    refine cps fun gZ hZ => ?_
    obtain ⟨q1, q2⟩ := hM1
    obtain ⟨b1, b2, vs, old, hb, hr, hq, hsz, hz', hTO', ho, rr, st1, st2, af, eqs⟩ := hM2
    refine hZ ?_
    clear hZ gZ
    simp only at hq
    subst hq
    have hb2 : b2 = [] := by
      cases b2 with
      | nil => rfl
      | cons _ _ => simp [List.zipIdx_cons] at hr
    subst hb2
    have : old = [] := by simpa using ho
    subst this
    rw [List.append_nil] at hb hTO'
    obtain rfl := hb
    refine wpAny_bind (wpAny_seqItems hTO' rfl ?_)
    have hvl : vs.toArray.toList.length ≤ sizeLine := by
      have := Z.ne.2
      rw [sizeLine_eq]; simp [rr.length]; (first | lia | omega)
    refine wpAny_bind (wpAny_newTuple ?_ (hsz := hvl))
    have hzlt : z < s'.heap.objs.size := Heap.lt_size hz'
    have hTOlt : TO < s'.heap.objs.size := Heap.lt_size hTO'
    show wpAny _ _ (Builtin.SmallTypes.ownedTupleHandOut (.ref z) (.ref s'.heap.objs.size) >>= _) _ _ _
    refine wpAny_bind ?_
    unfold Builtin.SmallTypes.ownedTupleHandOut
    have hz₆ : IsZip (s'.heap.push { cls := .type "tuple", data := .seq vs.toArray }) z TI TO .ellipsis := Heap.get?_push_of_some _ hz'
    refine wpAny_bind (wpAny_setField_rec hz₆ (by simp) fun h₇ hz₇ hs₇ => ?_)
    replace hz₇ : IsZip h₇ z TI TO (rawInt s'.heap.objs.size) := hz₇
    refine wpAny_setField_rec hz₇ (by simp) fun h₈ hz₈ hs₈ => ?_
    replace hz₈ : IsZip h₈ z TI TO (rawInt s'.heap.objs.size) := hz₈
    have up : ∀ c o, c ≠ z → s'.heap.get? c = some o → h₈.get? c = some o := fun c o c1 e => hs₈.extBut _ _ c1 (hs₇.extBut _ _ c1 (Heap.get?_push_of_some _ e))
    have hT₈ : ItsAt h₈ s'.heap.objs.size vs := hs₈.extBut _ _ (Nat.ne_of_gt hzlt) (hs₇.extBut _ _ (Nat.ne_of_gt hzlt) (Heap.get?_push_size _ rfl))
    refine wpAny_pure ⟨_, rfl, ?_⟩
    have af' : ∀ a o, ¬ (a = z ∨ a = TO ∨ ∃ b ∈ bs, a = b.it) → s.heap.get? a = some o → h₈.get? a = some o := fun a o ha e => up a o (fun q => ha (.inl q)) (af.heap a o ha e)
    rw [hsz]
    refine hQ { s' with heap := h₈ } vs (hsz ▸ hz₈) ?_ ⟨vs, by rw [rr.length, List.length_map], up _ _ Z.zTO hTO'⟩ ?_ (hsz ▸ hT₈) rr ?_ ?_ (let ⟨_, _, e⟩ := eqs; ⟨_, _, by rw [e]⟩)
    · exact af' _ _ (fun q => by
        rcases q with q | q | ⟨b, hb, q⟩
        · exact Z.zTI q
        · exact Z.TITO q
        · exact Z.TIi b hb q.symm) hTI
    · intro b hb
      exact (Z.dr b hb).frame _ _ _ (st1 b hb) fun a o ha e => up a o (fun q => by
        rcases ha with ha | ⟨_, o', ha⟩
        · exact Z.zi b hb (ha ▸ q)
        · exact old₀ ha (q ▸ zX)) e
    · refine ⟨fun a o ha e => af' a o (fun q => ha ?_) e, af.gens, af.bare, af.os⟩
      rcases q with q | q | q
      · exact .inl q
      · exact .inr (.inr (.inl q))
      · exact .inr (.inr (.inr q))
    · intro a o hF e
      exact af' a o (fun q => old₀ e (by
        rcases q with q | q | q
        · exact .inl q
        · exact .inr (.inr (.inl q))
        · exact .inr (.inr (.inr q)))) (hk a o hF e)
  · refine ⟨[], bs, [], old, rfl, rfl, rfl, ?_, hz₁, hs₁.extBut _ _ Z.zTO hTO, hold, .nil, (fun _ h => by cases h), fun b hb => fr z _ _ b i hb zX (Z.zi b hb) hs₁ (hst b hb), Aft.of (tk := s.toks) fun a o ha e => hs₁.extBut a o (fun q => ha (.inl q)) e, ⟨_, _, rfl⟩⟩
    exact hs₁.1
end
end Mine
end
section
open PySem PySem.Calls PyProof.Rows
namespace Mine
section
variable {prog : Program} {w : World} {A : Around} {E : Value → Shared → Prop} {s : Shared} {F : Addr → Prop} {h₀ : Heap} {z TI TO : Addr} {bs : List Sb}
theorem zip_end (Z : Zp prog w A F h₀ z TI TO bs) {n : Nat} (hn : ∀ b ∈ bs, b.ds.length = n) (st : Zp.St h₀ F z TI TO bs n s.heap) {Q : Fin → Shared → Prop}
    (hE : ∀ h' e, (∀ a o, ¬ Zp.X z TI TO bs a → s.heap.get? a = some o → h'.get? a = some o) → (∃ o, h'.get? e = some o ∧ o.cls = .type "StopIteration") → E (.ref e) { s with heap := h' }) :
    wpAny (model prog w) A.in1 (Builtin.«zip.__next__» ⟨[.ref z], []⟩) Q E s := by
  refine cps fun gZ hZ => ?_
  obtain ⟨hz, hTI, ⟨old, hold, hTO⟩, hst, hk⟩ := st
  refine hZ ?_
  clear hZ gZ
  obtain ⟨b, bs', rfl⟩ : ∃ b bs', bs = b :: bs' := by
    have := Z.ne.1
    cases bs with
    | nil => simp at this
    | cons b bs' => exact ⟨b, bs', rfl⟩
  have hbm : b ∈ b :: bs' := .head _
  show wpAny _ _ (field (.ref z) 2 >>= _) _ _ _
  refine wpAny_bind (wpAny_field hz rfl (x := .bool false) rfl ?_)
  show wpAny _ _ (field (.ref z) 3 >>= _) _ _ _
  refine wpAny_bind (wpAny_field hz rfl (x := .ref TI) rfl ?_)
  refine wpAny_bind (wpAny_seqItems hTI rfl ?_)
  have hne : (((b :: bs').map fun b => Value.ref b.it).toArray.isEmpty) = false := by simp
  simp only [hne, Bool.false_eq_true, if_false]
  show wpAny _ _ (Builtin.SmallTypes.ownedTupleIsFree (.ref z) >>= _) _ _ _
  refine wpAny_bind ?_
  unfold Builtin.SmallTypes.ownedTupleIsFree
  refine wpAny_bind (wpAny_field hz rfl (x := .none) rfl (wpAny_pure ?_))
  simp only [if_true]
  refine wpAny_bind (wpAny_rule ?_)
  refine wpAny_bind (wpAny_field hz rfl (x := .ref TO) rfl ?_)
  refine wpAny_bind (wpAny_setField_rec hz (by simp) fun h₁ hz₁ hs₁ => ?_)
  replace hz₁ : IsZip h₁ z TI TO .ellipsis := hz₁
  refine wpAny_bind ?_
  simp only [List.map_cons, List.zipIdx_cons, List.forIn_cons]
  refine wpAny_bind (wpAny_bind (wpAny_onRaise ?_))
  show wpAny _ _ (Builtin.SmallTypes.nextOf (.ref b.it) >>= _) _ _ _
  have st₁ : b.St b.ds.length h₁ := by
    rw [hn b hbm]
    refine (Z.dr b hbm).frame _ _ _ (hst b hbm) fun a o ha e => hs₁.extBut a o (fun q => ?_) e
    rcases ha with ha | ⟨_, o', ha⟩
    · exact Z.zi b hbm (ha ▸ q)
    · rw [q, Z.new z (.inl rfl)] at ha; cases ha
  refine wpAny_bind ((Z.dr b hbm).done _ _ _ st₁ fun h₂ e hs₂ he => ?_)
  refine cps fun gZ hZ => ?_
  obtain ⟨oe, hoe, hce⟩ := he
  refine hZ ?_
  clear hZ gZ
  have hz₂ : IsZip h₂ z TI TO .ellipsis := hs₂ _ _ (Ne.symm (Z.zi b hbm)) hz₁
  have hez : e ≠ z := fun x => by subst x; rw [hz₂] at hoe; cases hoe; simp at hce
  refine wpAny_setField_rec hz₂ (by simp) fun h₃ _ hs₃ => hE h₃ e (fun a o ha x => hs₃.extBut _ _ (fun q => ha (.inl q)) (hs₂ _ _ (fun q => ha (.inr (.inr (.inr ⟨b, hbm, q⟩)))) (hs₁.extBut _ _ (fun q => ha (.inl q)) x))) ⟨oe, hs₃.extBut _ _ hez hoe, hce⟩
theorem Itr.zip (Z : Zp prog w A F h₀ z TI TO bs) {n : Nat} (hn : ∀ b ∈ bs, b.ds.length = n) (lf : ∀ a, F a → ∃ o, h₀.get? a = some o) (hzs : h₀.objs.size ≤ z) :
    Itr prog w A (.ref z) true true h₀ F (Zp.X z TI TO bs) (fun xs h => ∃ i, xs = (zipN n (bs.map (·.ds))).drop i ∧ i ≤ n ∧ Zp.St h₀ F z TI TO bs i h) where
  fresh := Z.new
  live := fun xs h ⟨i, _, _, hz, hTI, ⟨old, _, hTO⟩, hst, _⟩ a ha => by
    rcases ha with rfl | rfl | rfl | ⟨b, hb, rfl⟩
    · exact ⟨_, hz⟩
    · exact ⟨_, hTI⟩
    · exact ⟨_, hTO⟩
    · exact (Z.dr b hb).live _ _ (hst b hb)
  frame := fun xs h h' ⟨i, e1, e2, hz, hTI, ⟨old, hold, hTO⟩, hst, hk⟩ k =>
    ⟨i, e1, e2, k _ _ (.inl (.inl rfl)) hz, k _ _ (.inl (.inr (.inl rfl))) hTI, ⟨old, hold, k _ _ (.inl (.inr (.inr (.inl rfl)))) hTO⟩,
      fun b hb => (Z.dr b hb).frame _ _ _ (hst b hb) fun a o ha e => k a o (ha.imp (fun q => .inr (.inr (.inr ⟨b, hb, q⟩))) id) e, fun a o hF e => k a o (.inr ⟨hF, o, e⟩) (hk a o hF e)⟩
  next := fun target d xs s E E' Q htp ⟨i, e1, e2, st⟩ hQ => by
    have hzl : (zipN n (bs.map (·.ds))).length = n := by simp [zipN]
    have hi : i < n := by
      apply Decidable.byContradiction; intro hc
      rw [List.drop_of_length_le (by (first | lia | omega))] at e1; cases e1
    refine cps fun gZ hZ => ?_
    obtain ⟨es, kk, p, rfl⟩ := htp rfl
    refine hZ ?_
    clear hZ gZ
    have hT : s.TypeIs (.ref z) "zip" := ⟨_, st.1, rfl⟩
    have hzlt : z < s.heap.objs.size := Heap.lt_size st.1
    unfold pyNext
    refine wpAny_bind (wpAny_attempt (wpAny_callSpecial?_slot (name := Str.ofString "__next__") hT PySem.F.slot_zip_next
      (wpAny_call_entry PySem.F.slot_zip_next hT PySem.F.entry_zip_next (zip_item Z hn hi st fun s' vs a1 a2 a3 a4 a5 a6 a7 a8 _ => wpAny_pure ?_) (PySem.F.args_zip_next_1 _))))
    refine ⟨_, rfl, ?_⟩
    have hTz : s.heap.objs.size ≠ z := Nat.ne_of_gt hzlt
    have zX : Zp.X z TI TO bs z := .inl rfl
    have TX : ¬ Zp.X z TI TO bs s.heap.objs.size := fun q => by
      have : ∃ o, s.heap.get? s.heap.objs.size = some o := by
        generalize hg : s.heap.objs.size = T at q ⊢
        rcases q with rfl | rfl | rfl | ⟨b, hb, rfl⟩
        · exact ⟨_, st.1⟩
        · exact ⟨_, st.2.1⟩
        · obtain ⟨old, _, h⟩ := st.2.2.1; exact ⟨_, h⟩
        · exact (Z.dr b hb).live _ _ (st.2.2.2.1 b hb)
      obtain ⟨o, e⟩ := this
      exact absurd (Heap.lt_size e) (Nat.lt_irrefl _)
    refine wpAny_letOwnedTupleGo_zip a1 fun h' hz' hs' => ?_
    have k8 : ∀ a o, ¬ F a → h₀.get? a = some o → h'.get? a = some o := fun a o hF e => hs'.extBut a o (fun q => by rw [q, Z.new z zX] at e; cases e) (a8 a o hF e)
    refine hQ _ _ ⟨i + 1, ?_, hi, hz', hs'.extBut _ _ Z.zTI a2, ?_, fun b hb => ?_, k8⟩ (a7.trans (Aft.of (tk := s'.toks) fun b o hb e => hs'.extBut b o (fun q => hb (q ▸ zX)) e)) ?_
    · rw [← List.tail_drop, ← e1]; rfl
    · obtain ⟨old, h1, h2⟩ := a3; exact ⟨old, h1, hs'.extBut _ _ Z.zTO h2⟩
    · refine (Z.dr b hb).frame _ _ _ (a4 b hb) fun a o ha e => hs'.extBut a o (fun q => ?_) e
      rcases ha with ha | ⟨_, o', ha⟩
      · exact Z.zi b hb (ha ▸ q)
      · rw [q, Z.new z zX] at ha; cases ha
    · have ed : d = .tup (bs.map fun b => b.ds.getD i .none) := by
        have : ((zipN n (bs.map (·.ds))).drop i)[0]? = some d := by rw [← e1]; rfl
        rw [List.getElem?_drop, Nat.add_zero] at this
        unfold zipN at this
        rw [List.getElem?_map, List.getElem?_range hi] at this
        simp only [Option.map_some, Option.some.injEq, List.map_map] at this
        rw [← this]; rfl
      subst ed
      refine .tup (fun q => ?_) ⟨_, hs'.extBut _ _ hTz a5, rfl, _, rfl⟩ (a6.go fun a o hF e => ⟨fun q => q.elim hF fun q => q.elim (fun q => by rw [Z.new a q] at e; cases e) (fun q => by rw [q.1] at e; cases e), k8 a o hF e⟩)
      rcases q with q | q | ⟨_, o, q⟩
      · obtain ⟨o, e⟩ := lf _ q
        exact absurd (Nat.lt_of_lt_of_le (Heap.lt_size e) (Nat.le_trans hzs (Nat.le_of_lt hzlt))) (Nat.lt_irrefl _)
      · exact TX q
      · exact absurd (Heap.lt_size q) (Nat.lt_irrefl _)
  done := fun s E Q ⟨i, e1, e2, st⟩ hQ => by
    have : n ≤ i := by
      have := congrArg List.length e1
      rw [List.length_drop] at this; simp [zipN] at this; (first | lia | omega)
    have hi : i = n := by (first | lia | omega)
    subst hi
    have hT : s.TypeIs (.ref z) "zip" := ⟨_, st.1, rfl⟩
    unfold pyNext
    refine wpAny_bind (wpAny_attempt (wpAny_callSpecial?_slot (name := Str.ofString "__next__") hT PySem.F.slot_zip_next
      (wpAny_call_entry PySem.F.slot_zip_next hT PySem.F.entry_zip_next (zip_end Z hn st fun h' e hk he => ?_) (PySem.F.args_zip_next_1 _))))
    refine cps fun gZ hZ => ?_
    obtain ⟨o, ho, hc⟩ := he
    refine hZ ?_
    clear hZ gZ
    refine wpAny_bind (wpAny_isInstance (T := "StopIteration") (b := true) ⟨o, ho, hc⟩ isSubtype_stop ?_)
    exact wpAny_pure (hQ _ (Aft.of (tk := s.toks) hk))
  self := fun _ xs s E Q ⟨i, _, _, st⟩ h => wpAny_pyIter_zip st.1 h
end
end Mine
end
section
open PySem PySem.Calls PyProof.Rows
namespace Mine
inductive Zs (prog : Program) (w : World) (F : Addr → Prop) (h₀ : Heap) : Value → List D → Prop
  | lst {l : Addr} {vs : List Value} {ds : List D} : ¬ F l → h₀.IsList l vs.toArray → Reps w prog F h₀ vs ds → Zs prog w F h₀ (.ref l) ds
  | str (x : Str) (t : Tok) : Zs prog w F h₀ (.str x t) (x.cps.toList.map fun c => .str ⟨#[c]⟩)
inductive Zss (prog : Program) (w : World) (F : Addr → Prop) (h₀ : Heap) : List Value → List (List D) → Prop
  | nil : Zss prog w F h₀ [] []
  | cons {v : Value} {ds : List D} {vs : List Value} {dss : List (List D)} : Zs prog w F h₀ v ds → Zss prog w F h₀ vs dss → Zss prog w F h₀ (v :: vs) (ds :: dss)
section
variable {prog : Program} {w : World} {A : Around} {E : Value → Shared → Prop} {s : Shared} {F : Addr → Prop} {h₀ : Heap}
theorem Dr.of_draws {it : Addr} {fp : List Addr} {n : Nat} {P : Nat → Value → Prop} {St : Nat → Heap → Prop} {ds : List D} (d : Draws prog w A it fp n P St) (hn : ds.length = n)
    (hfp : ∀ b ∈ fp, b = it ∨ (¬ F b ∧ ∃ o, h₀.get? b = some o)) (hP : ∀ i v, P i v → ∃ d, ds[i]? = some d ∧ Rep w prog F h₀ v d) : Dr prog w A F h₀ ⟨it, ds, St⟩ where
  frame := fun i h h' st k => d.frame i h h' st fun b hb o e => k b o (hfp b hb) e
  live := d.live
  item := fun i s Q E hi st hQ => d.item i s Q E (hn ▸ hi) st fun x h' tk hx => hQ x h' tk (hP i x hx)
  done := fun s Q E st hE => d.done s Q E (hn ▸ st) hE
theorem zs_iter (A₀ : Around) (hh : A₀.handled = none) {v : Value} {ds : List D} (x : Zs prog w F h₀ v ds) (hx : Ext h₀ s.heap) (hz : h₀.objs.size ≤ s.heap.objs.size) {Q : Value → Shared → Prop}
    (h : ∀ b : Sb, b.it = s.heap.objs.size → b.ds = ds → Dr prog w A₀ F h₀ b → ∀ o, b.St 0 (s.heap.push o) → Q (.ref b.it) { s with heap := s.heap.push o }) : wpAny (model prog w) A (pyIter v) Q E s := by
  cases x with
  | @lst l vs ds hF hl r =>
    have hlt : l < h₀.objs.size := let ⟨o, e, _⟩ := hl; Heap.lt_size e
    have hl' : s.heap.IsList l vs.toArray := let ⟨o, e, y⟩ := hl; ⟨o, hx _ _ e, y⟩
    refine wpAny_pyIter_list hl' (h ⟨_, ds, _⟩ rfl rfl (.of_draws (Draws.list hh s.heap.objs.size l (Nat.ne_of_lt (Nat.lt_of_lt_of_le hlt hz)) vs.toArray) (by simp [r.length]) ?_ ?_) _ ⟨⟨_, Heap.get?_push_size _ rfl, rfl, rfl⟩, ?_⟩)
    · intro b hb
      simp at hb
      rcases hb with rfl | rfl
      · exact .inl rfl
      · obtain ⟨o, e, _⟩ := hl; exact .inr ⟨hF, o, e⟩
    · intro i v hv; exact r.get' (by simpa using hv)
    · obtain ⟨o, e, y⟩ := hl'; exact ⟨o, Heap.get?_push_of_some _ e, y⟩
  | str x t =>
    refine wpAny_pyIter_strU ?_
    have hP : ∀ (i : Nat) (v : Value), (∃ c u, x.cps[i]? = some c ∧ v = .str ⟨#[c]⟩ u) → ∃ d, (x.cps.toList.map fun c => D.str ⟨#[c]⟩)[i]? = some d ∧ Rep w prog F h₀ v d := by
      intro i v hM1
      refine cps fun gZ hZ => ?_
      obtain ⟨c, u, hc, rfl⟩ := hM1
      refine hZ ?_
      clear hZ gZ
      exact ⟨_, by rw [List.getElem?_map, Array.getElem?_toList, hc]; rfl, .str _ _⟩
    by_cases ha : x.cps.all (· < 128) = true
    · have e : strIterType x = "str_ascii_iterator" := by unfold strIterType; rw [if_pos ha]
      rw [e]
      exact h ⟨_, _, _⟩ rfl rfl (.of_draws (Draws.strAscii hh s.heap.objs.size x t) (by simp) (fun b hb => .inl (by simpa using hb)) hP) _ ⟨_, Heap.get?_push_size _ rfl, rfl, rfl⟩
    · have e : strIterType x = "str_iterator" := by unfold strIterType; rw [if_neg ha]
      rw [e]
      exact h ⟨_, _, _⟩ rfl rfl (.of_draws (Draws.strWide hh s.heap.objs.size x t) (by simp) (fun b hb => .inl (by simpa using hb)) hP) _ ⟨_, Heap.get?_push_size _ rfl, rfl, rfl⟩
structure Zits (prog : Program) (w : World) (A₀ : Around) (F : Addr → Prop) (h₀ : Heap) (dss : List (List D)) (bs : List Sb) (s : Shared) : Prop where
  ds : bs.map (·.ds) = dss
  dr : ∀ b ∈ bs, Dr prog w A₀ F h₀ b
  st : ∀ b ∈ bs, b.St 0 s.heap
  nodup : (bs.map (·.it)).Nodup
  lo : ∀ b ∈ bs, h₀.objs.size ≤ b.it
  hi : ∀ b ∈ bs, b.it < s.heap.objs.size
  ext : Ext h₀ s.heap
  sz : h₀.objs.size ≤ s.heap.objs.size
theorem Zits.push {A₀ : Around} {dss : List (List D)} {bs : List Sb} (Z : Zits prog w A₀ F h₀ dss bs s) (o : Obj) : Zits prog w A₀ F h₀ dss bs { s with heap := s.heap.push o } where
  ds := Z.ds
  dr := Z.dr
  st := fun b hb => (Z.dr b hb).frame _ _ _ (Z.st b hb) fun a o' _ e => Heap.get?_push_of_some _ e
  nodup := Z.nodup
  lo := Z.lo
  hi := fun b hb => by show b.it < (s.heap.push o).objs.size; rw [Heap.size_push]; exact Nat.lt_succ_of_lt (Z.hi b hb)
  ext := fun a o' e => Heap.get?_push_of_some _ (Z.ext a o' e)
  sz := by show _ ≤ (s.heap.push o).objs.size; rw [Heap.size_push]; exact Nat.le_succ_of_le Z.sz
theorem wpAny_iterAll (A₀ : Around) (hh : A₀.handled = none) {vs : List Value} {dss : List (List D)} (x : Zss prog w F h₀ vs dss) (hx : Ext h₀ s.heap) (hz : h₀.objs.size ≤ s.heap.objs.size) {Q : List Value → Shared → Prop}
    (h : ∀ bs h', Zits prog w A₀ F h₀ dss bs { s with heap := h' } → Ext s.heap h' → Q (bs.map fun b => .ref b.it) { s with heap := h' }) : wpAny (model prog w) A (Builtin.SmallTypes.iterAll vs) Q E s := by
  unfold Builtin.SmallTypes.iterAll
  refine wpAny_bind (wpAny_forIn_list _ (fun rest q s' => ∃ (d1 d2 : List (List D)) (bs : List Sb) (h' : Heap), s' = { s with heap := h' } ∧ dss = d1 ++ d2 ∧ Zss prog w F h₀ rest d2 ∧ q = (bs.map fun b => Value.ref b.it).toArray ∧
    Zits prog w A₀ F h₀ d1 bs s' ∧ Ext s.heap h') _ ?_ ?_ _ _ ?_)
  · intro v rest q s' hM1
    refine cps fun gZ hZ => ?_
    obtain ⟨d1, d2, bs, h', rfl, hd, hr, rfl, Z, xt⟩ := hM1
    refine hZ ?_
    clear hZ gZ
    cases hr with
    | @cons _ ds _ dss' hv hr =>
      refine wpAny_bind (wpAny_holding (zs_iter A₀ hh hv Z.ext Z.sz fun b hbi hbd hdr o hst => wpAny_pure ?_))
      refine ⟨d1 ++ [ds], dss', bs ++ [b], h'.push o, rfl, by rw [hd]; simp, hr, by simp, ?_, fun a o' e => Heap.get?_push_of_some _ (xt a o' e)⟩
      have Z' := Z.push o
      refine ⟨by rw [List.map_append, Z.ds]; simp [hbd], ?_, ?_, ?_, ?_, ?_, Z'.ext, Z'.sz⟩
      · intro b' hb'
        rcases List.mem_append.mp hb' with hb' | hb'
        · exact Z.dr b' hb'
        · simp at hb'; subst hb'; exact hdr
      · intro b' hb'
        rcases List.mem_append.mp hb' with hb' | hb'
        · exact Z'.st b' hb'
        · simp at hb'; subst hb'; exact hst
      · rw [List.map_append, List.nodup_append]
        refine ⟨Z.nodup, by simp, ?_⟩
        intro a ha a' ha' e
        refine cps fun gZ hZ => ?_
        obtain ⟨b', hb', rfl⟩ := List.mem_map.mp ha
        refine hZ ?_
        clear hZ gZ
        simp at ha'
        subst ha'
        have := Z.hi b' hb'
        rw [e, hbi] at this
        exact absurd this (Nat.lt_irrefl _)
      · intro b' hb'
        rcases List.mem_append.mp hb' with hb' | hb'
        · exact Z.lo b' hb'
        · simp at hb'; subst hb'; rw [hbi]; exact Z.sz
      · intro b' hb'
        rcases List.mem_append.mp hb' with hb' | hb'
        · exact Z'.hi b' hb'
        · simp at hb'; subst hb'; rw [hbi]; show _ < (h'.push o).objs.size; rw [Heap.size_push]; exact Nat.lt_succ_self _
  · intro q s' hM1
    refine cps fun gZ hZ => ?_
    obtain ⟨d1, d2, bs, h', rfl, hd, hr, rfl, Z, xt⟩ := hM1
    refine hZ ?_
    clear hZ gZ
    cases hr
    rw [List.append_nil] at hd
    subst hd
    exact wpAny_pure (by simpa using h bs h' Z xt)
  · exact ⟨[], dss, [], s.heap, rfl, rfl, x, rfl, ⟨rfl, (fun _ h => by cases h), (fun _ h => by cases h), .nil, (fun _ h => by cases h), (fun _ h => by cases h), hx, hz⟩, Ext.refl _⟩
theorem Zss.length : ∀ {vs : List Value} {dss : List (List D)}, Zss prog w F h₀ vs dss → vs.length = dss.length
  | _, _, .nil => rfl
  | _, _, .cons _ r => by simp [r.length]
theorem Zits.zp {A : Around} {dss : List (List D)} {bs : List Sb} (Z : Zits prog w A.in1 F h₀ dss bs s) (hl : 2 ≤ bs.length ∧ bs.length ≤ 4) {z TI TO : Addr} (h1 : s.heap.objs.size ≤ TI) (h2 : TI < TO) (h3 : TO < z) :
    Zp prog w A F h₀ z TI TO bs where
  dr := Z.dr
  nodup := Z.nodup
  zTI := Nat.ne_of_lt (Nat.lt_trans h2 h3)
  zTO := Nat.ne_of_lt h3
  TITO := Nat.ne_of_lt h2
  zi := fun b hb => Nat.ne_of_lt (Nat.lt_trans (Nat.lt_of_lt_of_le (Z.hi b hb) h1) (Nat.lt_trans h2 h3))
  TIi := fun b hb => Nat.ne_of_lt (Nat.lt_of_lt_of_le (Z.hi b hb) h1)
  TOi := fun b hb => Nat.ne_of_lt (Nat.lt_trans (Nat.lt_of_lt_of_le (Z.hi b hb) h1) h2)
  new := fun a ha => by
    have key : h₀.objs.size ≤ a := by
      rcases ha with rfl | rfl | rfl | ⟨b, hb, rfl⟩
      · exact Nat.le_trans Z.sz (Nat.le_trans h1 (Nat.le_of_lt (Nat.lt_trans h2 h3)))
      · exact Nat.le_trans Z.sz h1
      · exact Nat.le_trans Z.sz (Nat.le_trans h1 (Nat.le_of_lt h2))
      · exact Z.lo b hb
    cases e : h₀.get? a with
    | none => rfl
    | some o => exact absurd (Heap.lt_size e) (Nat.not_lt.mpr key)
  ne := hl
theorem zip_new (A₀ : Around) (hh : A₀.handled = none) (vs : List Value) (dss : List (List D)) (hl : vs.length ≤ 4) :
    MeetsIn prog w (Builtin.«zip.__new__» ⟨.type "zip" :: vs, []⟩) (fun _ R s => Zss prog w F s.heap vs dss ∧
      ∀ bs h₁, Zits prog w A₀ F s.heap dss bs { s with heap := h₁ } → Ext s.heap h₁ →
        R (.ok (.ret (.ref (h₁.objs.size + 1 + 1)))) { s with heap := ((h₁.push { cls := .type "tuple", data := .seq (bs.map fun b => Value.ref b.it).toArray }).push { cls := .type "tuple", data := .seq (bs.map fun _ => Value.none).toArray }).push { cls := .type "zip", data := .fields #[.none, .bool false, .bool false, .ref h₁.objs.size, .ref (h₁.objs.size + 1)] } }) :=
  .of_wp fun A R s h => by
    refine cps fun gZ hZ => ?_
    obtain ⟨hp, g, d, tk, os⟩ := s
    refine hZ ?_
    clear hZ gZ
    obtain ⟨hz, h⟩ := h
    have hsub := sub_zip
    have it : ∀ (A : Around) (E : Value → Shared → Prop) (Q : List Value → Shared → Prop),
        (∀ bs h', Zits prog w A₀ F hp dss bs ⟨h', g, d, tk, os⟩ → Ext hp h' → Q (bs.map fun b => .ref b.it) ⟨h', g, d, tk, os⟩) → wpAny (model prog w) A (Builtin.SmallTypes.iterAll vs) Q E ⟨hp, g, d, tk, os⟩ :=
      fun A E Q hQ => wpAny_iterAll (s := ⟨hp, g, d, tk, os⟩) A₀ hh hz (Ext.refl _) (Nat.le_refl _) fun bs h' Z x => hQ bs h' Z x
    unfold Builtin.«zip.__new__»
    wp_walk using it
    intro bs h' Z x
    have hbl : bs.length ≤ 4 := by
      have e1 : bs.length = dss.length := by rw [← Z.ds, List.length_map]
      have e2 := hz.length
      (first | lia | omega)
    refine wpAny_bind (wpAny_newTuple ?_ (hsz := by rw [sizeLine_eq]; simp; (first | lia | omega)))
    refine wpAny_bind (wpAny_newTuple ?_ (hsz := by rw [sizeLine_eq]; simp; (first | lia | omega)))
    refine wpAny_bind (m := Builtin.SmallTypes.newRecord _ _) ?_
    unfold Builtin.SmallTypes.newRecord
    dsimp only
    refine wpAny_newObj_type (wpAny_pure ⟨_, rfl, ?_⟩) (by simp [sizeOk, Builtin.SmallTypes.ownedTupleFields, sizeLine_eq])
    have := h bs h' Z x
    simpa [Builtin.SmallTypes.ownedTupleFields, Heap.size_push, List.map_map, Function.comp_def] using this
theorem made_zip (lf : Live F s) (hh : A.handled = none) {vs : List Value} {dss : List (List D)} {n : Nat} {Q : Value → Shared → Prop} (hl : 2 ≤ vs.length ∧ vs.length ≤ 4) (x : Zss prog w F s.heap vs dss) (hn : ∀ ds ∈ dss, ds.length = n)
    (hct : checkTypeCall "zip" ⟨vs, []⟩ = pure ()) (hcn : checkBuiltinCall "zip.__new__" ⟨.type "zip" :: vs, []⟩ = pure ()) (hok : ∀ obj, argsOk "object.__init__" ⟨obj :: vs, []⟩)
    (h : ∀ z s', Evl s s' → (∀ (E' : Value → Shared → Prop) (Q' : Value → Shared → Prop), (Made prog w A F true true (zipN n dss) s.heap (.ref z) s' → Q' (.ref z) s') → wpAny (model prog w) A (pyIter (.ref z)) Q' E' s') → Q (.ref z) s') :
    wpAny (model prog w) A (call (.type "zip") vs) Q E s := by
  refine callType_meetsIn PySem.F.called_zip hct hcn PySem.F.entry_zip_new PySem.F.entry_object_init (zip_new (F := F) A.in1 (show A.in1.handled = none from hh) vs dss hl.2) ⟨x, fun bs h₁ Z xt => ?_⟩ (Q₁ := fun obj s₁ => s₁.TypeIs obj "zip" ∧ Q obj s₁)
    fun obj _ hq => ⟨hq.1, hok obj, _, object_init_meets PySem.F.called_zip.init.lookup PySem.F.called_zip.made (by decide), hq.1, rfl, hq.2⟩
  have hbl : bs.length = vs.length := by
    have e1 : bs.length = dss.length := by rw [← Z.ds, List.length_map]
    have e2 := x.length
    (first | lia | omega)
  have s1 : ((h₁.push { cls := .type "tuple", data := .seq (bs.map fun b => Value.ref b.it).toArray })).objs.size = h₁.objs.size + 1 := Heap.size_push ..
  have s2 : ((h₁.push { cls := .type "tuple", data := .seq (bs.map fun b => Value.ref b.it).toArray }).push { cls := .type "tuple", data := .seq (bs.map fun _ => Value.none).toArray }).objs.size = h₁.objs.size + 1 + 1 := by rw [Heap.size_push, s1]
  generalize hH : (((h₁.push { cls := .type "tuple", data := .seq (bs.map fun b => Value.ref b.it).toArray }).push { cls := .type "tuple", data := .seq (bs.map fun _ => Value.none).toArray }).push { cls := .type "zip", data := .fields #[.none, .bool false, .bool false, .ref h₁.objs.size, .ref (h₁.objs.size + 1)] }) = H
  have hz : IsZip H (h₁.objs.size + 1 + 1) h₁.objs.size (h₁.objs.size + 1) .none := by
    rw [← hH, ← s2]; exact Heap.get?_push_size _ rfl
  have hTO : ItsAt H (h₁.objs.size + 1) (bs.map fun _ => Value.none) := by
    rw [← hH, ← s1]; exact Heap.get?_push_of_some _ (Heap.get?_push_size _ rfl)
  have hTI : ItsAt H h₁.objs.size (bs.map fun b => Value.ref b.it) := by
    rw [← hH]; exact Heap.get?_push_of_some _ (Heap.get?_push_of_some _ (Heap.get?_push_size _ rfl))
  have up : Ext h₁ H := fun a o e => by rw [← hH]; exact Heap.get?_push_of_some _ (Heap.get?_push_of_some _ (Heap.get?_push_of_some _ e))
  have Zp' := Z.zp (A := A) (hbl ▸ hl) (TI := h₁.objs.size) (TO := h₁.objs.size + 1) (z := h₁.objs.size + 1 + 1) (Nat.le_refl _) (Nat.lt_succ_self _) (Nat.lt_succ_self _)
  show _ ∧ _
  refine ⟨⟨_, hz, rfl⟩, h _ _ (Evl.of fun a o e => up a o (xt a o e)) fun E' Q' hQ' => wpAny_pyIter_zip hz (hQ' ⟨fun a o e => up a o (xt a o e), _, _, Itr.zip Zp' (n := n) ?_ lf ?_, 0, ?_, Nat.zero_le _, hz, hTI, ⟨_, by simp, hTO⟩, ?_, fun a o _ e => up a o (xt a o e)⟩)⟩
  · intro b hb; exact hn _ (by rw [← Z.ds]; exact List.mem_map.mpr ⟨b, hb, rfl⟩)
  · exact Nat.le_trans Z.sz (Nat.le_succ_of_le (Nat.le_succ _))
  · rw [List.drop_zero, Z.ds]
  · intro b hb
    exact (Z.dr b hb).frame _ _ _ (Z.st b hb) fun a o _ e => up a o e
theorem zip_args2 (a b : Value) : checkTypeCall "zip" ⟨[a, b], []⟩ = pure () ∧ checkBuiltinCall "zip.__new__" ⟨[.type "zip", a, b], []⟩ = pure () ∧ ∀ o, argsOk "object.__init__" ⟨[o, a, b], []⟩ :=
  ⟨PySem.F.typeCall_zip_2 a b, PySem.F.newCall_zip_2 a b, fun o => PySem.F.args_object_init_3 o a b⟩
theorem zip_args3 (a b c : Value) : checkTypeCall "zip" ⟨[a, b, c], []⟩ = pure () ∧ checkBuiltinCall "zip.__new__" ⟨[.type "zip", a, b, c], []⟩ = pure () ∧ ∀ o, argsOk "object.__init__" ⟨[o, a, b, c], []⟩ :=
  ⟨by kernel_rfl, by kernel_rfl, fun o => by
    unfold argsOk; rw [signature?_of (id := "object.__init__") (n := ['_', '_', 't', 'i', 'n', 'i', '_', '_']) (o := ['t', 'c', 'e', 'j', 'b', 'o']) (by kernel_rfl) PySem.F.owner_object]; kernel_rfl⟩
theorem zip_args4 (a b c d : Value) : checkTypeCall "zip" ⟨[a, b, c, d], []⟩ = pure () ∧ checkBuiltinCall "zip.__new__" ⟨[.type "zip", a, b, c, d], []⟩ = pure () ∧ ∀ o, argsOk "object.__init__" ⟨[o, a, b, c, d], []⟩ :=
  ⟨by kernel_rfl, by kernel_rfl, fun o => by
    unfold argsOk; rw [signature?_of (id := "object.__init__") (n := ['_', '_', 't', 'i', 'n', 'i', '_', '_']) (o := ['t', 'c', 'e', 'j', 'b', 'o']) (by kernel_rfl) PySem.F.owner_object]; kernel_rfl⟩
theorem zip_args {vs : List Value} (hl : 2 ≤ vs.length ∧ vs.length ≤ 4) : checkTypeCall "zip" ⟨vs, []⟩ = pure () ∧ checkBuiltinCall "zip.__new__" ⟨.type "zip" :: vs, []⟩ = pure () ∧ ∀ o, argsOk "object.__init__" ⟨o :: vs, []⟩ := by
  match vs, hl with
  | [a, b], _ => exact zip_args2 a b
  | [a, b, c], _ => exact zip_args3 a b c
  | [a, b, c, d], _ => exact zip_args4 a b c d
  | [], h => exact absurd h.1 (by simp)
  | [_], h => exact absurd h.1 (by simp)
  | _ :: _ :: _ :: _ :: _ :: _, h => exact absurd h.2 (by simp)
end
end Mine
end
section
open PySem PySem.Calls PyProof.Rows
namespace Mine
section
variable {prog : Program} {w : World} {A : Around} {E : Value → Shared → Prop} {s : Shared} {F : Addr → Prop}
theorem ints_cons {i : Int} {r : List D} : ints? (.int i :: r) = (ints? r).map (i :: ·) := rfl
theorem ints_inv {d : D} {ds : List D} {is : List Int} (e : ints? (d :: ds) = some is) : ∃ i is', d = .int i ∧ is = i :: is' ∧ ints? ds = some is' := by
  cases d with
  | int i =>
    rw [ints_cons] at e
    obtain ⟨is', h1, rfl⟩ := Option.map_eq_some_iff.mp e
    exact ⟨i, is', rfl, rfl, h1⟩
  | _ => exact nomatch e
theorem ints_are {h : Heap} {vs : List Value} {ds : List D} : ∀ {is : List Int}, Reps w prog F h vs ds → ints? ds = some is → IntsAre vs is := by
  induction ds generalizing vs with
  | nil => intro is r e; cases e; rw [show vs = [] from r.view]; exact .nil
  | cons d ds ih =>
    intro is r e
    obtain ⟨i, is', rfl, rfl, e2⟩ := ints_inv e
    obtain ⟨v, vs, rfl, a, r2⟩ := r.view
    obtain ⟨t, rfl⟩ := a.view
    exact .cons _ _ (ih r2 e2)
theorem minL_mem : ∀ (is : List Int) (i : Int), minL i is ∈ i :: is
  | [], _ => .head _
  | x :: is, i => by
    rw [minL]
    rcases List.mem_cons.mp (minL_mem is (if x < i then x else i)) with h | h
    · rw [h]; split
      · exact .tail _ (.head _)
      · exact .head _
    · exact .tail _ (.tail _ h)
theorem minL_le : ∀ (is : List Int) (i : Int), ∀ a ∈ i :: is, minL i is ≤ a
  | [], i, a, ha => by simp at ha; subst ha; exact Int.le_refl _
  | x :: is, i, a, ha => by
    rw [minL]
    have h0 := minL_le is (if x < i then x else i) _ (.head _)
    rcases List.mem_cons.mp ha with rfl | ha
    · refine Int.le_trans h0 ?_; split <;> (first | lia | omega)
    · rcases List.mem_cons.mp ha with rfl | ha
      · refine Int.le_trans h0 ?_; split <;> (first | lia | omega)
      · exact minL_le is _ a (.tail _ ha)
theorem maxL_mem : ∀ (is : List Int) (i : Int), maxL i is ∈ i :: is
  | [], _ => .head _
  | x :: is, i => by
    rw [maxL]
    rcases List.mem_cons.mp (maxL_mem is (if x > i then x else i)) with h | h
    · rw [h]; split
      · exact .tail _ (.head _)
      · exact .head _
    · exact .tail _ (.tail _ h)
theorem maxL_ge : ∀ (is : List Int) (i : Int), ∀ a ∈ i :: is, a ≤ maxL i is
  | [], i, a, ha => by simp at ha; subst ha; exact Int.le_refl _
  | x :: is, i, a, ha => by
    rw [maxL]
    have h0 := maxL_ge is (if x > i then x else i) _ (.head _)
    rcases List.mem_cons.mp ha with rfl | ha
    · refine Int.le_trans ?_ h0; split <;> (first | lia | omega)
    · rcases List.mem_cons.mp ha with rfl | ha
      · refine Int.le_trans ?_ h0; split <;> (first | lia | omega)
      · exact maxL_ge is _ a (.tail _ ha)
theorem sum_ints0 (hh : A.handled = none) {l : Addr} {vs : List Value} {ns : List Int} {Q : Value → Shared → Prop} (hl : s.heap.IsList l vs.toArray) (hi : IntsAre vs ns)
    (h : ∀ h' tk t', Ext s.heap h' → Q (.int ns.sum t') { s with heap := h', toks := tk }) : wpAny (model prog w) A (call (.builtin "sum") [.ref l]) Q E s := by
  obtain ⟨xs, hx⟩ := hi.allInts.items
  have hl' : s.heap.IsList l (intItems xs) := hx ▸ hl
  refine sum_intListG hh hl' fun h' tk t' hk => ?_
  have e1 : ns = xs.toList.map (·.1) := by
    rw [← nums_intItems, ← hx]
    exact (show numsOf vs.toArray.toList = ns from hi.numsOf).symm
  have e2 : preSum (numAt xs) xs.size = ns.sum := by
    rw [preSum_eq, e1, List.take_of_length_le (by simp)]
  rw [e2]
  exact h h' tk t' hk
theorem min_ints0 (hh : A.handled = none) {l : Addr} {vs : List Value} {ns : List Int} {Q : Value → Shared → Prop} (hl : s.heap.IsList l vs.toArray) (hi : IntsAre vs ns) (hne : 0 < ns.length)
    (h : ∀ h' M (t : Tok) tk, Ext s.heap h' → M ∈ ns → (∀ a, a ∈ ns → M ≤ a) → Q (.int M t) { s with heap := h', toks := tk }) : wpAny (model prog w) A (call (.builtin "min") [.ref l]) Q E s := by
  obtain ⟨xs, e⟩ := hi.allInts.items
  have hns : ns = xs.toList.map (·.1) := by rw [← hi.numsOf, ← nums_intItems, ← e]
  have hsz : 0 < xs.size := by
    have h3 := hne; rw [hns, List.length_map, Array.length_toList] at h3; exact h3
  rw [e] at hl
  refine min_intList hh hl hsz fun v h' tk hv hk => ?_
  obtain ⟨t, rfl⟩ := intItems_at hv
  obtain ⟨h1, h2⟩ := argBest_lt (numAt xs) (xs.size - 1)
  refine h _ _ t tk hk ?_ fun a ha => ?_
  · rw [hns, numAt_eq]; exact getD_mem (by rw [List.length_map, Array.length_toList]; (first | lia | omega))
  · rw [hns] at ha
    obtain ⟨j, hj, rfl⟩ := mem_getD ha
    rw [List.length_map, Array.length_toList] at hj
    rw [← numAt_eq]; exact h2 j (by (first | lia | omega))
theorem max_ints0 (hh : A.handled = none) {l : Addr} {vs : List Value} {ns : List Int} {Q : Value → Shared → Prop} (hl : s.heap.IsList l vs.toArray) (hi : IntsAre vs ns) (hne : 0 < ns.length)
    (h : ∀ h' M (t : Tok) tk, Ext s.heap h' → M ∈ ns → (∀ a, a ∈ ns → a ≤ M) → Q (.int M t) { s with heap := h', toks := tk }) : wpAny (model prog w) A (call (.builtin "max") [.ref l]) Q E s := by
  obtain ⟨xs, e⟩ := hi.allInts.items
  have hns : ns = xs.toList.map (·.1) := by rw [← hi.numsOf, ← nums_intItems, ← e]
  have hsz : 0 < xs.size := by
    have h3 := hne; rw [hns, List.length_map, Array.length_toList] at h3; exact h3
  rw [e] at hl
  refine max_intList hh hl hsz fun v h' tk hv hk => ?_
  obtain ⟨t, rfl⟩ := intItems_at hv
  obtain ⟨h1, h2⟩ := argBest_gt (numAt xs) (xs.size - 1)
  refine h _ _ t tk hk ?_ fun a ha => ?_
  · rw [hns, numAt_eq]; exact getD_mem (by rw [List.length_map, Array.length_toList]; (first | lia | omega))
  · rw [hns] at ha
    obtain ⟨j, hj, rfl⟩ := mem_getD ha
    rw [List.length_map, Array.length_toList] at hj
    rw [← numAt_eq]; exact h2 j (by (first | lia | omega))
noncomputable def Bi.name : Bi → String
  | .sum => "sum" | .len => "len" | .min => "min" | .max => "max" | .abs => "abs" | .isTuple => "isinstance"
noncomputable def Bi.more : Bi → List Value
  | .isTuple => [.type "tuple"]
  | _ => []
theorem one_view {d : D} {vs : List Value} (r : Reps w prog F s.heap vs [d]) : ∃ v, vs = [v] ∧ Rep w prog F s.heap v d := by
  obtain ⟨v, vs, rfl, a, r⟩ := r.view
  rw [show vs = [] from r.view]; exact ⟨v, rfl, a⟩
theorem two_view {d e : D} {vs : List Value} (r : Reps w prog F s.heap vs [d, e]) : ∃ v v', vs = [v, v'] ∧ Rep w prog F s.heap v d ∧ Rep w prog F s.heap v' e := by
  obtain ⟨v, vs, rfl, a, r⟩ := r.view
  obtain ⟨v', rfl, b⟩ := one_view r
  exact ⟨v, v', rfl, a, b⟩
theorem sum_sound (hh : A.handled = none) {vs : List Value} {ds : List D} {Q : D → Prop} (r : Reps w prog F s.heap vs ds) (hq : biW .sum ds Q) : wpAny (model prog w) A (call (.builtin "sum") vs) (Po w prog F s Q) E s := by
  obtain ⟨d, rfl, h1⟩ := on1_inv hq
  obtain ⟨xs, rfl, is, hi, _, h2⟩ := onL_inv h1
  obtain ⟨v, rfl, a⟩ := one_view r
  obtain ⟨l, vs, rfl, _, e, r⟩ := a.view
  exact sum_ints0 hh e (ints_are r hi) fun h' tk t' x => po_int h2 (Evl.of x)
theorem lenW_inv {d : D} {Q : D → Prop} (h : lenW d Q) : (∃ xs, d = .lst xs ∧ fits xs.length ∧ Q (.int xs.length)) ∨ ∃ xs, d = .dct xs ∧ fits xs.length ∧ Q (.int xs.length) := by
  cases d <;> first | exact .inl ⟨_, rfl, h⟩ | exact .inr ⟨_, rfl, h⟩ | exact h.elim
theorem len_sound (hS : F sysModules) {vs : List Value} {ds : List D} {Q : D → Prop} (r : Reps w prog F s.heap vs ds) (hq : biW .len ds Q) : wpAny (model prog w) A (call (.builtin "len") vs) (Po w prog F s Q) E s := by
  obtain ⟨d, rfl, h1⟩ := on1_inv hq
  obtain ⟨v, rfl, a⟩ := one_view r
  rcases lenW_inv h1 with ⟨xs, rfl, hf, h2⟩ | ⟨xs, rfl, hf, h2⟩
  · obtain ⟨l, vs, rfl, _, e, r⟩ := a.view
    unfold fits at hf
    refine call_len_list e (by rw [List.size_toArray, r.length]; (first | lia | omega)) (po_int ?_ Evl.toks)
    rw [List.size_toArray, r.length]; exact h2
  · obtain ⟨l, vs, rfl, hF, e, r⟩ := a.view
    unfold fits at hf
    refine call_len_dict (knd := kind prog w) (beq_eq_false_iff_ne.mpr fun q => hF (q ▸ hS)) e (by rw [r.length]; (first | lia | omega)) ?_
    rw [r.length]; exact po_int h2 Evl.toks
theorem min_sound (hh : A.handled = none) {vs : List Value} {ds : List D} {Q : D → Prop} (r : Reps w prog F s.heap vs ds) (hq : biW .min ds Q) : wpAny (model prog w) A (call (.builtin "min") vs) (Po w prog F s Q) E s := by
  rcases on12_inv hq with ⟨d, rfl, h1⟩ | ⟨d, e, rfl, h1⟩
  · obtain ⟨v, rfl, a⟩ := one_view r
    obtain ⟨xs, rfl, i, is, hi, h2⟩ := onL_inv h1
    obtain ⟨l, vs, rfl, _, e, r⟩ := a.view
    refine min_ints0 hh e (ints_are r hi) (Nat.succ_pos _) fun h' M t tk x h1 h3 => po_int ?_ (Evl.of x)
    rw [show M = minL i is from Int.le_antisymm (h3 _ (minL_mem _ _)) (minL_le _ _ _ h1)]; exact h2
  · obtain ⟨v, v', rfl, a, b⟩ := two_view r
    obtain ⟨x, t, y, u, rfl, rfl, h2⟩ := onI2 (k := fun a b => Q (.int (if b < a then b else a))) a b h1
    refine min_two_ints hh fun h' tk z => ?_
    by_cases c : y < x
    · rw [if_pos c] at h2 ⊢; exact po_int h2 (Evl.of z)
    · rw [if_neg c] at h2 ⊢; exact po_int h2 (Evl.of z)
theorem max_sound (hh : A.handled = none) {vs : List Value} {ds : List D} {Q : D → Prop} (r : Reps w prog F s.heap vs ds) (hq : biW .max ds Q) : wpAny (model prog w) A (call (.builtin "max") vs) (Po w prog F s Q) E s := by
  rcases on12_inv hq with ⟨d, rfl, h1⟩ | ⟨d, e, rfl, h1⟩
  · obtain ⟨v, rfl, a⟩ := one_view r
    obtain ⟨xs, rfl, i, is, hi, h2⟩ := onL_inv h1
    obtain ⟨l, vs, rfl, _, e, r⟩ := a.view
    refine max_ints0 hh e (ints_are r hi) (Nat.succ_pos _) fun h' M t tk x h1 h3 => po_int ?_ (Evl.of x)
    rw [show M = maxL i is from Int.le_antisymm (maxL_ge _ _ _ h1) (h3 _ (maxL_mem _ _))]; exact h2
  · obtain ⟨v, v', rfl, a, b⟩ := two_view r
    obtain ⟨x, t, y, u, rfl, rfl, h2⟩ := onI2 (k := fun a b => Q (.int (if b > a then b else a))) a b h1
    refine max_two_ints hh fun h' tk z => ?_
    by_cases c : y > x
    · rw [if_pos c] at h2 ⊢; exact po_int h2 (Evl.of z)
    · rw [if_neg c] at h2 ⊢; exact po_int h2 (Evl.of z)
theorem isTupW_inv {d : D} {Q : D → Prop} (h : isTupW d Q) : (∃ xs, d = .tup xs ∧ Q (.bool true)) ∨ ∃ i, d = .int i ∧ Q (.bool false) := by
  cases d <;> first | exact .inl ⟨_, rfl, h⟩ | exact .inr ⟨_, rfl, h⟩ | exact h.elim
theorem isTup_sound {vs : List Value} {ds : List D} {Q : D → Prop} (r : Reps w prog F s.heap vs ds) (hq : biW .isTuple ds Q) : wpAny (model prog w) A (call (.builtin "isinstance") (vs ++ [.type "tuple"])) (Po w prog F s Q) E s := by
  obtain ⟨d, rfl, h1⟩ := on1_inv hq
  obtain ⟨v, rfl, a⟩ := one_view r
  rcases isTupW_inv h1 with ⟨xs, rfl, h2⟩ | ⟨i, rfl, h2⟩
  · obtain ⟨l, vs, rfl, _, ⟨o, e, hc, _⟩, r⟩ := a.view
    exact call_isinstance_yes (Tx := "tuple") ⟨o, e, hc⟩ (show typeOf (.type "tuple") = pure (.type "type") by kernel_rfl) (by rw [isSubtype_type]; kernel_rfl) ⟨_, h2, .refl _ _, .bool _⟩
  · obtain ⟨t, rfl⟩ := a.view
    exact call_isinstance (isinstance_false_int (by decide) (show typeOf (.type "tuple") = pure (.type "type") by kernel_rfl) PySem.F.sub_int_tuple) ⟨_, h2, Evl.toks, .bool _⟩
theorem bi_sound (hS : F sysModules) (hh : A.handled = none) {b : Bi} {vs : List Value} {ds : List D} {Q : D → Prop} (r : Reps w prog F s.heap vs ds) (hq : biW b ds Q) :
    wpAny (model prog w) A (call (.builtin b.name) (vs ++ b.more)) (Po w prog F s Q) E s := by
  have e : ∀ {b : Bi}, b.more = [] → vs ++ b.more = vs := fun e => by rw [e, List.append_nil]
  cases b with
  | isTuple => exact isTup_sound r hq
  | sum => rw [e rfl]; exact sum_sound hh r hq
  | len => rw [e rfl]; exact len_sound hS r hq
  | min => rw [e rfl]; exact min_sound hh r hq
  | max => rw [e rfl]; exact max_sound hh r hq
  | abs =>
    rw [e rfl]
    obtain ⟨d, rfl, h1⟩ := on1_inv hq
    obtain ⟨v, rfl, a⟩ := one_view r
    obtain ⟨i, rfl, h2⟩ := onI_inv h1
    obtain ⟨t, rfl⟩ := a.view
    exact PyProof.Rows.call_abs_int fun u tk => po_int h2 Evl.toks
end
end Mine
end
section
open PySem PySem.Calls PyProof.Rows
namespace Mine
noncomputable def writable (lo : Bool) (names : List (Str × NameKind)) (x : Str) : Bool := names.lookup x == some .local || (!lo && names.lookup x == some .cell)
noncomputable def tgtName (lo : Bool) (names : List (Str × NameKind)) (tbl : List Str) (i : Nat) : Expr → Bool
  | .Name x _ => tbl[i]? == some x && writable lo names x
  | _ => false
noncomputable def tgtNames (lo : Bool) (names : List (Str × NameKind)) (tbl : List Str) : List Nat → List Expr → Bool
  | [], [] => true
  | i :: is, e :: es => tgtName lo names tbl i e && tgtNames lo names tbl is es
  | _, _ => false
noncomputable def okT (lo : Bool) (names : List (Str × NameKind)) (tbl : List Str) : Tgt → Expr → Bool
  | .nm i, e => tgtName lo names tbl i e
  | .tp is, .Tuple es _ _ => tgtNames lo names tbl is es
  | _, _ => false
noncomputable def Wr (lo : Bool) (env : Env) (W : Addr → Prop) : Addr → Prop := fun b => W b ∧ (b = env.locals ∨ lo = false)
section
variable {prog : Program} {w : World} {A : Around} {E : Value → Shared → Prop} {s s' s₁ : Shared} {s₀ : Base} {env : Env} {tbl : List Str} {N N' W W' : Addr → Prop} {ρ : Rho} {lo : Bool}
theorem tgtName_inv {names : List (Str × NameKind)} {i : Nat} {e : Expr} (h : tgtName lo names tbl i e = true) : ∃ x p, e = .Name x p ∧ tbl[i]? = some x ∧ writable lo names x = true := by
  cases e <;> first | cases h | skip
  rename_i x p
  simp only [tgtName, Bool.and_eq_true, beq_iff_eq] at h
  exact ⟨x, p, rfl, h.1, h.2⟩
theorem Home.write {x : Str} {a : Addr} {b : Bool} (H : Home env x a b) (hw : writable lo env.scope.names x = true) : Home env x a true ∧ (a = env.locals ∨ lo = false) := by
  cases H with
  | loc h => exact ⟨.loc h, .inl rfl⟩
  | cel h hc =>
    have : env.scope.names.lookup x = some .cell := h
    refine ⟨.cel h hc, .inr ?_⟩
    simpa [writable, this] using hw
  | fre h hc =>
    have : env.scope.names.lookup x = some .free := h
    simp [writable, this] at hw
theorem assign_name {i : Nat} {e : Expr} {v : Value} {d : D} {Q : Unit → Shared → Prop} (S : St w prog env tbl s₀ N W ρ s) (R : Frm env tbl N W) (ht : tgtName lo env.scope.names tbl i e = true) (r : Rep w prog (fun a => N a ∨ W a) s.heap v d)
    (h : ∀ s', St w prog env tbl s₀ N W (ρ.set i (some (.sh d))) s' → Aft (Wr lo env W) s s' → Q () s') : wpAny (model prog w) A (assign e env v) Q E s := by
  obtain ⟨x, p, rfl, hx, hw⟩ := tgtName_inv ht
  obtain ⟨a, b, H⟩ := R.home x (List.mem_of_getElem? hx)
  obtain ⟨H', hl⟩ := H.write hw
  exact wpAny_assign_Name (S.store R hx H' r fun s' S' a' => h s' S' (a'.mono fun b hb => by subst hb; exact ⟨R.homeW x (List.mem_of_getElem? hx) _ H', hl⟩))
theorem assignEach_names {names : List (Str × NameKind)} : ∀ {is : List Nat} {es : List Expr}, tgtNames lo names tbl is es = true → assignEach es env = es.map fun e => (false, assign e env)
  | [], [], _ => rfl
  | i :: is, e :: es, h => by
    simp only [tgtNames, Bool.and_eq_true] at h
    obtain ⟨x, p, rfl, _⟩ := tgtName_inv h.1
    show (false, assign (.Name x p) env) :: assignEach es env = _
    rw [assignEach_names h.2]; rfl
  | [], _ :: _, h => by cases h
  | _ :: _, [], h => by cases h
theorem tgtNames_length {names : List (Str × NameKind)} : ∀ {is : List Nat} {es : List Expr}, tgtNames lo names tbl is es = true → is.length = es.length
  | [], [], _ => rfl
  | i :: is, e :: es, h => by
    simp only [tgtNames, Bool.and_eq_true] at h
    simp [tgtNames_length h.2]
  | [], _ :: _, h => by cases h
  | _ :: _, [], h => by cases h
theorem assign_order : ∀ {is : List Nat} {es : List Expr} {vs : List Value} {ds : List D} {ρ : Rho} {s : Shared} {Q : Unit → Shared → Prop}, tgtNames lo env.scope.names tbl is es = true → St w prog env tbl s₀ N W ρ s → Frm env tbl N W →
    Reps w prog (fun a => N a ∨ W a) s.heap vs ds → is.length = ds.length → (∀ s', St w prog env tbl s₀ N W (ρ.setAll is ds) s' → Aft (Wr lo env W) s s' → Q () s') →
    wpAny (model prog w) A (assignInOrder (es.map fun e => assign e env) vs) Q E s
  | [], [], vs, ds, ρ, s, Q, _, S, R, r, hl, h => by
    cases ds with
    | nil => cases r; exact wpAny_pure (h _ S (.refl _ _))
    | cons _ _ => simp at hl
  | i :: is, e :: es, vs, ds, ρ, s, Q, ht, S, R, r, hl, h => by
    simp only [tgtNames, Bool.and_eq_true] at ht
    cases ds with
    | nil => simp at hl
    | cons d ds =>
      cases r with
      | @cons v _ vs _ rv r =>
        show wpAny _ _ (assignInOrder (assign e env :: es.map fun e => assign e env) (v :: vs)) _ _ _
        unfold assignInOrder
        refine wpAny_bind (wpAny_holding (assign_name S R ht.1 rv fun s₁ S₁ a₁ => ?_))
        have k : ∀ a o, ¬ (N a ∨ W a) → s.heap.get? a = some o → ¬ (N a ∨ W a) ∧ s₁.heap.get? a = some o := fun a o hF e => ⟨hF, a₁.heap a o (fun q => hF (.inr q.1)) e⟩
        exact assign_order ht.2 S₁ R (r.go k) (by simpa using hl) fun s' S' a' => h s' S' (a₁.trans a')
  | [], _ :: _, _, _, _, _, _, h, _, _, _, _, _ => by cases h
  | _ :: _, [], _, _, _, _, _, h, _, _, _, _, _ => by cases h
theorem asg_sound (hh : A.handled = none) {t : Tgt} {e : Expr} {v : Value} {d : D} {P : Rho → Prop} (S : St w prog env tbl s₀ N W ρ s) (R : Frm env tbl N W) (ht : okT lo env.scope.names tbl t e = true) (r : Rep w prog (fun a => N a ∨ W a) s.heap v d)
    (hq : asgW t d ρ P) {Q : Unit → Shared → Prop} (h : ∀ ρ' s', P ρ' → St w prog env tbl s₀ N W ρ' s' → Aft (Wr lo env W) s s' → Q () s') : wpAny (model prog w) A (assign e env v) Q E s := by
  cases t with
  | nm i => exact assign_name S R ht r fun s' S' a' => h _ s' hq S' a'
  | tp is =>
    cases e with
    | Tuple es k p =>
      cases r with
      | @tup l vs ds hF el rs =>
        obtain ⟨hl, hq⟩ := hq
        have ha := assignEach_names (env := env) ht
        refine wpAny_assign_Tuple hh el (by rw [ha]; simp [← tgtNames_length ht, hl, rs.length]) ?_ fun h' x => ?_
        · rw [ha, List.findIdx?_eq_none_iff]; simp
        · have ev : Evl s { s with heap := h' } := Evl.of (tk := s.toks) fun b o e => x b o (Nat.ne_of_lt (Heap.lt_size e)) e
          rw [ha, List.map_map]
          refine assign_order ht (S.step ev) R (rs.ext ev.ext) hl fun s' S' a' => h _ s' hq S' (ev.aft.trans a')
      | none => exact hq.elim
      | bool _ => exact hq.elim
      | int _ _ => exact hq.elim
      | str _ _ => exact hq.elim
      | lst _ _ _ => exact hq.elim
      | dct _ _ _ => exact hq.elim
    | _ => cases ht
end
end Mine
end
section
open PySem PySem.Calls PyProof.Rows
namespace Mine
noncomputable def turnShape (ipos : Pos) (t : Expr) (it : Value) (ifs : List Expr) (env : Env) (fin nxt : Sem Fin) : Sem Fin := do
  standAt ipos
  match ← pyNext it with
  | none => pure (.done .next)
  | some v =>
    letOwnedTupleGo t it v
    assign t env v
    let mut ok := true
    for c in ifs do
      if ok then ok ← isTrue c env (eval c env)
    if ok then fin else nxt
noncomputable abbrev ifsRun (ifs : List Expr) (env : Env) : Sem Bool := forIn ifs true fun c r => if r = true then do let ok ← isTrue c env (eval c env); pure (ForInStep.yield ok) else pure (ForInStep.yield r)
section
variable {prog : Program} {w : World} {A : Around} {E : Value → Shared → Prop} {R : Result → Shared → Prop} {s : Shared}
theorem turn_of {ipos : Pos} {t : Expr} {it : Value} {ifs : List Expr} {env : Env} {fin nxt : Sem Fin} {Q : Fin → Shared → Prop}
    (h : wpAny (model prog w) A (pyNext it) (fun r s₁ => match r with
      | none => Q (.done .next) s₁
      | some v => wpAny (model prog w) A (letOwnedTupleGo t it v) (fun _ s₁' => wpAny (model prog w) A (assign t env v) (fun _ s₂ => wpAny (model prog w) A (ifsRun ifs env) (fun ok s₃ =>
          if ok = true then wpAny (model prog w) A fin Q E s₃ else wpAny (model prog w) A nxt Q E s₃) E s₂) E s₁') E s₁) E s) :
    wpAny (model prog w) A (turnShape ipos t it ifs env fin nxt) Q E s := by
  unfold turnShape
  refine wpAny_bind (wpAny_standAt (wpAny_bind (wpAny_mono h (fun r s₁ h₁ => ?_) fun _ _ h' => h')))
  cases r with
  | none => exact wpAny_pure h₁
  | some v =>
    refine wpAny_bind (wpAny_mono h₁ (fun _ s₂ h₂ => wpAny_bind (wpAny_mono h₂ (fun _ s₃ h₃ => wpAny_bind (wpAny_mono h₃ (fun ok s₄ h₄ => ?_) fun _ _ h' => h')) fun _ _ h' => h')) fun _ _ h' => h')
    cases ok with
    | false => exact h₄
    | true => exact h₄
theorem compLoop_L {elt : Expr} {gens : List Comprehension} {scope : Scope} {pos : Pos} {depth : Nat} {it acc : Value} {env : Env} {ipos : Pos} {t : Expr} {ifs : List Expr} {fin : Sem Fin}
    (hs : compTurn (.ListComp elt gens scope pos) depth it acc env = turnShape ipos t it ifs env fin (again (.compLoop (.ListComp elt gens scope pos) depth it acc env)))
    (I : Nat → Shared → Prop)
    (turn : ∀ n s, I n s → wpAny (model prog w) A (pyNext it) (fun r s₁ => match r with
      | none => R (.ok .next) s₁
      | some v => wpAny (model prog w) A (letOwnedTupleGo t it v) (fun _ s₁' => wpAny (model prog w) A (assign t env v) (fun _ s₂ => wpAny (model prog w) A (ifsRun ifs env) (fun ok s₃ =>
          if ok = true then wpAny (model prog w) A fin (fun f s₄ => f = .again (.compLoop (.ListComp elt gens scope pos) depth it acc env) ∧ ∃ m, m < n ∧ I m s₄) (fun _ _ => False) s₃ else ∃ m, m < n ∧ I m s₃) (fun _ _ => False) s₂) (fun _ _ => False) s₁') (fun _ _ => False) s₁) (fun _ _ => False) s)
    (n : Nat) (h : I n s) : codeAny (model prog w) A (.compLoop (.ListComp elt gens scope pos) depth it acc env) R s := by
  refine codeAny_loop rfl I (fun n s hI => ?_) n h
  show wpAny _ A ((compTurn (.ListComp elt gens scope pos) depth it acc env).onRaise (fun x => do noteFrame x env; theTreesLotGoes x)) _ _ s
  refine wpAny_noted ?_
  rw [hs]
  refine wpAny_mono (turn_of (Q := fun fin s' => match fin with | .done f => R (.ok f) s' | .again c' => c' = .compLoop (.ListComp elt gens scope pos) depth it acc env ∧ ∃ m, m < n ∧ I m s') (E := fun _ _ => False)
    (wpAny_mono (turn n s hI) (fun r s₁ h₁ => ?_) fun _ _ h' => h')) (fun _ _ h' => h') fun _ _ h' => h'.elim
  cases r with
  | none => exact h₁
  | some v =>
    refine wpAny_mono h₁ (fun _ s₂ h₂ => wpAny_mono h₂ (fun _ s₃ h₃ => wpAny_mono h₃ (fun ok s₄ h₄ => ?_) fun _ _ h' => h') fun _ _ h' => h') fun _ _ h' => h'
    cases ok with
    | false => exact wpAny_pure ⟨rfl, h₄⟩
    | true => exact wpAny_mono h₄ (fun f s₅ h₅ => by obtain ⟨rfl, h₅⟩ := h₅; exact ⟨rfl, h₅⟩) fun _ _ h' => h'
theorem shape_L1 (elt t iter : Expr) (ifs : List Expr) (scope : Scope) (pos : Pos) (it acc : Value) (env : Env) :
    compTurn (.ListComp elt [⟨t, iter, ifs, 0⟩] scope pos) 0 it acc env = turnShape iter.pos t it ifs env ((do let _ ← call (.builtin "list.append") [acc, ← eval elt env] : Sem Unit) >>= fun _ => again (.compLoop (.ListComp elt [⟨t, iter, ifs, 0⟩] scope pos) 0 it acc env))
      (again (.compLoop (.ListComp elt [⟨t, iter, ifs, 0⟩] scope pos) 0 it acc env)) := rfl
theorem compStart_L {elt : Expr} {gens : List Comprehension} {scope : Scope} {pos : Pos} {depth : Nat} {it acc : Value} {env : Env} {g : Comprehension} (hg : gens[depth]? = some g) (ha : g.is_async = 0)
    (hi : ∀ (Q : Value → Shared → Prop) (E : Value → Shared → Prop), Q it s → wpAny (model prog w) A (pyIter it) Q E s)
    (h0 : codeAny (model prog w) A (.compLoop (.ListComp elt gens scope pos) depth it acc env) R s) : codeAny (model prog w) A (.compStart (.ListComp elt gens scope pos) depth it acc env) R s := by
  refine codeAny_of_tree ?_
  show wpAny _ _ ((compStart (.ListComp elt gens scope pos) depth it acc env).onRaise (fun x => do noteFrame x env; standAt theWindowsPlace)) _ _ s
  refine wpAny_notedAt ?_
  unfold compStart
  have e1 : ((clausesOf (.ListComp elt gens scope pos))[depth]?) = some g := hg
  rw [e1]
  simp only [Option.elim_some, ha, bne_self_eq_false, Bool.false_eq_true, if_false]
  refine wpAny_bind (wpAny_askSetting (wpAny_ite ?_))
  split
  · first
      | exact wpAny_bind (wpAny_pure (wpAny_pure (And.intro rfl h0)))
      | exact wpAny_pure (And.intro rfl h0)
  · exact wpAny_bind (wpAny_rule (wpAny_bind (wpAny_standAt (wpAny_bind (hi _ _ (wpAny_pure (And.intro rfl h0)))))))
end
end Mine
end
section
open PySem PySem.Calls PyProof.Rows
namespace Mine
noncomputable def isLocal : NameKind → Bool
  | .local => true | _ => false
noncomputable def isFree : NameKind → Bool
  | .free => true | _ => false
noncomputable def isCell : NameKind → Bool
  | .cell => true | _ => false
noncomputable def plainName (x : Str) : Bool := !(x == ("__debug__" : Str)) && !(x == ("__classdict__" : Str))
noncomputable def capOk (names pnames : List (Str × NameKind)) (ptbl : List Str) : List Str → List (Option Nat) → Bool
  | [], [] => true
  | x :: tbl, none :: cap => names.lookup x == some .local && capOk names pnames ptbl tbl cap
  | x :: tbl, some j :: cap => ptbl[j]? == some x && names.lookup x == some .free && (pnames.lookup x == some .cell || pnames.lookup x == some .free) && capOk names pnames ptbl tbl cap
  | _, _ => false
noncomputable def scopeOk (names pnames : List (Str × NameKind)) (ptbl tbl : List Str) (cap : List (Option Nat)) : Bool :=
  capOk names pnames ptbl tbl cap && decide tbl.Nodup && tbl.all plainName && decide (names.map (·.1)).Nodup &&
  names.all fun p => !isCell p.2 && (!isLocal p.2 || names.lookup p.1 == some .local) && (!isFree p.2 || (ptbl.contains p.1 && (pnames.lookup p.1 == some .cell || pnames.lookup p.1 == some .free)))
section
variable {prog : Program} {w : World} {A : Around} {E : Value → Shared → Prop} {s s' : Shared} {s₀ : Base} {env : Env} {tbl tbl' : List Str} {N W : Addr → Prop} {ρ : Rho} {scope : Scope} {cap : List (Option Nat)}
theorem closure_aux : ∀ (names : List (Str × NameKind)) (acc : List (Str × Addr)) (f : Str × NameKind → List (Str × Addr) → Sem (ForInStep (List (Str × Addr)))),
    (∀ n k cs, f (n, k) cs = if k == .free then (do let c ← cellOf env n; pure (.yield ((n, c) :: cs))) else pure (.yield cs)) →
    (∀ n, (n, NameKind.free) ∈ names → ∃ c, env.cells.lookup n = some c) → (names.map (·.1)).Nodup → (∀ n c, (n, c) ∈ acc → env.cells.lookup n = some c ∧ n ∉ names.map (·.1)) → (acc.map (·.1)).Nodup →
    ∃ cl, (forIn names acc f : Sem _) = pure cl ∧ (∀ n c, (n, c) ∈ cl → env.cells.lookup n = some c) ∧ (cl.map (·.1)).Nodup ∧ (∀ n c, (n, c) ∈ acc → (n, c) ∈ cl) ∧ ∀ n, (n, NameKind.free) ∈ names → ∃ c, (n, c) ∈ cl
  | [], acc, f, _, _, _, ha, hn => ⟨acc, by rw [List.forIn_nil], fun n c h => (ha n c h).1, hn, fun _ _ h => h, fun n h => by cases h⟩
  | (n, k) :: names, acc, f, hf, hc, hd, ha, hn => by
    rw [List.map_cons, List.nodup_cons] at hd
    have hc' : ∀ n', (n', NameKind.free) ∈ names → ∃ c, env.cells.lookup n' = some c := fun n' h => hc n' (.tail _ h)
    rw [List.forIn_cons, hf]
    by_cases hk : k = .free
    · subst hk
      obtain ⟨c, hcc⟩ := hc n (.head _)
      rw [if_pos (by decide)]
      have e1 : cellOf env n = pure c := by unfold cellOf; rw [hcc]
      obtain ⟨cl, h1, h2, h3, h4, h5⟩ := closure_aux names ((n, c) :: acc) f hf hc' hd.2 (fun n' c' h => by
        rcases List.mem_cons.mp h with e | h
        · cases e; exact ⟨hcc, hd.1⟩
        · exact ⟨(ha n' c' h).1, fun q => (ha n' c' h).2 (.tail _ q)⟩) (by
        rw [List.map_cons, List.nodup_cons]
        refine ⟨fun q => ?_, hn⟩
        obtain ⟨⟨n', c'⟩, hm, e⟩ := List.mem_map.mp q
        simp only at e; subst e
        exact (ha _ _ hm).2 (.head _))
      refine ⟨cl, ?_, h2, h3, fun n' c' h => h4 _ _ (.tail _ h), fun n' h => ?_⟩
      · rw [e1]; exact h1
      · rcases List.mem_cons.mp h with e | h
        · cases e; exact ⟨c, h4 _ _ (.head _)⟩
        · exact h5 n' h
    · rw [if_neg (by cases k <;> first | exact absurd rfl hk | decide)]
      obtain ⟨cl, h1, h2, h3, h4, h5⟩ := closure_aux names acc f hf hc' hd.2 (fun n' c' h => ⟨(ha n' c' h).1, fun q => (ha n' c' h).2 (.tail _ q)⟩) hn
      refine ⟨cl, h1, h2, h3, h4, fun n' h => ?_⟩
      rcases List.mem_cons.mp h with e | h
      · cases e; exact absurd rfl hk
      · exact h5 n' h
theorem closure_of (hc : ∀ n, (n, NameKind.free) ∈ scope.names → ∃ c, env.cells.lookup n = some c) (hd : (scope.names.map (·.1)).Nodup) :
    ∃ cl, closureFor scope env = pure cl ∧ (∀ n c, (n, c) ∈ cl → env.cells.lookup n = some c) ∧ (cl.map (·.1)).Nodup ∧ ∀ n, (n, NameKind.free) ∈ scope.names → ∃ c, (n, c) ∈ cl := by
  obtain ⟨cl, h1, h2, h3, _, h5⟩ := closure_aux (env := env) scope.names [] (fun x cs => match x with | (n, k) => if k == .free then (do let c ← cellOf env n; pure (.yield ((n, c) :: cs))) else pure (.yield cs)) (fun n k cs => rfl) hc hd (fun n c h => by cases h) .nil
  refine ⟨cl, ?_, h2, h3, h5⟩
  unfold closureFor
  show ((forIn scope.names ([] : List (Str × Addr)) fun x cs => match x with | (n, k) => if (k == NameKind.free) = true then (do let c ← cellOf env n; pure (.yield ((n, c) :: cs))) else pure (.yield cs) : Sem (List (Str × Addr))) >>= fun cs => pure cs) = pure cl
  rw [h1]; rfl
theorem mem_lookup {α : Type} : ∀ {l : List (Str × α)} {n : Str} {c : α}, (l.map (·.1)).Nodup → (n, c) ∈ l → l.lookup n = some c
  | (k, v) :: r, n, c, hd, hm => by
    rw [List.map_cons, List.nodup_cons] at hd
    rw [List.lookup_cons]
    rcases List.mem_cons.mp hm with e | hm'
    · cases e; simp
    · have : (n == k) = false := by
        rw [beq_eq_false_iff_ne]; intro e; subst e
        exact hd.1 (List.mem_map.mpr ⟨_, hm', rfl⟩)
      rw [this]; exact mem_lookup hd.2 hm'
  | [], _, _, _, hm => by cases hm
theorem relabel_lookup (scope : Scope) (env : Env) (x : Str) : (relabel scope env).names.lookup x = (scope.names.lookup x).map fun k => if (k == .free && env.scope.kind == .function && env.kindOf x == some .cell) then .cell else k := by
  show (scope.names.map _).lookup x = _
  induction scope.names with
  | nil => rfl
  | cons p r ih =>
    obtain ⟨n, k⟩ := p
    rw [List.map_cons]
    show List.lookup x ((if (k == .free && env.scope.kind == .function && env.kindOf n == some .cell) = true then (n, NameKind.cell) else (n, k)) :: _) = _
    by_cases hx : x = n
    · subst hx
      by_cases hc : (k == .free && env.scope.kind == .function && env.kindOf x == some .cell) = true
      · rw [if_pos hc]; simp only [List.lookup_cons, beq_self_eq_true, Option.map_some]; rw [if_pos hc]
      · rw [if_neg hc]; simp only [List.lookup_cons, beq_self_eq_true, Option.map_some]; rw [if_neg hc]
    · have hb : (x == n) = false := by rw [beq_eq_false_iff_ne]; exact hx
      by_cases hc : (k == .free && env.scope.kind == .function && env.kindOf n == some .cell) = true
      · rw [if_pos hc]; simp only [List.lookup_cons, hb]; exact ih
      · rw [if_neg hc]; simp only [List.lookup_cons, hb]; exact ih
theorem capOk_at {names pnames : List (Str × NameKind)} {ptbl : List Str} : ∀ {tbl : List Str} {cap : List (Option Nat)} {i : Nat} {x : Str}, capOk names pnames ptbl tbl cap = true → tbl[i]? = some x →
    (cap[i]? = some none ∧ names.lookup x = some .local) ∨ ∃ j, cap[i]? = some (some j) ∧ ptbl[j]? = some x ∧ names.lookup x = some .free ∧ (pnames.lookup x = some .cell ∨ pnames.lookup x = some .free)
  | y :: tbl, none :: cap, 0, x, h, hi => by
    simp only [capOk, Bool.and_eq_true, beq_iff_eq] at h
    simp at hi; subst hi
    exact .inl ⟨rfl, h.1⟩
  | y :: tbl, some j :: cap, 0, x, h, hi => by
    simp only [capOk, Bool.and_eq_true, beq_iff_eq, Bool.or_eq_true] at h
    simp at hi; subst hi
    exact .inr ⟨j, rfl, h.1.1.1, h.1.1.2, h.1.2⟩
  | y :: tbl, none :: cap, i + 1, x, h, hi => by
    simp only [capOk, Bool.and_eq_true] at h
    simpa using capOk_at h.2 (by simpa using hi)
  | y :: tbl, some j :: cap, i + 1, x, h, hi => by
    simp only [capOk, Bool.and_eq_true] at h
    simpa using capOk_at h.2 (by simpa using hi)
  | _ :: _, [], _, _, h, _ => by cases h
  | [], [], _, _, _, hi => by simp at hi
  | [], _ :: _, _, _, h, _ => by cases h
theorem capOk_back {names pnames : List (Str × NameKind)} {ptbl : List Str} {j : Nat} : ∀ {tbl : List Str} {cap : List (Option Nat)} {k : Nat}, capOk names pnames ptbl tbl cap = true → cap[k]? = some (some j) → ∃ x, tbl[k]? = some x ∧ ptbl[j]? = some x
  | y :: tbl, none :: cap, 0, h, hi => by simp at hi
  | y :: tbl, some j' :: cap, 0, h, hi => by
    simp only [capOk, Bool.and_eq_true, beq_iff_eq, Bool.or_eq_true] at h
    simp at hi; subst hi
    exact ⟨y, rfl, h.1.1.1⟩
  | y :: tbl, none :: cap, k + 1, h, hi => by
    simp only [capOk, Bool.and_eq_true] at h
    simpa using capOk_back h.2 (by simpa using hi)
  | y :: tbl, some _ :: cap, k + 1, h, hi => by
    simp only [capOk, Bool.and_eq_true] at h
    simpa using capOk_back h.2 (by simpa using hi)
  | _ :: _, [], _, h, _ => by cases h
  | [], [], _, _, hi => by simp at hi
  | [], _ :: _, _, h, _ => by cases h
theorem capture_at (ρ : Rho) (cap : List (Option Nat)) (i : Nat) : (capture ρ cap).at i = match cap[i]? with | some (some j) => ρ.at j | _ => none := by
  unfold capture Rho.at
  rw [List.getElem?_map]
  cases h : cap[i]? with
  | none => rfl
  | some o => cases o <;> rfl
theorem St.comp (S : St w prog env tbl s₀ N W ρ s) (R : Frm env tbl N W) (ok : scopeOk scope.names env.scope.names tbl tbl' cap = true) (hk : scope.kind = .function) :
    ∃ cl, closureFor scope env = pure cl ∧ (∀ n c, cl.lookup n = some c → env.cells.lookup n = some c) ∧ (∀ x ∈ scope.names, x.2 ≠ .cell) ∧ (∀ x ∈ scope.names, x.2 = .local → scope.names.lookup x.1 = some .local) ∧
      ∀ (s' : Shared) (C : Addr), Evl s s' → s.heap.get? C = none → s'.heap.Ns C (fun _ => none) →
        St w prog (compEnvC scope cl C env) tbl' s₀ N (fun a => W a ∨ a = C) (capture ρ cap) s' ∧ Frm (compEnvC scope cl C env) tbl' N (fun a => W a ∨ a = C) := by
  simp only [scopeOk, Bool.and_eq_true, decide_eq_true_eq, List.all_eq_true] at ok
  obtain ⟨⟨⟨⟨ok1, ok2⟩, ok3⟩, ok4⟩, ok5⟩ := ok
  obtain ⟨m, cm, own, L, ZL, O1, O2, V⟩ := S.vals
  have cellsome : ∀ x ∈ tbl, (env.scope.names.lookup x = some .cell ∨ env.scope.names.lookup x = some .free) → ∃ c, env.cells.lookup x = some c ∧ (env.scope.names.lookup x = some .cell → W c) ∧ (N c ∨ W c) := by
    intro x hx hkx
    obtain ⟨a, b, H⟩ := R.home x hx
    have HN := R.homeN x hx a b H
    cases H with
    | loc h => have h' : env.scope.names.lookup x = some .local := h; rw [h'] at hkx; simp at hkx
    | cel h hc => exact ⟨a, hc, fun _ => R.homeW x hx a (.cel h hc), HN⟩
    | fre h hc => exact ⟨a, hc, fun q => by have h' : env.scope.names.lookup x = some .free := h; rw [h'] at q; simp at q, HN⟩
  have hfree : ∀ n, (n, NameKind.free) ∈ scope.names → ∃ c, env.cells.lookup n = some c := by
    intro n hn
    have h5 := ok5 _ hn
    simp only [isFree, Bool.not_true, Bool.false_or, Bool.and_eq_true, Bool.or_eq_true, beq_iff_eq, List.contains_iff_mem] at h5
    obtain ⟨c, hc, _⟩ := cellsome n h5.2.1 h5.2.2
    exact ⟨c, hc⟩
  obtain ⟨cl, hcl, c2, c3, c4⟩ := closure_of hfree ok4
  refine ⟨cl, hcl, fun n c h => c2 n c (mem_of_lookup h), ?_, ?_, ?_⟩
  · intro x hx e
    have h5 := ok5 x hx
    rw [e] at h5; simp [isCell] at h5
  · intro x hx e
    have h5 := ok5 x hx
    rw [e] at h5
    simp only [isLocal, Bool.not_true, Bool.false_or, Bool.and_eq_true, beq_iff_eq] at h5
    exact h5.1.2
  · intro s' C ev hC hns
    have cll : ∀ n c, cl.lookup n = some c → env.cells.lookup n = some c := fun n c h => c2 n c (mem_of_lookup h)
    have neC : ∀ a, (∃ o, s.heap.get? a = some o) → a ≠ C := fun a ⟨o, e⟩ q => by rw [q, hC] at e; cases e
    have kind' : ∀ x, (compEnvC scope cl C env).kindOf x = (scope.names.lookup x).map fun k => if (k == .free && env.scope.kind == .function && env.kindOf x == some .cell) then .cell else k := fun x => relabel_lookup scope env x
    have kloc : ∀ x, scope.names.lookup x = some .local → (compEnvC scope cl C env).kindOf x = some .local := fun x h => by
      rw [kind', h]; rfl
    have kfre : ∀ x, scope.names.lookup x = some .free → (compEnvC scope cl C env).kindOf x = if env.scope.names.lookup x = some .cell then some .cell else some .free := fun x h => by
      rw [kind', h]
      show some (if (true && env.scope.kind == .function && env.kindOf x == some .cell) = true then NameKind.cell else NameKind.free) = _
      rw [R.kind]
      by_cases q : env.scope.names.lookup x = some .cell
      · have : env.kindOf x = some .cell := q
        simp [q, this]
      · have : env.kindOf x ≠ some .cell := q
        simp [q, this]
    have cap' : ∀ x, scope.names.lookup x = some .free → ∃ c, cl.lookup x = some c := fun x h => by
      obtain ⟨c, hm⟩ := c4 x (mem_of_lookup h)
      exact ⟨c, mem_lookup c3 hm⟩
    have L' : Loc (compEnvC scope cl C env) s'.heap (fun _ => none) cm := by
      refine ⟨hns, fun n c hc => ?_, ?_, fun n c hc => ?_⟩
      · obtain ⟨o, e, hd⟩ := L.cell n c (cll n c hc)
        exact ⟨o, ev.heap _ _ id e, hd⟩
      · show cl.Pairwise _
        rw [List.pairwise_iff_forall_sublist]
        intro x y hxy e
        have hx := c2 x.1 x.2 (hxy.subset (.head _))
        have hy := c2 y.1 y.2 (hxy.subset (.tail _ (.head _)))
        have hne : x.1 ≠ y.1 := (List.pairwise_iff_forall_sublist.mp c3) (show [x.1, y.1].Sublist (cl.map (·.1)) from List.Sublist.map (fun p : Str × Addr => p.1) hxy)
        exact hne (name_of_addr L.apart (mem_of_lookup hx) (e ▸ mem_of_lookup hy))
      · obtain ⟨o, e, _⟩ := L.cell n c (cll n c hc)
        exact neC c ⟨o, e⟩
    have Wtbl : ∀ x ∈ tbl', x ∈ tbl ∨ scope.names.lookup x = some .local := by
      intro x hx
      obtain ⟨i, hi, e⟩ := List.getElem_of_mem hx
      rcases capOk_at ok1 (i := i) (x := x) (by rw [List.getElem?_eq_getElem hi, e]) with h | ⟨j, _, h, _⟩
      · exact .inr h.2
      · exact .inl (List.mem_of_getElem? h)
    have F' : Frm (compEnvC scope cl C env) tbl' N (fun a => W a ∨ a = C) := by
      have key : ∀ x ∈ tbl', (∃ a b, Home (compEnvC scope cl C env) x a b) ∧ (∀ a b, Home (compEnvC scope cl C env) x a b → N a ∨ W a ∨ a = C) ∧ ∀ a, Home (compEnvC scope cl C env) x a true → W a ∨ a = C := by
        intro x hx
        obtain ⟨i, hi, e⟩ := List.getElem_of_mem hx
        rcases capOk_at ok1 (i := i) (x := x) (by rw [List.getElem?_eq_getElem hi, e]) with ⟨_, h⟩ | ⟨j, _, h1, h2, h3⟩
        · have kl := kloc x h
          refine ⟨⟨C, true, .loc kl⟩, fun a b H => ?_, fun a H => ?_⟩
          · cases H with
            | loc _ => exact .inr (.inr rfl)
            | cel h _ => rw [kl] at h; cases h
            | fre h _ => rw [kl] at h; cases h
          · cases H with
            | loc _ => exact .inr rfl
            | cel h _ => rw [kl] at h; cases h
        · have kf := kfre x h2
          obtain ⟨c, hc⟩ := cap' x h2
          obtain ⟨c', hc', hW, hN⟩ := cellsome x (List.mem_of_getElem? h1) h3
          have ec : c' = c := by have := cll x c hc; rw [hc'] at this; cases this; rfl
          subst ec
          by_cases q : env.scope.names.lookup x = some .cell
          · rw [if_pos q] at kf
            refine ⟨⟨c', true, .cel kf hc⟩, fun a b H => ?_, fun a H => ?_⟩
            · cases H with
              | loc h => rw [kf] at h; cases h
              | cel _ h =>
                have h' : cl.lookup x = some a := h
                rw [hc] at h'; cases h'
                exact hN.imp id .inl
              | fre h _ => rw [kf] at h; cases h
            · cases H with
              | loc h => rw [kf] at h; cases h
              | cel _ h =>
                have h' : cl.lookup x = some a := h
                rw [hc] at h'; cases h'
                exact .inl (hW q)
          · rw [if_neg q] at kf
            refine ⟨⟨c', false, .fre kf hc⟩, fun a b H => ?_, fun a H => ?_⟩
            · cases H with
              | loc h => rw [kf] at h; cases h
              | cel h _ => rw [kf] at h; cases h
              | fre _ h =>
                have h' : cl.lookup x = some a := h
                rw [hc] at h'; cases h'
                exact hN.imp id .inl
            · cases H with
              | loc h => rw [kf] at h; cases h
              | cel h _ => rw [kf] at h; cases h
      refine ⟨hk, ok2, fun x hx => ?_, fun x hx => (key x hx).1, fun x hx => (key x hx).2.1, fun x hx => (key x hx).2.2⟩
      have := ok3 x hx
      simpa [plainName] using this
    refine ⟨⟨S.evl.trans ev, fun b hb => ?_, fun b hb => ?_, fun b hb => .inl (S.zw b hb), s₀.zs _ _ S.zi fun b o _ e => ev.heap b o id e, (fun _ => none), cm, (fun i => match cap[i]? with | some (some j) => own j | _ => []), L', fun b hb => ⟨⟨neC b (S.live b (.inr (S.zw b hb))), fun n c hc => (ZL b hb).1.2 n c (cll n c hc)⟩, fun i lv hr ho => ?_⟩, ?_, ?_, ?_⟩, F'⟩
    · have old : ∀ b, (N b ∨ W b) → ∃ o, s'.heap.get? b = some o := fun b hb => let ⟨o, e⟩ := S.live b hb; ⟨o, ev.heap b o id e⟩
      rcases hb with hb | hb | hb
      · exact old b (.inl hb)
      · exact old b (.inr hb)
      · obtain ⟨o, es, ep, e, _⟩ := hns; exact ⟨o, hb ▸ e⟩
    · rcases hb with hb | hb
      · exact S.fresh b hb
      · cases e : s₀.heap.get? b with
        | none => rfl
        | some o => have := S.evl.heap b o id e; rw [hb, hC] at this; cases this
    · rw [capture_at] at hr
      split at hr
      · rename_i j hj
        try simp only [hj]
        exact (ZL b hb).2 j lv hr ho
      · cases hr
    · intro i lv hr ho a ha
      rw [capture_at] at hr
      split at hr
      · rename_i j hj
        simp only [hj] at ha
        have O := O1 j lv hr ho a ha
        have hlive : ∃ o, s.heap.get? a = some o := S.live a (.inr O.1.1)
        refine ⟨⟨.inl O.1.1, O.1.2⟩, neC a hlive, fun n c hc => O.2.2.1 n c (cll n c hc), fun i' lv' hr' ho' ha' => ?_⟩
        rw [capture_at] at hr'
        split at hr'
        · rename_i j' hj'
          simp only [hj'] at ha'
          have ej : j = j' := O.2.2.2 j' lv' hr' ho' ha'
          subst ej
          have hx : ∀ k : Nat, cap[k]? = some (some j) → ∃ x, tbl'[k]? = some x ∧ tbl[j]? = some x := by
            exact fun k hk => capOk_back ok1 hk
          obtain ⟨x, h1, h2⟩ := hx i hj
          obtain ⟨x', h1', h2'⟩ := hx i' hj'
          rw [h2] at h2'; cases h2'
          obtain ⟨l1, e1⟩ := List.getElem?_eq_some_iff.mp h1
          obtain ⟨l2, e2⟩ := List.getElem?_eq_some_iff.mp h1'
          exact (List.getElem_inj ok2).mp (e1.trans e2.symm)
        · cases hr'
      · cases hr
    · intro i lv hr ho
      rw [capture_at] at hr
      split at hr
      · rename_i j hj
        try simp only [hj]
        exact O2 j lv hr ho
      · cases hr
    · intro i x lv ht hr
      rw [capture_at] at hr
      rcases capOk_at ok1 ht with ⟨h1, _⟩ | ⟨j, h1, h2, h3, h4⟩
      · rw [h1] at hr; cases hr
      · simp only [h1] at hr ⊢
        obtain ⟨v, hv, r⟩ := V j x lv h2 hr
        refine ⟨v, ?_, r.go (fun a o hF e => ⟨fun q => ?_, ev.heap a o id e⟩) fun _ a _ o e => ev.heap a o id e⟩
        · have nl : ¬ env.kindOf x = some .local := fun q => by
            have q' : env.scope.names.lookup x = some .local := q
            rw [q'] at h4; simp at h4
          unfold val at hv ⊢
          rw [if_neg nl] at hv
          have kf := kfre x h3
          rw [if_neg (by rw [kf]; split <;> simp)]
          exact hv
        · rcases q with q | q | q
          · exact hF (.inl q)
          · exact hF (.inr q)
          · exact neC a ⟨o, e⟩ q
end
end Mine
end
section
open PySem PySem.Calls PyProof.Rows
namespace Mine
structure Ring (prog : Program) (w : World) (A : Around) (it : Value) (tp sf : Bool) (h₀ : Heap) (F X : Addr → Prop) (P : List D → Heap → Prop) (env : Env) (s₀ : Base) (N W : Addr → Prop) : Prop where
  itr : Itr prog w A it tp sf h₀ F X P
  xN : ∀ a, X a → N a
  x0 : ∀ a, X a → s₀.heap.get? a = none
  xW : ∀ a, X a → ¬ W a
  xl : ∀ a, X a → a ≠ env.locals
  xc : ∀ a, X a → ∀ n c, env.cells.lookup n = some c → a ≠ c
  nf : ∀ a, N a ∨ W a → F a ∨ X a ∨ h₀.get? a = none
section
variable {prog : Program} {w : World} {A : Around} {E : Value → Shared → Prop} {s s' : Shared} {s₀ : Base} {env : Env} {tbl : List Str} {N W W' : Addr → Prop} {ρ : Rho} {it : Value} {tp sf : Bool} {h₀ : Heap} {F X : Addr → Prop} {P : List D → Heap → Prop} {lo : Bool}
theorem Ring.keep (G : Ring prog w A it tp sf h₀ F X P env s₀ N W) {Y : Addr → Prop} {ds : List D} (p : P ds s.heap) (x : Aft Y s s') (k : ∀ a, Y a → ¬ X a ∧ (F a ∨ h₀.get? a = none)) : P ds s'.heap :=
  G.itr.frame ds _ _ p fun a o ha e => x.heap a o (fun q => by
    obtain ⟨k1, k2⟩ := k a q
    rcases ha with ha | ⟨hF, o', ha⟩
    · exact k1 ha
    · rcases k2 with k2 | k2
      · exact hF k2
      · rw [k2] at ha; cases ha) e
theorem Ring.wx (G : Ring prog w A it tp sf h₀ F X P env s₀ N W) : ∀ a, W a → ¬ X a ∧ (F a ∨ h₀.get? a = none) := fun a ha =>
  ⟨fun q => G.xW a q ha, by
    rcases G.nf a (.inr ha) with q | q | q
    · exact .inl q
    · exact absurd ha (G.xW a q)
    · exact .inr q⟩
theorem Ring.grow {h₁ : Heap} (G : Ring prog w A it tp sf h₀ F X P env s₀ N W) (k : ∀ a, W' a → W a ∨ h₁.get? a = none) (lx : ∀ a, X a → ∃ o, h₁.get? a = some o) (e : Ext h₀ h₁) : Ring prog w A it tp sf h₀ F X P env s₀ N W' where
  itr := G.itr
  xN := G.xN
  x0 := G.x0
  xW := fun a ha q => (k a q).elim (G.xW a ha) fun q => by obtain ⟨o, e⟩ := lx a ha; rw [q] at e; cases e
  xl := G.xl
  xc := G.xc
  nf := fun a ha => by
    rcases ha with ha | ha
    · exact G.nf a (.inl ha)
    · rcases k a ha with q | q
      · exact G.nf a (.inr q)
      · refine .inr (.inr ?_)
        cases q' : h₀.get? a with
        | none => rfl
        | some o => rw [e a o q'] at q; cases q
theorem Ring.aft (G : Ring prog w A it tp sf h₀ F X P env s₀ N W) (S : St w prog env tbl s₀ N W ρ s) (x : Aft X s s') {ds : List D} (p : P ds s'.heap) : St w prog env tbl s₀ N W ρ s' :=
  S.aft x (fun a ha => ⟨G.xN a ha, G.x0 a ha, G.xW a ha, G.xl a ha, G.xc a ha⟩) fun a ha => G.itr.live ds _ p a ha
theorem Ring.pull (hh : A.handled = none) (G : Ring prog w A it tp sf h₀ F X P env s₀ N W) (S : St w prog env tbl s₀ N W ρ s) (R : Frm env tbl N W) {t : Tgt} {e : Expr} (ht : okT lo env.scope.names tbl t e = true) (htp : tp = true → ∃ es k p, e = .Tuple es k p)
    {d : D} {ds : List D} (p : P (d :: ds) s.heap) {PR : Rho → Prop} (hq : asgW t d ρ PR) {Q : Unit → Shared → Prop} {Qn : Shared → Prop}
    (h : ∀ ρ' s', PR ρ' → St w prog env tbl s₀ N W ρ' s' → P ds s'.heap → Aft (fun a => X a ∨ Wr lo env W a) s s' → Q () s') :
    wpAny (model prog w) A (pyNext it) (fun r s₁ => match r with
      | none => Qn s₁
      | some v => wpAny (model prog w) A (letOwnedTupleGo e it v) (fun _ s₁' => wpAny (model prog w) A (assign e env v) Q E s₁') E s₁) E s := by
  have liveNW : ∀ a, (N a ∨ W a) → ∃ o, s.heap.get? a = some o := S.live
  refine wpAny_mono (G.itr.next e d ds s E E (fun v s₁' => wpAny (model prog w) A (assign e env v) Q E s₁') htp p fun v s₁ p₁ a₁ r₁ => ?_) (fun r s₁ h₁ => ?_) fun _ _ q => q
  · have S₁ := G.aft S a₁ p₁
    have r : Rep w prog (fun a => N a ∨ W a) s₁.heap v d := r₁.anti fun a ha => by
      rcases G.nf a ha with q | q | q
      · exact .inl q
      · exact .inr (.inl q)
      · exact .inr (.inr ⟨q, liveNW a ha⟩)
    exact asg_sound hh S₁ R ht r hq fun ρ' s₂ hp S₂ a₂ => h ρ' s₂ hp S₂ (G.keep p₁ a₂ fun a ha => G.wx a ha.1) ((a₁.mono fun a q => .inl q).trans (a₂.mono fun a q => .inr q))
  · obtain ⟨v, rfl, h₁⟩ := h₁
    exact h₁
theorem Ring.stop (G : Ring prog w A it tp sf h₀ F X P env s₀ N W) (S : St w prog env tbl s₀ N W ρ s) (p : P [] s.heap) {e : Expr} {Q : Unit → Shared → Prop} {Qn : Shared → Prop}
    (h : ∀ s', Aft X s s' → Qn s') :
    wpAny (model prog w) A (pyNext it) (fun r s₁ => match r with
      | none => Qn s₁
      | some v => wpAny (model prog w) A (letOwnedTupleGo e it v) (fun _ s₁' => wpAny (model prog w) A (assign e env v) Q E s₁') E s₁) E s :=
  G.itr.done s E _ p fun s' a => h s' a
end
end Mine
end
section
open PySem PySem.Calls PyProof.Rows
namespace Mine
section
variable (prog : Program) (w : World) (A : Around) (env : Env) (tbl : List Str) (s₀ : Base) (N₀ : Addr → Prop)
noncomputable def SndE (ex : Expr) (P : Rho → (D → Prop) → Prop) : Prop :=
  ∀ (N W : Addr → Prop) (ρ : Rho) (s : Shared) (E : Value → Shared → Prop) (Q : D → Prop), (∀ a, N₀ a → N a) → St w prog env tbl s₀ N W ρ s → Frm env tbl N W → P ρ Q → wpAny (model prog w) A (eval ex env) (Po w prog (fun a => N a ∨ W a) s Q) E s
noncomputable def SndC (ex : Expr) (P : Rho → (Bool → Prop) → Prop) : Prop :=
  ∀ (N W : Addr → Prop) (ρ : Rho) (s : Shared) (E : Value → Shared → Prop) (Q : Bool → Prop), (∀ a, N₀ a → N a) → St w prog env tbl s₀ N W ρ s → Frm env tbl N W → P ρ Q → wpAny (model prog w) A (isTrue ex env (eval ex env)) (PoB s Q) E s
noncomputable def SndIfs (ifs : List Expr) (P : Rho → (Bool → Prop) → Prop) : Prop :=
  ∀ (N W : Addr → Prop) (ρ : Rho) (s : Shared) (E : Value → Shared → Prop) (Q : Bool → Prop), (∀ a, N₀ a → N a) → St w prog env tbl s₀ N W ρ s → Frm env tbl N W → P ρ Q → wpAny (model prog w) A (ifsRun ifs env) (PoB s Q) E s
noncomputable def SndI (tp sf : Bool) (ex : Expr) (P : Rho → (List D → Prop) → Prop) : Prop :=
  (∀ x, foldedSetIterable ex env x = pure x) ∧
  ∀ (N W : Addr → Prop) (ρ : Rho) (s : Shared) (E : Value → Shared → Prop) (Q : List D → Prop), (∀ a, N₀ a → N a) → St w prog env tbl s₀ N W ρ s → Frm env tbl N W → P ρ Q →
    wpAny (model prog w) A (eval ex env) (fun xv s₁ => Evl s s₁ ∧ ∀ (E' : Value → Shared → Prop) (R : Value → Shared → Prop),
      (∀ it s₂ ds h₀, Q ds → Evl s₁ s₂ → Ext s.heap h₀ → Made prog w A (fun a => N a ∨ W a) tp sf ds h₀ it s₂ → R it s₂) → wpAny (model prog w) A (pyIter xv) R E' s₁) E s
end
section
variable {prog : Program} {w : World} {A : Around} {E : Value → Shared → Prop} {s s₂ : Shared} {s₀ : Base} {env : Env} {tbl tbl' : List Str} {N W N₀ : Addr → Prop} {ρ : Rho} {scope : Scope} {cap : List (Option Nat)}
theorem St.cellLive (S : St w prog env tbl s₀ N W ρ s) {n : Str} {c : Addr} (h : env.cells.lookup n = some c) : ∃ o, s.heap.get? c = some o := by
  obtain ⟨m, cm, own, L, _⟩ := S.vals
  obtain ⟨o, e, _⟩ := L.cell n c h
  exact ⟨o, e⟩
theorem St.ns (S : St w prog env tbl s₀ N W ρ s) : ∃ m, s.heap.Ns env.locals m := by
  obtain ⟨m, cm, own, L, _⟩ := S.vals
  exact ⟨m, L.ns⟩
structure Cst (prog : Program) (w : World) (A : Around) (it : Value) (tp sf : Bool) (F X : Addr → Prop) (P : List D → Heap → Prop) (h₀ : Heap) (env cenv : Env) (tbl' : List Str) (s₀ : Base) (s : Shared) (N W : Addr → Prop) (D : Addr) (ρ' : Rho) (s₄ : Shared) : Prop where
  st : St w prog cenv tbl' s₀ (fun a => N a ∨ a = D ∨ X a) (fun a => W a ∨ a = cenv.locals) ρ' s₄
  frm : Frm cenv tbl' (fun a => N a ∨ a = D ∨ X a) (fun a => W a ∨ a = cenv.locals)
  ring : Ring prog w A it tp sf h₀ F X P cenv s₀ (fun a => N a ∨ a = D ∨ X a) (fun a => W a ∨ a = cenv.locals)
  evl : Evl s s₄
  dnew : s.heap.get? D = none
  d0 : h₀.get? D = none
  dx : ¬ X D
  dl : D ≠ cenv.locals
  dw : ¬ W D
  dc : ∀ n c, cenv.cells.lookup n = some c → D ≠ c
  cnew : s.heap.get? cenv.locals = none
  xnew : ∀ a, X a → s.heap.get? a = none
  fW : ∀ a, F a → ∃ o, s.heap.get? a = some o
theorem comp_setup (S : St w prog env tbl s₀ N W ρ s) (R : Frm env tbl N W) (ok : scopeOk scope.names env.scope.names tbl tbl' cap = true) (hk : scope.kind = .function) {it : Value} {tp sf : Bool} {h₀ : Heap} {X : Addr → Prop} {P : List D → Heap → Prop} {ds : List D}
    (ev : Evl s s₂) (eh : Ext s.heap h₀) (e2 : Ext h₀ s₂.heap) (T : Itr prog w A it tp sf h₀ (fun a => N a ∨ W a) X P) (p : P ds s₂.heap) (o : Obj) (ho : o.isFreed = false) :
    ∃ cl, closureFor scope env = pure cl ∧ (∀ x ∈ scope.names, x.2 ≠ .cell) ∧ (∀ x ∈ scope.names, x.2 = .local → scope.names.lookup x.1 = some .local) ∧
      ∀ h' tk, h'.Ns (s₂.heap.objs.size + 1) (fun _ => none) → Heap.SameBut (s₂.heap.objs.size + 1) ((s₂.heap.push o).push { cls := .type "dict", data := .dict #[] }) h' →
        Cst prog w A it tp sf (fun a => N a ∨ W a) X P h₀ env (compEnvC scope cl (s₂.heap.objs.size + 1) env) tbl' s₀ s N W s₂.heap.objs.size (capture ρ cap) { s₂ with heap := h', toks := tk } ∧ P ds h' ∧ h'.get? s₂.heap.objs.size = some o := by
  have dnew : s₂.heap.get? s₂.heap.objs.size = none := fresh_size
  have sold : ∀ a, s₂.heap.get? a = none → s.heap.get? a = none := fun a h => by
    cases e : s.heap.get? a with
    | none => rfl
    | some o => rw [ev.heap a o id e] at h; cases h
  have hold : ∀ a, s₂.heap.get? a = none → h₀.get? a = none := fun a h => by
    cases e : h₀.get? a with
    | none => rfl
    | some o => rw [e2 a o e] at h; cases h
  have h0old : ∀ a, h₀.get? a = none → s.heap.get? a = none := fun a h => by
    cases e : s.heap.get? a with
    | none => rfl
    | some o => rw [eh a o e] at h; cases h
  have Xl : ∀ a, X a → ∃ o, s₂.heap.get? a = some o := fun a ha => T.live ds _ p a ha
  have Dat : (s₂.heap.push o).get? s₂.heap.objs.size = some o := Heap.get?_push_size _ ho
  have csz : (s₂.heap.push o).objs.size = s₂.heap.objs.size + 1 := Heap.size_push ..
  have cnone : (s₂.heap.push o).get? (s₂.heap.objs.size + 1) = none := by rw [← csz]; exact fresh_size
  have cnone2 : s₂.heap.get? (s₂.heap.objs.size + 1) = none := by
    cases e : s₂.heap.get? (s₂.heap.objs.size + 1) with
    | none => rfl
    | some o' => rw [Heap.get?_push_of_some _ e] at cnone; cases cnone
  have ev3 : Evl s { s₂ with heap := s₂.heap.push o } := ev.trans (Evl.push _ _)
  have S₃ : St w prog env tbl s₀ (fun a => N a ∨ a = s₂.heap.objs.size ∨ X a) W ρ { s₂ with heap := s₂.heap.push o } := S.moreN ev3 fun a ha => by
    rcases ha with ha | ha | ha
    · exact .inl ha
    · subst ha; exact .inr ⟨sold _ dnew, _, Dat⟩
    · obtain ⟨o', e⟩ := Xl a ha
      exact .inr ⟨h0old a (T.fresh a ha), o', Heap.get?_push_of_some _ e⟩
  have R₃ : Frm env tbl (fun a => N a ∨ a = s₂.heap.objs.size ∨ X a) W := R.moreN fun a ha => .inl ha
  obtain ⟨cl, h1, h2, h3, h4, h5⟩ := S₃.comp R₃ ok hk
  refine ⟨cl, h1, h3, h4, fun h' tk hns hs => ?_⟩
  have up : Ext (s₂.heap.push o) h' := fun a o' e => hs.extBut a o' (fun q => by rw [q, cnone] at e; cases e) (Heap.get?_push_of_some _ e)
  obtain ⟨St4, F4⟩ := h5 { s₂ with heap := h', toks := tk } (s₂.heap.objs.size + 1) (Evl.of up) cnone hns
  have up2 : Ext s₂.heap h' := fun a o' e => up a o' (Heap.get?_push_of_some _ e)
  have xnew : ∀ a, X a → s.heap.get? a = none := fun a ha => h0old a (T.fresh a ha)
  have Xne : ∀ a b, X a → s₂.heap.get? b = none → a ≠ b := fun a b ha hb e => by
    obtain ⟨o', e'⟩ := Xl a ha; rw [e, hb] at e'; cases e'
  have cells : ∀ n c, (compEnvC scope cl (s₂.heap.objs.size + 1) env).cells.lookup n = some c → ∃ o, s.heap.get? c = some o := fun n c h => S.cellLive (h2 n c h)
  refine ⟨⟨St4, F4, ⟨T, fun a ha => .inr (.inr ha), fun a ha => ?_, fun a ha q => ?_, fun a ha => Xne a _ ha cnone2, fun a ha n c hc e => ?_, fun a ha => ?_⟩, ev3.trans (Evl.of up), sold _ dnew, hold _ dnew, fun q => Xne _ _ q dnew rfl, fun q => ?_, fun q => ?_, fun n c hc e => ?_, sold _ cnone2, xnew, S.live⟩, T.frame _ _ _ p fun a o' _ e => up2 a o' e, up _ _ Dat⟩
  · cases e : s₀.heap.get? a with
    | none => rfl
    | some o' => have := S.evl.heap a o' id e; rw [xnew a ha] at this; cases this
  · rcases q with q | q
    · obtain ⟨o', e⟩ := S.live a (.inr q); rw [xnew a ha] at e; cases e
    · exact Xne a _ ha cnone2 q
  · obtain ⟨o', e'⟩ := cells n c hc; rw [← e, xnew a ha] at e'; cases e'
  · rcases ha with (ha | ha | ha) | (ha | ha)
    · exact .inl (.inl ha)
    · exact .inr (.inr (ha ▸ hold _ dnew))
    · exact .inr (.inl ha)
    · exact .inl (.inr ha)
    · exact .inr (.inr (ha ▸ hold _ cnone2))
  · exact absurd q (Nat.ne_of_lt (Nat.lt_succ_self _))
  · obtain ⟨o', e⟩ := S.live _ (.inr q); rw [sold _ dnew] at e; cases e
  · obtain ⟨o', e'⟩ := cells n c hc; rw [← e, sold _ dnew] at e'; cases e'
end
end Mine
end
section
open PySem PySem.Calls PyProof.Rows
namespace Mine
theorem setAll_keep : ∀ (is : List Nat) (ds : List D) (ρ : Rho) (i : Nat), i ∉ is → (ρ.setAll is ds).at i = ρ.at i
  | [], _, _, _, _ => by simp [Rho.setAll]
  | _ :: _, [], _, _, _ => by simp [Rho.setAll]
  | j :: is, d :: ds, ρ, i, h => by
    rw [Rho.setAll, setAll_keep is ds _ i (fun q => h (.tail _ q)), Rho.at_set, if_neg]
    intro q; exact h (q.1 ▸ .head _)
theorem asgW_keep {t : Tgt} {d : D} {ρ : Rho} {P : Rho → Prop} (h : asgW t d ρ P) : asgW t d ρ (fun ρ' => P ρ' ∧ ∀ i, i ∉ t.names → ρ'.at i = ρ.at i) := by
  cases t with
  | nm i => exact ⟨h, fun j hj => by rw [Rho.at_set, if_neg]; intro q; exact hj (q.1 ▸ List.mem_singleton.mpr rfl)⟩
  | tp is =>
    cases d with
    | tup ds => exact ⟨h.1, h.2, fun j hj => setAll_keep is ds ρ j hj⟩
    | _ => exact h.elim
section
variable {prog : Program} {w : World} {A : Around} {E : Value → Shared → Prop} {s s' s₂ : Shared} {s₀ : Base} {env : Env} {tbl : List Str} {N W N₀ : Addr → Prop} {ρ : Rho} {it : Value} {tp sf : Bool} {h₀ : Heap} {F X : Addr → Prop} {P : List D → Heap → Prop}
noncomputable def AccL (w : World) (prog : Program) (N W : Addr → Prop) (Dd : Addr) (ds : List D) (s : Shared) : Prop := ∃ vs, LstAt s.heap Dd vs ∧ Reps w prog (fun a => N a ∨ W a) s.heap vs ds
structure AccAt (env : Env) (s₀ : Base) (N W : Addr → Prop) (Dd : Addr) : Prop where
  n : N Dd
  z : s₀.heap.get? Dd = none
  w : ¬ W Dd
  l : Dd ≠ env.locals
  c : ∀ n c, env.cells.lookup n = some c → Dd ≠ c
theorem Ring.retire {N' : Addr → Prop} (G : Ring prog w A it tp sf h₀ F X P env s₀ N W) (S : St w prog env tbl s₀ N W ρ s) (x : Aft X s s') (k : ∀ a, N' a → N a ∧ ¬ X a) : St w prog env tbl s₀ N' W ρ s' := by
  refine ⟨⟨fun b o _ e => ?_, fun i g e => x.gens i g (S.evl.gens i g e), fun q => x.bare (S.evl.bare q), x.os.trans S.evl.os⟩, fun a ha => ?_, S.fresh, S.zw, s₀.zs _ _ S.zi fun b o hb e => x.heap b o (fun q => G.xW b q (S.zw b hb)) e, ?_⟩
  · refine x.heap b o (fun q => ?_) (S.evl.heap b o id e)
    rw [G.x0 b q] at e; cases e
  · have hn : ¬ X a := fun q => ha.elim (fun h => (k a h).2 q) (G.xW a q)
    obtain ⟨o, e⟩ := S.live a (ha.imp (fun h => (k a h).1) id)
    exact ⟨o, x.heap a o hn e⟩
  · obtain ⟨m, cm, own, L, ZL, O1, O2, V⟩ := S.vals
    refine ⟨m, cm, own, L.keep fun a o ha e => x.heap a o (fun q => ?_) e, ZL, fun i lv hr ho a ha => ⟨⟨(O1 i lv hr ho a ha).1.1, fun q => (O1 i lv hr ho a ha).1.2 (k a q).1⟩, (O1 i lv hr ho a ha).2⟩, O2, fun i y lv ht hr => ?_⟩
    · rcases ha with rfl | ⟨n, hn⟩
      · exact G.xl _ q rfl
      · exact G.xc _ q n a hn rfl
    · obtain ⟨v, hv, r⟩ := V i y lv ht hr
      exact ⟨v, hv, r.go (fun a o hF e => ⟨fun q => hF (q.imp (fun h => (k a h).1) id), x.heap a o (fun q => hF (.inl (G.xN a q))) e⟩) (fun ho a ha o e => x.heap a o (fun q => G.xW a q (O1 i lv hr ho a ha).1.1) e)⟩
theorem AccL.aft {Y : Addr → Prop} {Dd : Addr} {ds : List D} (x : AccL w prog N W Dd ds s) (a : Aft Y s s') (hY : ∀ a, Y a → N a ∨ W a) (hD : ¬ Y Dd) : AccL w prog N W Dd ds s' := by
  obtain ⟨vs, e, r⟩ := x
  exact ⟨vs, e.keep fun o e => a.heap _ _ hD e, r.go fun b o hF e => ⟨hF, a.heap b o (fun q => hF (hY b q)) e⟩⟩
theorem AccAt.aft {Dd : Addr} (H : AccAt env s₀ N W Dd) (S : St w prog env tbl s₀ N W ρ s) (x : Aft (fun a => a = Dd) s s') (hl : ∃ o, s'.heap.get? Dd = some o) : St w prog env tbl s₀ N W ρ s' :=
  S.aft x (fun a ha => by subst ha; exact ⟨H.n, H.z, H.w, H.l, H.c⟩) fun a ha => by subst ha; exact hl
theorem push_sound {Dd : Addr} (H : AccAt env s₀ N W Dd) (S : St w prog env tbl s₀ N W ρ s) {ds : List D} {v : Value} {d : D} (x : AccL w prog N W Dd ds s) (r : Rep w prog (fun a => N a ∨ W a) s.heap v d) {C : D → Prop} (hq : pushW (.lst ds) d C)
    {Q : Value → Shared → Prop} (h : ∀ v' s' ds', C (.lst ds') → AccL w prog N W Dd ds' s' → Aft (fun a => a = Dd) s s' → St w prog env tbl s₀ N W ρ s' → Q v' s') : wpAny (model prog w) A (call (.builtin "list.append") [.ref Dd, v]) Q E s := by
  obtain ⟨vs, e, rs⟩ := x
  obtain ⟨hf, hq⟩ := hq
  unfold fits at hf
  refine wpAny_list_append_plain (hsz := by rw [sizeLine_eq, List.size_toArray, rs.length]; (first | lia | omega)) e fun h' hl hs => ?_
  have af : Aft (fun a => a = Dd) s { s with heap := h' } := Aft.of (tk := s.toks) fun b o hb e => hs.extBut b o hb e
  have hl' : LstAt h' Dd (vs ++ [v]) := by unfold LstAt; rw [show (vs ++ [v]).toArray = vs.toArray.push v by simp]; exact hl
  refine h _ _ _ hq ⟨vs ++ [v], hl', ?_⟩ af (H.aft S af hl'.live)
  have k : ∀ a o, ¬ (N a ∨ W a) → s.heap.get? a = some o → ¬ (N a ∨ W a) ∧ h'.get? a = some o := fun a o hF e => ⟨hF, hs.extBut a o (fun q => hF (.inl (q ▸ H.n))) e⟩
  exact (rs.go k).append (.cons (r.go k) .nil)
theorem emit_L {Dd : Addr} {elt : Expr} {Pelt : Rho → (D → Prop) → Prop} (hN : ∀ a, N₀ a → N a) (he : SndE prog w A env tbl s₀ N₀ elt Pelt) (H : AccAt env s₀ N W Dd) (S : St w prog env tbl s₀ N W ρ s) (R : Frm env tbl N W) {ds : List D} (x : AccL w prog N W Dd ds s) {C : D → Prop}
    (hq : Pelt ρ fun d => pushW (.lst ds) d C) {c : Code} {Q : Fin → Shared → Prop}
    (h : ∀ s' ds', C (.lst ds') → AccL w prog N W Dd ds' s' → Aft (fun a => a = Dd) s s' → St w prog env tbl s₀ N W ρ s' → Q (.again c) s') :
    wpAny (model prog w) A ((do let _ ← call (.builtin "list.append") [.ref Dd, ← eval elt env] : Sem Unit) >>= fun _ => again c) Q E s := by
  refine wpAny_bind (wpAny_bind (wpAny_mono (he N W ρ s E _ hN S R hq) (fun v s₁ ⟨d, hd, ev, r⟩ => ?_) fun _ _ q => q))
  have S₁ := S.step ev
  have x₁ : AccL w prog N W Dd ds s₁ := x.aft (Y := fun _ => False) ev (fun _ q => q.elim) id
  refine wpAny_bind (push_sound H S₁ x₁ r hd fun v' s₂ ds' hc x₂ a₂ S₂ => wpAny_pure (wpAny_pure ?_))
  exact h s₂ ds' hc x₂ (ev.aft.trans a₂) S₂
inductive LpL (w : World) (prog : Program) (env : Env) (tbl : List Str) (s₀ : Base) (N W X : Addr → Prop) (ρ : Rho) (P : List D → Heap → Prop) (Dd : Addr) (s : Shared) (f : D → D → (D → Prop) → Prop) (Q : D → Prop) (n : Nat) (s' : Shared) : Prop
  | mk (ds : List D) (acc : List D) (e : n = ds.length) (p : P ds s'.heap) (x : AccL w prog N W Dd acc s') (S : St w prog env tbl s₀ N W ρ s') (a : Aft (fun a => a = Dd ∨ a = env.locals ∨ X a) s s') (q : loopW f ds (.lst acc) Q) : LpL w prog env tbl s₀ N W X ρ P Dd s f Q n s'
inductive LeL (w : World) (prog : Program) (env : Env) (tbl : List Str) (s₀ : Base) (N W X : Addr → Prop) (ρ : Rho) (Dd : Addr) (s : Shared) (Q : D → Prop) (r : Result) (s' : Shared) : Prop
  | mk (e : r = .ok .next) (acc : List D) (q : Q (.lst acc)) (x : AccL w prog N W Dd acc s') (a : Aft (fun a => a = Dd ∨ a = env.locals ∨ X a) s s') (S : ∀ N' : Addr → Prop, (∀ a, N' a → N a ∧ ¬ X a) → St w prog env tbl s₀ N' W ρ s') : LeL w prog env tbl s₀ N W X ρ Dd s Q r s'
theorem loop_L (hh : A.handled = none) {elt : Expr} {gens : List Comprehension} {scope : Scope} {pos ipos : Pos} {depth : Nat} {Dd : Addr} {e : Expr} {ifs : List Expr} {fin : Sem Fin} {t : Tgt}
    (hs : compTurn (.ListComp elt gens scope pos) depth it (.ref Dd) env = turnShape ipos e it ifs env fin (again (.compLoop (.ListComp elt gens scope pos) depth it (.ref Dd) env)))
    (hN : ∀ a, N₀ a → N a) (G : Ring prog w A it tp sf h₀ F X P env s₀ N W) (R : Frm env tbl N W) (H : AccAt env s₀ N W Dd) (hDX : ¬ X Dd) (hDF : F Dd ∨ h₀.get? Dd = none)
    (ht : okT true env.scope.names tbl t e = true) (htp : tp = true → ∃ es k p, e = .Tuple es k p) (hb : ∀ i ∈ t.names, ρ.at i = none) {Pifs : Rho → (Bool → Prop) → Prop} (hifs : SndIfs prog w A env tbl s₀ N₀ ifs Pifs) {body : Rho → D → (D → Prop) → Prop}
    (hloc : W env.locals)
    (hfin : ∀ ρ' acc s₃ C E, (∀ i, i ∉ t.names → ρ'.at i = ρ.at i) → body ρ' (.lst acc) C → St w prog env tbl s₀ N W ρ' s₃ → AccL w prog N W Dd acc s₃ → (∀ a, X a → ∃ o, s₃.heap.get? a = some o) → Ext h₀ h₀ →
      wpAny (model prog w) A fin (fun f s₄ => f = .again (.compLoop (.ListComp elt gens scope pos) depth it (.ref Dd) env) ∧ ∃ acc', C (.lst acc') ∧ AccL w prog N W Dd acc' s₄ ∧ Aft (fun a => a = Dd ∨ a = env.locals) s₃ s₄ ∧ St w prog env tbl s₀ N W ρ' s₄) E s₃)
    {Q : D → Prop} {ds : List D} {acc : List D} (S : St w prog env tbl s₀ N W ρ s) (p : P ds s.heap) (x : AccL w prog N W Dd acc s)
    (hq : loopW (fun d acc C => asgW t d ρ fun ρ' => Pifs ρ' fun b => match b with | true => body ρ' acc C | false => C acc) ds (.lst acc) Q) :
    codeAny (model prog w) A (.compLoop (.ListComp elt gens scope pos) depth it (.ref Dd) env) (LeL w prog env tbl s₀ N W X ρ Dd s Q) s := by
  have hXN : ∀ a, X a → N a ∨ W a := fun a ha => .inl (G.xN a ha)
  have kD : ∀ a, (a = Dd ∨ a = env.locals) → ¬ X a ∧ (F a ∨ h₀.get? a = none) := fun a ha => by
    rcases ha with rfl | rfl
    · exact ⟨hDX, hDF⟩
    · exact G.wx _ hloc
  refine compLoop_L hs (fun n s' => LpL w prog env tbl s₀ N W X ρ P Dd s (fun d acc C => asgW t d ρ fun ρ' => Pifs ρ' fun b => match b with | true => body ρ' acc C | false => C acc) Q n s') ?_ ds.length ⟨ds, acc, rfl, p, x, S, .refl _ _, hq⟩
  rintro n s' ⟨ds, acc, rfl, p, x, S, a₀, hq⟩
  cases ds with
  | nil =>
    refine G.stop S p fun s₁ a₁ => ?_
    exact ⟨rfl, acc, hq, x.aft a₁ hXN hDX, a₀.trans (a₁.mono fun a q => .inr (.inr q)), fun N' k => G.retire S a₁ k⟩
  | cons d ds =>
    rw [loopW] at hq
    refine G.pull hh S R ht htp p (asgW_keep hq) fun ρ' s₂ ⟨hq', hk⟩ S₂ p₂ a₂ => ?_
    have a₂' : Aft (fun a => a = env.locals ∨ X a) s' s₂ := a₂.mono fun a q => q.elim .inr fun q => .inl (q.2.elim id fun q => by cases q)
    have hY : ∀ a, (a = env.locals ∨ X a) → N a ∨ W a := fun a q => q.elim (fun q => .inr (q ▸ hloc)) (hXN a)
    have hDn : ¬ (Dd = env.locals ∨ X Dd) := fun q => q.elim H.l hDX
    have x₂ := x.aft a₂' hY hDn
    have A₂ : Aft (fun a => a = Dd ∨ a = env.locals ∨ X a) s s₂ := a₀.trans (a₂'.mono fun a q => .inr q)
    refine wpAny_mono (hifs N W ρ' s₂ _ _ hN S₂ R hq') (fun b s₃ ⟨hb', ev⟩ => ?_) fun _ _ q => q
    have S₃ := S₂.step ev
    have x₃ : AccL w prog N W Dd acc s₃ := x₂.aft (Y := fun _ => False) ev (fun _ q => q.elim) id
    have p₃ : P ds s₃.heap := G.keep (Y := fun _ => False) p₂ ev fun _ q => q.elim
    have back : ∀ {s₄ : Shared}, St w prog env tbl s₀ N W ρ' s₄ → St w prog env tbl s₀ N W ρ s₄ := fun S => S.weaken fun i lv hi => by
      rw [hk i (fun q => by rw [hb i q] at hi; cases hi)]; exact hi
    cases b with
    | false =>
      rw [if_neg (by decide)]
      exact ⟨ds.length, Nat.lt_succ_self _, ds, acc, rfl, p₃, x₃, back S₃, A₂.trans ev.aft, hb'⟩
    | true =>
      rw [if_pos rfl]
      refine wpAny_mono (hfin ρ' acc s₃ _ _ hk hb' S₃ x₃ (fun a ha => G.itr.live ds _ p₃ a ha) (Ext.refl _)) (fun f s₄ ⟨hf, acc', hc, x₄, a₄, S₄⟩ => ⟨hf, ds.length, Nat.lt_succ_self _, ds, acc', rfl, G.keep p₃ a₄ kD, x₄, back S₄, ?_, hc⟩) fun _ _ q => q
      exact (A₂.trans ev.aft).trans (a₄.mono fun a q => q.elim .inl fun q => .inr (.inl q))
end
end Mine
end
section
open PySem PySem.Calls PyProof.Rows
namespace Mine
section
variable {prog : Program} {w : World} {A : Around} {E : Value → Shared → Prop} {s s' s₂ : Shared} {s₀ : Base} {env : Env} {tbl tbl' : List Str} {N W N₀ : Addr → Prop} {ρ : Rho} {it : Value} {tp sf : Bool} {h₀ : Heap} {F X : Addr → Prop} {P : List D → Heap → Prop} {scope : Scope} {cap : List (Option Nat)}
theorem Aft.none {s s' : Shared} {a : Addr} (x : Evl s s') (h : s'.heap.get? a = Option.none) : s.heap.get? a = Option.none := by
  cases e : s.heap.get? a with
  | none => rfl
  | some o => rw [x.heap a o id e] at h; cases h
theorem ring_make (S : St w prog env tbl s₀ N W ρ s) (ev : Evl s s₂) (eh : Ext s.heap h₀) (e2 : Ext h₀ s₂.heap) (T : Itr prog w A it tp sf h₀ (fun a => N a ∨ W a) X P) {ds : List D} (p : P ds s₂.heap) :
    Ring prog w A it tp sf h₀ (fun a => N a ∨ W a) X P env s₀ (fun a => N a ∨ X a) W ∧ St w prog env tbl s₀ (fun a => N a ∨ X a) W ρ s₂ ∧ ∀ a, X a → s.heap.get? a = none := by
  have h0old : ∀ a, h₀.get? a = none → s.heap.get? a = none := fun a h => by
    cases e : s.heap.get? a with
    | none => rfl
    | some o => rw [eh a o e] at h; cases h
  have xnew : ∀ a, X a → s.heap.get? a = none := fun a ha => h0old a (T.fresh a ha)
  have Xl : ∀ a, X a → ∃ o, s₂.heap.get? a = some o := fun a ha => T.live ds _ p a ha
  refine ⟨⟨T, fun a ha => .inr ha, fun a ha => ?_, fun a ha q => ?_, fun a ha q => ?_, fun a ha n c hc q => ?_, fun a ha => ?_⟩, S.moreN ev fun a ha => ?_, xnew⟩
  · cases e : s₀.heap.get? a with
    | none => rfl
    | some o' => have := S.evl.heap a o' id e; rw [xnew a ha] at this; cases this
  · obtain ⟨o', e⟩ := S.live a (.inr q); rw [xnew a ha] at e; cases e
  · obtain ⟨m, o, es, ep, e, _⟩ := S.ns; rw [← q, xnew a ha] at e; cases e
  · obtain ⟨o', e⟩ := S.cellLive hc; rw [← q, xnew a ha] at e; cases e
  · rcases ha with (ha | ha) | ha
    · exact .inl (.inl ha)
    · exact .inr (.inl ha)
    · exact .inl (.inr ha)
  · rcases ha with ha | ha
    · exact .inl ha
    · exact .inr ⟨xnew a ha, Xl a ha⟩
theorem capture_none {i : Nat} (h : cap[i]? = some none) (ρ : Rho) : (capture ρ cap).at i = none := by rw [capture_at, h]
theorem listcompG (hh : A.handled = none) (S : St w prog env tbl s₀ N W ρ s) (R : Frm env tbl N W) (hN : ∀ a, N₀ a → N a) {elt iter e : Expr} {ifs : List Expr} {gs : List Comprehension} {pos ipos jpos : Pos} {t : Tgt} {fin : Value → Value → Env → Sem Fin} {body : Rho → D → (D → Prop) → Prop}
    (hs : ∀ it acc cenv, compTurn (.ListComp elt (⟨e, iter, ifs, 0⟩ :: gs) scope pos) 0 it acc cenv = turnShape jpos e it ifs cenv (fin it acc cenv) (again (.compLoop (.ListComp elt (⟨e, iter, ifs, 0⟩ :: gs) scope pos) 0 it acc cenv)))
    (ok : scopeOk scope.names env.scope.names tbl tbl' cap = true) (hk : scope.kind = .function) {PI : Rho → (List D → Prop) → Prop} {Pifs : Rho → (Bool → Prop) → Prop}
    (hit : SndI prog w A env tbl s₀ N₀ tp true iter PI) (ht : okT true (relabel scope env).names tbl' t e = true) (htp : tp = true → ∃ es k p, e = .Tuple es k p) (hc : ∀ i ∈ t.names, cap[i]? = some none)
    (hifs : ∀ cl C, SndIfs prog w A (compEnvC scope cl C env) tbl' s₀ N₀ ifs Pifs)
    (hbody : ∀ cl Cc it N' W' Dd, (∀ a, N₀ a → N' a) → Frm (compEnvC scope cl Cc env) tbl' N' W' → AccAt (compEnvC scope cl Cc env) s₀ N' W' Dd → W' Cc → ∀ ρ' acc s₃ C E, (∀ i, i ∉ t.names → ρ'.at i = (capture ρ cap).at i) → body ρ' (.lst acc) C →
      St w prog (compEnvC scope cl Cc env) tbl' s₀ N' W' ρ' s₃ → AccL w prog N' W' Dd acc s₃ → wpAny (model prog w) A (fin it (.ref Dd) (compEnvC scope cl Cc env)) (fun f s₄ => f = .again (.compLoop (.ListComp elt (⟨e, iter, ifs, 0⟩ :: gs) scope pos) 0 it (.ref Dd) (compEnvC scope cl Cc env)) ∧
        ∃ acc', C (.lst acc') ∧ AccL w prog N' W' Dd acc' s₄ ∧ Aft (fun a => a = Dd ∨ a = Cc) s₃ s₄ ∧ St w prog (compEnvC scope cl Cc env) tbl' s₀ N' W' ρ' s₄) E s₃) {Q : D → Prop} {use : Option (Value → Sem Unit)} {Qf : Value → Shared → Prop}
    (hq : PI ρ fun ds => loopW (fun d acc C => asgW t d (capture ρ cap) fun ρ' => Pifs ρ' fun b => match b with | true => body ρ' acc C | false => C acc) ds (.lst []) Q)
    (hfin : ∀ s' Dd Cc ds, Q (.lst ds) → Evl s s' → s.heap.get? Dd = none → s.heap.get? Cc = none → Dd ≠ Cc → AccL w prog (fun a => N a ∨ a = Cc ∨ a = Dd) W Dd ds s' → (∃ m, s'.heap.Ns Cc m) → compPost (model prog w) A E use Qf (.ref Dd) Cc (.ok .next) s') :
    wpAny (model prog w) A (comprehension (.ListComp elt (⟨e, iter, ifs, 0⟩ :: gs) scope pos) scope env ipos (newList []) false (eval iter env) use) Qf E s := by
  obtain ⟨cl₀, hcl, _, _, hnm, _⟩ := S.comp R ok hk
  refine wpAny_comprehension_free rfl hit.1 hcl hk hnm (wpAny_mono (hit.2 N W ρ s E _ hN S R hq) (fun xv s₁ ⟨ev₁, hI⟩ => hI _ _ fun it s₂ ds h₀ hq ev₂ eh ⟨e2, X, P, T, p⟩ => ?_) fun _ _ q => q)
  obtain ⟨cl, hcl', hcell, _, hset⟩ := comp_setup S R ok hk (ev₁.trans ev₂) eh e2 T p { cls := .type "list", dict := none, data := .seq ([] : List Value).toArray } rfl
  have ecl : cl₀ = cl := by
    have := hcl.symm.trans hcl'
    injection this
  subst ecl
  refine wpAny_newObj_type (wpAny_newFunctionEnv hcell (by intro y hy; simp at hy) (fun h₁ hns₁ hsb₁ => ?_) hk)
  have csz : ({ s₂ with heap := s₂.heap.push { cls := .type "list", dict := none, data := .seq ([] : List Value).toArray } } : Shared).heap.objs.size = s₂.heap.objs.size + 1 := Heap.size_push ..
  rw [csz] at hns₁ hsb₁ ⊢
  obtain ⟨c, p₄, hD⟩ := hset h₁ (s₂.toks + ([] : List (Str × Value)).length) hns₁ hsb₁
  have x₄ : AccL w prog (fun a => N a ∨ a = s₂.heap.objs.size ∨ X a) (fun a => W a ∨ a = (compEnvC scope cl₀ (s₂.heap.objs.size + 1) env).locals) s₂.heap.objs.size [] { s₂ with heap := h₁, toks := s₂.toks + ([] : List (Str × Value)).length } := ⟨[], ⟨0, hD⟩, .nil⟩
  have H : AccAt (compEnvC scope cl₀ (s₂.heap.objs.size + 1) env) s₀ (fun a => N a ∨ a = s₂.heap.objs.size ∨ X a) (fun a => W a ∨ a = (compEnvC scope cl₀ (s₂.heap.objs.size + 1) env).locals) s₂.heap.objs.size :=
    ⟨.inr (.inl rfl), S.evl.none c.dnew, fun q => q.elim c.dw c.dl, c.dl, c.dc⟩
  refine compStart_L rfl rfl (fun Q E q => c.ring.itr.self rfl ds _ E Q p₄ q) (codeAny_mono (loop_L hh (hs _ _ _) (fun a ha => .inl (hN a ha)) c.ring c.frm H c.dx (.inr c.d0) ht htp (fun i hi => capture_none (hc i hi) ρ) (hifs _ _) (body := body) (.inr rfl) ?_ c.st p₄ x₄ hq) ?_)
  · intro ρ' acc s₃ C E hk' hb S₃ x₃ _ _
    exact hbody _ _ _ _ _ _ (fun a ha => .inl (hN a ha)) c.frm H (.inr rfl) ρ' acc s₃ C E hk' hb S₃ x₃
  · rintro r s' ⟨rfl, acc', hq', x', a', hS⟩
    have ev' : Evl s s' := c.evl.trans' a' fun a ha => by
      rcases ha with rfl | rfl | ha
      · exact .inr c.dnew
      · exact .inr c.cnew
      · exact .inr (c.xnew a ha)
    obtain ⟨m, hm⟩ := (hS (fun a => N a ∨ a = s₂.heap.objs.size) (fun a ha => ⟨ha.imp id .inl, fun q => by
      rcases ha with ha | ha
      · obtain ⟨o, e⟩ := S.live a (.inl ha); rw [c.xnew a q] at e; cases e
      · exact c.dx (ha ▸ q)⟩)).ns
    refine hfin s' _ _ acc' hq' ev' c.dnew c.cnew c.dl ?_ ⟨m, hm⟩
    obtain ⟨vs, hl, rs⟩ := x'
    refine ⟨vs, hl, rs.anti fun a ha => ?_⟩
    rcases ha with (ha | ha | ha) | ha
    · exact .inl (.inl ha)
    · exact .inr (.inr ha)
    · exact .inl (.inr (.inl ha))
    · exact .inr (.inl ha)
theorem listcomp1 (hh : A.handled = none) (S : St w prog env tbl s₀ N W ρ s) (R : Frm env tbl N W) (hN : ∀ a, N₀ a → N a) {elt iter e : Expr} {ifs : List Expr} {pos ipos : Pos} {t : Tgt}
    (ok : scopeOk scope.names env.scope.names tbl tbl' cap = true) (hk : scope.kind = .function) {PI : Rho → (List D → Prop) → Prop} {Pifs : Rho → (Bool → Prop) → Prop} {Pelt : Rho → (D → Prop) → Prop}
    (hit : SndI prog w A env tbl s₀ N₀ tp true iter PI) (ht : okT true (relabel scope env).names tbl' t e = true) (htp : tp = true → ∃ es k p, e = .Tuple es k p) (hc : ∀ i ∈ t.names, cap[i]? = some none)
    (hifs : ∀ cl C, SndIfs prog w A (compEnvC scope cl C env) tbl' s₀ N₀ ifs Pifs) (helt : ∀ cl C, SndE prog w A (compEnvC scope cl C env) tbl' s₀ N₀ elt Pelt) {Q : D → Prop} {use : Option (Value → Sem Unit)} {Qf : Value → Shared → Prop}
    (hq : PI ρ fun ds => loopW (fun d acc C => asgW t d (capture ρ cap) fun ρ' => Pifs ρ' fun b => match b with | true => Pelt ρ' (fun d => pushW acc d C) | false => C acc) ds (.lst []) Q)
    (hfin : ∀ s' Dd Cc ds, Q (.lst ds) → Evl s s' → s.heap.get? Dd = none → s.heap.get? Cc = none → Dd ≠ Cc → AccL w prog (fun a => N a ∨ a = Cc ∨ a = Dd) W Dd ds s' → (∃ m, s'.heap.Ns Cc m) → compPost (model prog w) A E use Qf (.ref Dd) Cc (.ok .next) s') :
    wpAny (model prog w) A (comprehension (.ListComp elt [⟨e, iter, ifs, 0⟩] scope pos) scope env ipos (newList []) false (eval iter env) use) Qf E s :=
  listcompG hh S R hN (fun it acc cenv => shape_L1 elt e iter ifs scope pos it acc cenv) ok hk hit ht htp hc hifs (body := fun ρ' acc C => Pelt ρ' (fun d => pushW acc d C))
    (fun cl Cc it N' W' Dd hN' F' H' _ ρ' acc s₃ C E _ hb S₃ x₃ => emit_L hN' (helt _ _) H' S₃ F' x₃ hb fun s' ds' hc' x' a' S' => ⟨rfl, ds', hc', x', a'.mono fun a q => .inl q, S'⟩) hq hfin
end
end Mine
end
section
open PySem PySem.Calls PyProof.Rows
namespace Mine
section
variable {prog : Program} {w : World} {A : Around} {E : Value → Shared → Prop} {s s' s₂ : Shared} {s₀ : Base} {env : Env} {tbl tbl' : List Str} {N W N₀ : Addr → Prop} {ρ : Rho} {it : Value} {tp sf : Bool} {h₀ : Heap} {F X : Addr → Prop} {P : List D → Heap → Prop} {scope : Scope} {cap : List (Option Nat)}
theorem stored_cons {k k' : K} {v v' : Value} {r : List (K × Value)} (hn : ((((k', v') :: r).map (·.1)).Nodup)) : stored ((k', v') :: r) k v = if k' = k then (k', v) :: r else (k', v') :: stored r k v := by
  unfold stored
  by_cases h : k' = k
  · subst h
    simp only [List.any_cons, decide_true, Bool.true_or, if_true, List.map_cons]
    congr 1
    rw [List.map_cons, List.nodup_cons] at hn
    have : ∀ x ∈ r, (if x.1 = k' then (x.1, v) else x) = id x := fun x hx => by
      rw [if_neg]; rfl
      intro e; exact hn.1 (List.mem_map.mpr ⟨x, hx, e⟩)
    rw [List.map_congr_left this, List.map_id]
  · simp only [List.any_cons, decide_eq_false h, Bool.false_or, if_neg h, List.map_cons, List.cons_append]
    split <;> rfl
theorem RepKs.put {h : Heap} {k : K} {v : Value} {d : D} (q : Rep w prog F h v d) : ∀ {ps : List (K × Value)} {kvs : List (K × D)}, RepKs w prog F h ps kvs → (ps.map (·.1)).Nodup → RepKs w prog F h (stored ps k v) (kset k d kvs)
  | _, _, .nil, _ => .cons q .nil
  | _, _, .cons (k := k') a r, hn => by
    rw [stored_cons hn, kset]
    by_cases e : k' = k
    · rw [if_pos e, if_pos e]; exact .cons q r
    · rw [if_neg e, if_neg e]
      rw [List.map_cons, List.nodup_cons] at hn
      exact .cons a (RepKs.put q r hn.2)
theorem DictOf.nodup {h : Heap} {knd : KeyKind prog w K} {a : Addr} {ps : List (K × Value)} (x : h.DictOf knd a ps) : (ps.map (·.1)).Nodup := let ⟨_, _, _, _, _, _, _, _, hn⟩ := x; hn
noncomputable def AccD (w : World) (prog : Program) (N W : Addr → Prop) (Dd : Addr) (kvs : List (K × D)) (s : Shared) : Prop := ∃ ps, s.heap.DictOf (kind prog w) Dd ps ∧ RepKs w prog (fun a => N a ∨ W a) s.heap ps kvs
theorem AccD.aft {Y : Addr → Prop} {Dd : Addr} {kvs : List (K × D)} (x : AccD w prog N W Dd kvs s) (a : Aft Y s s') (hY : ∀ a, Y a → N a ∨ W a) (hD : ¬ Y Dd) : AccD w prog N W Dd kvs s' := by
  obtain ⟨vs, e, r⟩ := x
  exact ⟨vs, e.at fun o e => a.heap _ _ hD e, r.go fun b o hF e => ⟨hF, a.heap b o (fun q => hF (hY b q)) e⟩⟩
end
end Mine
end
section
open PySem PySem.Calls PyProof.Rows
namespace Mine
section
variable {prog : Program} {w : World} {A : Around} {E : Value → Shared → Prop} {s s' s₂ : Shared} {s₀ : Base} {env : Env} {tbl tbl' : List Str} {N W N₀ : Addr → Prop} {ρ : Rho} {it : Value} {tp sf : Bool} {h₀ : Heap} {F X : Addr → Prop} {P : List D → Heap → Prop} {scope : Scope} {cap : List (Option Nat)}
end
end Mine
end
section
open PySem PySem.Calls PyProof.Rows
namespace Mine
inductive FlOk (w : World) (prog : Program) (F : Addr → Prop) (h : Heap) : Flow → Fl → Prop
  | next : FlOk w prog F h .next .next
  | brk : FlOk w prog F h .brk .brk
  | ret {v : Value} {d : D} : Rep w prog F h v d → FlOk w prog F h (.ret v) (.ret d)
inductive ForI (w : World) (prog : Program) (env : Env) (tbl : List Str) (s₀ : Base) (N W X : Addr → Prop) (P : List D → Heap → Prop) (s₂ : Shared) (K : List D → Rho → (Rho → Fl → Prop) → Prop) (Q : Rho → Fl → Prop) (n : Nat) (s' : Shared) : Prop
  | mk (ds : List D) (ρ : Rho) (W₁ : Addr → Prop) (e : n = ds.length) (p : P ds s'.heap) (S : St w prog env tbl s₀ (fun a => N a ∨ X a) W₁ ρ s') (R : Frm env tbl (fun a => N a ∨ X a) W₁) (g : ∀ a, W₁ a → W a ∨ s₂.heap.get? a = none) (a : Aft (fun a => X a ∨ W a) s₂ s') (q : K ds ρ Q) : ForI w prog env tbl s₀ N W X P s₂ K Q n s'
inductive PoS (w : World) (prog : Program) (env : Env) (tbl : List Str) (s₀ : Base) (N W : Addr → Prop) (s : Shared) (Q : Rho → Fl → Prop) (f : Flow) (s' : Shared) : Prop
  | mk (ρ' : Rho) (fl : Fl) (W' : Addr → Prop) (q : Q ρ' fl) (f1 : FlOk w prog (fun a => N a ∨ W' a) s'.heap f fl) (S : St w prog env tbl s₀ N W' ρ' s') (R : Frm env tbl N W') (g : ∀ a, W' a → W a ∨ s.heap.get? a = none) (a : Aft W s s') : PoS w prog env tbl s₀ N W s Q f s'
section
variable (prog : Program) (w : World) (A : Around) (env : Env) (tbl : List Str) (s₀ : Base) (N₀ : Addr → Prop)
noncomputable def SndS (st : Stmt) (P : Rho → (Rho → Fl → Prop) → Prop) : Prop :=
  ∀ (N W : Addr → Prop) (ρ : Rho) (s : Shared) (E : Value → Shared → Prop) (Q : Rho → Fl → Prop), (∀ a, N₀ a → N a) → St w prog env tbl s₀ N W ρ s → Frm env tbl N W → P ρ Q → wpAny (model prog w) A (exec st env) (PoS w prog env tbl s₀ N W s Q) E s
noncomputable def SndSs (sts : List Stmt) (P : Rho → (Rho → Fl → Prop) → Prop) : Prop :=
  ∀ (N W : Addr → Prop) (ρ : Rho) (s : Shared) (E : Value → Shared → Prop) (Q : Rho → Fl → Prop), (∀ a, N₀ a → N a) → St w prog env tbl s₀ N W ρ s → Frm env tbl N W → P ρ Q → wpAny (model prog w) A (execs sts env) (PoS w prog env tbl s₀ N W s Q) E s
end
section
variable {prog : Program} {w : World} {A : Around} {E : Value → Shared → Prop} {s s' s₂ : Shared} {s₀ : Base} {env : Env} {tbl : List Str} {N W W' N₀ : Addr → Prop} {ρ : Rho} {it : Value} {tp sf : Bool} {h₀ : Heap} {F X : Addr → Prop} {P : List D → Heap → Prop}
theorem clr_at (ρ : Rho) (ks : List Nat) (i : Nat) (lv : LV) (h : (ρ.clr ks).at i = some lv) : ρ.at i = some lv := by
  induction ks generalizing ρ with
  | nil => exact h
  | cons k ks ih =>
    have := ih _ h
    rw [Rho.at_set] at this
    split at this
    · cases this
    · exact this
theorem St.clr (S : St w prog env tbl s₀ N W ρ s) (ks : List Nat) : St w prog env tbl s₀ N W (ρ.clr ks) s := S.weaken fun i lv h => clr_at ρ ks i lv h
theorem grow_trans {W₁ W₂ : Addr → Prop} {s₁ : Shared} (g₁ : ∀ a, W₁ a → W a ∨ s.heap.get? a = none) (a₁ : Aft W s s₁) (g₂ : ∀ a, W₂ a → W₁ a ∨ s₁.heap.get? a = none) : ∀ a, W₂ a → W a ∨ s.heap.get? a = none := fun a ha => by
  rcases g₂ a ha with q | q
  · exact g₁ a q
  · by_cases hw : W a
    · exact .inl hw
    · right
      cases e : s.heap.get? a with
      | none => rfl
      | some o => rw [a₁.heap a o hw e] at q; cases q
theorem for_sound (hh : A.handled = none) (S : St w prog env tbl s₀ N W ρ s) (R : Frm env tbl N W) (hN : ∀ a, N₀ a → N a) {iter target : Expr} {body : List Stmt} {pos : Pos} {t : Tgt} {kill : List Nat}
    {PI : Rho → (List D → Prop) → Prop} (hit : SndI prog w A env tbl s₀ N₀ tp sf iter PI) (ht : okT false env.scope.names tbl t target = true) (htp : tp = true → ∃ es k p, target = .Tuple es k p)
    {Pb : Rho → (Rho → Fl → Prop) → Prop} (hb : SndSs prog w A env tbl s₀ N₀ body Pb) {Q : Rho → Fl → Prop} (hq : PI ρ fun ds => forW t kill Pb ds ρ Q) :
    wpAny (model prog w) A (exec (.For target iter body [] pos) env) (PoS w prog env tbl s₀ N W s Q) E s := by
  show wpAny _ _ (do
    standAt pos
    let x ← foldedSetIterable iter env (← eval iter env)
    standAt iter.pos
    runOwn (.forLoop target (← holding [x] (pyIter x)) body [] env) env) _ _ _
  refine wpAny_bind (wpAny_standAt (wpAny_bind (wpAny_mono (hit.2 N W ρ s E _ hN S R hq) (fun xv s₁ ⟨ev₁, hI⟩ => ?_) fun _ _ q => q)))
  refine wpAny_bind (wpAny_of_eq (hit.1 xv) (wpAny_bind (wpAny_standAt (wpAny_bind (wpAny_holding (hI _ _ fun it s₂ ds h₀ hq ev₂ eh ⟨e2, X, P, T, p⟩ => ?_))))))
  obtain ⟨G, S₂, xnew⟩ := ring_make S (ev₁.trans ev₂) eh e2 T p
  have ev := ev₁.trans ev₂
  have Xl : ∀ a, X a → ∃ o, s₂.heap.get? a = some o := fun a ha => T.live ds _ p a ha
  have NX : ∀ a, N a → (N a ∨ X a) ∧ ¬ X a := fun a ha => ⟨.inl ha, fun q => by obtain ⟨o, e⟩ := S.live a (.inl ha); rw [xnew a q] at e; cases e⟩
  have fin : ∀ {s₃ : Shared}, Aft (fun a => X a ∨ W a) s₂ s₃ → Aft W s s₃ := fun a => Aft.trans' (Aft.mono ev fun _ q => q.elim) a fun b hb => hb.elim (fun q => .inr (xnew b q)) .inl
  have gfin : ∀ {W₁ : Addr → Prop}, (∀ a, W₁ a → W a ∨ s₂.heap.get? a = none) → ∀ a, W₁ a → W a ∨ s.heap.get? a = none := fun g a ha => (g a ha).imp id fun q => ev.none q
  refine wpAny_runOwn (codeAny_forLoop_any (A := A) (fun n s' => ForI w prog env tbl s₀ N W X P s₂ (forW t kill Pb) Q n s') ?_ ds.length ⟨ds, ρ, W, rfl, p, S₂, R.moreN fun a => .inl, fun a => .inl, .refl _ _, hq⟩)
  rintro n s₃ ⟨ds, ρ, W₁, rfl, p₃, S₃, R₃, g₃, a₃, hq⟩
  have G₃ : Ring prog w A it tp sf h₀ (fun a => N a ∨ W a) X P env s₀ (fun a => N a ∨ X a) W₁ := G.grow g₃ Xl e2
  cases ds with
  | nil =>
    rw [forW] at hq
    refine G₃.stop S₃ p₃ (e := target) fun s₄ a₄ => ?_
    show wpAny _ _ (pure Flow.next) _ _ _
    refine wpAny_pure ⟨_, _, W₁, hq, .next, (G₃.retire S₃ a₄ NX).clr kill, ⟨R₃.kind, R₃.nodup, R₃.plain, R₃.home, fun x hx a b H => ?_, R₃.homeW⟩, gfin g₃, fin (a₃.trans (a₄.mono fun a => .inl))⟩
    rcases R₃.homeN x hx a b H with (q | q) | q
    · exact .inl q
    · exfalso
      obtain ⟨m, cm, own, L, _⟩ := S₃.vals
      rcases L.home H with rfl | ⟨n, hn⟩
      · exact G₃.xl _ q rfl
      · exact G₃.xc _ q n a hn rfl
    · exact .inr q
  | cons d ds =>
    rw [forW] at hq
    have lessF : ∀ {W₂ : Addr → Prop} {ρ₂ : Rho} {s₅ : Shared}, Frm env tbl (fun a => N a ∨ X a) W₂ → St w prog env tbl s₀ (fun a => N a ∨ X a) W₂ ρ₂ s₅ → Frm env tbl N W₂ := fun R S => ⟨R.kind, R.nodup, R.plain, R.home, fun x hx a b H => by
      rcases R.homeN x hx a b H with (q | q) | q
      · exact .inl q
      · exfalso
        obtain ⟨m, cm, own, L, _⟩ := S.vals
        rcases L.home H with rfl | ⟨n, hn⟩
        · exact G₃.xl _ q rfl
        · exact G₃.xc _ q n a hn rfl
      · exact .inr q, R.homeW⟩
    refine G₃.pull hh S₃ R₃ ht htp p₃ hq fun ρ' s₄ hq' S₄ p₄ a₄ => ?_
    have a₄' : Aft (fun a => X a ∨ W a) s₂ s₄ := a₃.trans' (a₄.mono fun a q => q.imp id (fun q => q.1)) fun a q => q.elim (fun q => .inl (.inl q)) fun q => (g₃ a q).imp .inr id
    refine wpAny_mono (hb _ W₁ ρ' s₄ _ _ (fun a ha => .inl (hN a ha)) S₄ R₃ hq') (fun f s₅ ⟨ρ'', fl, W₂, hq₂, hf, S₅, R₅, g₅, a₅⟩ => ?_) fun _ _ q => q
    have a₅' : Aft (fun a => X a ∨ W a) s₂ s₅ := a₄'.trans' a₅ fun a q => (g₃ a q).imp .inr id
    have g₅' : ∀ a, W₂ a → W a ∨ s₂.heap.get? a = none := fun a ha => by
      rcases g₅ a ha with q | q
      · exact g₃ a q
      · by_cases hw : W a
        · exact .inl hw
        · by_cases hx : X a
          · obtain ⟨o, e⟩ := T.live ds _ p₄ a hx; rw [q] at e; cases e
          · right
            cases e : s₂.heap.get? a with
            | none => rfl
            | some o => rw [a₄'.heap a o (fun q => q.elim hx hw) e] at q; cases q
    cases hf with
    | next =>
      refine ⟨ds.length, Nat.lt_succ_self _, ds, _, W₂, rfl, G₃.keep p₄ a₅ fun a ha => G₃.wx a ha, S₅.clr kill, R₅, g₅', a₅', hq₂⟩
    | brk => exact ⟨_, _, W₂, hq₂, .next, (S₅.clr kill).lessN fun a => .inl, lessF R₅ S₅, gfin g₅', fin a₅'⟩
    | ret r => exact ⟨_, _, W₂, hq₂, .ret (r.anti fun a => Or.imp .inl id), (S₅.clr kill).lessN fun a => .inl, lessF R₅ S₅, gfin g₅', fin a₅'⟩
end
end Mine
end
section
open PySem PySem.Calls PyProof.Rows
namespace Mine
noncomputable def notStar : Expr → Bool
  | .Starred _ _ => false
  | _ => true
noncomputable def notSetE : Expr → Bool
  | .Set _ _ _ => false
  | _ => true
noncomputable def notSlice : Expr → Bool
  | .Slice _ _ _ _ => false
  | _ => true
theorem behind_of {op : CmpOp} {e : Expr} (h : notSetE e = true) : behindInMarks op e = false := by
  cases e <;> first | rfl | cases h
theorem folded_of {e : Expr} {env : Env} (h : notSetE e = true) (x : Value) : foldedSetIterable e env x = pure x := by
  cases e <;> first | rfl | cases h
inductive PoEs (w : World) (prog : Program) (F : Addr → Prop) (s : Shared) (Q : List D → Prop) (vs : List Value) (s' : Shared) : Prop
  | mk (ds : List D) (q : Q ds) (ev : Evl s s') (r : Reps w prog F s'.heap vs ds) : PoEs w prog F s Q vs s'
section
variable (prog : Program) (w : World) (A : Around) (env : Env) (tbl : List Str) (s₀ : Base) (N₀ : Addr → Prop)
noncomputable def SndEs (es : List Expr) (P : Rho → (List D → Prop) → Prop) : Prop :=
  ∀ (pos : Pos) (N W : Addr → Prop) (ρ : Rho) (s : Shared) (E : Value → Shared → Prop) (Q : List D → Prop), (∀ a, N₀ a → N a) → St w prog env tbl s₀ N W ρ s → Frm env tbl N W → P ρ Q →
    wpAny (model prog w) A (spliced (backTo pos (starEach es env))) (PoEs w prog (fun a => N a ∨ W a) s Q) E s
inductive PoO (w : World) (prog : Program) (F : Addr → Prop) (s : Shared) (Q : D → Prop) (v : Value) (s' : Shared) : Prop
  | mk (d : D) (lv : LV) (a : Addr) (t : toLV d = some lv) (q : Q d) (ev : Evl s s') (n : s.heap.get? a = none) (l : ∃ o, s'.heap.get? a = some o) (r : LvRep w prog (fun b => F b ∨ b = a) s'.heap [a] v lv) : PoO w prog F s Q v s'
noncomputable def SndO (ex : Expr) (P : Rho → (D → Prop) → Prop) : Prop :=
  ∀ (N W : Addr → Prop) (ρ : Rho) (s : Shared) (E : Value → Shared → Prop) (Q : D → Prop), (∀ a, N₀ a → N a) → St w prog env tbl s₀ N W ρ s → Frm env tbl N W → P ρ Q → wpAny (model prog w) A (eval ex env) (PoO w prog (fun a => N a ∨ W a) s Q) E s
end
section
variable {prog : Program} {w : World} {A : Around} {E : Value → Shared → Prop} {s s' s₂ : Shared} {s₀ : Base} {env : Env} {tbl : List Str} {N W W' N₀ : Addr → Prop} {ρ : Rho} {F : Addr → Prop}
theorem PoO.po (l : Live F s) {Q : D → Prop} {v : Value} (h : PoO w prog F s Q v s') : Po w prog F s Q v s' := by
  obtain ⟨d, lv, a, hl, hq, ev, hn, ⟨o, ho⟩, r⟩ := h
  have nF : ¬ F a := fun q => by obtain ⟨o, e⟩ := l a q; rw [hn] at e; cases e
  refine ⟨d, hq, ev, ?_⟩
  cases d with
  | lst ds =>
    cases hl
    obtain ⟨b, vs, rfl, hfp, e, r⟩ := r
    cases hfp
    exact .lst nF e.list (r.anti fun b => .inl)
  | dct ds =>
    cases hl
    obtain ⟨b, vs, rfl, hfp, e, r⟩ := r
    cases hfp
    exact .dct nF e (r.go fun b o hF e => ⟨fun q => hF (.inl q), e⟩)
  | _ => cases hl
theorem snd_own {ex : Expr} {P : Rho → (D → Prop) → Prop} (h : SndO prog w A env tbl s₀ N₀ ex P) : SndE prog w A env tbl s₀ N₀ ex P :=
  fun N W ρ s E Q hN S R hq => wpAny_mono (h N W ρ s E Q hN S R hq) (fun v s' x => x.po S.live) fun _ _ q => q
theorem snd_const_int (i : Int) (k : Nat) (p : Pos) : SndE prog w A env tbl s₀ N₀ (.Constant (.int i) k p) (fun _ Q => Q (.int i)) := fun _ _ _ _ _ _ _ _ _ hq => wpAny_Constant_int (po_int hq Evl.toks)
theorem snd_const_str (x : Str) (k : Nat) (p : Pos) : SndE prog w A env tbl s₀ N₀ (.Constant (.str x) k p) (fun _ Q => Q (.str x)) := fun _ _ _ _ _ _ _ _ _ hq => wpAny_Constant_str ⟨_, hq, Evl.toks, .str _ _⟩
theorem snd_const_bool (b : Bool) (k : Nat) (p : Pos) : SndE prog w A env tbl s₀ N₀ (.Constant (.bool b) k p) (fun _ Q => Q (.bool b)) := fun _ _ _ _ _ _ _ _ _ hq => wpAny_Constant_bool ⟨_, hq, .refl _ _, .bool _⟩
theorem snd_var {i : Nat} {x : Str} (p : Pos) (hx : tbl[i]? = some x) : SndE prog w A env tbl s₀ N₀ (.Name x p) (fun ρ Q => match ρ.at i with | some (.sh d) => Q d | _ => False) := fun N W ρ s E Q _ S R hq => by
  dsimp only at hq
  split at hq
  · rename_i d hd
    exact wpAny_Name (S.load R hx hd fun v r => ⟨d, hq, .refl _ _, r⟩) (R.plain x (List.mem_of_getElem? hx)).1
  · exact hq.elim
theorem snd_nil : SndEs prog w A env tbl s₀ N₀ [] (fun _ Q => Q []) := fun _ _ _ _ _ _ _ _ _ _ hq => spliced_nil ⟨[], hq, .refl _ _, .nil⟩
theorem starEach_cons {e : Expr} {es : List Expr} (h : notStar e = true) : starEach (e :: es) env = (false, eval e env) :: starEach es env := by
  cases e <;> first | rfl | cases h
theorem snd_cons {e : Expr} {es : List Expr} {P : Rho → (D → Prop) → Prop} {Ps : Rho → (List D → Prop) → Prop} (hs : notStar e = true) (h : SndE prog w A env tbl s₀ N₀ e P) (hr : SndEs prog w A env tbl s₀ N₀ es Ps) :
    SndEs prog w A env tbl s₀ N₀ (e :: es) (fun ρ Q => P ρ fun d => Ps ρ fun ds => Q (d :: ds)) := fun pos N W ρ s E Q hN S R hq => by
  rw [starEach_cons hs]
  refine spliced_cons (wpAny_mono (h N W ρ s E _ hN S R hq) (fun v s₁ ⟨d, hd, ev, r⟩ => ?_) fun _ _ q => q)
  exact wpAny_mono (hr pos N W ρ s₁ E _ hN (S.step ev) R hd) (fun vs s₂ ⟨ds, hds, ev₂, rs⟩ => ⟨d :: ds, hds, ev.trans ev₂, .cons (r.ext ev₂.ext) rs⟩) fun _ _ q => q
theorem snd_tup {es : List Expr} {Ps : Rho → (List D → Prop) → Prop} (k : Nat) (p : Pos) (h : SndEs prog w A env tbl s₀ N₀ es Ps) : SndE prog w A env tbl s₀ N₀ (.Tuple es k p) (fun ρ Q => Ps ρ fun ds => fits ds.length ∧ Q (.tup ds)) := fun N W ρ s E Q hN S R hq => by
  refine wpAny_Tuple_spliced (wpAny_mono (h p N W ρ s E _ hN S R hq) (fun vs s₁ ⟨ds, ⟨hf, hds⟩, ev, rs⟩ => ⟨?_, _, hds, ev.trans (Evl.push _ _), ?_⟩) fun _ _ q => q)
  · unfold fits at hf; rw [sizeLine_eq, rs.length]; (first | lia | omega)
  · exact .tup (Live.new (Live.step S.live ev)) ⟨_, Heap.get?_push_size _ rfl, rfl, 0, rfl⟩ (rs.ext (Ext.push _ _))
theorem snd_lst {es : List Expr} {Ps : Rho → (List D → Prop) → Prop} (p : Pos) (h : SndEs prog w A env tbl s₀ N₀ es Ps) : SndO prog w A env tbl s₀ N₀ (.List es p) (fun ρ Q => Ps ρ fun ds => fits ds.length ∧ Q (.lst ds)) := fun N W ρ s E Q hN S R hq => by
  refine wpAny_List_spliced (wpAny_mono (h p N W ρ s E _ hN S R hq) (fun vs s₁ ⟨ds, ⟨hf, hds⟩, ev, rs⟩ => ⟨?_, _, .ol ds, s₁.heap.objs.size, rfl, hds, ev.trans (Evl.push _ _), ev.none fresh_size, ⟨_, Heap.get?_push_size _ rfl⟩, _, vs, rfl, rfl, LstAt.new _ _, ?_⟩) fun _ _ q => q)
  · unfold fits at hf; rw [sizeLine_eq, rs.length]; (first | lia | omega)
  · refine rs.go fun a o hF e => ⟨fun q => q.elim hF fun q => ?_, Heap.get?_push_of_some _ e⟩
    rw [q, fresh_size] at e; cases e
theorem snd_bin {op : Bop} {l r : Expr} {Pl Pr : Rho → (D → Prop) → Prop} (p : Pos) (hl : SndE prog w A env tbl s₀ N₀ l Pl) (hr : SndE prog w A env tbl s₀ N₀ r Pr) :
    SndE prog w A env tbl s₀ N₀ (.BinOp l op.op r p) (fun ρ Q => Pl ρ fun a => Pr ρ fun b => binW op a b Q) := fun N W ρ s E Q hN S R hq => by
  refine wpAny_BinOp (wpAny_mono (hl N W ρ s E _ hN S R hq) (fun v s₁ ⟨d, hd, ev, ra⟩ => ?_) fun _ _ q => q)
  refine wpAny_mono (hr N W ρ s₁ E _ hN (S.step ev) R hd) (fun v' s₂ ⟨d', hd', ev₂, rb⟩ => ?_) fun _ _ q => q
  refine wpAny_mono (bin_sound (Live.step (Live.step S.live ev) ev₂) (ra.ext ev₂.ext) rb hd') (fun v s₃ ⟨d, hq, ev₃, r⟩ => ⟨d, hq, (ev.trans ev₂).trans ev₃, r⟩) fun _ _ q => q
theorem snd_cmp {op : Cop} {l r : Expr} {Pl Pr : Rho → (D → Prop) → Prop} (p : Pos) (hS : N₀ sysModules) (hu : A.units + 20 < cLine) (hs : notSetE r = true) (hi : op ≠ .isnone) (hl : SndE prog w A env tbl s₀ N₀ l Pl) (hr : SndE prog w A env tbl s₀ N₀ r Pr) :
    SndE prog w A env tbl s₀ N₀ (.Compare l [op.op] [r] p) (fun ρ Q => Pl ρ fun a => Pr ρ fun b => cmpW op a b fun c => Q (.bool c)) := fun N W ρ s E Q hN S R hq => by
  refine wpAny_Compare1 (wpAny_mono (hl N W ρ s E _ hN S R hq) (fun v s₁ ⟨d, hd, ev, ra⟩ => ?_) fun _ _ q => q) (behind_of hs)
  refine wpAny_mono (hr N W ρ s₁ E _ hN (S.step ev) R hd) (fun v' s₂ ⟨d', hd', ev₂, rb⟩ => ?_) fun _ _ q => q
  exact wpAny_mono (cmp_sound (.inl (hN _ hS)) hu (ra.ext ev₂.ext) rb (fun q => absurd q hi) hd') (fun v s₃ ⟨b, hv, hq, ev₃⟩ => by subst hv; exact ⟨_, hq, (ev.trans ev₂).trans ev₃, .bool _⟩) fun _ _ q => q
theorem snd_cmpC {op : Cop} {l r : Expr} {Pl Pr : Rho → (D → Prop) → Prop} (p : Pos) (hS : N₀ sysModules) (hu : A.units + 20 < cLine) (hs : notSetE r = true) (hi : op ≠ .isnone) (hl : SndE prog w A env tbl s₀ N₀ l Pl) (hr : SndE prog w A env tbl s₀ N₀ r Pr) :
    SndC prog w A env tbl s₀ N₀ (.Compare l [op.op] [r] p) (fun ρ Q => Pl ρ fun a => Pr ρ fun b => cmpW op a b Q) := fun N W ρ s E Q hN S R hq => by
  refine wpAny_isTrue_Compare1 (wpAny_mono (hl N W ρ s E _ hN S R hq) (fun v s₁ ⟨d, hd, ev, ra⟩ => ?_) fun _ _ q => q) (behind_of hs)
  refine wpAny_mono (hr N W ρ s₁ E _ hN (S.step ev) R hd) (fun v' s₂ ⟨d', hd', ev₂, rb⟩ => ?_) fun _ _ q => q
  refine wpAny_mono (cmp_sound (.inl (hN _ hS)) hu (ra.ext ev₂.ext) rb (fun q => absurd q hi) hd') (fun v s₃ ⟨b, hv, hq, ev₃⟩ => ?_) fun _ _ q => q
  subst hv
  exact wpAny_truthy_bool ⟨hq, (ev.trans ev₂).trans ev₃⟩
theorem snd_truth {e : Expr} {P : Rho → (D → Prop) → Prop} (he : ∀ whole, isTrue e env whole = (do let v ← whole; standAt e.pos; holding [v] (truthy v))) (h : SndE prog w A env tbl s₀ N₀ e P) : SndC prog w A env tbl s₀ N₀ e (fun ρ Q => P ρ fun d => truthW d Q) := fun N W ρ s E Q hN S R hq => by
  refine wpAny_isTrue_value (wpAny_mono (h N W ρ s E _ hN S R hq) (fun v s₁ ⟨d, hd, ev, r⟩ => ?_) fun _ _ q => q) (he _)
  exact wpAny_mono (truth_sound r hd) (fun b s₂ ⟨hb, ev₂⟩ => ⟨hb, ev.trans ev₂⟩) fun _ _ q => q
theorem snd_notC {e : Expr} {P : Rho → (Bool → Prop) → Prop} (p : Pos) (h : SndC prog w A env tbl s₀ N₀ e P) : SndC prog w A env tbl s₀ N₀ (.UnaryOp .Not e p) (fun ρ Q => P ρ fun b => Q (!b)) := fun N W ρ s E Q hN S R hq =>
  wpAny_isTrue_Not (h N W ρ s E _ hN S R hq)
theorem snd_ite {c a b : Expr} {Pc : Rho → (Bool → Prop) → Prop} {Pa Pb : Rho → (D → Prop) → Prop} (p : Pos) (hc : SndC prog w A env tbl s₀ N₀ c Pc) (ha : SndE prog w A env tbl s₀ N₀ a Pa) (hb : SndE prog w A env tbl s₀ N₀ b Pb) :
    SndE prog w A env tbl s₀ N₀ (.IfExp c a b p) (fun ρ Q => Pc ρ fun t => match t with | true => Pa ρ Q | false => Pb ρ Q) := fun N W ρ s E Q hN S R hq => by
  refine wpAny_IfExp (wpAny_mono (hc N W ρ s E _ hN S R hq) (fun t s₁ ⟨ht, ev⟩ => ?_) fun _ _ q => q)
  cases t with
  | true => rw [if_pos rfl]; exact wpAny_mono (ha N W ρ s₁ E Q hN (S.step ev) R ht) (fun v s₂ ⟨d, hq, ev₂, r⟩ => ⟨d, hq, ev.trans ev₂, r⟩) fun _ _ q => q
  | false => rw [if_neg (by decide)]; exact wpAny_mono (hb N W ρ s₁ E Q hN (S.step ev) R ht) (fun v s₂ ⟨d, hq, ev₂, r⟩ => ⟨d, hq, ev.trans ev₂, r⟩) fun _ _ q => q
noncomputable def SndA (prog : Program) (w : World) (A : Around) (env : Env) (tbl : List Str) (s₀ : Base) (N₀ : Addr → Prop) (op : BoolOp) (es : List Expr) (P : Rho → (Bool → Prop) → Prop) : Prop :=
  ∀ (N W : Addr → Prop) (ρ : Rho) (s : Shared) (E : Value → Shared → Prop) (Q : Bool → Prop), (∀ a, N₀ a → N a) → St w prog env tbl s₀ N W ρ s → Frm env tbl N W → P ρ Q → wpAny (model prog w) A (allTrue op es env) (PoB s Q) E s
noncomputable def andOp (and : Bool) : BoolOp := if and then .And else .Or
theorem snd_A_nil (and : Bool) : SndA prog w A env tbl s₀ N₀ (andOp and) [] (fun _ Q => Q and) := fun N W ρ s E Q hN S R hq => by
  cases and <;> exact wpAny_pure ⟨hq, .refl _ _⟩
theorem snd_A_cons (and : Bool) {e : Expr} {es : List Expr} {P Ps : Rho → (Bool → Prop) → Prop} (h : SndC prog w A env tbl s₀ N₀ e P) (hs : SndA prog w A env tbl s₀ N₀ (andOp and) es Ps) :
    SndA prog w A env tbl s₀ N₀ (andOp and) (e :: es) (fun ρ Q => P ρ fun b => match (generalizing := false) and, b with | true, false => Q false | false, true => Q true | _, _ => Ps ρ Q) := fun N W ρ s E Q hN S R hq => by
  show wpAny _ _ (do
    match andOp and, ← isTrue e env (eval e env) with
    | .And, false => pure false
    | .Or, true => pure true
    | _, _ => allTrue (andOp and) es env) _ _ _
  refine wpAny_bind (wpAny_mono (h N W ρ s E _ hN S R hq) (fun b s₁ ⟨hb, ev⟩ => ?_) fun _ _ q => q)
  have rest : Ps ρ Q → wpAny (model prog w) A (allTrue (andOp and) es env) (PoB s Q) E s₁ := fun hq => wpAny_mono (hs N W ρ s₁ E Q hN (S.step ev) R hq) (fun b s₂ ⟨hb, ev₂⟩ => ⟨hb, ev.trans ev₂⟩) fun _ _ q => q
  cases and <;> cases b
  · exact rest hb
  · exact wpAny_pure ⟨hb, ev⟩
  · exact wpAny_pure ⟨hb, ev⟩
  · exact rest hb
theorem snd_bopC (and : Bool) {es : List Expr} {P : Rho → (Bool → Prop) → Prop} (p : Pos) (h : SndA prog w A env tbl s₀ N₀ (andOp and) es P) : SndC prog w A env tbl s₀ N₀ (.BoolOp (andOp and) es p) P := fun N W ρ s E Q hN S R hq =>
  wpAny_isTrue_BoolOp (h N W ρ s E Q hN S R hq)
theorem snd_bop1 (and : Bool) {e : Expr} {P : Rho → (D → Prop) → Prop} (p : Pos) (h : SndE prog w A env tbl s₀ N₀ e P) : SndE prog w A env tbl s₀ N₀ (.BoolOp (andOp and) [e] p) P := fun N W ρ s E Q hN S R hq => BoolOp_one (h N W ρ s E Q hN S R hq)
theorem snd_bop2 (and : Bool) {e e₂ : Expr} {es : List Expr} {P Ps : Rho → (D → Prop) → Prop} (p : Pos) (h : SndE prog w A env tbl s₀ N₀ e P) (hs : SndE prog w A env tbl s₀ N₀ (.BoolOp (andOp and) (e₂ :: es) p) Ps) :
    SndE prog w A env tbl s₀ N₀ (.BoolOp (andOp and) (e :: e₂ :: es) p) (fun ρ Q => P ρ fun a => truthW a fun b => match (generalizing := false) and, b with | true, false => Q a | false, true => Q a | _, _ => Ps ρ Q) := fun N W ρ s E Q hN S R hq => by
  have rest : ∀ s₁, Evl s s₁ → Ps ρ Q → wpAny (model prog w) A (eval (.BoolOp (andOp and) (e₂ :: es) p) env) (Po w prog (fun a => N a ∨ W a) s Q) E s₁ := fun s₁ ev hq =>
    wpAny_mono (hs N W ρ s₁ E Q hN (S.step ev) R hq) (fun v s₂ ⟨d, hd, ev₂, r⟩ => ⟨d, hd, ev.trans ev₂, r⟩) fun _ _ q => q
  cases and with
  | true =>
    refine BoolOp_and (wpAny_mono (h N W ρ s E _ hN S R hq) (fun v s₁ ⟨d, hd, ev, r⟩ => ?_) fun _ _ q => q)
    refine wpAny_mono (truth_sound r hd) (fun b s₂ ⟨hb, ev₂⟩ => ?_) fun _ _ q => q
    cases b with
    | true => exact rest s₂ (ev.trans ev₂) hb
    | false => exact ⟨d, hb, ev.trans ev₂, r.ext ev₂.ext⟩
  | false =>
    refine BoolOp_or (wpAny_mono (h N W ρ s E _ hN S R hq) (fun v s₁ ⟨d, hd, ev, r⟩ => ?_) fun _ _ q => q)
    refine wpAny_mono (truth_sound r hd) (fun b s₂ ⟨hb, ev₂⟩ => ?_) fun _ _ q => q
    cases b with
    | true => exact ⟨d, hb, ev.trans ev₂, r.ext ev₂.ext⟩
    | false => exact rest s₂ (ev.trans ev₂) hb
theorem Rep.typed {v : Value} {ds : List D} (r : Rep w prog F s.heap v (.lst ds)) : s.TypeIs v "list" := by
  obtain ⟨a, vs, rfl, _, ⟨o, e, hc, _⟩, _⟩ := r.view
  exact ⟨o, e, hc⟩
theorem Rep.typedT {v : Value} {ds : List D} (r : Rep w prog F s.heap v (.tup ds)) : s.TypeIs v "tuple" := by
  obtain ⟨a, vs, rfl, _, ⟨o, e, hc, _⟩, _⟩ := r.view
  exact ⟨o, e, hc⟩
theorem Rep.typedD {v : Value} {ds : List (K × D)} (r : Rep w prog F s.heap v (.dct ds)) : s.TypeIs v "dict" := by
  obtain ⟨a, vs, rfl, _, e, _⟩ := r.view
  exact e.typeIs
theorem sub_tail {value slice : Expr} {o i : Value} {do' : D} {di : D} {Q : D → Prop} (hsl : notSlice slice = true) (ro : Rep w prog F s.heap o do') (ri : Rep w prog F s.heap i di) (hq : subW do' di Q) :
    wpAny (model prog w) A (subscriptTail value slice o i) (Po w prog F s Q) E s := by
  have hs : subscripted slice false o i = operate [o, i] (getItem o i) := by cases slice <;> first | rfl | cases hsl
  have g := sub_sound (E := E) (A := A) ro ri hq
  rcases subW_inv hq with ⟨xs, j, rfl | rfl, _⟩ | ⟨kvs, rfl, _⟩
  · exact tail_any (T := "list") ro.typed slot_list_getitem.lookup g hs
  · exact tail_any (T := "tuple") ro.typedT PySem.F.slot_tuple_getitem.lookup g hs
  · exact tail_any (T := "dict") ro.typedD slot_dict_getitem.lookup g hs
theorem snd_sub {o i : Expr} {Po' Pi : Rho → (D → Prop) → Prop} (p : Pos) (hsl : notSlice i = true) (ho : SndE prog w A env tbl s₀ N₀ o Po') (hi : SndE prog w A env tbl s₀ N₀ i Pi) :
    SndE prog w A env tbl s₀ N₀ (.Subscript o i p) (fun ρ Q => Po' ρ fun a => Pi ρ fun b => subW a b Q) := fun N W ρ s E Q hN S R hq => by
  refine Subscript_ (wpAny_mono (ho N W ρ s E _ hN S R hq) (fun v s₁ ⟨d, hd, ev, ra⟩ => ?_) fun _ _ q => q)
  refine wpAny_mono (hi N W ρ s₁ E _ hN (S.step ev) R hd) (fun v' s₂ ⟨d', hd', ev₂, rb⟩ => ?_) fun _ _ q => q
  exact wpAny_mono (sub_tail hsl (ra.ext ev₂.ext) rb hd') (fun v s₃ ⟨d, hq, ev₃, r⟩ => ⟨d, hq, (ev.trans ev₂).trans ev₃, r⟩) fun _ _ q => q
noncomputable def SndPart (prog : Program) (w : World) (A : Around) (env : Env) (tbl : List Str) (s₀ : Base) (N₀ : Addr → Prop) (e : Option Expr) (P : Rho → (D → Prop) → Prop) : Prop :=
  ∀ (N W : Addr → Prop) (ρ : Rho) (s : Shared) (E : Value → Shared → Prop) (Q : D → Prop), (∀ a, N₀ a → N a) → St w prog env tbl s₀ N W ρ s → Frm env tbl N W → P ρ Q → wpAny (model prog w) A (evalPart e env) (Po w prog (fun a => N a ∨ W a) s Q) E s
theorem snd_part_none : SndPart prog w A env tbl s₀ N₀ none (fun _ Q => Q .none) := fun _ _ _ _ _ _ _ _ _ hq => wpAny_pure ⟨_, hq, .refl _ _, .none⟩
theorem snd_part_some {e : Expr} {P : Rho → (D → Prop) → Prop} (h : SndE prog w A env tbl s₀ N₀ e P) : SndPart prog w A env tbl s₀ N₀ (some e) P := h
theorem sliceW_lst {a b c : D} {Q : D → Prop} (h : sliceW a b c Q) : ∃ xs, a = .lst xs := by
  cases a <;> first | exact ⟨_, rfl⟩ | exact h.elim
theorem snd_slice {o : Expr} {lo hi : Option Expr} {Po' Pl Ph : Rho → (D → Prop) → Prop} (p q : Pos) (ho : SndE prog w A env tbl s₀ N₀ o Po') (hl : SndPart prog w A env tbl s₀ N₀ lo Pl) (hh : SndPart prog w A env tbl s₀ N₀ hi Ph) :
    SndE prog w A env tbl s₀ N₀ (.Subscript o (.Slice lo hi none q) p) (fun ρ Q => Po' ρ fun a => Pl ρ fun b => Ph ρ fun c => sliceW a b c Q) := fun N W ρ s E Q hN S R hq => by
  refine Subscript_ (wpAny_mono (ho N W ρ s E _ hN S R hq) (fun v s₁ ⟨d, hd, ev, ra⟩ => ?_) fun _ _ q => q)
  refine wpAny_Slice (wpAny_mono (hl N W ρ s₁ E _ hN (S.step ev) R hd) (fun vl s₂ ⟨dl, hd₂, ev₂, rl⟩ => ?_) fun _ _ q => q)
  refine wpAny_mono (hh N W ρ s₂ E _ hN (S.step (ev.trans ev₂)) R hd₂) (fun vh s₃ ⟨dh, hd₃, ev₃, rh⟩ => ?_) fun _ _ q => q
  refine wpAny_pure ?_
  have ev' := (ev.trans ev₂).trans ev₃
  have ev4 : Evl s₃ { s₃ with heap := s₃.heap.push { cls := .type "slice", data := .fields #[vl, vh, .none] } } := Evl.push _ _
  have l4 := Live.step S.live (ev'.trans ev4)
  have ra' := ((ra.ext ev₂.ext).ext ev₃.ext).ext ev4.ext
  have rl' := (rl.ext ev₃.ext).ext ev4.ext
  have rh' := rh.ext ev4.ext
  have hs := Heap.IsSliceOf.new s₃.heap vl vh .none
  have g : wpAny (model prog w) A (getItem v (.ref s₃.heap.objs.size)) (Po w prog (fun a => N a ∨ W a) s Q) E { s₃ with heap := s₃.heap.push { cls := .type "slice", data := .fields #[vl, vh, .none] } } :=
    wpAny_mono (slice_sound l4 ra' rl' rh' hs hd₃) (fun v s₅ ⟨d, hq, ev₅, r⟩ => ⟨d, hq, (ev'.trans ev4).trans ev₅, r⟩) fun _ _ q => q
  have hsub : subscripted (.Slice lo hi none q) false v (.ref s₃.heap.objs.size) = operate [.ref s₃.heap.objs.size, v] (getItem v (.ref s₃.heap.objs.size)) := rfl
  obtain ⟨xs, rfl⟩ := sliceW_lst hd₃
  exact tail_any (T := "list") (Rep.typed (s := { s₃ with heap := s₃.heap.push { cls := .type "slice", data := .fields #[vl, vh, .none] } }) ra') slot_list_getitem.lookup g hsub
end
end Mine
end
section
open PySem PySem.Calls PyProof.Rows
namespace Mine
noncomputable def biTab : List (Str × Value) := [("sum", .builtin "sum"), ("len", .builtin "len"), ("min", .builtin "min"), ("max", .builtin "max"), ("abs", .builtin "abs"), ("isinstance", .builtin "isinstance"), ("tuple", .type "tuple"), ("range", .type "range"), ("enumerate", .type "enumerate"),
  ("zip", .type "zip"), ("str", .type "str"), ("ValueError", .type "ValueError")]
structure Gl (mg mb : Str → Option Value) (H : Heap) : Prop where
  g : H.Ns mainGlobals mg
  b : H.Ns builtinsNs mb
  bi : ∀ x v, (x, v) ∈ biTab → mg x = none ∧ mb x = some v
structure Fx (mg mb : Str → Option Value) (H : Heap) (env : Env) (s₀ : Base) (N₀ : Addr → Prop) : Prop where
  gl : Gl mg mb H
  ext : Ext H s₀.heap
  glob : env.globals = mainGlobals
  bns : env.builtins = builtinsNs
  kind : env.scope.kind = .function
  sys : N₀ sysModules
noncomputable def globName (names : List (Str × NameKind)) (x : Str) : Bool := names.lookup x == some .globalImplicit && plainName x
noncomputable def CallOk (prog : Program) (w : World) (H : Heap) (RmOk : Around → Prop) (a : Addr) (Xf : List D → (D → Prop) → Prop) : Prop :=
  ∀ (A : Around) (s : Shared) (F : Addr → Prop) (vs : List Value) (ds : List D) (Q : D → Prop) (E : Value → Shared → Prop), RmOk A → Ext H s.heap → Live F s → F sysModules → Reps w prog F s.heap vs ds → Xf ds Q →
    wpAny (model prog w) A (call (.ref a) vs) (Po w prog F s Q) E s
structure FnOk (prog : Program) (w : World) (H : Heap) (mg : Str → Option Value) (RmOk : Around → Prop) (x : Str) (Xf : List D → (D → Prop) → Prop) : Prop where
  fn : ∃ a o fd, mg x = some (.ref a) ∧ H.get? a = some o ∧ o.data = .func fd ∧ CallOk prog w H RmOk a Xf
section
variable {prog : Program} {w : World} {A : Around} {E : Value → Shared → Prop} {s s' s₂ : Shared} {s₀ : Base} {env : Env} {tbl : List Str} {N W W' N₀ : Addr → Prop} {ρ : Rho} {F : Addr → Prop} {mg mb : Str → Option Value} {H : Heap}
theorem name_bi (X : Fx mg mb H env s₀ N₀) {x : Str} {v : Value} (hx : globName env.scope.names x = true) (hm : (x, v) ∈ biTab) (p : Pos) (e : Ext s₀.heap s.heap) {Q : Value → Shared → Prop} (h : Q v s) : wpAny (model prog w) A (eval (.Name x p) env) Q E s := by
  simp only [globName, plainName, Bool.and_eq_true, beq_iff_eq, Bool.not_eq_true'] at hx
  obtain ⟨h1, h2⟩ := X.gl.bi x v hm
  have k : ∀ b o, H.get? b = some o → s.heap.get? b = some o := fun b o q => e b o (X.ext b o q)
  exact Name_function_global X.kind hx.1 (loadGlobal_builtin (X.glob ▸ X.gl.g.keeps k) h1 (X.bns ▸ X.gl.b.keeps k) h2 h) hx.2.1
theorem name_glob (X : Fx mg mb H env s₀ N₀) {x : Str} {v : Value} (hx : globName env.scope.names x = true) (hm : mg x = some v) (p : Pos) (e : Ext s₀.heap s.heap) {Q : Value → Shared → Prop} (h : Q v s) : wpAny (model prog w) A (eval (.Name x p) env) Q E s := by
  simp only [globName, plainName, Bool.and_eq_true, beq_iff_eq, Bool.not_eq_true'] at hx
  have k : ∀ b o, H.get? b = some o → s.heap.get? b = some o := fun b o q => e b o (X.ext b o q)
  exact Name_function_global X.kind hx.1 (loadGlobal_global (X.glob ▸ X.gl.g.keeps k) hm h) hx.2.1
theorem plain_trees {es : List Expr} (h : es.all notStar = true) (pos : Pos) : (backTo pos (starEach es env)).any (·.1) = false := by
  induction es with
  | nil => rfl
  | cons e es ih =>
    simp only [List.all_cons, Bool.and_eq_true] at h
    rw [starEach_cons h.1]
    show (false || _) = false
    exact ih h.2
theorem args_sound {es : List Expr} (hne : es.isEmpty = false) (h : es.all notStar = true) {pos : Pos} {f : Value} {Q : Args → Shared → Prop} (hs : wpAny (model prog w) A (spliced (backTo pos (starEach es env))) (fun vs s' => Q ⟨vs, []⟩ s') E s) :
    wpAny (model prog w) A (evalArgs f true (backTo pos (starEach es env)) []) Q E s := by
  cases es with
  | nil => cases hne
  | cons e es =>
    simp only [List.all_cons, Bool.and_eq_true] at h
    rw [starEach_cons h.1] at hs ⊢
    exact evalArgs_plain hs
theorem snd_bi (X : Fx mg mb H env s₀ N₀) (hh : A.handled = none) {b : Bi} {es : List Expr} {Ps : Rho → (List D → Prop) → Prop} {x : Str} (hx : globName env.scope.names x = true) (hm : (x, .builtin b.name) ∈ biTab) (hb : b.more = []) (hne : es.isEmpty = false) (hst : es.all notStar = true) (p q : Pos) (h : SndEs prog w A env tbl s₀ N₀ es Ps) :
    SndE prog w A env tbl s₀ N₀ (.Call (.Name x q) es [] p) (fun ρ Q => Ps ρ fun ds => biW b ds Q) := fun N W ρ s E Q hN S R hq => by
  refine wpAny_Call_NameR (name_bi X hx hm q S.evl.ext ?_)
  refine callWith_builtin (plain_trees hst p) (args_sound hne hst (wpAny_mono (h p N W ρ s E _ hN S R hq) (fun vs s₁ ⟨ds, hd, ev, r⟩ => ?_) fun _ _ q => q))
  have := bi_sound (E := E) (A := A) (.inl (hN _ X.sys)) hh r hd
  rw [hb, List.append_nil] at this
  exact wpAny_mono this (fun v s₂ ⟨d, hq, ev₂, r⟩ => ⟨d, hq, ev.trans ev₂, r⟩) fun _ _ q => q
theorem snd_isTuple (X : Fx mg mb H env s₀ N₀) (hh : A.handled = none) {e : Expr} {P : Rho → (D → Prop) → Prop} (hx : globName env.scope.names "isinstance" = true) (hy : globName env.scope.names "tuple" = true) (hst : notStar e = true) (p q q' : Pos) (h : SndE prog w A env tbl s₀ N₀ e P) :
    SndE prog w A env tbl s₀ N₀ (.Call (.Name "isinstance" q) [e, .Name "tuple" q'] [] p) (fun ρ Q => P ρ fun d => biW .isTuple [d] Q) := fun N W ρ s E Q hN S R hq => by
  refine wpAny_Call_NameR (name_bi X hx (v := .builtin "isinstance") (List.mem_of_getElem? (i := 5) rfl) q S.evl.ext ?_)
  have hst' : [e, .Name "tuple" q'].all notStar = true := by show (notStar e && (true && true)) = true; rw [hst]; rfl
  refine callWith_builtin (plain_trees hst' p) (args_sound rfl hst' ?_)
  rw [starEach_cons hst]
  refine spliced_cons (wpAny_mono (h N W ρ s E _ hN S R hq) (fun v s₁ ⟨d, hd, ev, r⟩ => ?_) fun _ _ q => q)
  refine spliced_cons (name_bi X hy (v := .type "tuple") (List.mem_of_getElem? (i := 6) rfl) q' (S.step ev).evl.ext (spliced_nil ?_))
  exact wpAny_mono (bi_sound (b := .isTuple) (.inl (hN _ X.sys)) hh (.cons r .nil) hd) (fun v s₂ ⟨d, hq, ev₂, r⟩ => ⟨d, hq, ev.trans ev₂, r⟩) fun _ _ q => q
theorem snd_call (X : Fx mg mb H env s₀ N₀) {RmOk : Around → Prop} (hr : RmOk A) {x : Str} {Xf : List D → (D → Prop) → Prop} (K : FnOk prog w H mg RmOk x Xf) {es : List Expr} {Ps : Rho → (List D → Prop) → Prop} (hx : globName env.scope.names x = true) (hne : es.isEmpty = false) (hst : es.all notStar = true) (p q : Pos) (h : SndEs prog w A env tbl s₀ N₀ es Ps) :
    SndE prog w A env tbl s₀ N₀ (.Call (.Name x q) es [] p) (fun ρ Q => Ps ρ fun ds => Xf ds Q) := fun N W ρ s E Q hN S R hq => by
  obtain ⟨a, o, fd, hm, ho, hd, hc⟩ := K.fn
  refine wpAny_Call_NameR (name_glob X hx hm q S.evl.ext ?_)
  refine callWith_function (o := o) (fd := fd) (args_sound hne hst (wpAny_mono (h p N W ρ s E _ hN S R hq) (fun vs s₁ ⟨ds, hq, ev, r⟩ => ?_) fun _ _ q => q))
  have e1 : Ext H s₁.heap := fun b o q => ev.heap b o id (S.evl.heap b o id (X.ext b o q))
  exact ⟨⟨e1 _ _ ho, hd⟩, wpAny_mono (hc A s₁ (fun a => N a ∨ W a) vs ds Q E hr e1 (Live.step S.live ev) (.inl (hN _ X.sys)) r hq) (fun v s₂ ⟨d, hq, ev₂, r⟩ => ⟨d, hq, ev.trans ev₂, r⟩) fun _ _ q => q⟩
theorem snd_dct0 (p : Pos) : SndO prog w A env tbl s₀ N₀ (.Dict [] [] p) (fun _ Q => Q (.dct [])) := fun N W ρ s E Q hN S R hq =>
  wpAny_Dict_empty ⟨_, .od [], _, rfl, hq, Evl.push _ _, fresh_size, ⟨_, Heap.get?_push_size _ rfl⟩, _, [], rfl, rfl, Heap.DictOf.new _, .nil⟩
end
end Mine
end
section
open PySem PySem.Calls PyProof.Rows
namespace Mine
section
variable {prog : Program} {w : World} {A : Around} {E : Value → Shared → Prop} {s s' s₂ : Shared} {s₀ : Base} {env : Env} {tbl : List Str} {N W W' N₀ : Addr → Prop} {ρ : Rho} {F : Addr → Prop} {mg mb : Str → Option Value} {H : Heap}
theorem seqOf_inv {d : D} {ds : List D} (h : seqOf d = some ds) : d = .lst ds ∨ (∃ kvs, d = .dct kvs ∧ ds = kvs.map fun p => p.1.d) ∨ ∃ x, d = .str x ∧ ds = x.cps.toList.map fun c => D.str ⟨#[c]⟩ := by
  cases d with
  | lst xs => cases h; exact .inl rfl
  | dct xs => cases h; exact .inr (.inl ⟨xs, rfl, rfl⟩)
  | str x => cases h; exact .inr (.inr ⟨x, rfl, rfl⟩)
  | _ => exact nomatch h
theorem sign_rep {x : Str} {h : Heap} {i : Nat} {v : Value} (hv : SignAt x i v) : ∃ d, (x.cps.toList.map fun c => D.str ⟨#[c]⟩)[i]? = some d ∧ Rep w prog F h v d := by
  obtain ⟨c, u, hc, rfl⟩ := hv
  exact ⟨_, by rw [List.getElem?_map, Array.getElem?_toList, hc]; rfl, .str _ _⟩
theorem made_str (hh : A.handled = none) {x : Str} {t : Tok} {Q : Value → Shared → Prop} (h : ∀ it s', Evl s s' → Made prog w A F false true (x.cps.toList.map fun c => D.str ⟨#[c]⟩) s.heap it s' → Q it s') : wpAny (model prog w) A (pyIter (.str x t)) Q E s := by
  refine wpAny_pyIter_strU ?_
  by_cases ha : x.cps.all (· < 128) = true
  · rw [show strIterType x = "str_ascii_iterator" by unfold strIterType; rw [if_pos ha]]
    refine h _ _ (Evl.push _ _) ⟨Ext.push _ _, _, _, Itr.walks (ds := x.cps.toList.map fun c => .str ⟨#[c]⟩) (Walks.strAscii hh s.heap.objs.size x t) (by simp) (fun _ _ => sign_rep) (fun b hb => .inl hb) (fun b hb => List.mem_singleton.mp hb ▸ fresh_size)
      (fun i h st b hb => by rw [List.mem_singleton.mp hb]; obtain ⟨o, e, _⟩ := st; exact ⟨o, e⟩) (fun i h st => by obtain ⟨o, e, hc, _⟩ := st; exact ⟨o, _, e, hc, by decide⟩), 0, rfl, Nat.zero_le _, ⟨_, Heap.get?_push_size _ rfl, rfl, rfl⟩, fun a o _ e => Heap.get?_push_of_some _ e⟩
  · rw [show strIterType x = "str_iterator" by unfold strIterType; rw [if_neg ha]]
    refine h _ _ (Evl.push _ _) ⟨Ext.push _ _, _, _, Itr.walks (ds := x.cps.toList.map fun c => .str ⟨#[c]⟩) (Walks.strWide hh s.heap.objs.size x t) (by simp) (fun _ _ => sign_rep) (fun b hb => .inl hb) (fun b hb => List.mem_singleton.mp hb ▸ fresh_size)
      (fun i h st b hb => by rw [List.mem_singleton.mp hb]; obtain ⟨o, e, _⟩ := st; exact ⟨o, e⟩) (fun i h st => by obtain ⟨o, e, hc, _⟩ := st; exact ⟨o, _, e, hc, by decide⟩), 0, rfl, Nat.zero_le _, ⟨_, Heap.get?_push_size _ rfl, rfl, rfl⟩, fun a o _ e => Heap.get?_push_of_some _ e⟩
theorem made_seq (hS : F sysModules) (hh : A.handled = none) {v : Value} {d : D} {ds : List D} (hd : seqOf d = some ds) (r : Rep w prog F s.heap v d) {Q : Value → Shared → Prop} (h : ∀ it s', Evl s s' → Made prog w A F false true ds s.heap it s' → Q it s') : wpAny (model prog w) A (pyIter v) Q E s := by
  rcases seqOf_inv hd with rfl | ⟨kvs, rfl, rfl⟩ | ⟨x, rfl, rfl⟩
  · obtain ⟨a, vs, rfl, hF, e, r⟩ := r.view
    exact made_list hh hF e r h
  · obtain ⟨a, vs, rfl, hF, e, r⟩ := r.view
    exact made_keys hS hh hF e r h
  · obtain ⟨t, rfl⟩ := r.view
    exact made_str hh h
theorem sndI_ex (hS : N₀ sysModules) (hh : A.handled = none) {e : Expr} {P : Rho → (D → Prop) → Prop} (hs : notSetE e = true) (h : SndE prog w A env tbl s₀ N₀ e P) : SndI prog w A env tbl s₀ N₀ false true e (fun ρ Q => P ρ fun d => ∃ ds, seqOf d = some ds ∧ Q ds) :=
  ⟨folded_of hs, fun N W ρ s E Q hN S R hq => by
    refine wpAny_mono (h N W ρ s E _ hN S R hq) (fun v s₁ ⟨d, ⟨ds, hd, hq⟩, ev, r⟩ => ⟨ev, fun E' R hR => ?_⟩) fun _ _ q => q
    exact made_seq (.inl (hN _ hS)) hh hd r fun it s₂ ev₂ m => hR _ _ ds s₁.heap hq ev₂ ev.ext m⟩
theorem made_of_range (hh : A.handled = none) {r : Addr} {a b c : Int} {t u v : Tok} {n : Nat} (hr : IsRange s.heap r a b c t u v) (hs : Builtin.Range.small a b c = true) (hn : Builtin.Range.rangeSize a b c = (n : Int)) (E' : Value → Shared → Prop) (R : Value → Shared → Prop)
    (hR : ∀ it s₂, Evl s s₂ → Made prog w A F false true (rangeL a c n) s.heap it s₂ → R it s₂) : wpAny (model prog w) A (pyIter (.ref r)) R E' s := made_range hh hr hs hn hR
theorem small_mid {a b : Int} (h1 : -1048576 ≤ a) (h2 : a ≤ 1048576) (h3 : -1048576 ≤ b) (h4 : b ≤ 1048576) : Builtin.Range.small a b 1 = true := small_one (by (first | lia | omega)) (by (first | lia | omega)) (by (first | lia | omega)) (by (first | lia | omega))
theorem size_mid (a b : Int) : Builtin.Range.rangeSize a b 1 = ((b - a).toNat : Int) := rangeSize_nat a b
theorem size_step {b c : Int} (h2 : 0 ≤ b) (h4 : 0 < c) : Builtin.Range.rangeSize 0 b c = (((b + c - 1) / c).toNat : Int) := by
  rw [rangeSize_pos (by (first | lia | omega)) h2, Int.toNat_of_nonneg (Int.ediv_nonneg (by (first | lia | omega)) (by (first | lia | omega)))]
theorem small_step {b c : Int} (h2 : 0 ≤ b) (h3 : b ≤ 1048576) (h4 : 0 < c) (h5 : c ≤ 1048576) : Builtin.Range.small 0 b c = true := by
  have e := rangeSize_pos (len := b) (c := c) (by (first | lia | omega)) h2
  have l1 : 0 ≤ (b + c - 1) / c := Int.ediv_nonneg (by (first | lia | omega)) (by (first | lia | omega))
  have l2 : (b + c - 1) / c ≤ b + c - 1 := Int.ediv_le_self _ (by (first | lia | omega))
  unfold Builtin.Range.small Builtin.Range.rangeFitsLong
  rw [e]
  simp only [Bool.and_eq_true, Bool.or_eq_true, decide_eq_true_eq]
  rw [if_pos h4]
  simp only [Bool.and_eq_true, decide_eq_true_eq]
  (first | lia | omega)
theorem sndI_range (X : Fx mg mb H env s₀ N₀) (hh : A.handled = none) {es : List Expr} {Ps : Rho → (List D → Prop) → Prop} (hx : globName env.scope.names "range" = true) (hne : es.isEmpty = false) (hst : es.all notStar = true) (p q : Pos) (h : SndEs prog w A env tbl s₀ N₀ es Ps) :
    SndI prog w A env tbl s₀ N₀ false true (.Call (.Name "range" q) es [] p) (fun ρ Q => Ps ρ fun ds => rangeW ds Q) :=
  ⟨folded_of rfl, fun N W ρ s E Q hN S R hq => by
    refine wpAny_Call_NameR (name_bi X hx (v := .type "range") (List.mem_of_getElem? (i := 7) rfl) q S.evl.ext ?_)
    refine PySem.callWith_type (plain_trees hst p) (args_sound hne hst (wpAny_mono (h p N W ρ s E _ hN S R hq) (fun vs s₁ ⟨ds, hd, ev, r⟩ => ?_) fun _ _ q => q))
    rw [List.nil_append]
    rcases rangeW_inv hd with ⟨b, rfl, ⟨h1, h2⟩, hq⟩ | ⟨a, b, rfl, ⟨h1, h2, h3, h4⟩, hq⟩ | ⟨a, b, c, rfl, ⟨rfl, h2, h3, h4, h5⟩, hq⟩
    · obtain ⟨v, rfl, ra⟩ := one_view r
      obtain ⟨t, rfl⟩ := ra.view
      refine call_range_1 ⟨ev.trans (Evl.of (Ext.push _ _)), fun E' R hR => made_of_range (F := fun a => N a ∨ W a) hh (IsRange.new ..) (small_mid (by decide) (by decide) h1 h2) (size_mid 0 _) E' R fun it s₂ ev₂ m => ?_⟩
      refine hR it s₂ _ _ ?_ ev₂ (Evl.ext (ev.trans (Evl.of (tk := s₁.toks + 1 + 1) (Ext.push _ _)))) m
      rw [Int.sub_zero]; exact hq
    · obtain ⟨v, v', rfl, ra, rb⟩ := two_view r
      obtain ⟨t, rfl⟩ := ra.view
      obtain ⟨u, rfl⟩ := rb.view
      refine call_range_2 ⟨ev.trans (Evl.of (Ext.push _ _)), fun E' R hR => made_of_range (F := fun a => N a ∨ W a) hh (IsRange.new ..) (small_mid h1 h2 h3 h4) (size_mid _ _) E' R fun it s₂ ev₂ m => ?_⟩
      exact hR it s₂ _ _ hq ev₂ (Evl.ext (ev.trans (Evl.of (tk := s₁.toks + 1) (Ext.push _ _)))) m
    · obtain ⟨v, vs', rfl, ra, r2⟩ := r.view
      obtain ⟨v', v'', rfl, rb, rc⟩ := two_view r2
      obtain ⟨t, rfl⟩ := ra.view
      obtain ⟨u, rfl⟩ := rb.view
      obtain ⟨x, rfl⟩ := rc.view
      refine call_range_3 (Ne.symm (Int.ne_of_lt h4)) ⟨ev.trans (Evl.of (Ext.push _ _)), fun E' R hR => made_of_range (F := fun a => N a ∨ W a) hh (IsRange.new ..) (small_step h2 h3 h4 h5) (size_step h2 h4) E' R fun it s₂ ev₂ m => ?_⟩
      exact hR it s₂ _ _ hq ev₂ (Evl.ext (ev.trans (Evl.of (tk := s₁.toks) (Ext.push _ _)))) m⟩
theorem sndI_enum (X : Fx mg mb H env s₀ N₀) (hh : A.handled = none) {e : Expr} {P : Rho → (D → Prop) → Prop} (hx : globName env.scope.names "enumerate" = true) (hst : notStar e = true) (p q : Pos) (h : SndE prog w A env tbl s₀ N₀ e P) :
    SndI prog w A env tbl s₀ N₀ true true (.Call (.Name "enumerate" q) [e] [] p) (fun ρ Q => P ρ fun d => onL d fun ds => fits ds.length ∧ Q (enumL 0 ds)) :=
  ⟨folded_of rfl, fun N W ρ s E Q hN S R hq => by
    have hst' : [e].all notStar = true := by show (notStar e && true) = true; rw [hst]; rfl
    refine wpAny_Call_NameR (name_bi X hx (v := .type "enumerate") (List.mem_of_getElem? (i := 8) rfl) q S.evl.ext ?_)
    refine PySem.callWith_type (plain_trees hst' p) (args_sound rfl hst' ?_)
    rw [starEach_cons hst]
    refine spliced_cons (wpAny_mono (h N W ρ s E _ hN S R hq) (fun v s₁ ⟨d, hd, ev, r⟩ => spliced_nil ?_) fun _ _ q => q)
    obtain ⟨ds, rfl, h1⟩ := onL_inv hd
    obtain ⟨l, vs, rfl, hF, el, r⟩ := r.view
    refine call_enum (Live.step S.live ev) hh hF el r fun en s₂ ev₂ hI => ⟨ev.trans ev₂, fun E' R hR => hI E' R fun m => ?_⟩
    exact hR _ s₂ _ _ h1.2 (.refl _ _) ev.ext m⟩
theorem zsrc_inv {d : D} {x : List D} (h : zsrc d = some x) : d = .lst x ∨ ∃ s, d = .str s ∧ x = s.cps.toList.map fun c => D.str ⟨#[c]⟩ := by
  cases d with
  | lst xs => cases h; exact .inl rfl
  | str x => cases h; exact .inr ⟨x, rfl, rfl⟩
  | _ => exact nomatch h
theorem zsrcs_inv {d : D} {ds : List D} {xss : List (List D)} (h : zsrcs (d :: ds) = some xss) : ∃ x xs, zsrc d = some x ∧ zsrcs ds = some xs ∧ xss = x :: xs := by
  rw [show zsrcs (d :: ds) = (match zsrc d, zsrcs ds with | some x, some xs => some (x :: xs) | _, _ => none) from rfl] at h
  cases h1 : zsrc d with
  | none => rw [h1] at h; exact nomatch h
  | some x =>
    cases h2 : zsrcs ds with
    | none => rw [h1, h2] at h; exact nomatch h
    | some xs => rw [h1, h2] at h; exact ⟨x, xs, rfl, rfl, (Option.some.inj h).symm⟩
theorem zss_of {h : Heap} {ds : List D} : ∀ {vs : List Value} {xss : List (List D)}, Reps w prog F h vs ds → zsrcs ds = some xss → Zss prog w F h vs xss := by
  induction ds with
  | nil => intro vs xss r e; cases e; rw [show vs = [] from r.view]; exact .nil
  | cons d ds ih =>
    intro vs xss r e
    obtain ⟨x, xs, h1, h2, rfl⟩ := zsrcs_inv e
    obtain ⟨v, vs, rfl, a, r2⟩ := r.view
    refine .cons ?_ (ih r2 h2)
    rcases zsrc_inv h1 with rfl | ⟨x, rfl, rfl⟩
    · obtain ⟨l, vs, rfl, hF, e, r⟩ := a.view
      exact .lst hF e r
    · obtain ⟨t, rfl⟩ := a.view
      exact .str x t
theorem sndI_zip (X : Fx mg mb H env s₀ N₀) (hh : A.handled = none) {es : List Expr} {Ps : Rho → (List D → Prop) → Prop} (hx : globName env.scope.names "zip" = true) (hne : es.isEmpty = false) (hst : es.all notStar = true) (p q : Pos) (h : SndEs prog w A env tbl s₀ N₀ es Ps) :
    SndI prog w A env tbl s₀ N₀ true true (.Call (.Name "zip" q) es [] p) (fun ρ Q => Ps ρ fun ds => zipW ds Q) :=
  ⟨folded_of rfl, fun N W ρ s E Q hN S R hq => by
    refine wpAny_Call_NameR (name_bi X hx (v := .type "zip") (List.mem_of_getElem? (i := 9) rfl) q S.evl.ext ?_)
    refine PySem.callWith_type (plain_trees hst p) (args_sound hne hst (wpAny_mono (h p N W ρ s E _ hN S R hq) (fun vs s₁ ⟨ds, ⟨hl, n, xss, hz, hn, hq⟩, ev, r⟩ => ?_) fun _ _ q => q))
    rw [List.nil_append]
    rw [← r.length] at hl
    obtain ⟨a1, a2, a3⟩ := zip_args hl
    refine made_zip (Live.step S.live ev) hh hl (zss_of r hz) hn a1 a2 a3 fun z s₂ ev₂ hI => ⟨ev.trans ev₂, fun E' R hR => hI E' R fun m => ?_⟩
    exact hR _ s₂ _ _ hq (.refl _ _) ev.ext m⟩
end
end Mine
end
section
open PySem PySem.Calls PyProof.Rows
namespace Mine
section
variable {prog : Program} {w : World} {A : Around} {E : Value → Shared → Prop} {s s' s₂ : Shared} {s₀ : Base} {env : Env} {tbl : List Str} {N W W' N₀ : Addr → Prop} {ρ : Rho} {F : Addr → Prop} {mg mb : Str → Option Value} {H : Heap}
theorem St.get {i : Nat} {x : Str} {d : D} (S : St w prog env tbl s₀ N W ρ s) (R : Frm env tbl N W) (hx : tbl[i]? = some x) (hd : ρ.at i = some (.sh d)) :
    ∃ v, Rep w prog (fun a => N a ∨ W a) s.heap v d ∧ ∀ (A : Around) (E : Value → Shared → Prop) (Q : Value → Shared → Prop), Q v s → wpAny (model prog w) A (loadName env x) Q E s := by
  obtain ⟨m, cm, own, L, ZL, O1, O2, V⟩ := S.vals
  obtain ⟨v, hv, r⟩ := V i x _ hx hd
  obtain ⟨a, b, H⟩ := R.home x (List.mem_of_getElem? hx)
  exact ⟨v, r, fun A E Q h => L.load R.kind H hv h (R.plain x (List.mem_of_getElem? hx)).2⟩
theorem sndI_items (hS : N₀ sysModules) (hh : A.handled = none) {i : Nat} {x : Str} (hx : tbl[i]? = some x) {apos : Pos} (p q : Pos) (hl : (apos.endLine == p.line) = true) :
    SndI prog w A env tbl s₀ N₀ true false (.Call (.Attribute (.Name x q) "items" apos) [] [] p) (fun ρ Q => match ρ.at i with | some (.sh (.dct kvs)) => Q (kvs.map fun p => .tup [p.1.d, p.2]) | _ => False) :=
  ⟨folded_of rfl, fun N W ρ s E Q hN S R hq => by
    dsimp only at hq
    split at hq
    · rename_i kvs hd
      obtain ⟨v, r, hld⟩ := S.get R hx hd
      cases r with
      | @dct d _ _ hF e r =>
        refine wpAny_Call_items (knd := kind prog w) (by rw [beq_eq_false_iff_ne]; intro q; exact hF (.inl (q ▸ hN _ hS))) e rfl hl (fun Q' h => wpAny_Name (hld _ _ _ h) (R.plain x (List.mem_of_getElem? hx)).1) ⟨Evl.push _ _, fun E' R' hR => ?_⟩
        have ev : Evl s { s with heap := s.heap.push { cls := .type "dict_items", data := .fields #[.ref d] } } := Evl.push _ _
        exact made_items (F := fun a => N a ∨ W a) (Live.step S.live ev) hh hF ⟨_, Heap.get?_push_size _ rfl, rfl, rfl⟩ (e.push _) (r.ext ev.ext) fun it s₂ ev₂ m => hR it s₂ _ _ hq ev₂ ev.ext m
    · exact hq.elim⟩
theorem sndI_values (hS : N₀ sysModules) (hh : A.handled = none) {i : Nat} {x : Str} (hx : tbl[i]? = some x) {apos : Pos} (p q : Pos) (hl : (apos.endLine == p.line) = true) :
    SndI prog w A env tbl s₀ N₀ false true (.Call (.Attribute (.Name x q) "values" apos) [] [] p) (fun ρ Q => match ρ.at i with | some (.sh (.dct kvs)) => Q (kvs.map fun p => p.2) | _ => False) :=
  ⟨folded_of rfl, fun N W ρ s E Q hN S R hq => by
    dsimp only at hq
    split at hq
    · rename_i kvs hd
      obtain ⟨v, r, hld⟩ := S.get R hx hd
      cases r with
      | @dct d _ _ hF e r =>
        have hds : (d == sysModules) = false := by rw [beq_eq_false_iff_ne]; intro q; exact hF (.inl (q ▸ hN _ hS))
        refine wpAny_Call_method (T := "dict") (id := "dict.values") rfl rfl hl PySem.F.plainAttrs_dict PySem.F.slot_dict_values PySem.F.type_dict_values (wpAny_Name (hld _ _ _ ⟨e.typeIs, e.mapOf.noDict, ?_⟩) (R.plain x (List.mem_of_getElem? hx)).1)
        show wpAny _ _ (callWith p (.builtin "dict.values") [.ref d] [] []) _ E s
        refine method_meetsIn PySem.F.slot_dict_values PySem.F.entry_dict_values rfl (PySem.evalArgs_none ⟨rfl, e.typeIs, PySem.F.args_dict_values_1 _, _, meets_dict_values (kind prog w) d hds, ⟨_, e⟩, ?_⟩)
        have ev : Evl s { s with heap := s.heap.push { cls := .type "dict_values", data := .fields #[.ref d] } } := Evl.push _ _
        exact ⟨ev, fun E' R' hR => made_values (F := fun a => N a ∨ W a) hh hF ⟨_, Heap.get?_push_size _ rfl, rfl, rfl⟩ (e.push _) (r.ext ev.ext) fun it s₂ ev₂ m => hR it s₂ _ _ hq ev₂ ev.ext m⟩
    · exact hq.elim⟩
theorem snd_osub {j : Nat} {x : Str} (hx : tbl[j]? = some x) (hS : N₀ sysModules) {i : Expr} {Pi : Rho → (D → Prop) → Prop} (p q : Pos) (hsl : notSlice i = true) (hi : SndE prog w A env tbl s₀ N₀ i Pi) :
    SndE prog w A env tbl s₀ N₀ (.Subscript (.Name x q) i p) (fun ρ Q => match ρ.at j with | some (.ol ds) => Pi ρ fun b => subW (.lst ds) b Q | some (.od ds) => Pi ρ fun b => subW (.dct ds) b Q | _ => False) := fun N W ρ s E Q hN S R hq => by
  have hpn := (R.plain x (List.mem_of_getElem? hx)).1
  have hs : ∀ o v, subscripted i false o v = operate [o, v] (getItem o v) := fun o v => by cases i <;> first | rfl | cases hsl
  dsimp only at hq
  split at hq
  · rename_i ds hd
    obtain ⟨v, fp, ⟨a, vs, rfl, hfp, e, r⟩, hW, hnd, hld, _⟩ := S.own R hx hd rfl
    refine Subscript_ (wpAny_Name (hld A E _ s (.refl _ _) ?_) hpn)
    refine wpAny_mono (hi N W ρ s E _ hN S R hq) (fun v' s₂ ⟨di, hdi, ev, ri⟩ => ?_) fun _ _ q => q
    have e₂ := e.keep fun o q => ev.heap _ _ id q
    refine tail_any (T := "list") (by obtain ⟨o, e, hc, _⟩ := e₂.list; exact ⟨o, e, hc⟩) slot_list_getitem.lookup ?_ (hs _ _)
    cases ri with
    | int k t =>
      obtain ⟨d, hd, hq⟩ := hdi
      rw [Option.bind_eq_some_iff] at hd
      obtain ⟨j', hj, hd⟩ := hd
      rw [← r.length] at hj
      obtain ⟨v, hv, q⟩ := r.get hd
      exact item_list e₂.list hj hv ⟨d, hq, ev, q.ext ev.ext⟩
    | none => exact hdi.elim
    | bool _ => exact hdi.elim
    | str _ _ => exact hdi.elim
    | tup _ _ _ => exact hdi.elim
    | lst _ _ _ => exact hdi.elim
    | dct _ _ _ => exact hdi.elim
  · rename_i ds hd
    obtain ⟨v, fp, ⟨a, vs, rfl, hfp, e, r⟩, hW, hnd, hld, _⟩ := S.own R hx hd rfl
    refine Subscript_ (wpAny_Name (hld A E _ s (.refl _ _) ?_) hpn)
    refine wpAny_mono (hi N W ρ s E _ hN S R hq) (fun v' s₂ ⟨di, hdi, ev, ri⟩ => ?_) fun _ _ q => q
    have e₂ := e.at fun o q => ev.heap _ _ id q
    refine tail_any (T := "dict") e₂.typeIs slot_dict_getitem.lookup ?_ (hs _ _)
    have hq' : ∃ k' d, di.key? = some k' ∧ klook k' _ = some d ∧ Q d := hdi
    obtain ⟨k, d, hk, hl, hq⟩ := hq'
    rcases r.find k with ⟨h1, _⟩ | ⟨d', v, h1, h2, q⟩
    · rw [h1] at hl; cases hl
    · rw [h1] at hl; cases hl
      exact wpAny_getItem_of (key_is ri hk) e₂.mapOf h2 ⟨d, hq, ev.trans Evl.toks, q.ext ev.ext⟩
  · exact hq.elim
theorem own_rep {fp : List Addr} {v : Value} {lv : LV} {d : D} (hd : toLV d = some lv) (r : LvRep w prog F s.heap fp v lv) : Rep w prog (fun a => F a ∧ a ∉ fp) s.heap v d := by
  cases d with
  | lst ds =>
    cases hd
    obtain ⟨a, vs, rfl, hfp, e, r⟩ := r
    exact .lst (fun q => q.2 (hfp ▸ .head _)) e.list (r.anti fun a => And.left)
  | dct ds =>
    cases hd
    obtain ⟨a, vs, rfl, hfp, e, r⟩ := r
    exact .dct (fun q => q.2 (hfp ▸ .head _)) e (r.go fun b o hF e => ⟨fun q => hF q.1, e⟩)
  | _ => cases hd
theorem ocmp_sound (hS : N₀ sysModules) (hu : A.units + 20 < cLine) {j : Nat} {x : Str} (hx : tbl[j]? = some x) {lv : LV} {dv : D} (hN : ∀ a, N₀ a → N a) (S : St w prog env tbl s₀ N W ρ s) (R : Frm env tbl N W) (hd : ρ.at j = some lv) (hlv : toLV dv = some lv) {Q : Bool → Prop} :
    ∃ v, (∀ (A : Around) (E : Value → Shared → Prop) (Q : Value → Shared → Prop) (s₂ : Shared), Evl s s₂ → Q v s₂ → wpAny (model prog w) A (loadName env x) Q E s₂) ∧
      (∀ (op : Cop) (a : Value) (da : D) (s₂ : Shared) (E : Value → Shared → Prop), op ≠ .isnone → Evl s s₂ → Rep w prog (fun a => N a ∨ W a) s₂.heap a da → cmpW op da dv Q → wpAny (model prog w) A (compareOp op.op a v) (PoV s Q) E s₂) ∧
      ∀ (op : Cop) (a : Value) (da : D) (s₂ : Shared) (E : Value → Shared → Prop), op ≠ .isnone → Evl s s₂ → Rep w prog (fun a => N a ∨ W a) s₂.heap a da → cmpW op dv da Q → wpAny (model prog w) A (compareOp op.op v a) (PoV s Q) E s₂ := by
  have ho : lv.owned = true := by cases dv <;> first | (cases hlv; rfl) | cases hlv
  obtain ⟨v, fp, r, hW, hnd, hld, _⟩ := S.own R hx hd ho
  have rv : ∀ s₂, Evl s s₂ → Rep w prog (fun a => (N a ∨ W a) ∧ a ∉ fp) s₂.heap v dv := fun s₂ ev => (own_rep hlv r).ext ev.ext
  have sysF : ∀ s₂, Evl s s₂ → (N sysModules ∨ W sysModules) ∧ sysModules ∉ fp := fun s₂ ev => ⟨.inl (hN _ hS), fun q => (hW _ q).2 (hN _ hS)⟩
  refine ⟨v, hld, fun op a da s₂ E hop ev ra hq => ?_, fun op a da s₂ E hop ev ra hq => ?_⟩
  · exact wpAny_mono (cmp_sound (sysF s₂ ev) hu (ra.anti fun a => And.left) (rv s₂ ev) (fun q => absurd q hop) hq) (fun v s₃ ⟨b, hv, hq, ev₃⟩ => ⟨b, hv, hq, ev.trans ev₃⟩) fun _ _ q => q
  · exact wpAny_mono (cmp_sound (sysF s₂ ev) hu (rv s₂ ev) (ra.anti fun a => And.left) (fun q => absurd q hop) hq) (fun v s₃ ⟨b, hv, hq, ev₃⟩ => ⟨b, hv, hq, ev.trans ev₃⟩) fun _ _ q => q
end
end Mine
end
section
open PySem PySem.Calls PyProof.Rows
namespace Mine
noncomputable def compOf (ex : Expr) (env : Env) (use : Option (Value → Sem Unit)) : Sem Value :=
  match ex with
  | e@(.ListComp _ gens scope pos) => comprehension e scope env (firstIterPos gens pos) (newList []) (firstAsync gens) (firstIter gens env) use
  | e@(.DictComp _ _ gens scope pos) => comprehension e scope env (firstIterPos gens pos) newDict (firstAsync gens) (firstIter gens env) use
  | _ => pure .none
noncomputable def isComp : Expr → Bool
  | .ListComp _ _ _ _ => true
  | .DictComp _ _ _ _ _ => true
  | _ => false
noncomputable def notComp : Expr → Bool
  | .ListComp _ _ _ _ => false
  | .DictComp _ _ _ _ _ => false
  | .SetComp _ _ _ _ => false
  | _ => true
section
variable (prog : Program) (w : World) (A : Around) (env : Env) (tbl : List Str) (s₀ : Base) (N₀ : Addr → Prop)
noncomputable def SndK (ex : Expr) (P : Rho → (D → Prop) → Prop) : Prop :=
  isComp ex = true ∧ ∀ (N W : Addr → Prop) (ρ : Rho) (s : Shared) (E : Value → Shared → Prop) (Q : D → Prop) (use : Option (Value → Sem Unit)) (Qf : Value → Shared → Prop), (∀ a, N₀ a → N a) → St w prog env tbl s₀ N W ρ s → Frm env tbl N W → P ρ Q →
    (∀ s' a C d lv, toLV d = some lv → Q d → Evl s s' → s.heap.get? a = none → s.heap.get? C = none → a ≠ C → (∃ o, s'.heap.get? a = some o) → LvRep w prog (fun b => (N b ∨ b = C ∨ b = a) ∨ W b) s'.heap [a] (.ref a) lv → (∃ m, s'.heap.Ns C m) →
      compPost (model prog w) A E use Qf (.ref a) C (.ok .next) s') → wpAny (model prog w) A (compOf ex env use) Qf E s
end
section
variable {prog : Program} {w : World} {A : Around} {E : Value → Shared → Prop} {s s' s₂ : Shared} {s₀ : Base} {env : Env} {tbl tbl' : List Str} {N W W' N₀ : Addr → Prop} {ρ : Rho} {F : Addr → Prop} {mg mb : Str → Option Value} {H : Heap} {scope : Scope} {cap : List (Option Nat)} {tp tp₂ : Bool}
theorem snd_lc1 (hh : A.handled = none) {elt iter e : Expr} {ifs : List Expr} {t : Tgt} (pos : Pos)
    (ok : scopeOk scope.names env.scope.names tbl tbl' cap = true) (hk : scope.kind = .function) {PI : Rho → (List D → Prop) → Prop} {Pifs : Rho → (Bool → Prop) → Prop} {Pelt : Rho → (D → Prop) → Prop}
    (hit : SndI prog w A env tbl s₀ N₀ tp true iter PI) (ht : okT true (relabel scope env).names tbl' t e = true) (htp : tp = true → ∃ es k p, e = .Tuple es k p) (hc : ∀ i ∈ t.names, cap[i]? = some none)
    (hifs : ∀ cl C, SndIfs prog w A (compEnvC scope cl C env) tbl' s₀ N₀ ifs Pifs) (helt : ∀ cl C, SndE prog w A (compEnvC scope cl C env) tbl' s₀ N₀ elt Pelt) :
    SndK prog w A env tbl s₀ N₀ (.ListComp elt [⟨e, iter, ifs, 0⟩] scope pos) (fun ρ Q => PI ρ fun ds => loopW (fun d acc C => asgW t d (capture ρ cap) fun ρ' => Pifs ρ' fun b => match b with | true => Pelt ρ' (fun d => pushW acc d C) | false => C acc) ds (.lst []) Q) :=
  ⟨rfl, fun N W ρ s E Q use Qf hN S R hq hfin => listcomp1 hh S R hN ok hk hit ht htp hc hifs helt hq fun s' Dd Cc ds hq ev h1 h2 hne ⟨vs, el, rs⟩ hm => hfin s' Dd Cc (.lst ds) (.ol ds) rfl hq ev h1 h2 hne el.live ⟨Dd, vs, rfl, rfl, el, rs⟩ hm⟩
theorem snd_compO {ex : Expr} {P : Rho → (D → Prop) → Prop} (h : SndK prog w A env tbl s₀ N₀ ex P) : SndO prog w A env tbl s₀ N₀ ex P := fun N W ρ s E Q hN S R hq => by
  have e1 : eval ex env = compOf ex env none := by
    have := h.1
    cases ex <;> first | rfl | cases this
  rw [e1]
  refine h.2 N W ρ s E Q none _ hN S R hq fun s' a C d lv hl hq ev h1 h2 hne ⟨o, ho⟩ r ⟨m, hm⟩ => ⟨m, hm, fun h' hs => ?_⟩
  have ev2 : Evl s { s' with heap := h' } := ev.trans' (Aft.of (W := fun b => b = C) (tk := s'.toks) fun b o hb e => hs.extBut b o hb e) fun b hb => .inr (hb ▸ h2)
  refine ⟨d, lv, a, hl, hq, ev2, h1, ⟨o, hs.extBut a o hne ho⟩, r.go (fun b o hF e => ⟨fun q => hF ?_, hs.extBut b o (fun q => hF (.inl (.inr (.inl q)))) e⟩) fun _ b hb o e => hs.extBut b o (fun q => hne ((List.mem_singleton.mp hb) ▸ q)) e⟩
  rcases q with (q | q) | q
  · exact .inl (.inl q)
  · exact .inr q
  · exact .inl (.inr (.inr q))
end
end Mine
end
section
open PySem PySem.Calls PyProof.Rows
namespace Mine
theorem swaps_false {ex : Expr} (hn : notComp ex = true) (t : Option Expr) (line : Nat) (env : Env) : swapsWith ex t line env = pure false := by
  cases ex <;> first | rfl | cases hn
section
variable {prog : Program} {w : World} {A : Around} {E : Value → Shared → Prop} {s s' s₁ s₂ : Shared} {s₀ : Base} {env : Env} {tbl tbl' : List Str} {N N' W W' N₀ : Addr → Prop} {ρ : Rho} {F : Addr → Prop} {mg mb : Str → Option Value} {H : Heap}
theorem St.retire {X : Addr → Prop} (S : St w prog env tbl s₀ N W ρ s) (x : Aft X s s') (hX : ∀ a, X a → N a ∧ s₀.heap.get? a = none ∧ ¬ W a ∧ a ≠ env.locals ∧ ∀ n c, env.cells.lookup n = some c → a ≠ c) (k : ∀ a, N' a → N a ∧ ¬ X a) : St w prog env tbl s₀ N' W ρ s' := by
  refine ⟨⟨fun b o _ e => ?_, fun i g e => x.gens i g (S.evl.gens i g e), fun q => x.bare (S.evl.bare q), x.os.trans S.evl.os⟩, fun a ha => ?_, S.fresh, S.zw, s₀.zs _ _ S.zi fun b o hb e => x.heap b o (fun q => (hX b q).2.2.1 (S.zw b hb)) e, ?_⟩
  · refine x.heap b o (fun q => ?_) (S.evl.heap b o id e)
    rw [(hX b q).2.1] at e; cases e
  · have hn : ¬ X a := fun q => ha.elim (fun h => (k a h).2 q) (hX a q).2.2.1
    obtain ⟨o, e⟩ := S.live a (ha.imp (fun h => (k a h).1) id)
    exact ⟨o, x.heap a o hn e⟩
  · obtain ⟨m, cm, own, L, ZL, O1, O2, V⟩ := S.vals
    refine ⟨m, cm, own, L.keep fun a o ha e => x.heap a o (fun q => ?_) e, ZL, fun i lv hr ho a ha => ⟨⟨(O1 i lv hr ho a ha).1.1, fun q => (O1 i lv hr ho a ha).1.2 (k a q).1⟩, (O1 i lv hr ho a ha).2⟩, O2, fun i y lv ht hr => ?_⟩
    · rcases ha with rfl | ⟨n, hn⟩
      · exact (hX _ q).2.2.2.1 rfl
      · exact (hX _ q).2.2.2.2 n a hn rfl
    · obtain ⟨v, hv, r⟩ := V i y lv ht hr
      exact ⟨v, hv, r.go (fun a o hF e => ⟨fun q => hF (q.imp (fun h => (k a h).1) id), x.heap a o (fun q => hF (.inl (hX a q).1)) e⟩) (fun ho a ha o e => x.heap a o (fun q => (hX a q).2.2.1 (O1 i lv hr ho a ha).1.1) e)⟩
theorem pos_keep {Q : Rho → Fl → Prop} {ρ' : Rho} (S : St w prog env tbl s₀ N W ρ' s') (R : Frm env tbl N W) (a : Aft W s s') (hq : Q ρ' .next) : PoS w prog env tbl s₀ N W s Q .next s' := ⟨ρ', .next, W, hq, .next, S, R, fun _ => .inl, a⟩
theorem Evl.aftW (x : Evl s s') : Aft W s s' := Aft.mono x fun _ q => q.elim
theorem store_pos {i : Nat} {x : Str} {p : Pos} {v : Value} {d : D} {Q : Rho → Fl → Prop} (S : St w prog env tbl s₀ N W ρ s₁) (R : Frm env tbl N W) (ev : Aft W s s₁) (ht : tgtName false env.scope.names tbl i (.Name x p) = true) (r : Rep w prog (fun a => N a ∨ W a) s₁.heap v d)
    (hq : Q (ρ.set i (some (.sh d))) .next) : wpAny (model prog w) A (storeName env x v) (fun _ => PoS w prog env tbl s₀ N W s Q .next) E s₁ := by
  obtain ⟨x', p', e, hx, hw⟩ := tgtName_inv ht
  cases e
  obtain ⟨a, b, Hm⟩ := R.home x (List.mem_of_getElem? hx)
  obtain ⟨H', _⟩ := Hm.write hw
  exact S.store R hx H' r fun s' S' a' => pos_keep S' R (ev.trans (a'.mono fun b hb => by subst hb; exact R.homeW x (List.mem_of_getElem? hx) _ H')) hq
theorem sndS_assign {i : Nat} {x : Str} {p pos : Pos} {ex : Expr} {P : Rho → (D → Prop) → Prop} (ht : tgtName false env.scope.names tbl i (.Name x p) = true) (hn : notComp ex = true) (h : SndE prog w A env tbl s₀ N₀ ex P) :
    SndS prog w A env tbl s₀ N₀ (.Assign [.Name x p] ex pos) (fun ρ Q => P ρ fun d => Q (ρ.set i (some (.sh d))) .next) := fun N W ρ s E Q hN S R hq =>
  wpAny_Assign_Name (wpAny_mono (h N W ρ s E _ hN S R hq) (fun v s₁ ⟨d, hd, ev, r⟩ => store_pos (S.step ev) R ev.aftW ht r hd) fun _ _ q => q) (swaps_false hn _ _ _)
theorem own_pos {i : Nat} {x : Str} {p : Pos} {v : Value} {d : D} {lv : LV} {a : Addr} {Q : Rho → Fl → Prop} (S : St w prog env tbl s₀ N W ρ s) (R : Frm env tbl N W) (ev : Evl s s₁) (ht : tgtName false env.scope.names tbl i (.Name x p) = true) (hi : i < ρ.length)
    (hn : s.heap.get? a = none) (hl : ∃ o, s₁.heap.get? a = some o) (r : LvRep w prog (fun b => (N b ∨ W b) ∨ b = a) s₁.heap [a] v lv) (hq : Q (ρ.set i (some lv)) .next) :
    wpAny (model prog w) A (storeName env x v) (fun _ => PoS w prog env tbl s₀ N W s Q .next) E s₁ := by
  obtain ⟨x', p', e, hx, hw⟩ := tgtName_inv ht
  cases e
  obtain ⟨b, c, Hm⟩ := R.home x (List.mem_of_getElem? hx)
  obtain ⟨H', _⟩ := Hm.write hw
  refine S.storeOwn R ev hx hi H' (fun b hb => by rw [List.mem_singleton.mp hb]; exact ⟨hn, hl⟩) (by simp) (fun a => .inl) (fun a => id) (fun b hb q => ?_) (r.go (fun b o hF e => ⟨fun q => hF ?_, e⟩) fun _ _ _ _ e => e) fun s' S' a' => ⟨_, .next, _, hq, .next, S', R.moreW fun a => .inl, fun b hb => hb.imp id fun q => by rw [List.mem_singleton.mp q]; exact hn, ev.aftW.trans a'⟩
  · rw [List.mem_singleton.mp hb] at q
    obtain ⟨o, e⟩ := S.live a (.inl q); rw [hn] at e; cases e
  · rcases q with q | q | q
    · exact .inl (.inl q)
    · exact .inl (.inr q)
    · exact .inr (List.mem_singleton.mp q)
theorem sndS_assignO {i : Nat} {x : Str} {p pos : Pos} {ex : Expr} {P : Rho → (D → Prop) → Prop} (ht : tgtName false env.scope.names tbl i (.Name x p) = true) (hn : notComp ex = true) (h : SndO prog w A env tbl s₀ N₀ ex P) :
    SndS prog w A env tbl s₀ N₀ (.Assign [.Name x p] ex pos) (fun ρ Q => P ρ fun d => ∃ lv, toLV d = some lv ∧ i < ρ.length ∧ Q (ρ.set i (some lv)) .next) := fun N W ρ s E Q hN S R hq =>
  wpAny_Assign_Name (wpAny_mono (h N W ρ s E _ hN S R hq) (fun v s₁ ⟨d, lv, a, hl, ⟨lv', hl', hi, hd⟩, ev, hn, hlive, r⟩ => by
    rw [hl] at hl'; cases hl'
    exact own_pos (d := d) S R ev ht hi hn hlive r hd) fun _ _ q => q) (swaps_false hn _ _ _)
theorem swaps_comp {ex : Expr} {x : Str} {p : Pos} {l : Nat} {env : Env} (h : isComp ex = true) : ∃ b, swapsWith ex (some (.Name x p)) l env = pure b := by
  cases ex <;> first | exact ⟨_, rfl⟩ | cases h
theorem use_comp {ex : Expr} {u : Value → Sem Unit} {env : Env} (h : isComp ex = true) : evalThenUse ex env u = (do let _ ← compOf ex env (some u)) := by
  cases ex <;> first | rfl | cases h
theorem sndS_comp {i : Nat} {x : Str} {p pos : Pos} {ex : Expr} {P : Rho → (D → Prop) → Prop} (own : Bool) (ht : tgtName false env.scope.names tbl i (.Name x p) = true) (h : SndK prog w A env tbl s₀ N₀ ex P) :
    SndS prog w A env tbl s₀ N₀ (.Assign [.Name x p] ex pos) (fun ρ Q => P ρ fun d => match own with | true => ∃ lv, toLV d = some lv ∧ i < ρ.length ∧ Q (ρ.set i (some lv)) .next | false => Q (ρ.set i (some (.sh d))) .next) := fun N W ρ s E Q hN S R hq => by
  obtain ⟨b, hsw⟩ := swaps_comp (x := x) (p := p) (l := pos.line) (env := env) h.1
  cases b with
  | false =>
    refine wpAny_Assign_Name (wpAny_mono (snd_compO h N W ρ s E _ hN S R hq) (fun v s₁ hx => ?_) fun _ _ q => q) hsw
    cases own with
    | true =>
      obtain ⟨d, lv, a, hl, ⟨lv', hl', hi, hd⟩, ev, hn, hlive, r⟩ := hx
      rw [hl] at hl'; cases hl'
      exact own_pos (d := d) S R ev ht hi hn hlive r hd
    | false =>
      obtain ⟨d, hd, ev, r⟩ := hx.po S.live
      exact store_pos (S.step ev) R ev.aftW ht r hd
  | true =>
    rw [exec_Assign_Name_used _ _ _ _ hsw]
    have e1 := use_comp (u := assign (.Name x p) env) (env := env) h.1
    rw [e1]
    refine wpAny_bind (wpAny_standAt (wpAny_bind (wpAny_bind (wpAny_mono (h.2 N W ρ s E _ (some (assign (.Name x p) env)) (fun _ => PoS w prog env tbl s₀ N W s Q .next) hN S R hq fun s' a C d lv hl hd ev h1 h2 hne ⟨o, ho⟩ r ⟨m, hm⟩ => ?_) (fun _ s' q => wpAny_pure (wpAny_pure q)) fun _ _ q => q))))
    show wpAny _ _ (assign (.Name x p) env (.ref a)) _ _ _
    refine wpAny_assign_Name ?_
    obtain ⟨x', p', e, hx, hw⟩ := tgtName_inv ht
    cases e
    obtain ⟨hm₀, c₀, Hm⟩ := R.home x (List.mem_of_getElem? hx)
    obtain ⟨H', _⟩ := Hm.write hw
    have Ccell : ∀ n c, env.cells.lookup n = some c → C ≠ c := fun n c hc q => by obtain ⟨o, e⟩ := S.cellLive hc; rw [← q, h2] at e; cases e
    have Cloc : C ≠ env.locals := fun q => by obtain ⟨m, o, _, _, e, _⟩ := S.ns; rw [← q, h2] at e; cases e
    have CW : ¬ W C := fun q => by obtain ⟨o, e⟩ := S.live C (.inr q); rw [h2] at e; cases e
    have Clive : ∃ o, s'.heap.get? C = some o := by obtain ⟨o, _, _, e, _⟩ := hm; exact ⟨o, e⟩
    have C0 : s₀.heap.get? C = none := S.evl.none h2
    have nN : ∀ b, (N b ∨ b = C) → N b ∨ (s.heap.get? b = none ∧ ∃ o, s'.heap.get? b = some o) := fun b hb => by
      rcases hb with q | q
      · exact .inl q
      · subst q; exact .inr ⟨h2, Clive⟩
    have R' : Frm env tbl (fun b => N b ∨ b = C) W := R.moreN fun b => .inl
    -- the end, once the name is set in a frame that forbids C too
    have fin : ∀ (W₂ : Addr → Prop) (ρ' : Rho) (s'' : Shared), St w prog env tbl s₀ (fun b => N b ∨ b = C) W₂ ρ' s'' → Frm env tbl (fun b => N b ∨ b = C) W₂ → (∀ b, W₂ b → W b ∨ s.heap.get? b = none) → ¬ W₂ C → Aft W s' s'' → Q ρ' .next →
        ∃ m, s''.heap.Ns C m ∧ ∀ h', Heap.SameBut C s''.heap h' → PoS w prog env tbl s₀ N W s Q .next { s'' with heap := h' } := fun W₂ ρ' s'' S₂ R₂ g₂ cw a₂ hq => by
      refine ⟨m, hm.at' fun o e => a₂.heap C o CW e, fun h' hs => ?_⟩
      have aC : Aft (fun b => b = C) s'' { s'' with heap := h' } := Aft.of (tk := s''.toks) fun b o hb e => hs.extBut b o hb e
      refine ⟨ρ', .next, W₂, hq, .next, S₂.retire aC (fun b hb => by subst hb; exact ⟨.inr rfl, C0, cw, Cloc, Ccell⟩) fun b hb => ⟨.inl hb, fun q => by subst q; obtain ⟨o, e⟩ := S.live b (.inl hb); rw [h2] at e; cases e⟩, ⟨R₂.kind, R₂.nodup, R₂.plain, R₂.home, fun y hy b c Hy => ?_, R₂.homeW⟩, g₂, ?_⟩
      · rcases R₂.homeN y hy b c Hy with (q | q) | q
        · exact .inl q
        · exfalso
          subst q
          obtain ⟨m, cm, own, L, _⟩ := S.vals
          rcases L.home Hy with q | ⟨n, hn⟩
          · exact Cloc q
          · exact Ccell n _ hn rfl
        · exact .inr q
      · exact Aft.trans' (ev.aftW (W := W)) (Aft.trans (a₂.mono fun b q => Or.inl (b := b = C) q) (aC.mono fun b q => Or.inr q)) fun b hb => by
          rcases hb with q | q
          · exact .inl q
          · exact .inr (q ▸ h2)
    cases own with
    | false =>
      have S' := S.moreN ev nN
      have rr : Rep w prog (fun b => (N b ∨ b = C) ∨ W b) s'.heap (.ref a) d := by
        have na : ¬ ((N a ∨ a = C) ∨ W a) := fun q => by
          rcases q with (q | q) | q
          · obtain ⟨o, e⟩ := S.live a (.inl q); rw [h1] at e; cases e
          · exact hne q
          · obtain ⟨o, e⟩ := S.live a (.inr q); rw [h1] at e; cases e
        cases d with
        | lst ds =>
          cases hl
          obtain ⟨b, vs, hb, hfp, e, r⟩ := r
          cases hb
          exact .lst na e.list (r.anti fun b q => q.imp (Or.imp id .inl) id)
        | dct ds =>
          cases hl
          obtain ⟨b, vs, hb, hfp, e, r⟩ := r
          cases hb
          exact .dct na e (r.go fun b o hF e => ⟨fun q => hF (q.imp (Or.imp id .inl) id), e⟩)
        | _ => cases hl
      exact S'.store R' hx H' rr fun s'' S'' a'' => fin W _ s'' S'' R' (fun b => .inl) CW (a''.mono fun b hb => by subst hb; exact R.homeW x (List.mem_of_getElem? hx) _ H') hd
    | true =>
      obtain ⟨lv', hl', hi, hd⟩ := hd
      rw [hl] at hl'; cases hl'
      refine S.storeOwn R ev hx hi H' (fun b hb => by rw [List.mem_singleton.mp hb]; exact ⟨h1, o, ho⟩) (by simp) nN (fun b => .inl) (fun b hb q => ?_) (r.go (fun b o hF e => ⟨fun q => hF ?_, e⟩) fun _ _ _ _ e => e) fun s'' S'' a'' => fin _ _ s'' S'' (R'.moreW fun b => .inl) (fun b hb => hb.imp id fun q => by rw [List.mem_singleton.mp q]; exact h1) (fun q => q.elim CW fun q => hne (List.mem_singleton.mp q).symm) a'' hd
      · rw [List.mem_singleton.mp hb] at q
        rcases q with q | q
        · obtain ⟨o, e⟩ := S.live a (.inl q); rw [h1] at e; cases e
        · exact hne q
      · rcases q with (q | q) | q | q
        · exact .inl (.inl q)
        · exact .inl (.inr (.inl q))
        · exact .inr q
        · exact .inl (.inr (.inr (List.mem_singleton.mp q)))
end
end Mine
end
section
open PySem PySem.Calls PyProof.Rows
namespace Mine
section
variable {prog : Program} {w : World} {A : Around} {E : Value → Shared → Prop} {s s' s₁ s₂ : Shared} {s₀ : Base} {env : Env} {tbl tbl' : List Str} {N N' W W' N₀ : Addr → Prop} {ρ : Rho} {F : Addr → Prop} {mg mb : Str → Option Value} {H : Heap}
theorem own_get {fp : List Addr} {v kv : Value} {lv : LV} {dk : D} {Q : D → Prop} (r : LvRep w prog F s.heap fp v lv) (rk : Rep w prog F s.heap kv dk) (hq : getW lv dk Q) : wpAny (model prog w) A (getItem v kv) (Po w prog F s Q) E s := by
  cases lv with
  | ol ds =>
    obtain ⟨a, vs, rfl, hfp, e, r⟩ := r
    cases rk with
    | int k t =>
      obtain ⟨d, hd, hq⟩ := hq
      rw [Option.bind_eq_some_iff] at hd
      obtain ⟨j', hj, hd⟩ := hd
      rw [← r.length] at hj
      obtain ⟨v, hv, q⟩ := r.get hd
      exact item_list e.list hj hv ⟨d, hq, .refl _ _, q⟩
    | none => exact hq.elim
    | bool _ => exact hq.elim
    | str _ _ => exact hq.elim
    | tup _ _ _ => exact hq.elim
    | lst _ _ _ => exact hq.elim
    | dct _ _ _ => exact hq.elim
  | od ds =>
    obtain ⟨a, vs, rfl, hfp, e, r⟩ := r
    have hq' : ∃ k' d, dk.key? = some k' ∧ klook k' _ = some d ∧ Q d := hq
    obtain ⟨k, d, hk, hl, hq⟩ := hq'
    rcases r.find k with ⟨h1, _⟩ | ⟨d', v, h1, h2, q⟩
    · rw [h1] at hl; cases hl
    · rw [h1] at hl; cases hl
      exact wpAny_getItem_of (key_is rk hk) e.mapOf h2 ⟨d, hq, Evl.toks, q⟩
  | sh _ => exact hq.elim
  | oll _ => exact hq.elim
  | exc _ => exact hq.elim
inductive SetTo (w : World) (prog : Program) (F : Addr → Prop) (fp : List Addr) (v : Value) (s : Shared) (Q : LV → Prop) (s' : Shared) : Prop
  | mk (lv' : LV) (h' : Heap) (tk : Nat) (q : Q lv') (e : s' = { s with heap := h', toks := tk }) (ow : lv'.owned = true) (k : ∀ b o, b ∉ fp → s.heap.get? b = some o → h'.get? b = some o) (l : ∀ a ∈ fp, ∃ o, h'.get? a = some o) (r : LvRep w prog F h' fp v lv') : SetTo w prog F fp v s Q s'
theorem set_list {l : Addr} {vs : List Value} {i : Nat} {t : Tok} {v : Value} {Q : Unit → Shared → Prop} (e : LstAt s.heap l vs) (hi : i < vs.length) (hz : vs.length ≤ 1048576) (h : ∀ h', LstAt h' l (vs.set i v) → (∀ b o, b ≠ l → s.heap.get? b = some o → h'.get? b = some o) → Q () { s with heap := h' }) :
    wpAny (model prog w) A (setItem (.ref l) (.int i t) v) Q E s := by
  obtain ⟨n, e⟩ := e
  refine PySem.W.ki_setAt (n := n) e (by (first | lia | omega)) (by (first | lia | omega)) (by simpa using hi) (h _ ⟨n, ?_⟩ fun b o hb q => (Heap.SameBut.update ..).extBut b o hb q)
  rw [Heap.get?_update_self _ e rfl]
  simp [Obj.mapSeq]
theorem own_set {fp : List Addr} {v kv x : Value} {lv : LV} {dk dx : D} {Q : LV → Prop} (hF : ∀ a ∈ fp, F a) (r : LvRep w prog F s.heap fp v lv) (rk : Rep w prog F s.heap kv dk) (rx : Rep w prog F s.heap x dx) (hq : setW lv dk dx Q) :
    wpAny (model prog w) A (setItem v kv x) (fun _ => SetTo w prog F fp v s Q) E s := by
  cases lv with
  | ol ds =>
    obtain ⟨a, vs, rfl, hfp, e, r⟩ := r
    subst hfp
    cases rk with
    | int k t =>
      obtain ⟨⟨h0, h1⟩, hf, hq⟩ := hq
      unfold fits at hf
      obtain ⟨i, rfl⟩ := Int.eq_ofNat_of_zero_le h0
      rw [← r.length] at h1 hf
      refine set_list e (by (first | lia | omega)) hf fun h' e' k => ⟨_, h', s.toks, hq, rfl, rfl, fun b o hb q => k b o (fun q => hb (List.mem_singleton.mpr q)) q, fun b hb => by rw [List.mem_singleton.mp hb]; exact e'.live, a, _, rfl, rfl, e', ?_⟩
      have g : ∀ b o, ¬ F b → s.heap.get? b = some o → ¬ F b ∧ h'.get? b = some o := fun b o hb q => ⟨hb, k b o (fun q => hb (q ▸ hF a (.head _))) q⟩
      exact (r.go g).set (rx.go g)
    | none => exact hq.elim
    | bool _ => exact hq.elim
    | str _ _ => exact hq.elim
    | tup _ _ _ => exact hq.elim
    | lst _ _ _ => exact hq.elim
    | dct _ _ _ => exact hq.elim
  | od ds =>
    obtain ⟨a, vs, rfl, hfp, e, r⟩ := r
    subst hfp
    obtain ⟨kk, hk, hf, hq⟩ := hq
    unfold fits at hf
    refine wpAny_setItem_pairs (hsz := by rw [sizeLine_eq, r.length]; (first | lia | omega)) (key_is rk hk) e fun h' e' hs => ⟨_, h', s.toks + 1, hq, rfl, rfl, fun b o hb q => hs.extBut b o (fun q => hb (List.mem_singleton.mpr q)) q, fun b hb => ?_, a, _, rfl, rfl, e', ?_⟩
    · rw [List.mem_singleton.mp hb]; obtain ⟨o, _, _, e, _⟩ := e'; exact ⟨o, e⟩
    have g : ∀ b o, ¬ F b → s.heap.get? b = some o → ¬ F b ∧ h'.get? b = some o := fun b o hb q => ⟨hb, hs.extBut b o (fun q => hb (q ▸ hF a (.head _))) q⟩
    exact RepKs.put (rx.go g) (r.go g) (DictOf.nodup e)
  | sh _ => exact hq.elim
  | oll _ => exact hq.elim
  | exc _ => exact hq.elim
theorem getW_owned {lv : LV} {dk : D} {Q : D → Prop} (h : getW lv dk Q) : lv.owned = true := by cases lv <;> first | rfl | exact h.elim
theorem setW_owned {lv : LV} {dk dv : D} {Q : LV → Prop} (h : setW lv dk dv Q) : lv.owned = true := by cases lv <;> first | rfl | exact h.elim
theorem sndS_setitem {j : Nat} {x : Str} (hx : tbl[j]? = some x) {q sp pos : Pos} {kx vx : Expr} {Pk Pv : Rho → (D → Prop) → Prop} (hn : notComp vx = true) (hk : SndE prog w A env tbl s₀ N₀ kx Pk) (hv : SndE prog w A env tbl s₀ N₀ vx Pv) :
    SndS prog w A env tbl s₀ N₀ (.Assign [.Subscript (.Name x q) kx sp] vx pos) (fun ρ Q => match ρ.at j with | some lv => Pv ρ fun dv => Pk ρ fun dk => (setW lv dk dv fun lv' => Q (ρ.set j (some lv')) .next) | none => False) := fun N W ρ s E Q hN S R hq => by
  have hpn := (R.plain x (List.mem_of_getElem? hx)).1
  dsimp only at hq
  split at hq
  · rename_i lv hlv
    by_cases ho : lv.owned = true
    · obtain ⟨v, fp, r, hW, hnd, hld, hput⟩ := S.own R hx hlv ho
      refine wpAny_Assign_Subscript (wpAny_mono (hv N W ρ s E _ hN S R hq) (fun x₁ s₁ ⟨dv, hd, ev₁, rv⟩ => ?_) fun _ _ q => q) (swaps_false hn _ _ _)
      refine wpAny_Name (hld A E _ s₁ ev₁ ?_) hpn
      refine wpAny_mono (hk N W ρ s₁ E _ hN (S.step ev₁) R hd) (fun kv s₂ ⟨dk, hd₂, ev₂, rk⟩ => ?_) fun _ _ q => q
      have ev := ev₁.trans ev₂
      refine wpAny_mono (own_set (F := fun a => N a ∨ W a) (fun a ha => .inr (hW a ha).1) (r.go (fun a o hF e => ⟨hF, ev.heap a o id e⟩) fun _ a _ o e => ev.heap a o id e) rk (rv.ext ev₂.ext) hd₂) (fun _ s₃ ⟨lv', h', tk, hq, e3, ho', k1, k2, r'⟩ => ?_) fun _ _ q => q
      subst e3
      obtain ⟨S', a'⟩ := hput s₂ h' tk lv' ev ho' k1 k2 r'
      exact pos_keep S' R (Aft.trans (Evl.aftW ev) a') hq
    · refine wpAny_Assign_Subscript (wpAny_mono (hv N W ρ s E _ hN S R hq) (fun x₁ s₁ ⟨dv, hd, ev₁, rv⟩ => ?_) fun _ _ q => q) (swaps_false hn _ _ _)
      refine wpAny_Name ((S.step ev₁).loadv R hx hlv fun v fp r => ?_) hpn
      refine wpAny_mono (hk N W ρ s₁ E _ hN (S.step ev₁) R hd) (fun kv s₂ ⟨dk, hd₂, _, _⟩ => ?_) fun _ _ q => q
      exact absurd (setW_owned hd₂) ho
  · exact hq.elim
theorem sndS_aug {i : Nat} {x : Str} {p pos : Pos} {op : Bop} {ex : Expr} {P : Rho → (D → Prop) → Prop} (ht : tgtName false env.scope.names tbl i (.Name x p) = true) (h : SndE prog w A env tbl s₀ N₀ ex P) :
    SndS prog w A env tbl s₀ N₀ (.AugAssign (.Name x p) op.op ex pos) (fun ρ Q => match ρ.at i with | some (.sh a) => P ρ fun b => iopW op a b fun d => Q (ρ.set i (some (.sh d))) .next | _ => False) := fun N W ρ s E Q hN S R hq => by
  obtain ⟨x', p', e, hx, hw⟩ := tgtName_inv ht
  cases e
  dsimp only at hq
  split at hq
  · rename_i a hd
    refine wpAny_AugAssign_Name (S.load R hx hd fun v r => ?_)
    refine wpAny_mono (h N W ρ s E _ hN S R hq) (fun v' s₁ ⟨b, hb, ev, r'⟩ => ?_) fun _ _ q => q
    refine wpAny_mono (iop_sound (r.ext ev.ext) r' hb) (fun v₂ s₂ ⟨d, hd, ev₂, r₂⟩ => ?_) fun _ _ q => q
    exact store_pos (S.step (ev.trans ev₂)) R (Evl.aftW (ev.trans ev₂)) ht r₂ hd
  · exact hq.elim
theorem sndS_augitem {j : Nat} {x : Str} (hx : tbl[j]? = some x) {q sp pos : Pos} {kx ex : Expr} {op : Bop} {Pk P : Rho → (D → Prop) → Prop} (hsl : notSlice kx = true) (hk : SndE prog w A env tbl s₀ N₀ kx Pk) (h : SndE prog w A env tbl s₀ N₀ ex P) :
    SndS prog w A env tbl s₀ N₀ (.AugAssign (.Subscript (.Name x q) kx sp) op.op ex pos) (fun ρ Q => match ρ.at j with
      | some lv => Pk ρ fun dk => getW lv dk fun a => P ρ fun b => iopW op a b fun d => setW lv dk d fun lv' => Q (ρ.set j (some lv')) .next
      | none => False) := fun N W ρ s E Q hN S R hq => by
  have hpn := (R.plain x (List.mem_of_getElem? hx)).1
  have haug : ∀ ov iv new, augStore kx ov iv new = (do holding [new, ov, iv] (setItem ov iv new); release [new, ov, iv] []; pure .next) := fun ov iv new => by cases kx <;> first | rfl | cases hsl
  dsimp only at hq
  split at hq
  · rename_i lv hlv
    by_cases ho : lv.owned = true
    · obtain ⟨v, fp, r, hW, hnd, hld, hput⟩ := S.own R hx hlv ho
      refine wpAny_AugAssign_SubscriptAny (wpAny_Name (hld A E _ s (.refl _ _) ?_) hpn) haug
      refine wpAny_mono (hk N W ρ s E _ hN S R hq) (fun kv s₁ ⟨dk, hd, ev₁, rk⟩ => ?_) fun _ _ q => q
      have rr : ∀ {s₂ : Shared}, Evl s s₂ → LvRep w prog (fun a => N a ∨ W a) s₂.heap fp v lv := fun ev => r.go (fun a o hF e => ⟨hF, ev.heap a o id e⟩) fun _ a _ o e => ev.heap a o id e
      refine wpAny_mono (own_get (rr ev₁) rk hd) (fun v₂ s₂ ⟨a, ha, ev₂, ra⟩ => ?_) fun _ _ q => q
      have e12 := ev₁.trans ev₂
      refine wpAny_mono (h N W ρ s₂ E _ hN (S.step e12) R ha) (fun v₃ s₃ ⟨b, hb, ev₃, rb⟩ => ?_) fun _ _ q => q
      refine wpAny_mono (iop_sound (ra.ext ev₃.ext) rb hb) (fun v₄ s₄ ⟨d, hd₄, ev₄, r₄⟩ => ?_) fun _ _ q => q
      have ev := (e12.trans ev₃).trans ev₄
      refine wpAny_mono (own_set (F := fun a => N a ∨ W a) (fun a ha => .inr (hW a ha).1) (rr ev) (((rk.ext ev₂.ext).ext ev₃.ext).ext ev₄.ext) r₄ hd₄) (fun _ s₅ ⟨lv', h', tk, hq, e5, ho', k1, k2, r'⟩ => ?_) fun _ _ q => q
      subst e5
      obtain ⟨S', a'⟩ := hput s₄ h' tk lv' ev ho' k1 k2 r'
      exact pos_keep S' R (Aft.trans (Evl.aftW ev) a') hq
    · refine wpAny_AugAssign_SubscriptAny (wpAny_Name (S.loadv R hx hlv fun v fp r => ?_) hpn) haug
      refine wpAny_mono (hk N W ρ s E _ hN S R hq) (fun kv s₁ ⟨dk, hd, _, _⟩ => ?_) fun _ _ q => q
      exact absurd (getW_owned hd) ho
  · exact hq.elim
theorem sndS_append {j : Nat} {x : Str} (hx : tbl[j]? = some x) (hkd : env.scope.kind = .function) {q apos cpos pos : Pos} {e : Expr} {P : Rho → (D → Prop) → Prop} (hst : notStar e = true) (hl : (apos.endLine == cpos.line) = true) (h : SndE prog w A env tbl s₀ N₀ e P) :
    SndS prog w A env tbl s₀ N₀ (.Expr (.Call (.Attribute (.Name x q) "append" apos) [e] [] cpos) pos) (fun ρ Q => match ρ.at j with
      | some (.ol ds) => P ρ fun d => fits (ds.length + 1) ∧ Q (ρ.set j (some (.ol (ds ++ [d])))) .next
      | _ => False) := fun N W ρ s E Q hN S R hq => by
  have hpn := (R.plain x (List.mem_of_getElem? hx)).1
  dsimp only at hq
  split at hq
  · rename_i ds hlv
    obtain ⟨v, fp, ⟨a, vs, rfl, hfp, el, r⟩, hW, hnd, hld, hput⟩ := S.own R hx hlv rfl
    subst hfp
    have ht : backTo cpos (starEach [e] env) = [(false, eval e env)] := by rw [starEach_cons hst]; rfl
    refine wpAny_Expr (wpAny_Call_append rfl (by rw [ht]; rfl) hl ht (wpAny_Name (hld A E _ s (.refl _ _) ⟨a, vs.toArray, rfl, by obtain ⟨n, e⟩ := el; exact ⟨_, n, e, rfl, rfl, rfl⟩, ?_⟩) hpn)) (by unfold interactive; rw [hkd]; rfl) rfl
    refine wpAny_mono (h N W ρ s E _ hN S R hq) (fun v s₁ ⟨d, ⟨hf, hd⟩, ev, rd⟩ => ?_) fun _ _ q => q
    unfold fits at hf
    refine wpAny_list_append_plain (hsz := by rw [sizeLine_eq, List.size_toArray, r.length]; (first | lia | omega)) (el.keep fun o q => ev.heap _ _ id q) fun h' hl' hs => ?_
    have el' : LstAt h' a (vs ++ [v]) := by unfold LstAt; rw [show (vs ++ [v]).toArray = vs.toArray.push v by simp]; exact hl'
    have g : ∀ b o, ¬ (N b ∨ W b) → s₁.heap.get? b = some o → ¬ (N b ∨ W b) ∧ h'.get? b = some o := fun b o hb q => ⟨hb, hs.extBut b o (fun q => hb (.inr (q ▸ (hW a (.head _)).1))) q⟩
    obtain ⟨S', a'⟩ := hput s₁ h' s₁.toks (.ol (ds ++ [d])) ev rfl (fun b o hb q => hs.extBut b o (fun q => hb (List.mem_singleton.mpr q)) q) (fun b hb => by rw [List.mem_singleton.mp hb]; exact el'.live) ⟨a, _, rfl, rfl, el', ((r.ext ev.ext).go g).append (.cons (rd.go g) .nil)⟩
    exact pos_keep S' R (Aft.trans (Evl.aftW ev) a') hd
  · exact hq.elim
theorem sndS_unpack (hh : A.handled = none) {is : List Nat} {es : List Expr} {k : Nat} {tp pos : Pos} {ex : Expr} {P : Rho → (D → Prop) → Prop} (ht : tgtNames false env.scope.names tbl is es = true) (hn : notComp ex = true) (hnt : ∀ ts, swappedStores ts ex env = pure none) (h : SndE prog w A env tbl s₀ N₀ ex P) :
    SndS prog w A env tbl s₀ N₀ (.Assign [.Tuple es k tp] ex pos) (fun ρ Q => P ρ fun d => asgW (.tp is) d ρ fun ρ' => Q ρ' .next) := fun N W ρ s E Q hN S R hq => by
  refine PyProof.Rows.Assign_Tuple (wpAny_mono (h N W ρ s E _ hN S R hq) (fun v s₁ ⟨d, hd, ev, r⟩ => ?_) fun _ _ q => q) (show swapsWith ex (some (.Tuple es k tp)) pos.line env = _ from swaps_false hn _ _ _) (hnt _)
  exact asg_sound (lo := false) (t := .tp is) (e := .Tuple es k tp) hh (S.step ev) R ht r hd fun ρ' s' hq S' a' => pos_keep S' R (Aft.trans (Evl.aftW ev) (a'.mono fun b q => q.1)) hq
theorem PoS.trans {Q : Rho → Fl → Prop} {f : Flow} (R₁ : ∀ a, W' a → W a ∨ s.heap.get? a = none) (a₁ : Aft W s s₁) (h : PoS w prog env tbl s₀ N W' s₁ Q f s') : PoS w prog env tbl s₀ N W s Q f s' := by
  obtain ⟨ρ', fl, W₂, hq, hf, S, R, g, a⟩ := h
  exact ⟨ρ', fl, W₂, hq, hf, S, R, grow_trans R₁ a₁ g, Aft.trans' a₁ a R₁⟩
theorem snd_seq_nil : SndSs prog w A env tbl s₀ N₀ [] (fun ρ Q => Q ρ .next) := fun N W ρ s E Q hN S R hq => wpAny_pure (pos_keep S R (.refl _ _) hq)
theorem snd_seq_cons {st : Stmt} {sts : List Stmt} {P Ps : Rho → (Rho → Fl → Prop) → Prop} (h : SndS prog w A env tbl s₀ N₀ st P) (hs : SndSs prog w A env tbl s₀ N₀ sts Ps) :
    SndSs prog w A env tbl s₀ N₀ (st :: sts) (fun ρ Q => P ρ fun ρ' fl => match fl with | .next => Ps ρ' Q | fl => Q ρ' fl) := fun N W ρ s E Q hN S R hq => by
  show wpAny _ _ (do
    match ← exec st env with
    | .next => execs sts env
    | f => pure f) _ _ _
  refine wpAny_bind (wpAny_mono (h N W ρ s E _ hN S R hq) (fun f s₁ ⟨ρ₁, fl, W₁, hq₁, hf, S₁, R₁, g₁, a₁⟩ => ?_) fun _ _ q => q)
  cases hf with
  | next => exact wpAny_mono (hs N W₁ ρ₁ s₁ E Q hN S₁ R₁ hq₁) (fun f s₂ h₂ => h₂.trans g₁ a₁) fun _ _ q => q
  | brk => exact wpAny_pure ⟨ρ₁, .brk, W₁, hq₁, .brk, S₁, R₁, g₁, a₁⟩
  | ret r => exact wpAny_pure ⟨ρ₁, _, W₁, hq₁, .ret r, S₁, R₁, g₁, a₁⟩
theorem snd_seq_freeze {i : Nat} {x : Str} (hx : tbl[i]? = some x) {sts : List Stmt} {Ps : Rho → (Rho → Fl → Prop) → Prop} (hs : SndSs prog w A env tbl s₀ N₀ sts Ps) :
    SndSs prog w A env tbl s₀ N₀ sts (fun ρ Q => match ρ.at i with | some lv => ∃ d, lv.froz = some d ∧ Ps (ρ.set i (some (.sh d))) Q | none => False) := fun N W ρ s E Q hN S R hq => by
  dsimp only at hq
  split at hq
  · rename_i lv hlv
    obtain ⟨d, hd, hq⟩ := hq
    obtain ⟨W', hle, R', S'⟩ := S.freeze R hx hlv hd
    exact wpAny_mono (hs N W' _ s E Q hN S' R' hq) (fun f s₂ h₂ => h₂.trans (fun a ha => .inl (hle a ha)) (.refl _ _)) fun _ _ q => q
  · exact hq.elim
theorem sndS_if {c : Expr} {a b : List Stmt} {pos : Pos} {Pc : Rho → (Bool → Prop) → Prop} {Pa Pb : Rho → (Rho → Fl → Prop) → Prop} (hc : SndC prog w A env tbl s₀ N₀ c Pc) (ha : SndSs prog w A env tbl s₀ N₀ a Pa) (hb : SndSs prog w A env tbl s₀ N₀ b Pb) :
    SndS prog w A env tbl s₀ N₀ (.If c a b pos) (fun ρ Q => Pc ρ fun t => match t with | true => Pa ρ Q | false => Pb ρ Q) := fun N W ρ s E Q hN S R hq => by
  refine wpAny_If (wpAny_mono (hc N W ρ s E _ hN S R hq) (fun t s₁ ⟨ht, ev⟩ => ?_) fun _ _ q => q)
  cases t with
  | true => rw [if_pos rfl]; exact wpAny_mono (ha N W ρ s₁ E Q hN (S.step ev) R ht) (fun f s₂ h₂ => h₂.trans (fun _ => .inl) (Evl.aftW ev)) fun _ _ q => q
  | false => rw [if_neg (by decide)]; exact wpAny_mono (hb N W ρ s₁ E Q hN (S.step ev) R ht) (fun f s₂ h₂ => h₂.trans (fun _ => .inl) (Evl.aftW ev)) fun _ _ q => q
theorem sndS_ret {e : Expr} {pos : Pos} {P : Rho → (D → Prop) → Prop} (h : SndE prog w A env tbl s₀ N₀ e P) : SndS prog w A env tbl s₀ N₀ (.Return (some e) pos) (fun ρ Q => P ρ fun d => Q ρ (.ret d)) := fun N W ρ s E Q hN S R hq =>
  wpAny_Return_some (wpAny_mono (h N W ρ s E _ hN S R hq) (fun v s₁ ⟨d, hd, ev, r⟩ => ⟨ρ, .ret d, W, hd, .ret r, S.step ev, R, fun _ => .inl, (Evl.aftW ev)⟩) fun _ _ q => q)
theorem sndS_brk (pos : Pos) : SndS prog w A env tbl s₀ N₀ (.Break pos) (fun ρ Q => Q ρ .brk) := fun N W ρ s E Q hN S R hq => by
  show wpAny _ _ (do standAt pos; pure Flow.brk) _ _ _
  exact wpAny_bind (wpAny_standAt (wpAny_pure ⟨ρ, .brk, W, hq, .brk, S, R, fun _ => .inl, .refl _ _⟩))
theorem sndS_for (hh : A.handled = none) {iter target : Expr} {body : List Stmt} {pos : Pos} {t : Tgt} {kill : List Nat} {tp sf : Bool}
    {PI : Rho → (List D → Prop) → Prop} (hit : SndI prog w A env tbl s₀ N₀ tp sf iter PI) (ht : okT false env.scope.names tbl t target = true) (htp : tp = true → ∃ es k p, target = .Tuple es k p)
    {Pb : Rho → (Rho → Fl → Prop) → Prop} (hb : SndSs prog w A env tbl s₀ N₀ body Pb) : SndS prog w A env tbl s₀ N₀ (.For target iter body [] pos) (fun ρ Q => PI ρ fun ds => forW t kill Pb ds ρ Q) := fun N W ρ s E Q hN S R hq => for_sound hh S R hN hit ht htp hb hq
end
end Mine
end
section
open PySem PySem.Calls PyProof.Rows
namespace Mine
noncomputable def Rm (k : Nat) (A : Around) : Prop := A.handled = none ∧ A.depth + k < 500 ∧ A.units + 10 * k < 5000
theorem Rm.deeper {k : Nat} {A : Around} (h : Rm (k + 1) A) (env : Env) : Rm k (A.deeper env) := by
  refine ⟨h.1, ?_, ?_⟩
  · show A.depth + 1 + k < 500
    have := h.2.1; (first | lia | omega)
  · show A.units + 3 + 10 * k < 5000
    have := h.2.2; (first | lia | omega)
theorem lookup_zip : ∀ {ns : List Str} {vs : List Value} {x : Str}, ns.length = vs.length → x ∈ ns → ((ns.zip vs).lookup x).isSome = true
  | n :: ns, v :: vs, x, hl, hm => by
    rw [List.zip_cons_cons, List.lookup_cons]
    by_cases h : x = n
    · subst h; simp
    · have : (x == n) = false := by rw [beq_eq_false_iff_ne]; exact h
      rw [this]
      rcases List.mem_cons.mp hm with e | hm
      · exact absurd e h
      · exact lookup_zip (by simpa using hl) hm
  | [], _, _, _, hm => by cases hm
  | _ :: _, [], _, hl, _ => by simp at hl
theorem filterMap_zip : ∀ {ns : List Str} {vs : List Value} (l : List (Str × Value)), ns.Nodup → ns.length = vs.length → (∀ n ∈ ns, l.lookup n = (ns.zip vs).lookup n) →
    (ns.filterMap fun n => (l.lookup n).map fun x => (n, x)) = ns.zip vs
  | n :: ns, v :: vs, l, hn, hl, h => by
    rw [List.nodup_cons] at hn
    have h0 := h n (.head _)
    rw [List.zip_cons_cons, List.lookup_cons] at h0
    simp only [beq_self_eq_true] at h0
    rw [List.filterMap_cons, h0, List.zip_cons_cons]
    simp only [Option.map_some]
    rw [filterMap_zip l hn.2 (by simpa using hl) fun x hx => ?_]
    rw [h x (.tail _ hx), List.zip_cons_cons, List.lookup_cons]
    have : (x == n) = false := by rw [beq_eq_false_iff_ne]; intro e; subst e; exact hn.1 hx
    rw [this]
  | [], [], _, _, _, _ => rfl
  | [], _ :: _, _, _, hl, _ => by simp at hl
  | _ :: _, [], _, _, hl, _ => by simp at hl
theorem bind_plain {name : Str} {as : List Arg} {body : List Stmt} {scope : Scope} {pm cd doc : Value} {vs : List Value} (hn : (as.map (·.arg)).Nodup) (hl : as.length = vs.length) :
    bindArgs (docDef name ⟨[], as, none, [], [], none, []⟩ body scope pm cd doc) ⟨vs, []⟩ = pure ((as.map (·.arg)).zip vs) := by
  have hf : ((as.map (·.arg)).filter fun n => (((as.map (·.arg)).zip vs).lookup n).isNone) = [] := by
    rw [List.filter_eq_nil_iff]
    intro x hx
    have := lookup_zip (vs := vs) (by simpa using hl) hx
    cases h : List.lookup x ((as.map (·.arg)).zip vs) with
    | none => rw [h] at this; cases this
    | some _ => simp
  have hl' : ¬ (vs.length > (as.map (·.arg)).length) := by simp [hl]
  have hm := filterMap_zip (ns := as.map (·.arg)) (vs := vs) _ hn (by simpa using hl) fun _ _ => rfl
  have ht : List.take vs.length (as.map (·.arg)) = as.map (·.arg) := List.take_of_length_le (by simp [hl])
  unfold bindArgs docDef
  dsimp only [List.map_nil, List.nil_append, List.append_nil]
  have hns' : List.map (fun x => x.arg) as = as.map (·.arg) := rfl
  generalize hz : (as.map (·.arg)).zip vs = z at *
  generalize hns : as.map (·.arg) = ns at *
  have hnl : ns.length = vs.length := by rw [← hns]; simp [hl]
  have e1 : notAStandIn Value.none = pure () := rfl
  have e2 : ¬ (vs.length < ns.length) := by (first | lia | omega)
  simp only [List.nil_append, List.append_nil, List.map_nil, hz]
  simp [seqItems?, hf, ht, hm, hnl, e1]
theorem bind_old {env : Env} : ∀ {ps : List Str} {vs : List Value} {m cm : Str → Option Value} {x : Str}, x ∉ ps →
    val env (bindL env.kindOf (ps.zip vs) m) (bindC env.kindOf (ps.zip vs) cm) x = val env m cm x
  | [], vs, m, cm, x, _ => by cases vs <;> rfl
  | p :: ps, [], m, cm, x, _ => rfl
  | p :: ps, v :: vs, m, cm, x, h => by
    rw [List.zip_cons_cons]
    have hx : x ≠ p := fun e => h (e ▸ .head _)
    unfold bindL bindC
    rw [bind_old fun q => h (.tail _ q)]
    unfold val
    by_cases hk : env.kindOf p = some .local
    · rw [if_pos hk, if_pos hk]
      split <;> simp
    · rw [if_neg hk, if_neg hk]
      split <;> simp
theorem bind_new {env : Env} : ∀ {ps : List Str} {vs : List Value} {m cm : Str → Option Value} {i : Nat} {x : Str} {v : Value}, ps.Nodup → ps[i]? = some x → vs[i]? = some v →
    val env (bindL env.kindOf (ps.zip vs) m) (bindC env.kindOf (ps.zip vs) cm) x = some v
  | [], vs, m, cm, i, x, v, _, hx, _ => by simp at hx
  | p :: ps, [], m, cm, i, x, v, _, _, hv => by simp at hv
  | p :: ps, u :: vs, m, cm, i, x, v, hn, hx, hv => by
    rw [List.nodup_cons] at hn
    rw [List.zip_cons_cons]
    unfold bindL bindC
    cases i with
    | zero =>
      simp at hx hv; subst hx; subst hv
      rw [bind_old hn.1]
      unfold val
      by_cases hk : env.kindOf p = some .local
      · simp [hk]
      · simp [hk]
    | succ i => exact bind_new hn.2 (by simpa using hx) (by simpa using hv)
theorem cellsFrom_acc : ∀ (names : List (Str × NameKind)) (n : Nat) (acc : List (Str × Addr)) (x : Str), (acc.lookup x).isSome = true → ((cellsFrom n names acc).lookup x).isSome = true
  | [], _, _, _, h => h
  | (y, k) :: r, n, acc, x, h => by
    unfold cellsFrom
    split
    · refine cellsFrom_acc r _ _ x ?_
      rw [List.lookup_cons]
      split
      · rfl
      · exact h
    · exact cellsFrom_acc r _ _ x h
theorem cellsFrom_some : ∀ (names : List (Str × NameKind)) (n : Nat) (acc : List (Str × Addr)) (x : Str), names.lookup x = some .cell → ((cellsFrom n names acc).lookup x).isSome = true
  | (y, k) :: r, n, acc, x, h => by
    rw [List.lookup_cons] at h
    unfold cellsFrom
    by_cases hxy : x = y
    · subst hxy
      simp only [beq_self_eq_true] at h
      cases h
      rw [if_pos (by rfl)]
      refine cellsFrom_acc r _ _ x ?_
      simp
    · have : (x == y) = false := by rw [beq_eq_false_iff_ne]; exact hxy
      rw [this] at h
      split <;> exact cellsFrom_some r _ _ x h
noncomputable def fnScope (scope : Scope) (n : Nat) (tbl : List Str) (ps : List Str) : Bool :=
  scope.kind == .function && !scope.isGenerator && !scope.isCoroutine && decide tbl.Nodup && (tbl.take n == ps) && ps.length == n &&
  tbl.all fun x => plainName x && (scope.names.lookup x == some .local || scope.names.lookup x == some .cell)
noncomputable def rho0 (n : Nat) (ds : List D) : Rho := (ds.map fun d => some (LV.sh d)) ++ List.replicate n none
theorem rho0_at {n : Nat} {ds : List D} {i : Nat} {lv : LV} (h : (rho0 n ds).at i = some lv) : ∃ d, ds[i]? = some d ∧ lv = .sh d := by
  unfold rho0 Rho.at at h
  by_cases hi : i < ds.length
  · rw [List.getElem?_append_left (by simpa using hi)] at h
    simp [hi] at h
    exact ⟨ds[i], by simp [hi], h.symm⟩
  · rw [List.getElem?_append_right (by simpa using hi)] at h
    rw [List.getElem?_replicate] at h
    split at h <;> simp at h
noncomputable def retW (Q : D → Prop) : Rho → Fl → Prop := fun _ fl => match fl with
  | .ret d => Q d
  | .next => Q .none
  | .brk => False
noncomputable def BodyOk (prog : Program) (w : World) (H : Heap) (mg mb : Str → Option Value) (k : Nat) (scope : Scope) (tbl : List Str) (body : List Stmt) (P : Rho → (Rho → Fl → Prop) → Prop) : Prop :=
  ∀ (A : Around) (env : Env) (s₀ : Base) (N₀ : Addr → Prop), Rm k A → env.scope = scope → Fx mg mb H env s₀ N₀ → SndSs prog w A env tbl s₀ N₀ body P
theorem call_sound {prog : Program} {w : World} {H : Heap} {mg mb : Str → Option Value} {k n : Nat} {name : Str} {as : List Arg} {scope : Scope} {tbl : List Str} {body : List Stmt} {pm cd doc : Value} {a : Addr} {o : Obj}
    {P : Rho → (Rho → Fl → Prop) → Prop} (G : Gl mg mb H) (hl : H.NoLimit) (ho : H.get? a = some o) (hd : o.data = .func (docDef name ⟨[], as, none, [], [], none, []⟩ body scope pm cd doc)) (hcd : H.CodeRec cd name)
    (hs : fnScope scope n tbl (as.map (·.arg)) = true) (hb : BodyOk prog w H mg mb k scope tbl body P) :
    CallOk prog w H (Rm (k + 1)) a (fun ds Q => ds.length = n ∧ P (rho0 (tbl.length - n) ds) (retW Q)) := by
  simp only [fnScope, Bool.and_eq_true, beq_iff_eq, Bool.not_eq_true', decide_eq_true_eq, List.all_eq_true, Bool.or_eq_true] at hs
  obtain ⟨⟨⟨⟨⟨⟨h1, h2⟩, h3⟩, h4⟩, h5⟩, h6⟩, h7⟩ := hs
  intro A s F vs ds Q E hA ext lF sF r ⟨hn, hq⟩
  have hlen : as.length = vs.length := by rw [r.length, hn]; simpa using h6
  have hps : (as.map (·.arg)).Nodup := by rw [← h5]; exact List.Nodup.sublist (List.take_sublist _ _) h4
  have hkind : ∀ x ∈ (as.map (·.arg)).zip vs, scope.names.lookup x.1 = some .local ∨ (scope.names.lookup x.1 = some .cell ∧ ((cellsFrom (s.heap.objs.size + 1) scope.names []).lookup x.1).isSome = true) := fun x hx => by
    have hm : x.1 ∈ tbl := by
      have := (List.of_mem_zip hx).1
      rw [← h5] at this
      exact List.mem_of_mem_take this
    rcases (h7 _ hm).2 with q | q
    · exact .inl q
    · exact .inr ⟨q, cellsFrom_some _ _ _ _ q⟩
  refine wpAny_call (call_cells_ret (by have := hA.2.1; unfold recursionLimit; (first | lia | omega)) (ext _ _ ho) hd (hl.keeps ext) (hcd.keeps ext) (bind_plain hps hlen) hkind (fun h₁ tk Ff X => ?_) h3 h2 h1)
  generalize henv : envOfC name scope s.heap.objs.size a cd = env at *
  have el : env.locals = s.heap.objs.size := by rw [← henv]; rfl
  have ec : env.cells = cellsFrom (s.heap.objs.size + 1) scope.names [] := by rw [← henv]; rfl
  have es : env.scope = scope := by rw [← henv]; rfl
  have hk : ∀ x, env.kindOf x = scope.names.lookup x := fun x => by rw [← henv]; rfl
  have hlive : ∀ b, (b = env.locals ∨ ∃ x, env.cells.lookup x = some b) → (∃ o, h₁.get? b = some o) ∧ s.heap.objs.size ≤ b := fun b hb => by
    rcases hb with q | ⟨x, q⟩
    · rw [q, el]
      obtain ⟨o, _, _, e, _⟩ := Ff.ns
      exact ⟨⟨o, e⟩, Nat.le_refl _⟩
    · rw [ec] at q
      obtain ⟨o, e, _⟩ := X.cell x b q
      exact ⟨⟨o, e⟩, Nat.le_of_lt (X.above x b (mem_of_lookup q))⟩
  have hfresh : ∀ b, (b = env.locals ∨ ∃ x, env.cells.lookup x = some b) → s.heap.get? b = none := fun b hb => by
    cases e : s.heap.get? b with
    | none => rfl
    | some o => exact absurd (Nat.lt_of_lt_of_le (Heap.lt_size e) (hlive b hb).2) (Nat.lt_irrefl _)
  have ev : Evl s { s with heap := h₁, toks := tk } := Evl.of Ff.keep
  let W : Addr → Prop := fun b => b = env.locals ∨ ∃ x, env.cells.lookup x = some b
  have R : Frm env tbl F W := by
    refine ⟨by rw [es]; exact h1, h4, fun x hx => ?_, fun x hx => ?_, fun x hx b c Hm => ?_, fun x hx b Hm => ?_⟩
    · have := (h7 x hx).1
      simpa [plainName] using this
    · rcases (h7 x hx).2 with q | q
      · exact ⟨_, _, .loc (by rw [hk]; exact q)⟩
      · obtain ⟨c, hc⟩ := Option.isSome_iff_exists.mp (cellsFrom_some scope.names (s.heap.objs.size + 1) [] x q)
        exact ⟨c, _, .cel (by rw [hk]; exact q) (by rw [ec]; exact hc)⟩
    · cases Hm with
      | loc _ => exact .inr (.inl rfl)
      | cel _ hc => exact .inr (.inr ⟨x, hc⟩)
      | fre _ hc => exact .inr (.inr ⟨x, hc⟩)
    · cases Hm with
      | loc _ => exact .inl rfl
      | cel _ hc => exact .inr ⟨x, hc⟩
  have S : St w prog env tbl (Base.of s) F W (rho0 (tbl.length - n) ds) { s with heap := h₁, toks := tk } := by
    refine ⟨ev, fun b hb => ?_, hfresh, fun _ q => q.elim, trivial, _, _, fun _ => [], ⟨el ▸ Ff.ns, fun x c hc => X.cell x c (ec ▸ hc), ec ▸ X.apart, fun x c hc => ?_⟩, fun _ q => q.elim, fun i lv hr hown => ?_, fun i lv hr hown => ?_, fun i x lv ht hr => ?_⟩
    · rcases hb with q | q
      · obtain ⟨o, e⟩ := lF b q; exact ⟨o, Ff.keep b o e⟩
      · exact (hlive b q).1
    · rw [el]; exact Nat.ne_of_gt (X.above x c (mem_of_lookup (ec ▸ hc)))
    · obtain ⟨d, _, rfl⟩ := rho0_at hr; cases hown
    · obtain ⟨d, _, rfl⟩ := rho0_at hr; cases hown
    · obtain ⟨d, hd, rfl⟩ := rho0_at hr
      obtain ⟨hi, _⟩ := List.getElem?_eq_some_iff.mp hd
      have hx : (as.map (·.arg))[i]? = some x := by rw [← h5, List.getElem?_take, if_pos (by (first | lia | omega))]; exact ht
      obtain ⟨v, hv, rv⟩ := r.get hd
      refine ⟨v, bind_new hps hx hv, rv.go fun b o hF e => ⟨fun q => q.elim hF fun q => ?_, Ff.keep b o e⟩⟩
      rw [hfresh b q] at e; cases e
  have fx : Fx mg mb H env (Base.of s) F := ⟨G, ext, by rw [← henv]; rfl, by rw [← henv]; rfl, by rw [es]; exact h1, sF⟩
  refine wpAny_mono (hb _ env (Base.of s) F (hA.deeper env) es fx F W _ _ _ _ (fun _ q => q) S R hq) (fun f s' ⟨ρ', fl, W', hq', hf, S', R', g', a'⟩ => ?_) fun _ _ q => q
  cases hf with
  | next => exact ⟨_, hq', S'.evl, .none⟩
  | brk => exact hq'.elim
  | ret r' => exact ⟨_, hq', S'.evl, r'.anti fun b q => .inl q⟩
end Mine
end
section
open PySem PySem.Calls PyProof.Rows
namespace Mine
section
variable {M : Model} {A : Around} {R : GenEnd} {Y : Protocol} {n : Nat} {s₀ : Shared} {c : Code} {fs : List Frame} {s : Shared} {env : Env}
  {K : Flow → Sem Fin} {H : Value → Sem Fin} {gd : Bool → Bool} {lv : List Value → List Value}
noncomputable def loopK (env : Env) (K : Flow → Sem Fin) (H : Value → Sem Fin) (gd : Bool → Bool) (lv : List Value → List Value) (c : Code) (p : Pos) : Frame :=
  .ret (fun r => ((match r with | .ok f => (.pure f : Sem Flow) | .error e => .raise e).onRaise fun (x : Value) => do
        if (← field x 1) == Value.none then unsupported "frame.own-activation:exception-without-traceback"
        setFlight x env.frame).wrap K H gd lv) none (gd false) (lv []) c p []
theorem gen_while {test : Expr} {body : List Stmt} {pos : Pos} (h : ∀ p, Seg M A R Y n s₀ (.whileLoop test body [] env) (M.den (.whileLoop test body [] env)) (loopK env K H gd lv c p :: fs) s) :
    Seg M A R Y n s₀ c ((exec (.While test body [] pos) env).wrap K H gd lv) fs s := seg_While h
theorem gen_stmt {st : Stmt} (h : wpAny M (A.over c fs) (exec st env) (fun f s' => Seg M A R Y n s₀ c (K f) fs s') (fun x s' => Seg M A R Y n s₀ c (H x) fs s') s) :
    Seg M A R Y n s₀ c ((exec st env).wrap K H gd lv) fs s := seg_wrap h
theorem gen_if {test : Expr} {a b : List Stmt} {pos : Pos} (h : wpAny M (A.over c fs) (isTrue test env (eval test env)) (fun t s' => match t with
      | true => Seg M A R Y n s₀ c ((execs a env).wrap K H gd lv) fs s'
      | false => Seg M A R Y n s₀ c ((execs b env).wrap K H gd lv) fs s') (fun x s' => Seg M A R Y n s₀ c (H x) fs s') s) :
    Seg M A R Y n s₀ c ((exec (.If test a b pos) env).wrap K H gd lv) fs s := by
  rw [exec_If]
  refine seg_bind_wrap (wpAny_standAt (seg_bind_wrap (wpAny_mono h (fun t s' h' => ?_) fun _ _ q => q)))
  cases t with
  | true => exact h'
  | false => exact h'
theorem gen_for {target iter : Expr} {body : List Stmt} {pos : Pos} (hs : ∀ x, foldedSetIterable iter env x = pure x)
    (h : wpAny M (A.over c fs) (eval iter env) (fun x s₁ => wpAny M (A.over c fs) (pyIter x) (fun it s₂ =>
      ∀ p, Seg M A R Y n s₀ (.forLoop target it body [] env) (M.den (.forLoop target it body [] env)) (loopK env K H gd lv c p :: fs) s₂)
      (fun x s' => Seg M A R Y n s₀ c (H x) fs s') s₁) (fun x s' => Seg M A R Y n s₀ c (H x) fs s') s) :
    Seg M A R Y n s₀ c ((exec (.For target iter body [] pos) env).wrap K H gd lv) fs s := by
  show Seg M A R Y n s₀ c (Sem.wrap K H gd lv (do
    standAt pos
    let x ← foldedSetIterable iter env (← eval iter env)
    standAt iter.pos
    runOwn (.forLoop target (← holding [x] (pyIter x)) body [] env) env)) fs s
  refine seg_bind_wrap (wpAny_standAt (seg_bind_wrap (wpAny_mono h (fun v s₁ h₁ => ?_) fun _ _ q => q)))
  rw [hs]
  refine seg_bind_wrap (wpAny_pure (seg_bind_wrap (wpAny_standAt (seg_bind_wrap (wpAny_holding (wpAny_mono h₁ (fun it s₂ h₂ => ?_) fun _ _ q => q))))))
  exact seg_call h₂
end
section
variable {prog : Program} {w : World} {A : Around} {R : GenEnd} {Y : Protocol} {n : Nat} {s₀ : Shared} {fs : List Frame} {s : Shared} {env : Env}
noncomputable def turnK (target : Expr) (it : Value) (body : List Stmt) (env : Env) : Flow → Sem Fin
  | .next | .cont => .pure (.again (.forLoop target it body [] env))
  | .brk => .pure (.done .next)
  | .ret v => .pure (.done (.ret v))
noncomputable def noteH (env : Env) : Value → Sem Fin := fun e => (do noteFrame e env; theTreesLotGoes e : Sem Unit).wrap (fun _ => .raise e) .raise id id
theorem gen_forLoop {x : Str} {px : Pos} {it : Value} {body : List Stmt}
    (h : wpAny (model prog w) (A.over (.forLoop (.Name x px) it body [] env) fs) (pyNext it) (fun r s₁ => match r with
      | none => Seg (model prog w) A R Y n s₀ (.forLoop (.Name x px) it body [] env) (.pure (.again (.block [] env))) fs s₁
      | some v => wpAny (model prog w) (A.over (.forLoop (.Name x px) it body [] env) fs) (storeName env x v) (fun _ s₂ =>
          Seg (model prog w) A R Y n s₀ (.forLoop (.Name x px) it body [] env) ((execs body env).wrap (turnK (.Name x px) it body env) (noteH env) id id) fs s₂) (fun _ _ => False) s₁) (fun _ _ => False) s) :
    Seg (model prog w) A R Y n s₀ (.forLoop (.Name x px) it body [] env) ((model prog w).den (.forLoop (.Name x px) it body [] env)) fs s := by
  show Seg _ A R Y n s₀ _ ((forTurn (.Name x px) it body [] env).onRaise (fun x => do noteFrame x env; theTreesLotGoes x)) fs s
  unfold forTurn
  rw [Sem.onRaise_eq_wrap]
  refine seg_bind_wrap (wpAny_standAt (seg_bind_wrap (wpAny_onRaise (wpAny_mono h (fun r s₁ h₁ => ?_) fun _ _ q => q.elim))))
  cases r with
  | none => exact h₁
  | some v =>
    refine seg_bind_wrap (wpAny_pure (seg_bind_wrap (wpAny_assign_Name (wpAny_mono h₁ (fun _ s₂ h₂ => ?_) fun _ _ q => q.elim))))
    rw [Sem.bind_eq_wrap', Sem.wrap_wrap]
    rw [Sem.wrap_congr (execs body env) _ _ (K' := turnK (.Name x px) it body env) (H' := noteH env) (fun f => by cases f <;> rfl)
        (fun e => by first | exact Sem.bind_eq_wrap _ _ | (show (do noteFrame e env; theTreesLotGoes e : Sem Unit).bind (fun _ => .raise e) = _; rw [Sem.bind_eq_wrap]; rfl))]
    exact h₂
theorem gen_again_block {c : Code} (h : Seg (model prog w) A R Y n s₀ (.block [] env) (.pure (.done .next)) fs s) : Seg (model prog w) A R Y n s₀ c (.pure (.again (.block [] env))) fs s := by
  refine seg_again rfl ?_
  show Seg _ A R Y n s₀ _ (((execs [] env).onRaise _) >>= _) fs s
  exact h
theorem gen_back {c c₁ : Code} {K : Flow → Sem Fin} {H : Value → Sem Fin} {gd : Bool → Bool} {lv : List Value → List Value} {p : Pos} {f : Flow} (h : Seg (model prog w) A R Y n s₀ c₁ (K f) fs s) :
    Seg (model prog w) A R Y n s₀ c (.pure (.done f)) (loopK env K H gd lv c₁ p :: fs) s := seg_leaf (.ok f) h
end
end Mine
end
section
open PySem PySem.Calls PyProof.Rows
namespace Mine
noncomputable def nth : Nat → GS → Option Int
  | 0, st => st.pull.map (·.1)
  | k + 1, st => match st.pull with
    | some (_, st') => nth k st'
    | none => none
noncomputable def Cons (T : Nat → Option Int) (m : Nat) (st : GS) : Prop := ∀ j, j ≤ m → T (m - j) = nth j st
theorem Cons.here {T : Nat → Option Int} {m : Nat} {st : GS} (h : Cons T m st) : T m = st.pull.map (·.1) := h 0 (Nat.zero_le _)
theorem Cons.next {T : Nat → Option Int} {m : Nat} {st st' : GS} {x : Int} (h : Cons T (m + 1) st) (hp : st.pull = some (x, st')) : Cons T m st' := fun j hj => by
  have := h (j + 1) (by (first | lia | omega))
  rw [show m + 1 - (j + 1) = m - j by (first | lia | omega)] at this
  rw [this, nth, hp]
theorem Cons.congr {T : Nat → Option Int} {m : Nat} {st st' : GS} (h : Cons T m st) (e : st.pull = st'.pull) : Cons T m st' := fun j hj => by
  rw [h j hj]; cases j <;> simp only [nth, e]
theorem Cons.start (n : Nat) (st : GS) : Cons (fun m => nth (n - m) st) n st := fun j hj => by
  show nth (n - (n - j)) st = _
  rw [show n - (n - j) = j by (first | lia | omega)]
noncomputable abbrev Snc (Own : Addr → Prop) (s₀ s : Shared) : Prop := Aft Own s₀ s
noncomputable def Agr (Keep : Addr → Prop) (s s'' : Shared) : Prop := ∀ b o, Keep b → s.heap.get? b = some o → s''.heap.get? b = some o
noncomputable def GY (T : Nat → Option Int) (Own Keep : Addr → Prop) : Protocol := fun m s₀ v s kap =>
  (∃ (x : Int) (t : Tok), T m = some x ∧ v = Value.int x t) ∧ (Snc Own s₀ s ∧ ∀ a, Own a → ∃ o, s.heap.get? a = some o) ∧ ∀ m', m = m' + 1 → ∀ s'', Agr Keep s s'' → kap (.send .none) s''
noncomputable def GR (T : Nat → Option Int) (Own : Addr → Prop) : GenEnd := fun n s₀ r s => r = .ok (.ret .none) ∧ T (n - 1) = none ∧ Snc Own s₀ s
structure GEnv (ge : Env) : Prop where
  kind : ge.scope.kind = .function
  co : ge.scope.isCoroutine = false
  grouping : ge.kindOf "grouping" = some .local
  last : ge.kindOf "last_interval" = some .local
  interval : ge.kindOf "interval" = some .local
  glob : ge.globals = mainGlobals
  bns : ge.builtins = builtinsNs
  cmax : globName ge.scope.names "CHAR_MAX" = true
  verr : globName ge.scope.names "ValueError" = true
  frame : ge.frame = some ge.locals
structure GTop (mg mb : Str → Option Value) (H : Heap) (ge : Env) : Prop where
  env : GEnv ge
  gl : Gl mg mb H
  cmax : ∃ t : Tok, mg "CHAR_MAX" = some (Value.int 127 t)
  verr : mg "ValueError" = none ∧ mb "ValueError" = some (.type "ValueError")
noncomputable def lastIs (last : Option Int) (v : Option Value) : Prop := match last with
  | none => v = some .none
  | some x => ∃ t : Tok, v = some (Value.int x t)
structure GI (H : Heap) (ge : Env) (I l : Addr) (vs : List Value) (i : Nat) (last : Option Int) (h : Heap) : Prop where
  ext : Ext H h
  ns : ∃ m, h.Ns ge.locals m ∧ lastIs last (m "last_interval")
  it : h.IsListIter I l i
  lst : h.IsList l vs.toArray
noncomputable def IntsAt (vs : List Value) (xs : List Int) : Prop := vs.length = xs.length ∧ ∀ (i : Nat) (x : Int), xs[i]? = some x → ∃ t : Tok, vs[i]? = some (Value.int x t)
noncomputable def GKeep (H : Heap) (C I l : Addr) : Addr → Prop := fun b => b = C ∨ b = I ∨ b = l ∨ ∃ o, H.get? b = some o
noncomputable def GOwn (C I : Addr) : Addr → Prop := fun b => b = C ∨ b = I
theorem GI.live {H : Heap} {ge : Env} {I l : Addr} {vs : List Value} {i : Nat} {last : Option Int} {h : Heap} (g : GI H ge I l vs i last h) : ∀ a, GOwn ge.locals I a → ∃ o, h.get? a = some o := fun a ha => by
  rcases ha with rfl | rfl
  · obtain ⟨m, ⟨o, _, _, e, _⟩, _⟩ := g.ns; exact ⟨o, e⟩
  · obtain ⟨o, e, _⟩ := g.it; exact ⟨o, e⟩
theorem GI.agr {H : Heap} {ge : Env} {I l : Addr} {vs : List Value} {i : Nat} {last : Option Int} {s s'' : Shared} (g : GI H ge I l vs i last s.heap) (a : Agr (GKeep H ge.locals I l) s s'') : GI H ge I l vs i last s''.heap where
  ext := fun b o e => a b o (.inr (.inr (.inr ⟨o, e⟩))) (g.ext b o e)
  ns := let ⟨m, hn, hl⟩ := g.ns; ⟨m, hn.at' fun o e => a _ o (.inl rfl) e, hl⟩
  it := g.it.at fun o e => a _ o (.inr (.inl rfl)) e
  lst := g.lst.at fun o e => a _ o (.inr (.inr (.inl rfl))) e
section
variable {prog : Program} {w : World} {A : Around} {T : Nat → Option Int} {H : Heap} {mg mb : Str → Option Value} {ge : Env} {I l : Addr} {vs : List Value} {xs : List Int}
theorem gen_global (G : GTop mg mb H ge) {A : Around} {x : Str} {v : Value} {s : Shared} {E : Value → Shared → Prop} (hx : globName ge.scope.names x = true) (hm : mg x = some v) (e : Ext H s.heap) (p : Pos) {Q : Value → Shared → Prop} (h : Q v s) :
    wpAny (model prog w) A (eval (.Name x p) ge) Q E s := by
  simp only [globName, plainName, Bool.and_eq_true, beq_iff_eq, Bool.not_eq_true'] at hx
  exact Name_function_global G.env.kind hx.1 (loadGlobal_global (G.env.glob ▸ G.gl.g.keeps e) hm h) hx.2.1
theorem gen_local (G : GEnv ge) {A : Around} {x : Str} {v : Value} {s : Shared} {m : Str → Option Value} {E : Value → Shared → Prop} (hx : ge.kindOf x = some .local) (hd : (x == ("__debug__" : Str)) = false) (hn : s.heap.Ns ge.locals m) (hv : m x = some v) (p : Pos) {Q : Value → Shared → Prop} (h : Q v s) :
    wpAny (model prog w) A (eval (.Name x p) ge) Q E s := wpAny_Name (wpAny_loadName_local G.kind hx hn hv h) hd
theorem seg_rep (G : GTop mg mb H ge) {x : Int} {p1 p2 p3 p4 : Pos} {k1 : Nat} {fs : List Frame} (hfs : splitAtGen fs = none) (hfg : fs.any Frame.guarded = false) :
    ∀ (m : Nat) (s₀ s : Shared) (i : Nat), Cons T m (.rep x) → Snc (GOwn ge.locals I) s₀ s → GI H ge I l vs i (some x) s.heap →
      Seg (model prog w) A (GR T (GOwn ge.locals I)) (GY T (GOwn ge.locals I) (GKeep H ge.locals I l)) (m + 1) s₀ (.whileLoop (.Constant (.bool true) k1 p1) [.Expr (.Yield (some (.Name "last_interval" p2)) p3) p4] [] ge)
        ((model prog w).den (.whileLoop (.Constant (.bool true) k1 p1) [.Expr (.Yield (some (.Name "last_interval" p2)) p3) p4] [] ge)) fs s := by
  intro m
  induction m with
  | zero =>
    intro s₀ s i hc hs hg
    obtain ⟨mm, hn, t, hl⟩ := hg.ns
    refine seg_whileLoop (wpAny_isTrue_value (wpAny_Constant_bool (wpAny_truthy_bool ?_)) rfl)
    rw [if_pos rfl]
    refine seg_execs_cons (seg_Expr_Yield hfs rfl hfg (gen_local G.env G.env.last (by decide) hn hl p2 fun kap hk => ?_) G.env.co (by unfold interactive; rw [G.env.kind]; rfl))
    exact ⟨⟨x, t, hc.here, rfl⟩, ⟨hs, hg.live⟩, fun m' e => by cases e⟩
  | succ m ih =>
    intro s₀ s i hc hs hg
    obtain ⟨mm, hn, t, hl⟩ := hg.ns
    refine seg_whileLoop (wpAny_isTrue_value (wpAny_Constant_bool (wpAny_truthy_bool ?_)) rfl)
    rw [if_pos rfl]
    refine seg_execs_cons (seg_Expr_Yield hfs rfl hfg (gen_local G.env G.env.last (by decide) hn hl p2 fun kap hk => ?_) G.env.co (by unfold interactive; rw [G.env.kind]; rfl))
    refine ⟨⟨x, t, hc.here, rfl⟩, ⟨hs, hg.live⟩, fun m' e s'' ha => hk .none s'' ?_⟩
    exact seg_again rfl (ih s'' s'' i (hc.next rfl) (Aft.refl _ _) (hg.agr ha))
end
end Mine
end
section
open PySem PySem.Calls PyProof.Rows
namespace Mine
noncomputable def gRaise (P : Nat → Pos) (k : Nat → Nat) : Stmt :=
  .If (.Compare (.Name "last_interval" (P 0)) [.Is] [.Constant .none (k 0) (P 1)] (P 2)) [.Raise (some (.Call (.Name "ValueError" (P 3)) [.Constant (.str "invalid grouping") (k 1) (P 4)] [] (P 5))) none (P 6)] [] (P 7)
noncomputable def gRep (P : Nat → Pos) (k : Nat → Nat) : Stmt :=
  .While (.Constant (.bool true) (k 2) (P 8)) [.Expr (.Yield (some (.Name "last_interval" (P 9))) (P 10)) (P 11)] [] (P 12)
noncomputable def gEnd (P : Nat → Pos) : Stmt := .If (.Compare (.Name "interval" (P 13)) [.Eq] [.Name "CHAR_MAX" (P 14)] (P 15)) [.Return none (P 16)] [] (P 17)
noncomputable def gZero (P : Nat → Pos) (k : Nat → Nat) : Stmt := .If (.Compare (.Name "interval" (P 18)) [.Eq] [.Constant (.int 0) (k 3) (P 19)] (P 20)) [gRaise P k, gRep P k] [] (P 21)
noncomputable def gYield (P : Nat → Pos) : Stmt := .Expr (.Yield (some (.Name "interval" (P 22))) (P 23)) (P 24)
noncomputable def gSet (P : Nat → Pos) : Stmt := .Assign [.Name "last_interval" (P 25)] (.Name "interval" (P 26)) (P 27)
noncomputable def gBody (P : Nat → Pos) (k : Nat → Nat) : List Stmt := [gEnd P, gZero P k, gYield P, gSet P]
noncomputable def gFor (P : Nat → Pos) (k : Nat → Nat) : Stmt := .For (.Name "interval" (P 28)) (.Name "grouping" (P 29)) (gBody P k) [] (P 30)
noncomputable def gStart (P : Nat → Pos) (k : Nat → Nat) : Stmt := .Assign [.Name "last_interval" (P 31)] (.Constant .none (k 4) (P 32)) (P 33)
noncomputable def gAll (P : Nat → Pos) (k : Nat → Nat) : List Stmt := [gStart P k, gFor P k]
noncomputable def gLoop (P : Nat → Pos) (k : Nat → Nat) (I : Addr) (ge : Env) : Code := .forLoop (.Name "interval" (P 28)) (.ref I) (gBody P k) [] ge
section
variable {prog : Program} {w : World} {A : Around} {T : Nat → Option Int} {H : Heap} {mg mb : Str → Option Value} {ge : Env} {I l : Addr} {vs : List Value} {xs : List Int} {s : Shared} {E : Value → Shared → Prop}
theorem gen_eq (G : GEnv ge) (hu : A.units + 20 < cLine) {m : Str → Option Value} {x y : Int} {t : Tok} {r : Expr} {p1 p2 : Pos} (hs : notSetE r = true) (hn : s.heap.Ns ge.locals m) (hv : m "interval" = some (.int x t)) {Q : Bool → Shared → Prop}
    (hr : ∀ Q' : Value → Shared → Prop, (∀ u s', Evl s s' → Q' (.int y u) s') → wpAny (model prog w) A (eval r ge) Q' E s) (h : ∀ s', Evl s s' → Q (x == y) s') :
    wpAny (model prog w) A (isTrue (.Compare (.Name "interval" p1) [.Eq] [r] p2) ge (eval (.Compare (.Name "interval" p1) [.Eq] [r] p2) ge)) Q E s := by
  refine wpAny_isTrue_Compare1 (gen_local G G.interval (by decide) hn hv p1 (hr _ fun u s' ev => ?_)) (behind_of hs)
  refine wpAny_mono (cmp_sound (op := .eq) (F := fun a => a = sysModules) (Q := fun b => b = (x == y)) rfl hu (.int x t) (.int y u) (fun q => by cases q) ⟨rfl, rfl⟩) (fun v s'' ⟨b, hb, hq, ev₂⟩ => ?_) fun _ _ q => q
  subst hb
  exact wpAny_truthy_bool (hq ▸ h s'' (ev.trans ev₂))
theorem gen_is (G : GEnv ge) (hu : A.units + 20 < cLine) {m : Str → Option Value} {last : Option Int} {p1 p2 p3 : Pos} {k : Nat} (hn : s.heap.Ns ge.locals m) (hv : lastIs last (m "last_interval")) {Q : Bool → Shared → Prop} (h : ∀ s', Evl s s' → Q last.isNone s') :
    wpAny (model prog w) A (isTrue (.Compare (.Name "last_interval" p1) [.Is] [.Constant .none k p2] p3) ge (eval (.Compare (.Name "last_interval" p1) [.Is] [.Constant .none k p2] p3) ge)) Q E s := by
  cases last with
  | none =>
    refine wpAny_isTrue_Compare1 (gen_local G G.last (by decide) hn hv p1 (wpAny_Constant_none ?_)) rfl
    refine wpAny_mono (cmp_sound (op := .isnone) (F := fun a => a = sysModules) (Q := fun b => b = true) rfl hu .none .none (fun _ => rfl) rfl) (fun v s'' ⟨b, hb, hq, ev₂⟩ => ?_) fun _ _ q => q
    subst hb
    exact wpAny_truthy_bool (hq ▸ h s'' ev₂)
  | some x =>
    obtain ⟨t, hv⟩ := hv
    refine wpAny_isTrue_Compare1 (gen_local G G.last (by decide) hn hv p1 (wpAny_Constant_none ?_)) rfl
    refine wpAny_mono (cmp_sound (op := .isnone) (F := fun a => a = sysModules) (Q := fun b => b = false) rfl hu (.int x t) .none (fun _ => rfl) rfl) (fun v s'' ⟨b, hb, hq, ev₂⟩ => ?_) fun _ _ q => q
    subst hb
    exact wpAny_truthy_bool (hq ▸ h s'' ev₂)
end
end Mine
end
section
open PySem PySem.Calls PyProof.Rows
namespace Mine
section
variable {prog : Program} {w : World} {A : Around} {T : Nat → Option Int} {H : Heap} {mg mb : Str → Option Value} {ge : Env} {I l : Addr} {vs : List Value} {xs : List Int} {s : Shared} {E : Value → Shared → Prop}
structure GApart (H : Heap) (ge : Env) (I l : Addr) : Prop where
  ci : ge.locals ≠ I
  lc : l ≠ ge.locals
  li : l ≠ I
  hc : ∀ o, H.get? ge.locals ≠ some o
  hi : ∀ o, H.get? I ≠ some o
theorem GI.step {i : Nat} {last : Option Int} {s' : Shared} (g : GI H ge I l vs i last s.heap) (e : Evl s s') : GI H ge I l vs i last s'.heap where
  ext := g.ext.trans e.ext
  ns := let ⟨m, hn, hl⟩ := g.ns; ⟨m, hn.keeps fun b o q => e.ext b o q, hl⟩
  it := g.it.at fun o q => e.ext _ o q
  lst := g.lst.at fun o q => e.ext _ o q
theorem gen_store (G : GEnv ge) (ap : GApart H ge I l) {x : Str} {v : Value} {i : Nat} {last : Option Int} {m : Str → Option Value} (hx : ge.kindOf x = some .local) (g : GI H ge I l vs i last s.heap) (hn : s.heap.Ns ge.locals m) {Q : Unit → Shared → Prop}
    (h : ∀ s', Aft (GOwn ge.locals I) s s' → s'.heap.Ns ge.locals (fun y => if y = x then some v else m y) → (∀ last', lastIs last' (if ("last_interval" : Str) = x then some v else m "last_interval") → GI H ge I l vs i last' s'.heap) → s'.heap.objs.size = s.heap.objs.size → Q () s') :
    wpAny (model prog w) A (storeName ge x v) Q E s := by
  refine wpAny_storeName_local hx hn (fun h' hn' hs' => ?_) (by rw [G.kind]; rfl)
  have k : ∀ b o, ¬ GOwn ge.locals I b → s.heap.get? b = some o → h'.get? b = some o := fun b o hb e => hs'.extBut b o (fun q => hb (.inl q)) e
  refine h { s with heap := h', toks := s.toks + 1 } (Aft.of k) hn' (fun last' hl => ⟨fun b o e => ?_, ⟨_, hn', hl⟩, ?_, ?_⟩) hs'.1
  · exact hs'.extBut b o (fun q => ap.hc o (q ▸ e)) (g.ext b o e)
  · exact g.it.at fun o e => hs'.extBut _ o (Ne.symm ap.ci) e
  · exact g.lst.at fun o e => hs'.extBut _ o ap.lc e
noncomputable def gConts (K0 : Flow → Sem Fin) : Prop := K0 .next = .pure (.done (.ret .none)) ∧ ∀ v, K0 (.ret v) = .pure (.done (.ret v))
theorem int_of_drop {xs : List Int} {i : Nat} (hi : i < xs.length) : xs.drop i = xs[i] :: xs.drop (i + 1) := List.drop_eq_getElem_cons hi
theorem seg_turn (G : GTop mg mb H ge) (ap : GApart H ge I l) (hh : A.handled = none) (hu : A.units + 100 < cLine) (hx : IntsAt vs xs) (hbad : rowBad xs = false) {P : Nat → Pos} {k : Nat → Nat} {K0 : Flow → Sem Fin} {H0 : Value → Sem Fin} {gd0 : Bool → Bool} {lv0 : List Value → List Value} {cf : Code} {pf : Pos}
    (hK : gConts K0) (hgd : gd0 false = false) (hcf : cf.cUnits ≤ 30) {m : Nat}
    (ih : ∀ m', m = m' + 1 → ∀ (s₀ s : Shared) (i : Nat) (last : Option Int), Cons T m' (.go last (xs.drop i)) → (last = none → i = 0) → i ≤ xs.length → Aft (GOwn ge.locals I) s₀ s → GI H ge I l vs i last s.heap →
      Seg (model prog w) A (GR T (GOwn ge.locals I)) (GY T (GOwn ge.locals I) (GKeep H ge.locals I l)) (m' + 1) s₀ (gLoop P k I ge) ((model prog w).den (gLoop P k I ge)) [loopK ge K0 H0 gd0 lv0 cf pf] s)
    (s₀ s : Shared) (i : Nat) (last : Option Int) (hc : Cons T m (.go last (xs.drop i))) (hl0 : last = none → i = 0) (hle : i ≤ xs.length) (hs : Aft (GOwn ge.locals I) s₀ s) (hg : GI H ge I l vs i last s.heap) :
    Seg (model prog w) A (GR T (GOwn ge.locals I)) (GY T (GOwn ge.locals I) (GKeep H ge.locals I l)) (m + 1) s₀ (gLoop P k I ge) ((model prog w).den (gLoop P k I ge)) [loopK ge K0 H0 gd0 lv0 cf pf] s := by
  have hh' : (A.over (gLoop P k I ge) [loopK ge K0 H0 gd0 lv0 cf pf]).handled = none := hh
  have hu' : (A.over (gLoop P k I ge) [loopK ge K0 H0 gd0 lv0 cf pf]).units + 20 < cLine := by
    show A.units + (unitsOf [(cf, pf)]) + (gLoop P k I ge).cUnits + 20 < cLine
    have e1 : unitsOf [(cf, pf)] = cf.cUnits := by simp [unitsOf]
    have e2 : (gLoop P k I ge).cUnits = 0 := rfl
    rw [e1, e2]; (first | lia | omega)
  -- the function's end
  have fend : ∀ (c : Code) (f : Flow) (s' : Shared), K0 f = .pure (.done (.ret .none)) → T m = none → Aft (GOwn ge.locals I) s₀ s' →
      Seg (model prog w) A (GR T (GOwn ge.locals I)) (GY T (GOwn ge.locals I) (GKeep H ge.locals I l)) (m + 1) s₀ c (.pure (.done f)) [loopK ge K0 H0 gd0 lv0 cf pf] s' := fun c f s' hf hT hs' => by
    refine gen_back ?_
    rw [hf]
    exact seg_end (.ok (.ret .none)) ⟨rfl, hT, hs'⟩
  have W₀ := fun (A' : Around) (hA : A'.handled = none) => Walks.list (prog := prog) (w := w) (A := A') hA I l ap.li vs.toArray
  refine gen_forLoop ?_
  by_cases hi : i < xs.length
  · have hiv : i < vs.toArray.size := by simp [hx.1, hi]
    refine (W₀ _ hh').item i s _ _ hiv ⟨hg.it, hg.lst⟩ fun v h₁ tk₁ hv hst hk₁ => ?_
    obtain ⟨t, hvt⟩ := hx.2 i _ (List.getElem?_eq_getElem hi)
    rw [List.getElem?_toArray, hvt] at hv
    cases hv
    generalize hxi : xs[i] = x at *
    have hdrop : xs.drop i = x :: xs.drop (i + 1) := by rw [int_of_drop hi, hxi]
    rw [hdrop] at hc
    have a₁ : Aft (GOwn ge.locals I) s { s with heap := h₁, toks := tk₁ } := Aft.of fun b o hb e => hk₁ b o (fun q => hb (.inr (by simpa using q))) e
    obtain ⟨mm, hn, hlast⟩ := hg.ns
    have g₁ : GI H ge I l vs (i + 1) last h₁ := ⟨fun b o e => hk₁ b o (fun q => ap.hi o (by simp at q; exact q ▸ e)) (hg.ext b o e), ⟨mm, hn.at' fun o e => hk₁ _ o (by simpa using ap.ci) e, hlast⟩, hst.1, hst.2⟩
    have hn₁ : h₁.Ns ge.locals mm := hn.at' fun o e => hk₁ _ o (by simpa using ap.ci) e
    refine gen_store (s := { s with heap := h₁, toks := tk₁ }) G.env ap G.env.interval g₁ hn₁ fun s₂ a₂ hn₂ g₂ _ => ?_
    have g₂ : GI H ge I l vs (i + 1) last s₂.heap := g₂ last (by rw [if_neg (by decide)]; exact hlast)
    have hs₂ : Aft (GOwn ge.locals I) s₀ s₂ := (hs.trans a₁).trans a₂
    clear hs a₁ a₂
    obtain ⟨tc, hcm⟩ := G.cmax
    -- interval == CHAR_MAX
    refine seg_execs_cons (gen_if (gen_eq G.env hu' rfl hn₂ (by rw [if_pos rfl]) (fun Q' hQ => gen_global G G.env.cmax hcm g₂.ext (P 14) (hQ tc s₂ (.refl _ _))) fun s₃ ev₃ => ?_))
    have hs₃ := hs₂.trans (Evl.aft ev₃)
    have g₃ := g₂.step ev₃
    have hn₃ := hn₂.keeps fun b o q => ev₃.ext b o q
    by_cases h127 : x = 127
    · rw [show (x == 127) = true by simp [h127]]
      refine seg_execs_cons (gen_stmt (wpAny_Return_none ?_))
      exact fend _ (.ret .none) s₃ (hK.2 _) (by rw [hc.here]; simp [GS.pull, h127]) hs₃
    · rw [show (x == 127) = false by simp [h127]]
      refine seg_execs_nil ?_
      -- interval == 0
      refine seg_execs_cons (gen_if (gen_eq G.env hu' rfl hn₃ (by rw [if_pos rfl]) (fun Q' hQ => wpAny_Constant_int (hQ _ _ Evl.toks)) fun s₄ ev₄ => ?_))
      have hs₄ := hs₃.trans (Evl.aft ev₄)
      have g₄ := g₃.step ev₄
      have hn₄ := hn₃.keeps fun b o q => ev₄.ext b o q
      by_cases h0 : x = 0
      · rw [show (x == 0) = true by simp [h0]]
        cases last with
        | none =>
          exfalso
          have := hl0 rfl
          subst this; subst h0
          rw [List.drop_zero] at hdrop
          rw [hdrop] at hbad; cases hbad
        | some y =>
          refine seg_execs_cons (gen_if (gen_is G.env hu' hn₄ (by rw [if_neg (by decide)]; exact hlast) fun s₅ ev₅ => ?_))
          refine seg_execs_nil (seg_execs_cons (gen_while fun p => ?_))
          refine seg_rep G rfl (by show (gd0 false || _) = false; rw [hgd]; rfl) m s₀ s₅ (i + 1) (hc.congr ?_) (hs₄.trans (Evl.aft ev₅)) (g₄.step ev₅)
          simp [GS.pull, h0]
      · rw [show (x == 0) = false by simp [h0]]
        refine seg_execs_nil ?_
        -- yield interval
        have hp : (GS.go last (x :: xs.drop (i + 1))).pull = some (x, .go (some x) (xs.drop (i + 1))) := by simp [GS.pull, h127, h0]
        refine seg_execs_cons (seg_Expr_Yield (fs := [loopK ge K0 H0 gd0 lv0 cf pf]) rfl rfl (by show (gd0 false || false) = false; rw [hgd]; rfl) (gen_local G.env G.env.interval (by decide) hn₄ (by rw [if_pos rfl]) (P 22) fun kap hk => ?_) G.env.co (by unfold interactive; rw [G.env.kind]; rfl))
        refine ⟨⟨x, t, by rw [hc.here, hp]; rfl, rfl⟩, ⟨hs₄, g₄.live⟩, fun m' e s'' ha => hk .none s'' ?_⟩
        subst e
        have g₅ := g₄.agr ha
        have hn₅ : s''.heap.Ns ge.locals _ := hn₄.at' fun o e => ha _ o (.inl rfl) e
        refine seg_execs_cons (gen_stmt (wpAny_Assign_Name (gen_local G.env G.env.interval (by decide) hn₅ (by rw [if_pos rfl]) (P 26) ?_) (swaps_false rfl _ _ _)))
        refine gen_store G.env ap G.env.last g₅ hn₅ fun s₆ a₆ hn₆ g₆ _ => ?_
        exact seg_again rfl (ih m' rfl s'' s₆ (i + 1) (some x) (hc.next hp) (fun q => by cases q) hi a₆ (g₆ (some x) (by rw [if_pos rfl]; exact ⟨t, rfl⟩)))
  · have hii : i = vs.toArray.size := by simp [hx.1]; (first | lia | omega)
    refine (W₀ _ hh').done s _ _ (hii ▸ ⟨hg.it, hg.lst⟩) fun h₁ tk₁ hk₁ => ?_
    have a₁ : Aft (GOwn ge.locals I) s { s with heap := h₁, toks := tk₁ } := Aft.of fun b o hb e => hk₁ b o (fun q => hb (.inr (by simpa using q))) e
    refine gen_again_block ?_
    exact fend _ .next _ hK.1 (by rw [hc.here, List.drop_of_length_le (by (first | lia | omega))]; rfl) (hs.trans a₁)
theorem seg_loop (G : GTop mg mb H ge) (ap : GApart H ge I l) (hh : A.handled = none) (hu : A.units + 100 < cLine) (hx : IntsAt vs xs) (hbad : rowBad xs = false) {P : Nat → Pos} {k : Nat → Nat} {K0 : Flow → Sem Fin} {H0 : Value → Sem Fin} {gd0 : Bool → Bool} {lv0 : List Value → List Value} {cf : Code} {pf : Pos}
    (hK : gConts K0) (hgd : gd0 false = false) (hcf : cf.cUnits ≤ 30) : ∀ (m : Nat) (s₀ s : Shared) (i : Nat) (last : Option Int), Cons T m (.go last (xs.drop i)) → (last = none → i = 0) → i ≤ xs.length → Aft (GOwn ge.locals I) s₀ s → GI H ge I l vs i last s.heap →
      Seg (model prog w) A (GR T (GOwn ge.locals I)) (GY T (GOwn ge.locals I) (GKeep H ge.locals I l)) (m + 1) s₀ (gLoop P k I ge) ((model prog w).den (gLoop P k I ge)) [loopK ge K0 H0 gd0 lv0 cf pf] s
  | 0 => seg_turn G ap hh hu hx hbad hK hgd hcf fun m' e => by cases e
  | m + 1 => seg_turn G ap hh hu hx hbad hK hgd hcf fun m' e => by cases e; exact seg_loop G ap hh hu hx hbad hK hgd hcf m
theorem seg_all (G : GTop mg mb H ge) (hh : A.handled = none) (hu : A.units + 100 < cLine) (hx : IntsAt vs xs) (hbad : rowBad xs = false) {P : Nat → Pos} {k : Nat → Nat} {m : Nat} {s : Shared} {mm : Str → Option Value}
    (hc : Cons T m (.go none xs)) (ext : Ext H s.heap) (hn : s.heap.Ns ge.locals mm) (hg : mm "grouping" = some (.ref l)) (hl : s.heap.IsList l vs.toArray) (hlc : l ≠ ge.locals) (hHc : ∀ o, H.get? ge.locals ≠ some o) :
    Seg (model prog w) A (GR T (GOwn ge.locals s.heap.objs.size)) (GY T (GOwn ge.locals s.heap.objs.size) (GKeep H ge.locals s.heap.objs.size l)) (m + 1) s (.func (gAll P k) ge) ((model prog w).den (.func (gAll P k) ge)) [] s := by
  have hIlt : ∀ b o, s.heap.get? b = some o → b ≠ s.heap.objs.size := fun b o e => Nat.ne_of_lt (Heap.lt_size e)
  have ap : GApart H ge s.heap.objs.size l := ⟨by obtain ⟨o, _, _, e, _⟩ := hn; exact hIlt _ o e, hlc, by obtain ⟨o, e, _⟩ := hl; exact hIlt _ o e, hHc, fun o e => hIlt _ o (ext _ o e) rfl⟩
  refine seg_func (seg_execs_cons (gen_stmt (wpAny_Assign_Name (wpAny_Constant_none ?_) (swaps_false rfl _ _ _))))
  refine wpAny_storeName_local G.env.last hn (fun h' hn' hs' => ?_) (by rw [G.env.kind]; rfl)
  have a₁ : Aft (GOwn ge.locals s.heap.objs.size) s { s with heap := h', toks := s.toks + 1 } := Aft.of fun b o hb e => hs'.extBut b o (fun q => hb (.inl q)) e
  have hl' : h'.IsList l vs.toArray := hl.at fun o e => hs'.extBut _ o hlc e
  have hsz : h'.objs.size = s.heap.objs.size := hs'.1
  refine seg_execs_cons (gen_for (folded_of rfl) (gen_local (s := { s with heap := h', toks := s.toks + 1 }) G.env G.env.grouping (by decide) hn' (by rw [if_neg (by decide)]; exact hg) (P 29) (wpAny_pyIter_list hl' fun p => ?_)))
  have a₂ : Evl { s with heap := h', toks := s.toks + 1 } { s with heap := h'.push { cls := .type "list_iterator", data := .fields #[.ref l, rawInt 0] }, toks := s.toks + 1 } := Evl.of (s := { s with heap := h', toks := s.toks + 1 }) (Ext.push _ _)
  rw [hsz]
  refine seg_loop G ap hh hu hx hbad (P := P) (k := k) ⟨rfl, fun v => rfl⟩ rfl (by show (3 : Nat) ≤ 30; (first | lia | omega)) m s _ 0 none (by simpa using hc) (fun _ => rfl) (Nat.zero_le _) (a₁.trans (Evl.aft a₂)) ⟨?_, ?_, ?_, ?_⟩
  · exact fun b o e => Heap.get?_push_of_some _ (hs'.extBut b o (fun q => hHc o (q ▸ e)) (ext b o e))
  · exact ⟨_, hn'.push _, by show (if _ then _ else _) = _; rw [if_pos rfl]⟩
  · exact ⟨_, by rw [← hsz]; exact Heap.get?_push_size _ rfl, rfl, rfl⟩
  · exact hl'.at fun o e => Heap.get?_push_of_some _ e
end
end Mine
end
section
open PySem PySem.Calls PyProof.Rows
namespace Mine
section
variable {prog : Program} {w : World} {A : Around} {E : Value → Shared → Prop} {s : Shared}
theorem sub_value_stop : isSubtype (.type "ValueError") (.type "StopIteration") = pure false := by rw [isSubtype_type]; kernel_rfl
theorem pyNext_gen {a : Addr} {g n : Nat} {gs : GenState} {R : GenEnd} {Y : Protocol} {Q : Option Value → Shared → Prop} (hh : A.handled = none)
    (hl : s.heap.NoLimit) (hroom : A.depth < recursionLimit) (hg : s.heap.IsGen a g) (hgs : s.gens[g]? = some gs)
    (hgo : gs.Goes (model prog w) A.in1 R Y n (.send .none) (s.setGen g .running))
    (hY : ∀ v s₁ gs', gs'.bare = true → Y (n - 1) (s.setGen g .running) v s₁ (fun r' s'' => match n with
        | 0 => False
        | m + 1 => gs'.Goes (model prog w) A.in1 R Y m r' s'') → Q (some v) (s₁.setGen g gs'))
    (hR : ∀ r s₁, R n (s.setGen g .running) r s₁ → (r = .ok (.ret .none) ∧ ∀ h', Ext s₁.heap h' → Q none { s₁.setGen g .finished with heap := h' }) ∨
      ∃ e, r = .error e ∧ s₁.TypeIs e "ValueError" ∧ s₁.heap.IsGen a g ∧ E e (s₁.setGen g .finished)) :
    wpAny (model prog w) A (pyNext (.ref a)) Q E s := by
  unfold pyNext
  refine wpAny_bind (wpAny_attempt (wpAny_callSpecial?_slot (name := Str.ofString "__next__") hg.typeIs slot_gen_next
    (wpAny_call_entry slot_gen_next hg.typeIs entry_gen_next ?_ (args_gen_next _))))
  show wpAny _ A.in1 (Builtin.Generator.genWake (.ref a) (.send .none)) _ _ s
  unfold Builtin.Generator.genWake
  refine wpAny_bind (wpAny_holding (wpAny_genNumber hg (wpAny_bind (wpAny_genState hgs ?_))))
  cases gs with
  | running => exact hgo.elim
  | finished => exact hgo.elim
  | _ =>
    refine wpAny_bind (wpAny_roomToWake hl hroom ?_)
    show wpAny _ A.in1 (.resume g (.send .none) [] _) _ _ s
    refine wpAny_resumeQ hgs hgo (fun x s₁ hx => ?_) (fun v s₁ gs' hb hv => ?_)
    · rcases hR x s₁ hx with ⟨rfl, hp⟩ | ⟨e, rfl, ht, hgi, hE⟩
      · show wpAny _ A.in1 (newExc (.type "StopIteration") [] >>= _) _ _ _
        refine wpAny_bind ?_
        simp only [newExc, newTuple]
        refine wpAny_bind (wpAny_newObj_type ?_ (by size_fits))
        refine wpAny_bind (m := firstArgMember _ _) (wpAny_of_eq (a := Value.none) (by first | rfl | (simp only [firstArgMember]; rfl)) ?_)
        refine wpAny_newObj_type ?_ (by size_fits)
        simp only [raiseNew]
        refine wpAny_bind (wpAny_bind (wpAny_handled ?_))
        first | rw [show A.in1.handled = none from hh] | rw [hh]
        refine wpAny_throw ?_
        refine wpAny_bind (wpAny_isInstance (T := "StopIteration") (b := true) ⟨_, Heap.get?_push_size _ rfl, rfl⟩ isSubtype_stop ?_)
        exact wpAny_pure (hp _ fun b o hb => Heap.get?_push_of_some _ (Heap.get?_push_of_some _ hb))
      · obtain ⟨o, nm, qn, ho, hc, hd, hsl⟩ := hgi
        show wpAny _ A.in1 (Builtin.Generator.genLeft (.ref a) e) _ _ _
        unfold Builtin.Generator.genLeft Builtin.Generator.madeByALambda
        refine wpAny_bind (m := (load a >>= fun o => _)) (wpAny_bind (wpAny_load ho ?_))
        rw [hc, hd]
        refine wpAny_pure (wpAny_bind (wpAny_isInstance (T := "ValueError") (b := false) ht sub_value_stop ?_))
        rw [Bool.and_false, if_neg Bool.false_ne_true]
        show wpAny _ A.in1 (Builtin.Generator.genEscaped e) _ _ _
        unfold Builtin.Generator.genEscaped
        refine wpAny_bind (wpAny_isInstance (T := "ValueError") (b := false) ht sub_value_stop ?_)
        refine wpAny_throw ?_
        refine wpAny_bind (wpAny_isInstance (T := "ValueError") (b := false) ht sub_value_stop ?_)
        exact wpAny_throw hE
    · exact wpAny_pure ⟨v, rfl, wpAny_pure (hY v s₁ gs' hb hv)⟩
end
end Mine
end
section
open PySem PySem.Calls PyProof.Rows
namespace Mine
section
variable {prog : Program} {w : World} {A : Around} {E : Value → Shared → Prop} {s s' : Shared} {s₀ : Base} {env : Env} {tbl : List Str} {N N' W W' Own : Addr → Prop} {ρ : Rho}
theorem St.gen (S : St w prog env tbl s₀ N W ρ s) (hk : ∀ b o, ¬ Own b → s.heap.get? b = some o → s'.heap.get? b = some o) (hg : ∀ (i : Nat) (x : GenState), s₀.gens[i]? = some x → s'.gens[i]? = some x) (hb : AllBare s₀.gens → AllBare s'.gens) (ho : s'.os = s.os)
    (hOwn : ∀ a, Own a → (N a ∨ s.heap.get? a = none) ∧ s₀.heap.get? a = none ∧ ¬ W a ∧ a ≠ env.locals ∧ ∀ n c, env.cells.lookup n = some c → a ≠ c) (hl : ∀ a, Own a → N' a → ∃ o, s'.heap.get? a = some o)
    (hN : ∀ a, N' a → N a ∨ (s.heap.get? a = none ∧ ∃ o, s'.heap.get? a = some o)) : St w prog env tbl s₀ N' W ρ s' := by
  refine ⟨⟨fun b o _ e => ?_, hg, hb, ho.trans S.evl.os⟩, fun a ha => ?_, S.fresh, S.zw, s₀.zs _ _ S.zi fun b o hb e => hk b o (fun q => (hOwn b q).2.2.1 (S.zw b hb)) e, ?_⟩
  · refine hk b o (fun q => ?_) (S.evl.heap b o id e)
    rw [(hOwn b q).2.1] at e; cases e
  · by_cases q : Own a
    · rcases ha with ha | ha
      · exact hl a q ha
      · exact absurd ha (hOwn a q).2.2.1
    · have old : (N a ∨ W a) → ∃ o, s'.heap.get? a = some o := fun ha => by
        obtain ⟨o, e⟩ := S.live a ha
        exact ⟨o, hk a o q e⟩
      rcases ha with ha | ha
      · rcases hN a ha with r | r
        · exact old (.inl r)
        · exact r.2
      · exact old (.inr ha)
  · obtain ⟨m, cm, own, L, ZL, O1, O2, V⟩ := S.vals
    refine ⟨m, cm, own, L.keep fun a o ha e => hk a o (fun q => ?_) e, ZL, fun i lv hr how a ha => ⟨⟨(O1 i lv hr how a ha).1.1, fun q => ?_⟩, (O1 i lv hr how a ha).2⟩, O2, fun i y lv ht hr => ?_⟩
    · rcases ha with rfl | ⟨n, hn⟩
      · exact (hOwn _ q).2.2.2.1 rfl
      · exact (hOwn _ q).2.2.2.2 n a hn rfl
    · rcases hN a q with q | q
      · exact (O1 i lv hr how a ha).1.2 q
      · obtain ⟨o, e⟩ := S.live a (.inr (O1 i lv hr how a ha).1.1)
        rw [q.1] at e; cases e
    · obtain ⟨v, hv, r⟩ := V i y lv ht hr
      refine ⟨v, hv, r.go (fun a o hF e => ⟨fun q => ?_, hk a o (fun q => ?_) e⟩) fun how a ha o e => hk a o (fun q => (hOwn a q).2.2.1 (O1 i lv hr how a ha).1.1) e⟩
      · rcases q with q | q
        · rcases hN a q with q | q
          · exact hF (.inl q)
          · rw [q.1] at e; cases e
        · exact hF (.inr q)
      · rcases (hOwn a q).1 with q | q
        · exact hF (.inl q)
        · rw [q] at e; cases e
inductive GFnD (H : Heap) (mg : Str → Option Value) (P : Nat → Pos) (k : Nat → Nat) (x : Str) : Prop
  | mk (a : Addr) (o : Obj) (ap : Pos) (nm : Str) (scope : Scope) (pm cd doc : Value) (h1 : mg x = some (.ref a)) (h2 : H.get? a = some o) (h3 : o.data = .func (docDef nm ⟨[], [⟨"grouping", none, ap⟩], none, [], [], none, []⟩ (gAll P k) scope pm cd doc)) (h4 : H.CodeRec cd nm)
    (h5 : scope.kind = .function) (h6 : scope.isCoroutine = false) (h7 : scope.isGenerator = true) (h8 : scope.names.lookup ("grouping" : Str) = some NameKind.local) (h9 : scope.names.lookup ("last_interval" : Str) = some NameKind.local) (h10 : scope.names.lookup ("interval" : Str) = some NameKind.local)
    (h11 : globName scope.names "CHAR_MAX" = true) (h12 : globName scope.names "ValueError" = true) : GFnD H mg P k x
structure GFn (H : Heap) (mg mb : Str → Option Value) (P : Nat → Pos) (k : Nat → Nat) (x : Str) : Prop where
  gl : Gl mg mb H
  lim : H.NoLimit
  cmax : ∃ t : Tok, mg "CHAR_MAX" = some (Value.int 127 t)
  verr : mg "ValueError" = none ∧ mb "ValueError" = some (.type "ValueError")
  fn : GFnD H mg P k x
structure GNew (H : Heap) (mg mb : Str → Option Value) (P : Nat → Pos) (k : Nat → Nat) (l : Addr) (s s' : Shared) (ag C : Addr) (ge : Env) : Prop where
  top : GTop mg mb H ge
  c : ge.locals = C
  ev : Evl s s'
  isg : s'.heap.IsGen ag s.gens.size
  gs : s'.gens[s.gens.size]? = some (.fresh (.func (gAll P k) ge))
  ns : ∃ mm, s'.heap.Ns C mm ∧ mm "grouping" = some (.ref l)
  cn : s.heap.get? C = none
  an : s.heap.get? ag = none
  ne : ag ≠ C
theorem gen_call {H : Heap} {mg mb : Str → Option Value} {P : Nat → Pos} {k : Nat → Nat} {x : Str} (G : GFn H mg mb P k x) {a l : Addr} (ha : mg x = some (.ref a)) (hroom : A.depth < recursionLimit) (ext : Ext H s.heap) {Q : Value → Shared → Prop}
    (h : ∀ s' ag C ge, GNew H mg mb P k l s s' ag C ge → Q (.ref ag) s') : wpAny (model prog w) A (call (.ref a) [.ref l]) Q E s := by
  obtain ⟨a', o, ap, nm, scope, pm, cd, doc, h1, h2, h3, h4, h5, h6, h7, h8, h9, h10, h11, h12⟩ := G.fn
  rw [ha] at h1; cases h1
  refine wpAny_call (codeAny_call_generator hroom (ext _ _ h2) h3 h6 h7 rfl (h4.keeps ext) ?_)
  rw [bind_plain (by simp) rfl]
  refine wpAny_pure (wpAny_newFunctionEnv_cells h5 (fun y hy => ?_) fun ge he s' X => ?_)
  · have : y = (("grouping" : Str), Value.ref l) := by simpa using hy
    rw [this]; exact .inl h8
  · have hk : ∀ x, ge.kindOf x = scope.names.lookup x := fun x => by rw [he]; rfl
    have hc : ge.locals = s.heap.objs.size := by rw [he]; rfl
    obtain ⟨h', tk, e, kp⟩ := X.done
    subst e
    refine ⟨G.lim.keeps (ext.trans kp), h _ _ _ ge ⟨⟨⟨by rw [he]; exact h5, by rw [he]; exact h6, (hk _).trans h8, (hk _).trans h9, (hk _).trans h10, by rw [he]; rfl, by rw [he]; rfl, by rw [he]; exact h11, by rw [he]; exact h12, by rw [he]; rfl⟩, G.gl, G.cmax, G.verr⟩, rfl, ?_, ?_, ?_, ?_, ?_, ?_, ?_⟩⟩
    · refine ⟨fun b o _ e => Heap.get?_push_of_some _ (kp b o e), fun i x e => ?_, fun q => ?_, rfl⟩
      · show (s.gens.push _)[i]? = some x
        rw [Array.getElem?_push]
        split
        · rename_i q; subst q
          rw [Array.getElem?_eq_none (Nat.le_refl _)] at e; cases e
        · exact e
      · show AllBare (s.gens.push _)
        intro y hy
        rcases Array.mem_push.mp hy with hy | rfl
        · exact q y hy
        · rfl
    · exact ⟨_, _, _, Heap.get?_push_size _ rfl, rfl, rfl, rfl⟩
    · exact Array.getElem?_push_size ..
    · refine ⟨_, X.toInCall.ns.push _, ?_⟩
      show bindL ge.kindOf [(("grouping" : Str), Value.ref l)] (fun _ => none) "grouping" = _
      unfold bindL bindL
      rw [hk, if_pos h8, if_pos rfl]
    · rw [hc]; exact fresh_size
    · cases e : s.heap.get? h'.objs.size with
      | none => rfl
      | some o => exact absurd (Heap.lt_size (kp _ o e)) (Nat.lt_irrefl _)
    · obtain ⟨o, _, _, e, _⟩ := X.toInCall.ns
      exact Nat.ne_of_gt (Heap.lt_size e)
end
end Mine
end
section
open PySem PySem.Calls PyProof.Rows
namespace Mine
structure AftG (Own : Addr → Prop) (g : Nat) (s s' : Shared) : Prop where
  heap : ∀ b o, ¬ Own b → s.heap.get? b = some o → s'.heap.get? b = some o
  gens : ∀ (i : Nat) (x : GenState), i ≠ g → s.gens[i]? = some x → s'.gens[i]? = some x
  bare : AllBare s.gens → AllBare s'.gens
  os : s'.os = s.os
theorem bare_setGen {s : Shared} {g : Nat} {x : GenState} (hx : x.bare = true) (h : AllBare s.gens) : AllBare (s.setGen g x).gens := by
  intro y hy
  obtain ⟨i, hi, rfl⟩ := Array.mem_iff_getElem.mp hy
  by_cases e : i = g
  · subst e
    have : (s.setGen i x).gens[i] = x := by simp [Shared.setGen]
    rw [this]; exact hx
  · have : (s.setGen g x).gens[i]? = s.gens[i]? := (GenOnly.setGen s g x).2 i e
    rw [Array.getElem?_eq_getElem hi] at this
    obtain ⟨hi', e'⟩ := Array.getElem?_eq_some_iff.mp this.symm
    exact e' ▸ h _ (Array.getElem_mem hi')
theorem AftG.of {Own : Addr → Prop} {g : Nat} {s s₁ : Shared} {gs gs' : GenState} {h' : Heap} (hgs : s.gens[g]? = some gs) (a : Aft Own (s.setGen g .running) s₁) (hb : gs'.bare = true) (hk : Ext s₁.heap h') : AftG Own g s { s₁.setGen g gs' with heap := h' } ∧ (s₁.setGen g gs').gens[g]? = some gs' := by
  have h1 : s₁.gens[g]? = some .running := a.gens g _ (setGen_self hgs)
  refine ⟨⟨fun b o hb e => hk b o (a.heap b o hb e), fun i x hi e => ?_, fun q => bare_setGen hb (a.bare (bare_setGen rfl q)), a.os⟩, setGen_self h1⟩
  show (s₁.setGen g gs').gens[i]? = some x
  rw [(GenOnly.setGen s₁ g gs').2 i hi]
  refine a.gens i x ?_
  rw [(GenOnly.setGen s g .running).2 i hi]; exact e
section
variable {prog : Program} {w : World} {A : Around} {E : Value → Shared → Prop} {s s' : Shared} {s₀ : Base} {env : Env} {tbl : List Str} {N N₁ N' W W' W₁ Own : Addr → Prop} {ρ : Rho} {H : Heap} {mg mb : Str → Option Value} {ge : Env}
theorem gen_pull (hh : A.handled = none) (hl : s'.heap.NoLimit) (hroom : A.depth < recursionLimit) {ag g l I n : Nat} {gs : GenState} {T : Nat → Option Int} {st : GS}
    (hg : s'.heap.IsGen ag g) (hgs : s'.gens[g]? = some gs) (hc : Cons T n st)
    (hgo : gs.Goes (model prog w) A.in1 (GR T (GOwn ge.locals I)) (GY T (GOwn ge.locals I) (GKeep H ge.locals I l)) (n + 1) (.send .none) (s'.setGen g .running))
    {Q : Option Value → Shared → Prop}
    (hQn : ∀ s₃, st.pull = none → AftG (GOwn ge.locals I) g s' s₃ → Q none s₃)
    (hQs : ∀ x t st' s₃ gs', st.pull = some (x, st') → AftG (GOwn ge.locals I) g s' s₃ → (∀ a, GOwn ge.locals I a → ∃ o, s₃.heap.get? a = some o) → s₃.gens[g]? = some gs' →
      (∀ n', n = n' + 1 → Cons T n' st' ∧ ∀ s'' : Shared, Agr (GKeep H ge.locals I l) s₃ s'' → gs'.Goes (model prog w) A.in1 (GR T (GOwn ge.locals I)) (GY T (GOwn ge.locals I) (GKeep H ge.locals I l)) (n' + 1) (.send .none) s'') → Q (some (.int x t)) s₃) :
    wpAny (model prog w) A (pyNext (.ref ag)) Q E s' := by
  refine pyNext_gen hh hl hroom hg hgs hgo (fun v s₁ gs' hb hv => ?_) (fun r s₁ hr => ?_)
  · obtain ⟨⟨x, t, hT, rfl⟩, ⟨ha, hlive⟩, hk⟩ := hv
    obtain ⟨a₁, h1⟩ := AftG.of hgs ha hb (Ext.refl _)
    have hp : ∃ st', st.pull = some (x, st') := by
      have := hc.here
      rw [show n + 1 - 1 = n by (first | lia | omega)] at hT
      rw [hT] at this
      cases h : st.pull with
      | none => rw [h] at this; cases this
      | some p => obtain ⟨y, st'⟩ := p; rw [h] at this; cases this; exact ⟨st', rfl⟩
    obtain ⟨st', hp⟩ := hp
    refine hQs x t st' _ gs' hp a₁ hlive h1 fun n' e => ⟨by subst e; exact hc.next hp, fun s'' hag => ?_⟩
    subst e
    exact hk n' rfl s'' hag
  · obtain ⟨rfl, hT, ha⟩ := hr
    refine .inl ⟨rfl, fun h' hk => hQn _ ?_ (AftG.of hgs ha rfl hk).1⟩
    have := hc.here
    rw [show n + 1 - 1 = n by (first | lia | omega)] at hT
    rw [hT] at this
    cases h : st.pull with
    | none => rfl
    | some p => rw [h] at this; cases this
theorem ints_at {F : Addr → Prop} : ∀ {vs : List Value} {ds : List D} {is : List Int} {h : Heap}, Reps w prog F h vs ds → ints? ds = some is → IntsAt vs is
  | _, _, _, _, .nil, e => by cases e; exact ⟨rfl, fun i x hx => by simp at hx⟩
  | _, _, _, _, .cons (d := d) (ds := ds) a r, e => by
    cases a with
    | int i t =>
      rw [ints?] at e
      obtain ⟨is, h1, rfl⟩ := Option.map_eq_some_iff.mp e
      obtain ⟨q1, q2⟩ := ints_at r h1
      refine ⟨by simp [q1], fun j x hx => ?_⟩
      cases j with
      | zero => simp at hx; subst hx; exact ⟨t, rfl⟩
      | succ j => exact q2 j x (by simpa using hx)
    | none => cases e
    | bool _ => cases e
    | str _ _ => cases e
    | tup _ _ _ => cases e
    | lst _ _ _ => cases e
    | dct _ _ _ => cases e
theorem Frm.less {X : Addr → Prop} (R : Frm env tbl N' W) (k : ∀ a, N' a → N a ∨ X a) (hl : ¬ X env.locals) (hc : ∀ n c, env.cells.lookup n = some c → ¬ X c) : Frm env tbl N W :=
  ⟨R.kind, R.nodup, R.plain, R.home, fun x hx a b H => by
    rcases R.homeN x hx a b H with q | q
    · rcases k a q with q | q
      · exact .inl q
      · exfalso
        cases H with
        | loc _ => exact hl q
        | cel _ h => exact hc x _ h q
        | fre _ h => exact hc x _ h q
    · exact .inr q, R.homeW⟩
structure GPh (prog : Program) (w : World) (A : Around) (env : Env) (tbl : List Str) (s₀ : Base) (N W : Addr → Prop) (s : Shared) (H : Heap) (C ag l g : Nat) (n : Nat) (st : GS) (I : Addr) (W₁ : Addr → Prop) (ρ : Rho) (s' : Shared) : Prop where
  S : St w prog env tbl s₀ (fun a => N a ∨ a = ag ∨ a = C ∨ a = I) W₁ ρ s'
  R : Frm env tbl N W₁
  a : Aft W s s'
  gw : ∀ a, W₁ a → W a ∨ s.heap.get? a = none
  wx : ¬ W₁ ag ∧ ¬ W₁ C ∧ ¬ W₁ I ∧ ¬ W₁ l
  ll : ∃ o, s'.heap.get? l = some o
  inew : s.heap.get? I = none
  run : s'.heap.IsGen ag g ∧ ∃ gs, s'.gens[g]? = some gs ∧ ∀ n', n = n' + 1 → ∃ T, Cons T n' st ∧ ∀ s'' : Shared, Agr (GKeep H C I l) s' s'' → gs.Goes (model prog w) A.in1 (GR T (GOwn C I)) (GY T (GOwn C I) (GKeep H C I l)) (n' + 1) (.send .none) s''
end
end Mine
end
section
open PySem PySem.Calls PyProof.Rows
namespace Mine
section
variable {prog : Program} {w : World} {A : Around} {E : Value → Shared → Prop} {s s' s'' : Shared} {s₀ : Base} {env : Env} {tbl : List Str} {N N₀ N₁ N' W W' W₁ W₂ Own : Addr → Prop} {ρ ρ₁ ρ₂ : Rho} {H : Heap} {mg mb : Str → Option Value} {ge : Env} {C ag l g n I : Nat} {st : GS}
theorem GPh.step (G : GPh prog w A env tbl s₀ N W s H C ag l g n st I W₁ ρ₁ s') (hH : Ext H s₀.heap) (S : St w prog env tbl s₀ N W ρ s) (hnew : s.heap.get? ag = none ∧ s.heap.get? C = none) (x : Aft W₁ s' s'') (S'' : St w prog env tbl s₀ (fun a => N a ∨ a = ag ∨ a = C ∨ a = I) W₂ ρ₂ s'')
    (R'' : Frm env tbl (fun a => N a ∨ a = ag ∨ a = C ∨ a = I) W₂) (gr : ∀ a, W₂ a → W₁ a ∨ s'.heap.get? a = none) : GPh prog w A env tbl s₀ N W s H C ag l g n st I W₂ ρ₂ s'' := by
  have nX : ∀ a, (a = ag ∨ a = C ∨ a = I) → s.heap.get? a = none := fun a ha => by
    rcases ha with rfl | rfl | rfl
    · exact hnew.1
    · exact hnew.2
    · exact G.inew
  have lX : ∀ a, (a = ag ∨ a = C ∨ a = I) → ∃ o, s'.heap.get? a = some o := fun a ha => G.S.live a (.inl (.inr ha))
  have wx : ∀ a, (¬ W₁ a) → (∃ o, s'.heap.get? a = some o) → ¬ W₂ a := fun a h1 ⟨o, e⟩ q => by
    rcases gr a q with q | q
    · exact h1 q
    · rw [q] at e; cases e
  refine ⟨S'', R''.less (X := fun a => a = ag ∨ a = C ∨ a = I) (fun a => id) (fun q => ?_) (fun n c hc q => ?_), Aft.trans' G.a x G.gw, fun a ha => ?_,
    ⟨wx _ G.wx.1 (lX _ (.inl rfl)), wx _ G.wx.2.1 (lX _ (.inr (.inl rfl))), wx _ G.wx.2.2.1 (lX _ (.inr (.inr rfl))), wx _ G.wx.2.2.2 G.ll⟩, ?_, G.inew, ?_⟩
  · obtain ⟨m, o, _, _, e, _⟩ := S.ns; rw [nX _ q] at e; cases e
  · obtain ⟨o, e⟩ := S.cellLive hc; rw [nX _ q] at e; cases e
  · rcases gr a ha with q | q
    · exact G.gw a q
    · by_cases hw : W a
      · exact .inl hw
      · right
        cases e : s.heap.get? a with
        | none => rfl
        | some o => rw [G.a.heap a o hw e] at q; cases q
  · obtain ⟨o, e⟩ := G.ll; exact ⟨o, x.heap _ o G.wx.2.2.2 e⟩
  · obtain ⟨isg, gs, hgs, go⟩ := G.run
    refine ⟨?_, gs, x.gens _ _ hgs, fun n' e => ?_⟩
    · obtain ⟨o, nm, qn, ho, r⟩ := isg
      exact ⟨o, nm, qn, x.heap _ o G.wx.1 ho, r⟩
    · obtain ⟨T, hc, hgo⟩ := go n' e
      refine ⟨T, hc, fun s''' hag => hgo s''' fun b o hb e => hag b o hb (x.heap b o (fun q => ?_) e)⟩
      rcases hb with rfl | rfl | rfl | ⟨o', hb⟩
      · exact G.wx.2.1 q
      · exact G.wx.2.2.1 q
      · exact G.wx.2.2.2 q
      · have := G.S.fresh b q
        rw [hH b o' hb] at this; cases this
inductive GLat (prog : Program) (w : World) (A : Around) (env : Env) (tbl : List Str) (s₀ : Base) (N W : Addr → Prop) (s : Shared) (H : Heap) (C ag l g n I : Nat) (K : GS → Rho → (Rho → Fl → Prop) → Prop) (Q : Rho → Fl → Prop) (s' : Shared) : Prop
  | mk (W₁ : Addr → Prop) (ρ₁ : Rho) (st : GS) (G : GPh prog w A env tbl s₀ N W s H C ag l g n st I W₁ ρ₁ s') (q : K st ρ₁ Q) : GLat prog w A env tbl s₀ N W s H C ag l g n I K Q s'
theorem lst_of {d : D} {k : List D → Prop} (h : match d with | .lst ds => k ds | _ => False) : ∃ ds, d = .lst ds ∧ k ds := by
  cases d <;> first | exact ⟨_, rfl, h⟩ | exact h.elim
theorem forgen_exec {k : Nat} (X : Fx mg mb H env s₀ N₀) (hA : Rm k A) {P : Nat → Pos} {kk : Nat → Nat} {gx : Str} (GF : GFn H mg mb P kk gx) (hgx : globName env.scope.names gx = true) {e : Expr} {Pe : Rho → (D → Prop) → Prop} (he : SndE prog w A env tbl s₀ N₀ e Pe) (hst : notStar e = true)
    {t : Nat} {x : Str} {tp : Pos} (ht : tgtName false env.scope.names tbl t (.Name x tp) = true) {body : List Stmt} {Pb : Rho → (Rho → Fl → Prop) → Prop} (hb : SndSs prog w A env tbl s₀ N₀ body Pb) {kill : List Nat} {p q pos : Pos}
    (hN : ∀ a, N₀ a → N a) (S : St w prog env tbl s₀ N W ρ s) (R : Frm env tbl N W) {Q : Rho → Fl → Prop} {Bd : Prop}
    (hq : Pe ρ fun d => match d with
      | .lst ds => ∃ is, ints? ds = some is ∧ match rowBad is with
        | false => ∃ n, genW t kill Pb n (.go none is) ρ Q
        | true => Bd
      | _ => False)
    (hbd : ∀ (s₁ s₂ : Shared) (ag C : Addr) (ge : Env) (l : Addr) (vs : List Value) (rest : List Int), Evl s s₁ → GNew H mg mb P kk l s₁ s₂ ag C ge → ¬ (N l ∨ W l) → s₁.heap.IsList l vs.toArray → IntsAt vs (0 :: rest) → Ext H s₁.heap → Bd →
      wpAny (model prog w) A (runOwn (.forLoop (.Name x tp) (.ref ag) body [] env) env) (PoS w prog env tbl s₀ N W s Q) E s₂) :
    wpAny (model prog w) A (exec (.For (.Name x tp) (.Call (.Name gx q) [e] [] p) body [] pos) env) (PoS w prog env tbl s₀ N W s Q) E s := by
  show wpAny _ _ (do
    standAt pos
    let x ← foldedSetIterable (.Call (.Name gx q) [e] [] p) env (← eval (.Call (.Name gx q) [e] [] p) env)
    standAt (Expr.pos (.Call (.Name gx q) [e] [] p))
    runOwn (.forLoop (.Name _ tp) (← holding [x] (pyIter x)) body [] env) env) _ _ _
  have hfn := GF.fn
  obtain ⟨fa, fo, ap, nm, scope, pm, cd, doc, hm, hfo, hfd, _⟩ := hfn
  have hst' : [e].all notStar = true := by show (notStar e && true) = true; rw [hst]; rfl
  have room : A.depth < recursionLimit := by have := hA.2.1; unfold recursionLimit; (first | lia | omega)
  refine wpAny_bind (wpAny_standAt (wpAny_bind ?_))
  refine wpAny_Call_NameR (name_glob X hgx hm q S.evl.ext (callWith_function (o := fo) (fd := docDef nm ⟨[], [⟨"grouping", none, ap⟩], none, [], [], none, []⟩ (gAll P kk) scope pm cd doc) (args_sound rfl hst' ?_)))
  rw [starEach_cons hst]
  refine spliced_cons (wpAny_mono (he N W ρ s E _ hN S R hq) (fun v s₁ ⟨d, hd, ev₁, r⟩ => spliced_nil ?_) fun _ _ q => q)
  have e1 : Ext H s₁.heap := fun b o q => ev₁.heap b o id (S.evl.heap b o id (X.ext b o q))
  refine ⟨⟨e1 _ _ hfo, hfd⟩, ?_⟩
  obtain ⟨ds, rfl, is, his, hd⟩ := lst_of hd
  obtain ⟨l, vs, rfl, hF, el, rs⟩ := r.view
  have hia := ints_at rs his
  show wpAny _ _ (call (.ref fa) [.ref l]) _ _ _
  refine gen_call GF hm room e1 fun s₂ ag C ge GN => ?_
  cases hbad : rowBad is with
  | true =>
    rw [hbad] at hd
    refine wpAny_bind (wpAny_of_eq (folded_of rfl _) (wpAny_bind (wpAny_standAt (wpAny_bind (wpAny_holding (wpAny_pyIter_gen GN.isg ?_))))))
    obtain ⟨rest, rfl⟩ : ∃ rest, is = 0 :: rest := by
      unfold rowBad at hbad
      split at hbad
      · exact ⟨_, rfl⟩
      · cases hbad
    exact hbd s₁ s₂ ag C ge l vs rest ev₁ GN hF el hia e1 hd
  | false =>
  rw [hbad] at hd
  obtain ⟨n, hq⟩ := hd
  -- what stands now
  have ev₂ : Evl s s₂ := ev₁.trans GN.ev
  have isg := GN.isg
  have gsg := GN.gs
  generalize hg : s₁.gens.size = g at isg gsg
  have lnew : ∀ a, (a = ag ∨ a = C) → s.heap.get? a = none := fun a ha => by
    rcases ha with rfl | rfl
    · exact ev₁.none GN.an
    · exact ev₁.none GN.cn
  have llive : ∃ o, s₁.heap.get? l = some o := by obtain ⟨o, e, _⟩ := el; exact ⟨o, e⟩
  have lC : l ≠ C := fun q => by obtain ⟨o, e⟩ := llive; rw [q, GN.cn] at e; cases e
  have lag : l ≠ ag := fun q => by obtain ⟨o, e⟩ := llive; rw [q, GN.an] at e; cases e
  have gnew : ∀ (i : Nat) (x : GenState), s.gens[i]? = some x → i ≠ g := fun i x e q => by
    have := ev₁.gens i x e
    rw [q, ← hg, Array.getElem?_eq_none (Nat.le_refl _)] at this; cases this
  have Clive : ∃ o, s₂.heap.get? C = some o := by obtain ⟨mm, ⟨o, _, _, e, _⟩, _⟩ := GN.ns; exact ⟨o, e⟩
  have alive : ∃ o, s₂.heap.get? ag = some o := by obtain ⟨o, _, _, e, _⟩ := isg; exact ⟨o, e⟩
  have S₂ : St w prog env tbl s₀ (fun a => N a ∨ a = ag ∨ a = C) W ρ s₂ := S.moreN ev₂ fun a ha => by
    rcases ha with q | rfl | rfl
    · exact .inl q
    · exact .inr ⟨lnew _ (.inl rfl), alive⟩
    · exact .inr ⟨lnew _ (.inr rfl), Clive⟩
  have hEx : ∀ {a : Addr}, s.heap.get? a = none → (∀ o, H.get? a ≠ some o) ∧ s₀.heap.get? a = none ∧ ¬ W a ∧ a ≠ env.locals ∧ (∀ n c, env.cells.lookup n = some c → a ≠ c) := fun {a} ha =>
    ⟨fun o q => (by rw [S.evl.heap a o id (X.ext a o q)] at ha; cases ha), S.evl.none ha, fun q => (by obtain ⟨o, e⟩ := S.live a (.inr q); rw [ha] at e; cases e),
      fun q => (by obtain ⟨m, o, _, _, e, _⟩ := S.ns; rw [← q, ha] at e; cases e), fun n c hc q => (by obtain ⟨o, e⟩ := S.cellLive hc; rw [← q, ha] at e; cases e)⟩
  refine wpAny_bind (wpAny_of_eq (folded_of rfl _) (wpAny_bind (wpAny_standAt (wpAny_bind (wpAny_holding (wpAny_pyIter_gen isg ?_))))))
  -- the first pull makes the list iterator I
  generalize hI : s₂.heap.objs.size = I at *
  have Inew₂ : s₂.heap.get? I = none := hI ▸ fresh_size
  have Inew : s.heap.get? I = none := ev₂.none Inew₂
  -- a turn, from a pull's end on
  have rest : ∀ (n : Nat) (st : GS) (W₁ : Addr → Prop) (ρ₁ : Rho) (s' : Shared) (y : Int) (tk : Tok) (E : Value → Shared → Prop), GPh prog w A env tbl s₀ N W s H C ag l g n st I W₁ ρ₁ s' →
      Pb (ρ₁.set t (some (.sh (.int y)))) (fun ρ' fl => match fl with
        | .next => genW t kill Pb n st (ρ'.clr kill) Q
        | .brk => Q (ρ'.clr kill) .next
        | .ret d => Q (ρ'.clr kill) (.ret d)) →
      wpAny (model prog w) A (assign (.Name x tp) env (.int y tk)) (fun _ s₂ => wpAny (model prog w) A (execs body env) (fun f s₃ => match f with
        | .next | .cont => GLat prog w A env tbl s₀ N W s H C ag l g n I (genW t kill Pb n) Q s₃
        | .brk => PoS w prog env tbl s₀ N W s Q .next s₃
        | .ret v => PoS w prog env tbl s₀ N W s Q (.ret v) s₃) E s₂) E s' := by
    intro n st W₁ ρ₁ s' y tk E GP hq
    have R₂ : Frm env tbl (fun a => N a ∨ a = ag ∨ a = C ∨ a = I) W₁ := GP.R.moreN fun a => .inl
    refine assign_name GP.S R₂ ht (.int y tk) fun s₄ S₄ a₄ => ?_
    have GP₄ := GP.step X.ext S ⟨lnew _ (.inl rfl), lnew _ (.inr rfl)⟩ (a₄.mono fun b q => q.1) S₄ R₂ fun a => .inl
    refine wpAny_mono (hb _ W₁ _ s₄ E _ (fun a ha => .inl (hN a ha)) S₄ R₂ hq) (fun f s₅ ⟨ρ'', fl, W₂, hq₂, hf, S₅, R₅, g₅, a₅⟩ => ?_) fun _ _ q => q
    have GP₅ := GP₄.step X.ext S ⟨lnew _ (.inl rfl), lnew _ (.inr rfl)⟩ a₅ (S₅.clr kill) R₅ g₅
    cases hf with
    | next => exact ⟨W₂, _, st, GP₅, hq₂⟩
    | brk => exact ⟨_, .next, W₂, hq₂, .next, GP₅.S.lessN fun a => .inl, GP₅.R, GP₅.gw, GP₅.a⟩
    | ret r => exact ⟨_, _, W₂, hq₂, .ret (r.anti fun a => Or.imp .inl id), GP₅.S.lessN fun a => .inl, GP₅.R, GP₅.gw, GP₅.a⟩
  -- the state behind a pull
  have stg : ∀ {N₁ W₁ : Addr → Prop} {ρ₁ : Rho} {s' s₃ : Shared} (N₃ : Addr → Prop), St w prog env tbl s₀ N₁ W₁ ρ₁ s' → AftG (GOwn C I) g s' s₃ → (N₁ C) → (N₁ I ∨ s'.heap.get? I = none) → ¬ W₁ C → ¬ W₁ I → (∀ a, GOwn C I a → N₃ a → ∃ o, s₃.heap.get? a = some o) →
      (∀ a, N₃ a → N₁ a ∨ (s'.heap.get? a = none ∧ ∃ o, s₃.heap.get? a = some o)) → St w prog env tbl s₀ N₃ W₁ ρ₁ s₃ := by
    intro N₁ W₁ ρ₁ s' s₃ N₃ S' a h1 h2 h3 h4 h5 h6
    refine S'.gen a.heap (fun i y e => a.gens i y (gnew i y (S.evl.gens i y e)) (S'.evl.gens i y e)) (fun q => a.bare (S'.evl.bare q)) a.os (fun b hb => ?_) h5 h6
    rcases hb with rfl | rfl
    · obtain ⟨_, x1, _, x2, x3⟩ := hEx (lnew _ (.inr rfl)); exact ⟨.inl h1, x1, h3, x2, x3⟩
    · obtain ⟨_, x1, _, x2, x3⟩ := hEx Inew; exact ⟨h2, x1, h4, x2, x3⟩
  have aftg : ∀ {s' s₃ : Shared}, Aft W s s' → AftG (GOwn C I) g s' s₃ → Aft W s s₃ := fun a b => ⟨fun c o hc e => b.heap c o (fun q => by
      rcases q with rfl | rfl
      · rw [lnew _ (.inr rfl)] at e; cases e
      · rw [Inew] at e; cases e) (a.heap c o hc e), fun i y e => b.gens i y (gnew i y e) (a.gens i y e), fun q => b.bare (a.bare q), b.os.trans a.os⟩
  have agI : ¬ GOwn C I ag := fun q => by
    rcases q with q | q
    · exact GN.ne q
    · obtain ⟨o, e⟩ := alive; rw [q, Inew₂] at e; cases e
  have lI : ¬ GOwn C I l := fun q => by
    rcases q with q | q
    · exact lC q
    · obtain ⟨o, e⟩ := llive; rw [← q, GN.ev.heap l o id e] at Inew₂; cases Inew₂
  have CI : C ≠ I := fun q => by obtain ⟨o, e⟩ := Clive; rw [q, Inew₂] at e; cases e
  have WI : ¬ W I := (hEx Inew).2.2.1
  have WC : ¬ W C := (hEx (lnew _ (.inr rfl))).2.2.1
  have Wag : ¬ W ag := (hEx (lnew _ (.inl rfl))).2.2.1
  have Wl : ¬ W l := fun q => hF (.inr q)
  refine wpAny_runOwn (codeAny_forLoop_any (A := A) (fun j s' => (j = n ∧ s' = s₂ ∧ genW t kill Pb n (.go none is) ρ Q) ∨ GLat prog w A env tbl s₀ N W s H C ag l g j I (genW t kill Pb j) Q s') ?_ n (.inl ⟨rfl, rfl, hq⟩))
  rintro j s' (⟨rfl, rfl, hq⟩ | ⟨W₁, ρ₁, st, GP, hq⟩)
  · -- the first pull
    cases j with
    | zero => exact hq.elim
    | succ j =>
      rw [genW] at hq
      have hl₂ : s'.heap.NoLimit := GF.lim.keeps fun b o e => GN.ev.heap b o id (e1 b o e)
      have hgo : GenState.Goes (model prog w) A.in1 (GR (fun m => nth (j - m) (.go none is)) (GOwn ge.locals I)) (GY (fun m => nth (j - m) (.go none is)) (GOwn ge.locals I) (GKeep H ge.locals I l)) (j + 1) (.fresh (.func (gAll P kk) ge)) (.send .none) (s'.setGen g .running) := by
        refine ⟨rfl, ?_⟩
        obtain ⟨mm, hns, hgr⟩ := GN.ns
        have := seg_all (prog := prog) (w := w) (A := A.in1) (T := fun m => nth (j - m) (.go none is)) (H := H) (mg := mg) (mb := mb) (ge := ge) (l := l) (vs := vs) (xs := is) (P := P) (k := kk) (m := j) (s := s'.setGen g .running) (mm := mm) GN.top hA.1
          (by show A.units + 1 + 100 < cLine; have := hA.2.2; unfold cLine; (first | lia | omega)) hia hbad (Cons.start j _) (fun b o e => GN.ev.heap b o id (e1 b o e)) (GN.c ▸ hns) hgr (el.at fun o e => GN.ev.heap _ o id e) (GN.c ▸ lC) (by rw [GN.c]; exact (hEx (lnew _ (.inr rfl))).1)
        rw [show (s'.setGen g .running).heap.objs.size = I from hI] at this
        exact this
      refine gen_pull (n := j) hA.1 hl₂ room isg gsg (Cons.start j _) hgo (fun s₃ hp a₃ => ?_) fun y tk st' s₃ gs' hp a₃ lv hgs' hk => ?_
      · rw [GN.c] at a₃
        rw [hp] at hq
        refine wpAny_pure ⟨_, .next, W, hq, .next, (stg N S₂ a₃ (.inr (.inr rfl)) (.inr Inew₂) WC WI (fun a ha hn => ?_) fun a => (.inl ∘ .inl)).clr kill, R, fun _ => .inl, aftg (Evl.aftW ev₂) a₃⟩
        obtain ⟨o, e⟩ := S.live a (.inl hn)
        rcases ha with rfl | rfl
        · rw [lnew _ (.inr rfl)] at e; cases e
        · rw [Inew] at e; cases e
      · rw [GN.c] at a₃ lv
        rw [hp] at hq
        dsimp only at hq
        refine wpAny_pure ?_
        have S₃ : St w prog env tbl s₀ (fun a => N a ∨ a = ag ∨ a = C ∨ a = I) W ρ s₃ := stg _ S₂ a₃ (.inr (.inr rfl)) (.inr Inew₂) WC WI (fun a ha _ => lv a ha) fun a ha => by
          rcases ha with q | q | q | q
          · exact .inl (.inl q)
          · exact .inl (.inr (.inl q))
          · exact .inl (.inr (.inr q))
          · exact .inr ⟨q ▸ Inew₂, lv a (.inr q)⟩
        have GP : GPh prog w A env tbl s₀ N W s H C ag l g j st' I W ρ s₃ := ⟨S₃, R, aftg (Evl.aftW ev₂) a₃, fun _ => .inl, ⟨Wag, WC, WI, Wl⟩, by
            obtain ⟨o, e⟩ := llive; exact ⟨o, a₃.heap l o lI (GN.ev.heap l o id e)⟩, Inew, by
            obtain ⟨o, nm, qn, ho, r⟩ := isg; exact ⟨o, nm, qn, a₃.heap _ o agI ho, r⟩, gs', hgs', fun n' e => ⟨_, by have := hk n' e; rw [GN.c] at this; exact this⟩⟩
        refine wpAny_mono (rest j st' W ρ s₃ y tk _ GP hq) (fun _ s₄ h₄ => wpAny_mono h₄ (fun f s₅ h₅ => ?_) fun _ _ q => q) fun _ _ q => q
        cases f with
        | next => exact ⟨j, Nat.lt_succ_self _, .inr h₅⟩
        | cont => exact ⟨j, Nat.lt_succ_self _, .inr h₅⟩
        | brk => exact h₅
        | ret v => exact h₅
  · -- a later pull
    cases j with
    | zero => exact hq.elim
    | succ j =>
      rw [genW] at hq
      have hl₂ : s'.heap.NoLimit := GF.lim.keeps fun b o e => GP.S.evl.heap b o id (X.ext b o e)
      obtain ⟨isg', gs, hgs, go⟩ := GP.run
      obtain ⟨T, hc, hgo⟩ := go j rfl
      rw [← GN.c] at hgo
      refine gen_pull (n := j) hA.1 hl₂ room isg' hgs hc (hgo _ fun b o _ e => e) (fun s₃ hp a₃ => ?_) fun y tk st' s₃ gs' hp a₃ lv hgs' hk => ?_
      · rw [GN.c] at a₃
        rw [hp] at hq
        refine wpAny_pure ⟨_, .next, W₁, hq, .next, (stg N GP.S a₃ (.inr (.inr (.inl rfl))) (.inl (.inr (.inr (.inr rfl)))) GP.wx.2.1 GP.wx.2.2.1 (fun a ha hn => ?_) fun a => (.inl ∘ .inl)).clr kill, GP.R, GP.gw, aftg GP.a a₃⟩
        obtain ⟨o, e⟩ := S.live a (.inl hn)
        rcases ha with rfl | rfl
        · rw [lnew _ (.inr rfl)] at e; cases e
        · rw [Inew] at e; cases e
      · rw [GN.c] at a₃ lv
        rw [hp] at hq
        dsimp only at hq
        refine wpAny_pure ?_
        have S₃ : St w prog env tbl s₀ (fun a => N a ∨ a = ag ∨ a = C ∨ a = I) W₁ ρ₁ s₃ := stg _ GP.S a₃ (.inr (.inr (.inl rfl))) (.inl (.inr (.inr (.inr rfl)))) GP.wx.2.1 GP.wx.2.2.1 (fun a ha _ => lv a ha) fun a => .inl
        have GP' : GPh prog w A env tbl s₀ N W s H C ag l g j st' I W₁ ρ₁ s₃ := ⟨S₃, GP.R, aftg GP.a a₃, GP.gw, GP.wx, by
            obtain ⟨o, e⟩ := GP.ll; exact ⟨o, a₃.heap l o lI e⟩, Inew, by
            obtain ⟨o, nm, qn, ho, r⟩ := isg'; exact ⟨o, nm, qn, a₃.heap _ o agI ho, r⟩, gs', hgs', fun n' e => ⟨_, by have := hk n' e; rw [GN.c] at this; exact this⟩⟩
        refine wpAny_mono (rest j st' W₁ ρ₁ s₃ y tk _ GP' hq) (fun _ s₄ h₄ => wpAny_mono h₄ (fun f s₅ h₅ => ?_) fun _ _ q => q) fun _ _ q => q
        cases f with
        | next => exact ⟨j, Nat.lt_succ_self _, .inr h₅⟩
        | cont => exact ⟨j, Nat.lt_succ_self _, .inr h₅⟩
        | brk => exact h₅
        | ret v => exact h₅
theorem sndS_forgen {k : Nat} (X : Fx mg mb H env s₀ N₀) (hA : Rm k A) {P : Nat → Pos} {kk : Nat → Nat} {gx : Str} (GF : GFn H mg mb P kk gx) (hgx : globName env.scope.names gx = true) {e : Expr} {Pe : Rho → (D → Prop) → Prop} (he : SndE prog w A env tbl s₀ N₀ e Pe) (hst : notStar e = true)
    {t : Nat} {x : Str} {tp : Pos} (ht : tgtName false env.scope.names tbl t (.Name x tp) = true) {body : List Stmt} {Pb : Rho → (Rho → Fl → Prop) → Prop} (hb : SndSs prog w A env tbl s₀ N₀ body Pb) {kill : List Nat} {p q pos : Pos} :
    SndS prog w A env tbl s₀ N₀ (.For (.Name x tp) (.Call (.Name gx q) [e] [] p) body [] pos) (fun ρ Q => Pe ρ fun d => match d with
      | .lst ds => ∃ is, ints? ds = some is ∧ match rowBad is with
        | false => ∃ n, genW t kill Pb n (.go none is) ρ Q
        | true => False
      | _ => False) := fun N W ρ s E Q hN S R hq =>
  forgen_exec (Bd := False) (kill := kill) X hA GF hgx he hst ht hb hN S R hq fun _ _ _ _ _ _ _ _ _ _ _ _ _ _ hf => hf.elim
end
end Mine
end
section
open PySem PySem.Calls PyProof.Rows
namespace Mine
section
variable {prog : Program} {w : World} {A : Around} {E : Value → Shared → Prop} {s s' s₂ : Shared} {s₀ : Base} {env : Env} {tbl : List Str} {N W W' N₀ : Addr → Prop} {ρ : Rho} {F : Addr → Prop} {mg mb : Str → Option Value} {H : Heap}
theorem sndC_mono {ex : Expr} {P P' : Rho → (Bool → Prop) → Prop} (k : ∀ ρ Q, P' ρ Q → P ρ Q) (h : SndC prog w A env tbl s₀ N₀ ex P) : SndC prog w A env tbl s₀ N₀ ex P' := fun N W ρ s E Q hN S R hq => h N W ρ s E Q hN S R (k ρ Q hq)
theorem sndI_mono {ex : Expr} {tp sf : Bool} {P P' : Rho → (List D → Prop) → Prop} (k : ∀ ρ Q, P' ρ Q → P ρ Q) (h : SndI prog w A env tbl s₀ N₀ tp sf ex P) : SndI prog w A env tbl s₀ N₀ tp sf ex P' :=
  ⟨h.1, fun N W ρ s E Q hN S R hq => h.2 N W ρ s E Q hN S R (k ρ Q hq)⟩
theorem snd_oinC (hS : N₀ sysModules) (hu : A.units + 20 < cLine) {j : Nat} {x : Str} (hx : tbl[j]? = some x) {op : Cop} (hop : op = .isin ∨ op = .notin) {e : Expr} {P : Rho → (D → Prop) → Prop} (p q : Pos) (h : SndE prog w A env tbl s₀ N₀ e P) :
    SndC prog w A env tbl s₀ N₀ (.Compare e [op.op] [.Name x q] p) (fun ρ Q => P ρ fun a => match ρ.at j with
      | some (.ol ds) => cmpW op a (.lst ds) Q
      | some (.od ds) => cmpW op a (.dct ds) Q
      | _ => False) := fun N W ρ s E Q hN S R hq => by
  have hpn := (R.plain x (List.mem_of_getElem? hx)).1
  have hni : op ≠ .isnone := by rcases hop with rfl | rfl <;> simp
  refine wpAny_isTrue_Compare1 (wpAny_mono (h N W ρ s E _ hN S R hq) (fun v s₁ ⟨d, hd, ev, ra⟩ => ?_) fun _ _ q => q) (behind_of rfl)
  have S₁ := S.step ev
  have go : ∀ {lv : LV} {dv : D}, ρ.at j = some lv → toLV dv = some lv → cmpW op d dv Q → wpAny (model prog w) A (eval (.Name x q) env) (fun b s₂ => wpAny (model prog w) A (compareOp op.op v b) (fun c s₃ => wpAny (model prog w) A (truthy c) (PoB s Q) E s₃) E s₂) E s₁ := by
    intro lv dv hd' hlv hq
    obtain ⟨u, hld, hc, _⟩ := ocmp_sound (Q := Q) hS hu hx hN S₁ R hd' hlv
    refine wpAny_Name (hld A E _ s₁ (.refl _ _) ?_) hpn
    refine wpAny_mono (hc op v d s₁ E hni (.refl _ _) ra hq) (fun c s₃ ⟨b, hb, hq, ev₃⟩ => ?_) fun _ _ q => q
    subst hb
    exact wpAny_truthy_bool ⟨hq, ev.trans ev₃⟩
  try dsimp only at hd
  split at hd
  · rename_i ds hd'; exact go hd' rfl hd
  · rename_i ds hd'; exact go hd' rfl hd
  · exact hd.elim
end
end Mine
end
section
open PySem PySem.Calls PyProof.Rows
namespace Mine
section
variable {prog : Program} {w : World} {A : Around} {E : Value → Shared → Prop} {s s' s₂ : Shared} {s₀ : Base} {env : Env} {tbl tbl' : List Str} {N W W' N₀ : Addr → Prop} {ρ : Rho} {F : Addr → Prop} {mg mb : Str → Option Value} {H : Heap} {scope : Scope} {cap : List (Option Nat)} {tp tp₂ : Bool}
end
end Mine
end
section
open PySem PySem.Calls PyProof.Rows
namespace Mine
noncomputable def ZCall (prog : Program) (w : World) (A : Around) (env : Env) (tbl : List Str) (s₀ : Base) (N₀ : Addr → Prop) (a : Addr) (Xf : List D → (D → Prop) → Prop) : Prop :=
  ∀ (N W : Addr → Prop) (ρ : Rho) (s : Shared) (vs : List Value) (ds : List D) (Q : D → Prop) (E : Value → Shared → Prop), (∀ a, N₀ a → N a) → St w prog env tbl s₀ N W ρ s → Frm env tbl N W → Reps w prog (fun a => N a ∨ W a) s.heap vs ds → Xf ds Q →
    wpAny (model prog w) A (call (.ref a) vs) (fun v s' => ∃ d, Q d ∧ Rep w prog (fun a => N a ∨ W a) s'.heap v d ∧ St w prog env tbl s₀ N W ρ s' ∧ Aft W s s') E s
structure ZFn (prog : Program) (w : World) (A : Around) (env : Env) (tbl : List Str) (s₀ : Base) (N₀ : Addr → Prop) (H : Heap) (mg : Str → Option Value) (x : Str) (Xf : List D → (D → Prop) → Prop) : Prop where
  fn : ∃ a o fd, mg x = some (.ref a) ∧ H.get? a = some o ∧ o.data = .func fd ∧ ZCall prog w A env tbl s₀ N₀ a Xf
section
variable {prog : Program} {w : World} {A : Around} {E : Value → Shared → Prop} {s s' s₂ : Shared} {s₀ : Base} {env : Env} {tbl : List Str} {N W W' N₀ : Addr → Prop} {ρ : Rho} {F : Addr → Prop} {mg mb : Str → Option Value} {H : Heap}
theorem St.ext (S : St w prog env tbl s₀ N W ρ s) (X : Fx mg mb H env s₀ N₀) : Ext H s.heap := fun b o q => S.evl.heap b o id (X.ext b o q)
theorem zcall_eval (X : Fx mg mb H env s₀ N₀) {f : Str} {Xf : List D → (D → Prop) → Prop} (K : ZFn prog w A env tbl s₀ N₀ H mg f Xf) {es : List Expr} {Ps : Rho → (List D → Prop) → Prop} (hf : globName env.scope.names f = true) (hne : es.isEmpty = false) (hst : es.all notStar = true) (p q : Pos) (h : SndEs prog w A env tbl s₀ N₀ es Ps)
    (hN : ∀ a, N₀ a → N a) (S : St w prog env tbl s₀ N W ρ s) (R : Frm env tbl N W) {Q : D → Prop} (hq : Ps ρ fun ds => Xf ds Q) :
    wpAny (model prog w) A (eval (.Call (.Name f q) es [] p) env) (fun v s' => ∃ d, Q d ∧ Rep w prog (fun a => N a ∨ W a) s'.heap v d ∧ St w prog env tbl s₀ N W ρ s' ∧ Aft W s s') E s := by
  obtain ⟨a, o, fd, hm, ho, hd, hc⟩ := K.fn
  refine wpAny_Call_NameR (name_glob X hf hm q S.evl.ext ?_)
  refine callWith_function (o := o) (fd := fd) (args_sound hne hst (wpAny_mono (h p N W ρ s E _ hN S R hq) (fun vs s₁ ⟨ds, hq, ev, r⟩ => ?_) fun _ _ q => q))
  have S₁ := S.step ev
  exact ⟨⟨S₁.ext X _ _ ho, hd⟩, wpAny_mono (hc N W ρ s₁ vs ds Q E hN S₁ R r hq) (fun v s₂ ⟨d, hq, r', S', a'⟩ => ⟨d, hq, r', S', (Evl.aftW ev).trans a'⟩) fun _ _ q => q⟩
theorem sndS_zassign (X : Fx mg mb H env s₀ N₀) {f : Str} {Xf : List D → (D → Prop) → Prop} (K : ZFn prog w A env tbl s₀ N₀ H mg f Xf) {es : List Expr} {Ps : Rho → (List D → Prop) → Prop} (hf : globName env.scope.names f = true) (hne : es.isEmpty = false) (hst : es.all notStar = true) (p q : Pos) (h : SndEs prog w A env tbl s₀ N₀ es Ps)
    {i : Nat} {x : Str} {xp pos : Pos} (ht : tgtName false env.scope.names tbl i (.Name x xp) = true) :
    SndS prog w A env tbl s₀ N₀ (.Assign [.Name x xp] (.Call (.Name f q) es [] p) pos) (fun ρ Q => Ps ρ fun ds => Xf ds fun d => Q (ρ.set i (some (.sh d))) .next) := fun N W ρ s E Q hN S R hq =>
  wpAny_Assign_Name (wpAny_mono (zcall_eval X K hf hne hst p q h hN S R hq) (fun v s₁ ⟨d, hd, r, S₁, a₁⟩ => store_pos S₁ R a₁ ht r hd) fun _ _ q => q) (swaps_false rfl _ _ _)
theorem zlast (X : Fx mg mb H env s₀ N₀) {f : Str} {Xf : List D → (D → Prop) → Prop} (K : ZFn prog w A env tbl s₀ N₀ H mg f Xf) {e₁ e₂ e₃ e₄ : Expr} {es : List Expr} {P₁ P₂ P₃ P₄ : Rho → (D → Prop) → Prop} {Ps : Rho → (List D → Prop) → Prop} (hf : globName env.scope.names f = true) (hne : es.isEmpty = false) (hst : es.all notStar = true) (p q : Pos) (h : SndEs prog w A env tbl s₀ N₀ es Ps)
    (n1 : notStar e₁ = true) (n2 : notStar e₂ = true) (n3 : notStar e₃ = true) (n4 : notStar e₄ = true) (h1 : SndE prog w A env tbl s₀ N₀ e₁ P₁) (h2 : SndE prog w A env tbl s₀ N₀ e₂ P₂) (h3 : SndE prog w A env tbl s₀ N₀ e₃ P₃) (h4 : SndE prog w A env tbl s₀ N₀ e₄ P₄) (k : Nat) (tp pos : Pos) :
    SndS prog w A env tbl s₀ N₀ (.Return (some (.Tuple [e₁, e₂, e₃, e₄, .Call (.Name f q) es [] p] k tp)) pos) (fun ρ Q => P₁ ρ fun a => P₂ ρ fun b => P₃ ρ fun c => P₄ ρ fun d => Ps ρ fun ds => Xf ds fun x => Q ρ (.ret (.tup [a, b, c, d, x]))) := fun N W ρ s E Q hN S R hq => by
  refine wpAny_Return_some (wpAny_Tuple_spliced ?_)
  rw [starEach_cons n1, starEach_cons n2, starEach_cons n3, starEach_cons n4, starEach_cons (e := .Call (.Name f q) es [] p) rfl]
  refine spliced_cons (wpAny_mono (h1 N W ρ s E _ hN S R hq) (fun v1 s₁ ⟨d1, hq1, ev1, r1⟩ => ?_) fun _ _ q => q)
  refine spliced_cons (wpAny_mono (h2 N W ρ s₁ E _ hN (S.step ev1) R hq1) (fun v2 s₂ ⟨d2, hq2, ev2, r2⟩ => ?_) fun _ _ q => q)
  refine spliced_cons (wpAny_mono (h3 N W ρ s₂ E _ hN ((S.step ev1).step ev2) R hq2) (fun v3 s₃ ⟨d3, hq3, ev3, r3⟩ => ?_) fun _ _ q => q)
  refine spliced_cons (wpAny_mono (h4 N W ρ s₃ E _ hN (((S.step ev1).step ev2).step ev3) R hq3) (fun v4 s₄ ⟨d4, hq4, ev4, r4⟩ => ?_) fun _ _ q => q)
  refine spliced_cons (wpAny_mono (zcall_eval X K hf hne hst p q h hN ((((S.step ev1).step ev2).step ev3).step ev4) R hq4) (fun v5 s₅ ⟨d5, hq5, r5, S5, a5⟩ => spliced_nil ?_) fun _ _ q => q)
  have k5 : ∀ a o, ¬ (N a ∨ W a) → s₄.heap.get? a = some o → ¬ (N a ∨ W a) ∧ s₅.heap.get? a = some o := fun a o hF e => ⟨hF, a5.heap a o (fun q => hF (.inr q)) e⟩
  refine ⟨by simp [sizeLine_eq], ?_⟩
  have evn : Evl s₅ { s₅ with heap := s₅.heap.push { cls := .type "tuple", data := .seq [v1, v2, v3, v4, v5].toArray } } := Evl.push _ _
  refine ⟨ρ, _, W, hq5, .ret (.tup (Live.new S5.live) ⟨_, Heap.get?_push_size _ rfl, rfl, 0, rfl⟩ ?_), S5.step evn, R, fun _ => .inl, ((Evl.aftW (((ev1.trans ev2).trans ev3).trans ev4)).trans a5).trans (Evl.aftW evn)⟩
  exact Reps.ext (.cons ((((r1.ext ev2.ext).ext ev3.ext).ext ev4.ext).go k5) (.cons (((r2.ext ev3.ext).ext ev4.ext).go k5) (.cons ((r3.ext ev4.ext).go k5) (.cons (r4.go k5) (.cons r5 .nil))))) (Ext.push _ _)
end
end Mine
end
section
open PySem PySem.Calls PyProof.Rows
namespace Mine
section
variable {prog : Program} {w : World} {A : Around} {E : Value → Shared → Prop} {s : Shared}
theorem nextOf_tuple_item {it t : Addr} {i : Nat} {items : Array Value} {x : Value} {Q : Value → Shared → Prop} (hit : s.heap.IsTupleIter it t i) (ht : s.heap.IsTuple t items) (hx : items[i]? = some x)
    (hQ : ∀ h', h'.IsTupleIter it t (i + 1) → Heap.SameBut it s.heap h' → Q x { s with heap := h' }) : wpAny (model prog w) A (Builtin.SmallTypes.nextOf (.ref it)) Q E s := by
  obtain ⟨o, ho, hc, hd⟩ := id hit
  obtain ⟨ol, hol, _, nl, hdl⟩ := ht
  unfold Builtin.SmallTypes.nextOf
  refine wpAny_bind (wpAny_callSpecial?_slot (name := Str.ofString "__next__") hit.typeIs PySem.F.slot_tuple_iterator_next
    (wpAny_call_entry PySem.F.slot_tuple_iterator_next hit.typeIs PySem.F.entry_tuple_iterator_next ?_ (PySem.F.args_tuple_iterator_next_1 _)))
  show wpAny _ _ (field (.ref it) 0 >>= _) _ _ s
  refine wpAny_bind (wpAny_field ho hd (x := .ref t) rfl ?_)
  show wpAny _ _ (if (Value.ref t == Value.none) = true then _ else _) _ _ s
  rw [if_neg (show ¬ ((Value.ref t == Value.none) = true) from Bool.false_ne_true)]
  show wpAny _ _ (field (.ref it) 1 >>= _) _ _ s
  refine wpAny_bind (wpAny_field ho hd (x := .int i 0) rfl ?_)
  show wpAny _ _ (seqItems? (.ref t) >>= _) _ _ s
  refine wpAny_bind (wpAny_seqItems hol hdl ?_)
  simp only [Int.toNat_natCast, hx]
  refine wpAny_bind (wpAny_setField ho hd (by simp) (wpAny_pure ⟨x, rfl, wpAny_pure (hQ _ ?_ (Heap.SameBut.update ..))⟩))
  exact ⟨_, Heap.get?_update_self _ ho (Obj.isFreed_of_fields (Obj.data_mapFields hd _)), (Obj.cls_mapFields ..).trans hc, by
    rw [Obj.data_mapFields hd]; simp [rawInt]⟩
theorem nextOf_tuple_end {it t : Addr} {i : Nat} {items : Array Value} {Q : Value → Shared → Prop} (hh : A.handled = none) (hit : s.heap.IsTupleIter it t i) (ht : s.heap.IsTuple t items) (hx : items[i]? = none)
    (hE : ∀ h' e, Heap.ExtBut it s.heap h' → (∃ o, h'.get? e = some o ∧ o.cls = .type "StopIteration") → E (.ref e) { s with heap := h' }) : wpAny (model prog w) A (Builtin.SmallTypes.nextOf (.ref it)) Q E s := by
  obtain ⟨o, ho, hc, hd⟩ := id hit
  obtain ⟨ol, hol, _, nl, hdl⟩ := ht
  unfold Builtin.SmallTypes.nextOf
  refine wpAny_bind (wpAny_callSpecial?_slot (name := Str.ofString "__next__") hit.typeIs PySem.F.slot_tuple_iterator_next
    (wpAny_call_entry PySem.F.slot_tuple_iterator_next hit.typeIs PySem.F.entry_tuple_iterator_next ?_ (PySem.F.args_tuple_iterator_next_1 _)))
  show wpAny _ _ (field (.ref it) 0 >>= _) _ _ s
  refine wpAny_bind (wpAny_field ho hd (x := .ref t) rfl ?_)
  show wpAny _ _ (if (Value.ref t == Value.none) = true then _ else _) _ _ s
  rw [if_neg (show ¬ ((Value.ref t == Value.none) = true) from Bool.false_ne_true)]
  show wpAny _ _ (field (.ref it) 1 >>= _) _ _ s
  refine wpAny_bind (wpAny_field ho hd (x := .int i 0) rfl ?_)
  show wpAny _ _ (seqItems? (.ref t) >>= _) _ _ s
  refine wpAny_bind (wpAny_seqItems hol hdl ?_)
  simp only [Int.toNat_natCast, hx]
  refine wpAny_bind (wpAny_rule (wpAny_bind (wpAny_setField ho hd (by simp) ?_)))
  show wpAny _ _ (newExc (.type "StopIteration") [] >>= _) _ _ _
  refine wpAny_bind ?_
  simp only [newExc, newTuple]
  refine wpAny_bind (wpAny_newObj_type ?_ (by size_fits))
  refine wpAny_bind (m := firstArgMember _ _) (wpAny_of_eq (a := Value.none) (by first | rfl | (simp only [firstArgMember]; rfl)) ?_)
  refine wpAny_newObj_type ?_ (by size_fits)
  simp only [raiseNew]
  refine wpAny_bind (wpAny_handled ?_)
  first | rw [show A.in1.handled = none from hh] | rw [hh]
  refine wpAny_bind (wpAny_pure (wpAny_throw ?_))
  exact hE _ _ (((Heap.SameBut.update ..).extBut.push _).push _) ⟨_, Heap.get?_push_size _ rfl, rfl⟩
theorem at_iter {h h' : Heap} {a t : Addr} {i : Nat} (x : h.IsTupleIter a t i) (k : ∀ o, h.get? a = some o → h'.get? a = some o) : h'.IsTupleIter a t i := let ⟨o, e, r⟩ := x; ⟨o, k o e, r⟩
theorem at_tuple {h h' : Heap} {a : Addr} {v : Array Value} (x : h.IsTuple a v) (k : ∀ o, h.get? a = some o → h'.get? a = some o) : h'.IsTuple a v := let ⟨o, e, r⟩ := x; ⟨o, k o e, r⟩
theorem draws_tuple (hh : A.handled = none) (it t : Addr) (hne : t ≠ it) (items : Array Value) :
    Draws prog w A it [it, t] items.size (fun i v => items[i]? = some v) (fun i h => h.IsTupleIter it t i ∧ h.IsTuple t items) where
  live := fun _ _ st => let ⟨o, ho, _⟩ := st.1; ⟨o, ho⟩
  frame := fun _ _ _ st hk => ⟨at_iter st.1 fun o e => hk it (by simp) o e, at_tuple st.2 fun o e => hk t (by simp) o e⟩
  item := fun i s Q E hi st hQ => by
    refine nextOf_tuple_item st.1 st.2 (x := items[i]) (by simp [hi]) fun h' hit' hs' => ?_
    exact hQ _ h' s.toks (by simp [hi]) ⟨hit', st.2.extBut hs'.extBut hne⟩ hs'
  done := fun s Q E st hE => nextOf_tuple_end hh st.1 st.2 (by simp) hE
noncomputable abbrev zipTup (h : Heap) (t1 t2 : Addr) : Heap :=
  ((((h.push { cls := .type "tuple_iterator", data := .fields #[.ref t1, .int 0 0] }).push { cls := .type "tuple_iterator", data := .fields #[.ref t2, .int 0 0] }).push { cls := .type "tuple", data := .seq #[.ref h.objs.size, .ref (h.objs.size + 1)] }).push
    { cls := .type "tuple", data := .seq #[.none, .none] }).push { cls := .type "zip", data := .fields #[.none, .bool false, .bool false, .ref (h.objs.size + 2), .ref (h.objs.size + 3)] }
theorem iterAll_tup {t1 t2 : Addr} {a1 a2 : Array Value} {Q : List Value → Shared → Prop} (h1 : s.heap.IsTuple t1 a1) (h2 : s.heap.IsTuple t2 a2)
    (h : Q [.ref s.heap.objs.size, .ref (s.heap.objs.size + 1)] { s with heap := (s.heap.push { cls := .type "tuple_iterator", data := .fields #[.ref t1, .int 0 0] }).push { cls := .type "tuple_iterator", data := .fields #[.ref t2, .int 0 0] } }) :
    wpAny (model prog w) A (Builtin.SmallTypes.iterAll [.ref t1, .ref t2]) Q E s := by
  unfold Builtin.SmallTypes.iterAll
  simp only [List.forIn_cons, List.forIn_nil]
  refine wpAny_bind (wpAny_bind (wpAny_bind (wpAny_holding (wpAny_pyIter_tuple h1 (wpAny_pure ?_)))))
  refine wpAny_bind (wpAny_bind (wpAny_holding (wpAny_pyIter_tuple (h2.push _) (wpAny_pure ?_))))
  refine wpAny_pure (wpAny_pure ?_)
  simpa [Heap.size_push] using h
theorem zipT_new (t1 t2 : Addr) (a1 a2 : Array Value) :
    MeetsIn prog w (Builtin.«zip.__new__» ⟨[.type "zip", .ref t1, .ref t2], []⟩) (fun _ R s => (s.heap.IsTuple t1 a1 ∧ s.heap.IsTuple t2 a2) ∧ R (.ok (.ret (.ref (s.heap.objs.size + 4)))) { s with heap := zipTup s.heap t1 t2 }) :=
  .of_wp fun A R s h => by
    obtain ⟨hp, g, d, tk, os⟩ := s
    obtain ⟨⟨h1, h2⟩, h⟩ := h
    have hsub := sub_zip
    have it : ∀ (A : Around) (E : Value → Shared → Prop) (Q : List Value → Shared → Prop), Q [.ref hp.objs.size, .ref (hp.objs.size + 1)] ⟨(hp.push { cls := .type "tuple_iterator", data := .fields #[.ref t1, .int 0 0] }).push { cls := .type "tuple_iterator", data := .fields #[.ref t2, .int 0 0] }, g, d, tk, os⟩ →
        wpAny (model prog w) A (Builtin.SmallTypes.iterAll [.ref t1, .ref t2]) Q E ⟨hp, g, d, tk, os⟩ := fun A E Q hQ => iterAll_tup (s := ⟨hp, g, d, tk, os⟩) h1 h2 hQ
    unfold Builtin.«zip.__new__»
    wp_walk using it
    refine ⟨_, rfl, ?_⟩
    simpa [Builtin.SmallTypes.ownedTupleFields, Heap.size_push, zipTup] using h
end
end Mine
end
section
open PySem PySem.Calls PyProof.Rows
namespace Mine
section
variable {prog : Program} {w : World} {A : Around} {E : Value → Shared → Prop} {s : Shared} {F : Addr → Prop} {h₀ : Heap} {z TI TO : Addr} {bs : List Sb}
theorem push_at {h : Heap} {o : Obj} {n : Nat} (hn : h.objs.size = n) (ho : o.isFreed = false) : (h.push o).get? n = some o := hn ▸ Heap.get?_push_size h ho
structure ZipT (prog : Program) (w : World) (F : Addr → Prop) (h₀ : Heap) (ds1 ds2 : List D) (z TI TO i1 i2 : Addr) (bs : List Sb) (h : Heap) : Prop where
  zp : ∀ A : Around, A.handled = none → Zp prog w A F h₀ z TI TO bs
  ds : bs.map (·.ds) = [ds1, ds2]
  it : bs.map (·.it) = [i1, i2]
  st : Zp.St h₀ F z TI TO bs 0 h
  lt : h₀.objs.size ≤ z
theorem zipT_call (hh : A.handled = none) {t1 t2 : Addr} {vs1 vs2 : List Value} {ds1 ds2 : List D} {Q : Value → Shared → Prop} (f1 : ¬ F t1) (f2 : ¬ F t2) (h1 : s.heap.IsTuple t1 vs1.toArray) (h2 : s.heap.IsTuple t2 vs2.toArray)
    (r1 : Reps w prog F s.heap vs1 ds1) (r2 : Reps w prog F s.heap vs2 ds2)
    (h : ∀ z TI TO i1 i2 bs h', Ext s.heap h' → ZipT prog w F s.heap ds1 ds2 z TI TO i1 i2 bs h' → Q (.ref z) { s with heap := h' }) :
    wpAny (model prog w) A (call (.type "zip") [.ref t1, .ref t2]) Q E s := by
  refine callType_meetsIn PySem.F.called_zip (PySem.F.typeCall_zip_2 _ _) (PySem.F.newCall_zip_2 _ _) PySem.F.entry_zip_new PySem.F.entry_object_init (zipT_new t1 t2 vs1.toArray vs2.toArray) ⟨⟨h1, h2⟩, ?_⟩ (Q₁ := fun obj s₁ => s₁.TypeIs obj "zip" ∧ Q obj s₁)
    fun obj _ hq => ⟨hq.1, PySem.F.args_object_init_3 obj _ _, _, object_init_meets PySem.F.called_zip.init.lookup PySem.F.called_zip.made (by decide), hq.1, rfl, hq.2⟩
  show _ ∧ _
  generalize hH : zipTup s.heap t1 t2 = H
  generalize hN : s.heap.objs.size = N at *
  have z1 : (s.heap.push { cls := .type "tuple_iterator", data := .fields #[.ref t1, .int 0 0] }).objs.size = N + 1 := by rw [Heap.size_push, hN]
  have z2 : ((s.heap.push { cls := .type "tuple_iterator", data := .fields #[.ref t1, .int 0 0] }).push { cls := .type "tuple_iterator", data := .fields #[.ref t2, .int 0 0] }).objs.size = N + 2 := by rw [Heap.size_push, z1]
  unfold zipTup at hH
  rw [hN] at hH
  have z3 : (((s.heap.push { cls := .type "tuple_iterator", data := .fields #[.ref t1, .int 0 0] }).push { cls := .type "tuple_iterator", data := .fields #[.ref t2, .int 0 0] }).push { cls := .type "tuple", data := .seq #[.ref N, .ref (N + 1)] }).objs.size = N + 3 := by rw [Heap.size_push, z2]
  have z4 : ((((s.heap.push { cls := .type "tuple_iterator", data := .fields #[.ref t1, .int 0 0] }).push { cls := .type "tuple_iterator", data := .fields #[.ref t2, .int 0 0] }).push { cls := .type "tuple", data := .seq #[.ref N, .ref (N + 1)] }).push { cls := .type "tuple", data := .seq #[.none, .none] }).objs.size = N + 4 := by rw [Heap.size_push, z3]
  have g5 : IsZip H (N + 4) (N + 2) (N + 3) .none := by rw [← hH]; exact push_at z4 rfl
  have g4 : ItsAt H (N + 3) [.none, .none] := by rw [← hH]; exact Heap.get?_push_of_some _ (push_at z3 rfl)
  have g3 : ItsAt H (N + 2) [.ref N, .ref (N + 1)] := by rw [← hH]; exact Heap.get?_push_of_some _ (Heap.get?_push_of_some _ (push_at z2 rfl))
  have g2 : H.IsTupleIter (N + 1) t2 0 := ⟨_, by rw [← hH]; exact Heap.get?_push_of_some _ (Heap.get?_push_of_some _ (Heap.get?_push_of_some _ (push_at z1 rfl))), rfl, rfl⟩
  have g1 : H.IsTupleIter N t1 0 := ⟨_, by rw [← hH]; exact Heap.get?_push_of_some _ (Heap.get?_push_of_some _ (Heap.get?_push_of_some _ (Heap.get?_push_of_some _ (push_at hN rfl)))), rfl, rfl⟩
  have up : Ext s.heap H := fun a o e => by rw [← hH]; exact Heap.get?_push_of_some _ (Heap.get?_push_of_some _ (Heap.get?_push_of_some _ (Heap.get?_push_of_some _ (Heap.get?_push_of_some _ e))))
  have l1 : t1 < N := let ⟨o, e, _⟩ := h1; hN ▸ Heap.lt_size e
  have l2 : t2 < N := let ⟨o, e, _⟩ := h2; hN ▸ Heap.lt_size e
  have new : ∀ a, N ≤ a → s.heap.get? a = none := fun a ha => by
    cases e : s.heap.get? a with
    | none => rfl
    | some o => exact absurd (Heap.lt_size e) (Nat.not_lt.mpr (hN.symm ▸ ha))
  refine ⟨⟨_, g5, rfl⟩, h (N + 4) (N + 2) (N + 3) N (N + 1) [⟨N, ds1, fun i h => h.IsTupleIter N t1 i ∧ h.IsTuple t1 vs1.toArray⟩, ⟨N + 1, ds2, fun i h => h.IsTupleIter (N + 1) t2 i ∧ h.IsTuple t2 vs2.toArray⟩] H up ⟨fun A' hA => ?_, rfl, rfl, ⟨g5, g3, ⟨_, rfl, g4⟩, ?_, fun a o _ e => up a o e⟩, (by rw [hN]; exact Nat.le_add_right N 4)⟩⟩
  · refine ⟨fun b hb => ?_, by simp, (by show (N + 2 : Nat) ≠ N + 4; (first | lia | omega)), (by show (N + 3 : Nat) ≠ N + 4; (first | lia | omega)), (by show (N + 2 : Nat) ≠ N + 3; (first | lia | omega)), fun b hb => ?_, fun b hb => ?_, fun b hb => ?_, fun a ha => new a ?_, by simp⟩
    · simp only [List.mem_cons, List.not_mem_nil, or_false] at hb
      rcases hb with rfl | rfl
      · exact .of_draws (draws_tuple (show A'.in1.handled = none from hA) N t1 (Nat.ne_of_lt l1) vs1.toArray) (by simp [r1.length]) (fun b hb => by
          simp only [List.mem_cons, List.not_mem_nil, or_false] at hb
          rcases hb with rfl | rfl
          · exact .inl rfl
          · obtain ⟨o, e, _⟩ := h1; exact .inr ⟨f1, o, e⟩) fun i v hv => r1.get' (by simpa using hv)
      · exact .of_draws (draws_tuple (show A'.in1.handled = none from hA) (N + 1) t2 (Nat.ne_of_lt (Nat.lt_succ_of_lt l2)) vs2.toArray) (by simp [r2.length]) (fun b hb => by
          simp only [List.mem_cons, List.not_mem_nil, or_false] at hb
          rcases hb with rfl | rfl
          · exact .inl rfl
          · obtain ⟨o, e, _⟩ := h2; exact .inr ⟨f2, o, e⟩) fun i v hv => r2.get' (by simpa using hv)
    all_goals first
      | (simp only [List.mem_cons, List.not_mem_nil, or_false] at hb; rcases hb with rfl | rfl
         · exact Nat.ne_of_lt (Nat.lt_add_of_pos_right (by decide))
         · exact Nat.ne_of_lt (Nat.add_lt_add_left (by decide) N))
      | (rcases ha with rfl | rfl | rfl | ⟨b, hb, rfl⟩
         · exact Nat.le_add_right N 4
         · exact Nat.le_add_right N 2
         · exact Nat.le_add_right N 3
         · simp only [List.mem_cons, List.not_mem_nil, or_false] at hb
           rcases hb with rfl | rfl
           · exact Nat.le_refl N
           · exact Nat.le_add_right N 1)
  · intro b hb
    simp only [List.mem_cons, List.not_mem_nil, or_false] at hb
    rcases hb with rfl | rfl
    · exact ⟨g1, at_tuple h1 fun o e => up _ o e⟩
    · exact ⟨g2, at_tuple h2 fun o e => up _ o e⟩
theorem walks_zipT (hh : A.handled = none) {n : Nat} {ds1 ds2 : List D} {i1 i2 : Addr} {h : Heap} {fp : List Addr} (Z : ZipT prog w F h₀ ds1 ds2 z TI TO i1 i2 bs h) (n1 : ds1.length = n) (n2 : ds2.length = n)
    (hfp : ∀ a, a ∈ [z, TI, TO, i1, i2] ∨ (¬ F a ∧ ∃ o, h₀.get? a = some o) → a ∈ fp) :
    WalksU prog w A z fp [z, TI, TO, i1, i2] n (fun i vals => Reps w prog F h₀ vals.toList [ds1.getD i .none, ds2.getD i .none]) (fun i h => Zp.St h₀ F z TI TO bs i h)
      (fun i T h => IsZip h z TI TO (rawInt T) ∧ ItsAt h TI (bs.map fun b => .ref b.it) ∧ (∃ old, old.length = bs.length ∧ ItsAt h TO old) ∧ (∀ b ∈ bs, b.St (i + 1) h) ∧ (∀ a o, ¬ F a → h₀.get? a = some o → h.get? a = some o) ∧ T ∉ [z, TI, TO, i1, i2]) := by
  have P := Z.zp A hh
  have mX : ∀ a, Zp.X z TI TO bs a ↔ a ∈ [z, TI, TO, i1, i2] := fun a => by
    have e : (∃ b ∈ bs, a = b.it) ↔ a ∈ bs.map (·.it) := by simp [List.mem_map, eq_comm]
    unfold Zp.X
    rw [e, Z.it]
    simp
  have hn : ∀ b ∈ bs, b.ds.length = n := fun b hb => by
    have : b.ds ∈ bs.map (·.ds) := List.mem_map.mpr ⟨b, hb, rfl⟩
    rw [Z.ds] at this
    simp only [List.mem_cons, List.not_mem_nil, or_false] at this
    rcases this with e | e <;> rw [e] <;> assumption
  have hg : ∀ i, bs.map (fun b => b.ds.getD i .none) = [ds1.getD i .none, ds2.getD i .none] := fun i => by
    have := congrArg (List.map fun d : List D => d.getD i .none) Z.ds
    rw [List.map_map] at this
    exact this
  have zX : Zp.X z TI TO bs z := .inl rfl
  refine ⟨fun b hb => hfp b (.inl hb), fun i h h' ⟨hz, hTI, ⟨old, hold, hTO⟩, hst, hk⟩ k => ?_, fun i s Q E hi st hQ => ?_, fun elts kk pos i T s Q E hm hQ => ?_, fun i T h hm => hm.2.2.2.2.2, fun s Q E st hQ => ?_, fun i s Q E st hQ => wpAny_pyIter_zip st.1 hQ⟩
  · refine ⟨k _ (hfp _ (.inl (by simp))) _ hz, k _ (hfp _ (.inl (by simp))) _ hTI, ⟨old, hold, k _ (hfp _ (.inl (by simp))) _ hTO⟩, fun b hb => (P.dr b hb).frame _ _ _ (hst b hb) fun a o ha e => k a (hfp a (ha.imp (fun q => (mX a).mp (.inr (.inr (.inr ⟨b, hb, q⟩)))) id)) o e, fun a o hF e => k a (hfp a (.inr ⟨hF, o, e⟩)) o (hk a o hF e)⟩
  · have hT : s.TypeIs (.ref z) "zip" := ⟨_, st.1, rfl⟩
    unfold pyNext
    refine wpAny_bind (wpAny_attempt (wpAny_callSpecial?_slot (name := Str.ofString "__next__") hT PySem.F.slot_zip_next
      (wpAny_call_entry PySem.F.slot_zip_next hT PySem.F.entry_zip_next (zip_item P hn hi st fun s' vs a1 a2 a3 a4 a5 a6 a7 a8 a9 => wpAny_pure ?_) (PySem.F.args_zip_next_1 _))))
    obtain ⟨h', tk, rfl⟩ := a9
    refine hQ _ vs.toArray h' tk (by rw [hg] at a6; simpa using a6) ⟨_, a5, rfl, _, rfl⟩ ⟨a1, a2, a3, a4, a8, fun q => ?_⟩ fun b o hb e => a7.heap b o (fun q => hb ((mX b).mp q)) e
    have : ∃ o, s.heap.get? s.heap.objs.size = some o := by
      generalize hg : s.heap.objs.size = T at q ⊢
      rcases (mX _).mpr q with rfl | rfl | rfl | ⟨b, hb, rfl⟩
      · exact ⟨_, st.1⟩
      · exact ⟨_, st.2.1⟩
      · obtain ⟨old, _, h⟩ := st.2.2.1; exact ⟨_, h⟩
      · exact (P.dr b hb).live _ _ (st.2.2.2.1 b hb)
    obtain ⟨o, e⟩ := this
    exact absurd (Heap.lt_size e) (Nat.lt_irrefl _)
  · obtain ⟨hz, hTI, ⟨old, hold, hTO⟩, hst, hk, _⟩ := hm
    refine wpAny_letOwnedTupleGo_zip hz fun h' hz' hs' => hQ h' ⟨hz', hs'.extBut _ _ P.zTI hTI, ⟨old, hold, hs'.extBut _ _ P.zTO hTO⟩, fun b hb => ?_, fun a o hF e => hs'.extBut a o (fun q => by rw [q, P.new z zX] at e; cases e) (hk a o hF e)⟩ fun c o hc e => hs'.extBut _ _ (fun q => hc (by simp [q])) e
    refine (P.dr b hb).frame _ _ _ (hst b hb) fun a o ha e => hs'.extBut a o (fun q => ?_) e
    rcases ha with ha | ⟨_, o', ha⟩
    · exact P.zi b hb (ha ▸ q)
    · rw [q, P.new z zX] at ha; cases ha
  · have hT : s.TypeIs (.ref z) "zip" := ⟨_, st.1, rfl⟩
    unfold pyNext
    refine wpAny_bind (wpAny_attempt (wpAny_callSpecial?_slot (name := Str.ofString "__next__") hT PySem.F.slot_zip_next
      (wpAny_call_entry PySem.F.slot_zip_next hT PySem.F.entry_zip_next (zip_end P hn st fun h' e hk he => ?_) (PySem.F.args_zip_next_1 _))))
    obtain ⟨o, ho, hc⟩ := he
    refine wpAny_bind (wpAny_isInstance (T := "StopIteration") (b := true) ⟨o, ho, hc⟩ isSubtype_stop ?_)
    exact wpAny_pure (hQ h' s.toks fun b o hb e => hk b o (fun q => hb ((mX b).mp q)) e)
end
end Mine
end
section
open PySem PySem.Calls PyProof.Rows
namespace Mine
section
variable {prog : Program} {w : World} {A : Around} {E : Value → Shared → Prop} {s s' : Shared} {s₀ : Base} {env : Env} {tbl : List Str} {N W N₀ : Addr → Prop} {ρ : Rho} {F : Addr → Prop} {mg mb : Str → Option Value} {H h₀ : Heap} {z TI TO : Addr} {bs : List Sb}
structure Zn (H : Heap) (mg : Str → Option Value) (s₀ : Base) (P : Addr) : Prop where
  z : ∀ a, s₀.Z a ↔ a = P
  zi : ∀ h, s₀.ZI h ↔ ∃ ps, h.get? P = some (PySem.W.tabObj ps) ∧ TriplesOk ps.toList
  bm : ∃ bm ob, mg "__builtins__" = some (.ref bm) ∧ bm ≠ builtinsNs ∧ H.get? bm = some ob ∧ ob.cls = .type "module" ∧ ob.dict = some builtinsNs ∧ ob.data = .plain
  lim : H.NoLimit
theorem St.zone (S : St w prog env tbl s₀ N W ρ s) (x : Aft s₀.Z s s') (zi : s₀.ZI s'.heap) (zl : ∀ a, s₀.Z a → ∃ o, s'.heap.get? a = some o) : St w prog env tbl s₀ N W ρ s' := by
  refine ⟨⟨fun b o _ e => x.heap b o (fun q => ?_) (S.evl.heap b o id e), fun i g e => x.gens i g (S.evl.gens i g e), fun q => x.bare (S.evl.bare q), x.os.trans S.evl.os⟩, fun a ha => ?_, S.fresh, S.zw, zi, ?_⟩
  · rw [S.fresh b (S.zw b q)] at e; cases e
  · by_cases q : s₀.Z a
    · exact zl a q
    · obtain ⟨o, e⟩ := S.live a ha
      exact ⟨o, x.heap a o q e⟩
  · obtain ⟨m, cm, own, L, ZL, O1, O2, V⟩ := S.vals
    refine ⟨m, cm, own, L.keep fun a o ha e => x.heap a o (fun q => ?_) e, ZL, O1, O2, fun i y lv ht hr => ?_⟩
    · rcases ha with rfl | ⟨n, hn⟩
      · exact (ZL _ q).1.1 rfl
      · exact (ZL _ q).1.2 n a hn rfl
    · obtain ⟨v, hv, r⟩ := V i y lv ht hr
      exact ⟨v, hv, r.go (fun a o hF e => ⟨hF, x.heap a o (fun q => hF (.inr (S.zw a q))) e⟩) (fun ho a ha o e => x.heap a o (fun q => (ZL a q).2 i lv hr ho ha) e)⟩
theorem zst_but (P : Zp prog w A F h₀ z TI TO bs) {i : Nat} {h h' : Heap} (st : Zp.St h₀ F z TI TO bs i h) (k : ∀ a o, (Zp.X z TI TO bs a ∨ (¬ F a ∧ ∃ o, h₀.get? a = some o)) → h.get? a = some o → h'.get? a = some o) : Zp.St h₀ F z TI TO bs i h' := by
  obtain ⟨hz, hTI, ⟨old, hold, hTO⟩, hst, hk⟩ := st
  exact ⟨k _ _ (.inl (.inl rfl)) hz, k _ _ (.inl (.inr (.inl rfl))) hTI, ⟨old, hold, k _ _ (.inl (.inr (.inr (.inl rfl)))) hTO⟩, fun b hb => (P.dr b hb).frame _ _ _ (hst b hb) fun a o ha e => k a o (ha.imp (fun q => .inr (.inr (.inr ⟨b, hb, q⟩))) id) e, fun a o hF e => k a o (.inr ⟨hF, o, e⟩) (hk a o hF e)⟩
theorem pair_elt {cenv : Env} {xa xb : Str} {p1 p2 bp : Pos} {m : Str → Option Value} {i j : Int} {t u : Tok} {n : Int} (hxa : cenv.kindOf xa = some .local) (hxb : cenv.kindOf xb = some .local) (hk : cenv.scope.kind = .function) (pa : plainName xa = true) (pb : plainName xb = true)
    (hn : s.heap.Ns cenv.locals m) (ma : m xa = some (.int i t)) (mb : m xb = some (.int j u)) (e : i + j = n) :
    wpAny (model prog w) A (eval (.BinOp (.Name xa p1) .Add (.Name xb p2) bp) cenv) (fun y s₃ => (∃ t, y = .int n t) ∧ Keeps s s₃) E s := by
  simp only [plainName, Bool.and_eq_true, Bool.not_eq_true'] at pa pb
  refine wpAny_BinOp (wpAny_Name (wpAny_loadName_local hk hxa hn ma ?_) pa.1)
  refine wpAny_Name (wpAny_loadName_local hk hxb hn mb ?_) pb.1
  exact PyProof.Rows.add_int ⟨⟨s.toks, by rw [e]⟩, ⟨s.heap, s.toks + 1, rfl, fun _ _ e => e⟩⟩
theorem hd_nsz {P : Addr} (S : St w prog env tbl s₀ N W ρ s) (Z : Zn H mg s₀ P) : ∃ ps, s.heap.get? P = some (PySem.W.tabObj ps) ∧ TriplesOk ps.toList := (Z.zi _).mp S.zi
theorem ne_zone {P : Addr} (S : St w prog env tbl s₀ N W ρ s) (X : Fx mg mb H env s₀ N₀) (Z : Zn H mg s₀ P) {b : Addr} {o : Obj} (e : H.get? b = some o) : b ≠ P := fun q => by
  have := S.fresh b (S.zw b ((Z.z b).mpr q))
  rw [X.ext b o e] at this; cases this
theorem lt2 {i : Nat} (h : i < 2) : i = 0 ∨ i = 1 := (by decide : ∀ i, i < 2 → (i = 0 ∨ i = 1)) i h
theorem len2 {α : Type} {l : List α} (h : l.length = 2) : ∃ x y, l = [x, y] := match l, h with
  | [x, y], _ => ⟨x, y, rfl⟩
theorem pair_eval (X : Fx mg mb H env s₀ N₀) (hh : A.handled = none) (hroom : A.depth < recursionLimit) {c P : Addr} (Z : Zn H mg s₀ P) (hc : env.code = .ref c) (hC : PySem.W.CodeHd H c P) {es : List Expr} {Ps : Rho → (List D → Prop) → Prop} (h : SndEs prog w A env tbl s₀ N₀ es Ps)
    {xa xb : Str} {p1 p2 bp pa pb pt zq zp gpos tq cp : Pos} {kt : Nat} {gsc : Scope} (gx : globName env.scope.names "tuple" = true) (gz : globName env.scope.names "zip" = true) (hne : es.isEmpty = false) (hst : es.all notStar = true)
    (hco : gsc.isCoroutine = false) (hfr : ∀ x ∈ gsc.names, x.2 ≠ .free) (hcl : ∀ x ∈ gsc.names, x.2 ≠ .cell) (h0 : gsc.names.lookup (".0" : Str) = some NameKind.local) (hxa : gsc.names.lookup xa = some .local) (hxb : gsc.names.lookup xb = some .local) (hab : xa ≠ xb) (hkind : gsc.kind = .function)
    (pla : plainName xa = true) (plb : plainName xb = true)
    (hN : ∀ a, N₀ a → N a) (S : St w prog env tbl s₀ N W ρ s) (R : Frm env tbl N W) {Q : D → Prop} (hq : Ps ρ fun ds => ∃ a₁ a₂ b₁ b₂, ds = [.tup [.int a₁, .int a₂], .tup [.int b₁, .int b₂]] ∧ Q (.tup [.int (a₁ + b₁), .int (a₂ + b₂)])) :
    wpAny (model prog w) A (eval (.Call (.Name "tuple" tq) [.GeneratorExp (.BinOp (.Name xa p1) .Add (.Name xb p2) bp) [⟨.Tuple [.Name xa pa, .Name xb pb] kt pt, .Call (.Name "zip" zq) es [] zp, [], 0⟩] gsc gpos] [] cp) env)
      (fun v s' => ∃ d, Q d ∧ Rep w prog (fun a => N a ∨ W a) s'.heap v d ∧ St w prog env tbl s₀ N W ρ s' ∧ Aft W s s') E s := by
  refine wpAny_Call_NameR (name_bi X gx (v := .type "tuple") (List.mem_of_getElem? (i := 6) rfl) tq S.evl.ext ?_)
  refine PySem.callWith_type (plain_trees rfl cp) (args_sound rfl rfl ?_)
  rw [starEach_cons rfl]
  refine spliced_cons ?_
  refine wpAny_GeneratorExp_walksQT hh hco (closureFor_none hfr) hcl h0 hxa hxb hab hkind hroom ?_ (fun x => rfl)
  refine wpAny_Call_NameR (name_bi X gz (v := .type "zip") (List.mem_of_getElem? (i := 9) rfl) zq S.evl.ext ?_)
  refine PySem.callWith_type (plain_trees hst zp) (args_sound hne hst (wpAny_mono (h zp N W ρ s _ _ hN S R hq) (fun vs s₁ hZ0 => ?_) fun _ _ q => q))
  rw [List.nil_append]
  refine cps fun gZ hZ => ?_
  obtain ⟨ds, hq, ev, r⟩ := hZ0
  obtain ⟨a₁, a₂, b₁, b₂, rfl, hq⟩ := hq
  obtain ⟨v1, vs, rfl, r1, r⟩ := r.view
  obtain ⟨v2, vs, rfl, r2, r⟩ := r.view
  obtain rfl : vs = [] := r.view
  obtain ⟨t1, vs1, rfl, f1, e1, q1⟩ := r1.view
  obtain ⟨t2, vs2, rfl, f2, e2, q2⟩ := r2.view
  have S₁ := S.step ev
  refine hZ ?_
  clear hZ gZ
  refine zipT_call hh f1 f2 e1 e2 q1 q2 fun z TI TO i1 i2 bs h' ext ZT => ?_
  refine wpAny_pyIter_zip ZT.st.1 ?_
  have S₂ := S₁.step (Evl.of (tk := s₁.toks) ext)
  have hE : Ext H h' := fun b o e => S₂.evl.heap b o id (X.ext b o e)
  refine ⟨Z.lim.keeps hE, ?_⟩
  refine cps fun gZ hZ => ?_
  obtain ⟨ps, hP, hT⟩ := hd_nsz S₂ Z
  refine hZ ?_
  clear hZ gZ
  have hCd := hC.keeps hE
  have P1 : ∃ o, s₁.heap.get? P = some o := by obtain ⟨ps, e, _⟩ := hd_nsz S₁ Z; exact ⟨_, e⟩
  have PF : N P ∨ W P := .inr (S.zw P ((Z.z P).mpr rfl))
  have zp := ZT.zp A hh
  have new1 : ∀ a, a ∈ [z, TI, TO, i1, i2] → s₁.heap.get? a = none := fun a ha => zp.new a (by
    have e : (∃ b ∈ bs, a = b.it) ↔ a ∈ bs.map (·.it) := by simp [List.mem_map, eq_comm]
    rw [e, ZT.it]
    simpa using ha)
  have liveX : ∀ a, a ∈ [z, TI, TO, i1, i2] → ∃ o, h'.get? a = some o := fun a ha => by
    have hz := ZT.st
    have e : (∃ b ∈ bs, a = b.it) ↔ a ∈ bs.map (·.it) := by simp [List.mem_map, eq_comm]
    simp only [List.mem_cons, List.not_mem_nil, or_false] at ha
    rcases ha with rfl | rfl | rfl | ha
    · exact ⟨_, hz.1⟩
    · exact ⟨_, hz.2.1⟩
    · obtain ⟨_, _, e⟩ := hz.2.2.1; exact ⟨_, e⟩
    · obtain ⟨b, hb, rfl⟩ := e.mpr (by rw [ZT.it]; simpa using ha)
      exact (zp.dr b hb).live _ _ (hz.2.2.2.1 b hb)
  -- what follows the code object
  have key : ∀ (code : Value) (h₃ : Heap) (tk₃ : Nat), Heap.ExtBut P h' h₃ → h'.objs.size ≤ h₃.objs.size → (∃ ps, h₃.get? P = some (PySem.W.tabObj ps) ∧ TriplesOk ps.toList) → wpAny (model prog w) A (builtinsFor env.globals env.builtins) (fun bi s₄ =>
        ∃ I fp wr n₀ Pt St₀ Mid pz F, Value.ref z = .ref I ∧ (∀ A' : Around, A'.handled = none → WalksU prog w A' I fp wr n₀ Pt St₀ Mid) ∧ (∀ i vals, Pt i vals → ∃ va vb, vals = #[va, vb]) ∧ St₀ 0 s₄.heap ∧ (∀ b ∈ fp, b < s₄.heap.objs.size) ∧ s₄.heap.NoLimit ∧ cStatics ∉ wr ∧
          (∀ href : Heap, (∀ b o, s₄.heap.get? b = some o → href.get? b = some o) →
            QuietGenT prog w (genEnv gsc [] s₄.heap.objs.size code bi env) xa xb [] (.BinOp (.Name xa p1) .Add (.Name xb p2) bp) (List.range s₄.heap.objs.size) wr Pt pz F href) ∧
          (∀ a h₅ tk gs, gs.bare = true → s₄.heap.objs.size < a → h₅.objs.size = a + 1 → (∀ b o, s₄.heap.get? b = some o → h₅.get? b = some o) →
            WalksS prog w A.in4 a (a :: s₄.heap.objs.size :: List.range s₄.heap.objs.size) (s₄.heap.objs.size :: wr) (GenOnlyQ s₄.gens.size) (passing pz n₀ 0).length
              (fun j y => ∃ i, (passing pz n₀ 0)[j]? = some i ∧ F i y) (GenAt prog w A.in4 a s₄.gens.size s₄.heap.objs.size (List.range s₄.heap.objs.size) wr pz n₀ F) →
            GenAt prog w A.in4 a s₄.gens.size s₄.heap.objs.size (List.range s₄.heap.objs.size) wr pz n₀ F 0 { s₄ with gens := s₄.gens.push gs, toks := tk, heap := h₅ } →
            wpAny (model prog w) A (spliced (backTo cp (starEach [] env))) (fun vs s' => wpAny (model prog w) A (call (.type "tuple") ([] ++ (Value.ref a :: vs))) (fun v s' => ∃ d, Q d ∧ Rep w prog (fun a => N a ∨ W a) s'.heap v d ∧ St w prog env tbl s₀ N W ρ s' ∧ Aft W s s') E s') E { s₄ with gens := s₄.gens.push gs, toks := tk, heap := h₅ })) E { s₁ with heap := h₃, toks := tk₃ } := fun code h₃ tk₃ hx hsz hZ0 => by
    refine cps fun gZ hZ => ?_
    obtain ⟨ps₃, hP₃, hT₃⟩ := hZ0
    obtain ⟨bm, ob, m1, m2, m3, m4, m5, m6⟩ := Z.bm
    refine hZ ?_
    clear hZ gZ
    have hE₃ : Ext H h₃ := fun b o e => hx b o (ne_zone S X Z e) (hE b o e)
    refine wpAny_builtinsFor (m := mg) (by rw [X.glob]; exact X.gl.g.at' fun o e => hE₃ _ _ e) m1 m2 (hE₃ _ _ m3) m4 m5 m6 ?_
    refine ⟨z, List.range h₃.objs.size, [z, TI, TO, i1, i2], 2, _, _, _, fun _ => true, fun i y => ∃ t, y = .int (([a₁ + b₁, a₂ + b₂] : List Int).getD i 0) t, rfl, fun A' hA => (walks_zipT hA ZT rfl rfl fun a ha => List.mem_range.mpr ?_).bound, fun i vals ⟨_, r⟩ => ?_, zst_but zp ZT.st fun a o ha e => hx a o (fun q => ?_) e, fun b hb => List.mem_range.mp hb, Z.lim.keeps hE₃, fun q => ?_, fun href hk => ⟨fun A' E' i va vb u m₂ hA hP hn ma mb _ => ?_, fun A' E' i va vb u m₂ hA hP _ hn ma mb _ => ?_⟩, fun a h₅ tk gs hgs hlt hs5 hk5 W₅ G₅ => spliced_nil ?_⟩
    · rcases ha with ha | ⟨_, o, ha⟩
      · obtain ⟨o, e⟩ := liveX a ha
        exact Nat.lt_of_lt_of_le (Heap.lt_size e) hsz
      · exact Nat.lt_of_lt_of_le (Heap.lt_size (ext _ _ ha)) hsz
    · obtain ⟨v1, l, e, _, r⟩ := r.view
      obtain ⟨v2, l, rfl, _, r⟩ := r.view
      obtain rfl : l = [] := r.view
      exact ⟨v1, v2, by have := congrArg List.toArray e; simpa using this⟩
    · subst q
      rcases ha with ha | ⟨ha, _⟩
      · obtain ⟨o, e⟩ := P1; rw [zp.new a ha] at e; cases e
      · exact ha PF
    · obtain ⟨mc, ⟨o, _, _, e, _⟩, _⟩ := Z.lim
      have := S₁.evl.heap _ _ id (X.ext _ _ e)
      rw [new1 _ q] at this; cases this
    · rw [List.forIn_nil]
      exact wpAny_pure ⟨rfl, u.heap, u.toks, rfl, fun _ _ e => e⟩
    · refine cps fun gZ hZ => ?_
      obtain ⟨hi, r⟩ := hP
      obtain ⟨v1, l, e, r1, r⟩ := r.view
      obtain ⟨v2, l, rfl, r2, r⟩ := r.view
      have e' : [va, vb] = v1 :: v2 :: l := e
      injection e' with g1 e'
      injection e' with g2 e'
      subst g1 g2
      rcases lt2 hi with rfl | rfl
      · obtain ⟨t, rfl⟩ := r1.view
        obtain ⟨u', rfl⟩ := r2.view
        refine hZ ?_
        exact pair_elt hxa hxb hkind pla plb hn ma mb rfl
      · obtain ⟨t, rfl⟩ := r1.view
        obtain ⟨u', rfl⟩ := r2.view
        refine hZ ?_
        exact pair_elt hxa hxb hkind pla plb hn ma mb rfl
    · refine call_tuple_gen (hsz := by rw [sizeLine_eq]; decide) W₅.in4_3 (fun i s' st => st.1.typeIs) G₅ (fun b hb => ?_) (.head _) fun s' acc hm hacc => ?_
      · show b < h₅.objs.size
        rw [hs5]
        rcases List.mem_cons.mp hb with rfl | hb
        · exact Nat.lt_succ_self _
        · rcases List.mem_cons.mp hb with rfl | hb
          · exact Nat.lt_succ_of_lt hlt
          · exact Nat.lt_succ_of_lt (Nat.lt_trans (List.mem_range.mp hb) hlt)
      have old : ∀ b o, s₁.heap.get? b = some o → h₃.get? b = some o → s'.heap.get? b = some o := fun b o e1 e3 => hm.heap b o (fun q => by
        rcases List.mem_cons.mp q with rfl | q
        · exact Nat.lt_irrefl _ (Heap.lt_size e3)
        · rw [new1 b q] at e1; cases e1) (hk5 b o e3)
      have hA : Aft s₀.Z s s' := by
        refine ⟨fun b o hb e => ?_, fun i x e => ?_, fun q => hm.gens.bare (AllBare.push (ev.bare q) hgs), hm.os.trans ev.os⟩
        · have e1 := ev.heap b o id e
          exact old b o e1 (hx b o (fun q => hb ((Z.z b).mpr q)) (ext b o e1))
        · have e1 := ev.gens i x e
          have hi : i < s₁.gens.size := (Array.getElem?_eq_some_iff.mp e1).1
          have e2 : (s₁.gens.push gs)[i]? = some x := by rw [Array.getElem?_push, if_neg (Nat.ne_of_lt hi)]; exact e1
          rcases hm.gens with h | ⟨⟨_, ho⟩, _⟩
          · rw [h]; exact e2
          · rw [ho i (Nat.ne_of_lt hi)]; exact e2
      have hP' : s'.heap.get? P = some (PySem.W.tabObj ps₃) := by
        refine hm.heap P _ (fun q => ?_) (hk5 P _ hP₃)
        rcases List.mem_cons.mp q with q | q
        · exact Nat.lt_irrefl _ (q ▸ Heap.lt_size hP₃)
        · obtain ⟨o, e⟩ := P1; rw [new1 P q] at e; cases e
      have S' := S.zone hA ((Z.zi _).mpr ⟨ps₃, hP', hT₃⟩) fun a ha => by rw [(Z.z a).mp ha]; exact ⟨_, hP'⟩
      obtain ⟨l⟩ := acc
      obtain ⟨hl, hat⟩ := hacc
      obtain ⟨x, y, rfl⟩ := len2 hl
      · obtain ⟨i, hi, t, rfl⟩ := hat 0 x rfl
        obtain ⟨j, hj, t', rfl⟩ := hat 1 y rfl
        cases hi; cases hj
        have evn : Evl s' { s' with heap := s'.heap.push { cls := .type "tuple", data := .seq [Value.int (a₁ + b₁) t, .int (a₂ + b₂) t'].toArray } } := Evl.push _ _
        exact ⟨_, hq, .tup (Live.new S'.live) ⟨_, Heap.get?_push_size _ rfl, rfl, 0, rfl⟩ (.cons (.int _ _) (.cons (.int _ _) .nil)), S'.step evn, (hA.mono fun b hb => S.zw b hb).trans (Evl.aftW evn)⟩
  refine cps fun gZ hZ => ?_
  cases hnf : codeAmong gpos ps.toList with
  | some cv => exact hZ <| wpAny_genexprCode_hit hc (hCd.code hP hT) hnf (key cv h' s₁.toks (fun _ _ _ e => e) (Nat.le_refl _) ⟨ps, hP, hT⟩)
  | none =>
    refine hZ <| wpAny_genexprCodeX hc (hCd.code hP hT) (hCd.tab hP) hnf fun c' h₃ tk₃ hx hge hlt hcode _ htab _ => key _ h₃ tk₃ hx (Nat.le_trans hge (Nat.le_of_lt hlt)) ⟨_, htab.2, ?_⟩
    obtain ⟨_, _, _, _, _, _, _, _, _, op, _, _, _, _, _, _, _, _, _, htr, _⟩ := hcode
    exact htr
end
end Mine
end
section
open PySem PySem.Calls PyProof.Rows
namespace Mine
noncomputable def compEnvY (scope : Scope) (y : Str) (Kc : Addr) (cl : List (Str × Addr)) (C : Addr) (env : Env) : Env := { compEnvC scope cl C env with cells := (y, Kc) :: cl }
section
variable {prog : Program} {w : World} {A : Around} {E : Value → Shared → Prop} {s s' s₁ s₂ : Shared} {s₀ : Base} {env env₂ : Env} {tbl tbl' : List Str} {N W N₀ : Addr → Prop} {ρ : Rho} {y : Str} {Kc : Addr} {i : Nat}
theorem St.cellify (S : St w prog env tbl s₀ N W ρ s₁) (R : Frm env tbl N W) (ev : Evl s₁ s) (hi : tbl[i]? = some y) (hρ : ρ.at i = none) (e1 : env₂.locals = env.locals) (e2 : env₂.cells = (y, Kc) :: env.cells) (e3 : ∀ x, x ≠ y → env₂.kindOf x = env.kindOf x) (e4 : env₂.kindOf y = some .cell)
    (e5 : env₂.scope.kind = .function) (kn : s₁.heap.get? Kc = none) (hK : s.heap.IsCell Kc none) (kc : ∀ p ∈ env.cells, ∃ o, s₁.heap.get? p.2 = some o) :
    St w prog env₂ tbl s₀ N (fun a => W a ∨ a = Kc) ρ s ∧ Frm env₂ tbl N (fun a => W a ∨ a = Kc) := by
  have ne : ∀ {a : Addr}, (∃ o, s₁.heap.get? a = some o) → a ≠ Kc := fun ⟨o, e⟩ q => by rw [q, kn] at e; cases e
  have lk : ∀ x, x ≠ y → env₂.cells.lookup x = env.cells.lookup x := fun x hx => by
    rw [e2, List.lookup_cons, beq_eq_false_iff_ne.mpr hx]
  have lky : env₂.cells.lookup y = some Kc := by rw [e2]; simp
  have hm : ∀ {x : Str} {a : Addr} {b : Bool}, x ≠ y → (Home env₂ x a b ↔ Home env x a b) := fun {x a b} hx => by
    constructor
    · intro H
      cases H with
      | loc h => rw [e3 x hx] at h; rw [e1]; exact .loc h
      | cel h hc => rw [e3 x hx] at h; rw [lk x hx] at hc; exact .cel h hc
      | fre h hc => rw [e3 x hx] at h; rw [lk x hx] at hc; exact .fre h hc
    · intro H
      cases H with
      | loc h => rw [← e1]; exact .loc (by rw [e3 x hx]; exact h)
      | cel h hc => exact .cel (by rw [e3 x hx]; exact h) (by rw [lk x hx]; exact hc)
      | fre h hc => exact .fre (by rw [e3 x hx]; exact h) (by rw [lk x hx]; exact hc)
  have hy : ∀ {a : Addr} {b : Bool}, Home env₂ y a b → a = Kc := fun H => by
    cases H with
    | loc h => rw [e4] at h; cases h
    | cel h hc => rw [lky] at hc; cases hc; rfl
    | fre h hc => rw [e4] at h; cases h
  refine ⟨?_, ⟨e5, R.nodup, R.plain, fun x hx => ?_, fun x hx a b H => ?_, fun x hx a H => ?_⟩⟩
  · have S' := S.step ev
    obtain ⟨m, cm, own, L, ZL, O1, O2, V⟩ := S.vals
    obtain ⟨mm, o0, es, ep, ens, rns⟩ := S.ns
    have kcell : ∀ n c, env.cells.lookup n = some c → c ≠ Kc := fun n c hc => ne (S.cellLive hc)
    refine ⟨S'.evl, fun a ha => ?_, fun a ha => ?_, fun a ha => .inl (S.zw a ha), S'.zi, m, fun x => if x = y then none else cm x, own, ⟨?_, fun n c hc => ?_, ?_, fun n c hc => ?_⟩, fun a ha => ⟨⟨by rw [e1]; exact (ZL a ha).1.1, fun n c hc q => ?_⟩, (ZL a ha).2⟩, fun j lv hr ho a ha => ⟨⟨.inl (O1 j lv hr ho a ha).1.1, (O1 j lv hr ho a ha).1.2⟩, by rw [e1]; exact (O1 j lv hr ho a ha).2.1, fun n c hc q => ?_, (O1 j lv hr ho a ha).2.2.2⟩, O2, fun j x lv ht hr => ?_⟩
    · rcases ha with ha | ha | ha
      · exact S'.live a (.inl ha)
      · exact S'.live a (.inr ha)
      · subst ha; obtain ⟨o, e, _⟩ := hK; exact ⟨o, e⟩
    · rcases ha with ha | ha
      · exact S.fresh a ha
      · subst ha; exact S.evl.none kn
    · rw [e1]; exact L.ns.at' fun o e => ev.heap _ _ id e
    · by_cases q : n = y
      · subst q
        rw [lky] at hc; cases hc
        rw [if_pos rfl]; exact hK
      · rw [lk n q] at hc
        rw [if_neg q]
        exact (L.cell n c hc).keeps fun b o e => ev.heap b o id e
    · rw [e2, List.pairwise_cons]
      exact ⟨fun p hp => Ne.symm (ne (kc p hp)), L.apart⟩
    · by_cases q : n = y
      · subst q
        rw [lky] at hc; cases hc
        rw [e1]
        exact fun q => (ne ⟨_, ens⟩) q.symm
      · rw [lk n q] at hc; rw [e1]; exact L.ne n c hc
    · by_cases q' : n = y
      · subst q'; rw [lky] at hc; cases hc
        obtain ⟨o, e⟩ := S.live a (.inr (S.zw a ha))
        exact ne ⟨o, e⟩ q
      · rw [lk n q'] at hc; exact (ZL a ha).1.2 n c hc q
    · by_cases q' : n = y
      · subst q'; rw [lky] at hc; cases hc
        obtain ⟨o, e⟩ := S.live a (.inr (O1 j lv hr ho a ha).1.1)
        exact ne ⟨o, e⟩ q
      · rw [lk n q'] at hc; exact (O1 j lv hr ho a ha).2.2.1 n c hc q
    · have hx : x ≠ y := fun q => by
        subst q
        have hij : i = j := by
          obtain ⟨l1, g1⟩ := List.getElem?_eq_some_iff.mp hi
          obtain ⟨l2, g2⟩ := List.getElem?_eq_some_iff.mp ht
          exact (List.getElem_inj R.nodup).mp (g1.trans g2.symm)
        rw [← hij, hρ] at hr; cases hr
      obtain ⟨v, hv, r⟩ := V j x lv ht hr
      refine ⟨v, ?_, r.go (fun a o hF e => ⟨fun q => ?_, ev.heap a o id e⟩) fun ho a ha o e => ev.heap a o id e⟩
      · unfold val at hv ⊢
        rw [e3 x hx]
        show (if env.kindOf x = some .local then m x else if x = y then none else cm x) = _
        rw [if_neg hx]; exact hv
      · rcases q with q | q | q
        · exact hF (.inl q)
        · exact hF (.inr q)
        · exact ne ⟨o, e⟩ q
  · by_cases q : x = y
    · subst q; exact ⟨Kc, true, .cel e4 lky⟩
    · obtain ⟨a, b, H⟩ := R.home x hx
      exact ⟨a, b, (hm q).mpr H⟩
  · by_cases q : x = y
    · subst q; exact .inr (.inr (hy H))
    · exact (R.homeN x hx a b ((hm q).mp H)).imp id .inl
  · by_cases q : x = y
    · subst q; exact .inr (hy H)
    · exact .inl (R.homeW x hx a ((hm q).mp H))
theorem newEnv_cell {scope : Scope} {n0 n2 n3 : Str} {globals : Addr} {closure : List (Str × Addr)} {qual : Str} {outer : Env} {Q : Env → Shared → Prop} (hn : scope.names = [(n0, .local), (y, .cell), (n2, .globalImplicit), (n3, .free)])
    (h : Q (newEnv scope s.heap.objs.size globals ((y, s.heap.objs.size + 1) :: closure) qual none .none (some outer) builtinsNs) { s with heap := (s.heap.push { cls := .type "dict", data := .dict #[] }).push { cls := .type "cell", data := .cell none } }) :
    wpAny (model prog w) A (newFunctionEnv scope globals closure [] qual none .none (some outer)) Q E s := by
  simp only [newFunctionEnv, Option.isSome_some, if_true]
  refine wpAny_bind (wpAny_alloc ?_)
  refine wpAny_bind (wpAny_layCells _ (fun name kind cells => by cases hkc : kind == NameKind.cell <;> simp [hkc]) _ _ _ _ ?_)
  rw [hn]
  have e1 : cellsFrom ({ s with heap := s.heap.push { cls := .type "dict", data := .dict #[] } } : Shared).heap.objs.size [(n0, NameKind.local), (y, .cell), (n2, .globalImplicit), (n3, .free)] closure = (y, s.heap.objs.size + 1) :: closure := by
    show (y, (s.heap.push _).objs.size) :: closure = _
    rw [Heap.size_push]
  rw [e1]
  refine wpAny_bind (wpAny_pure ?_)
  exact wpAny_pure h
end
end Mine
end
section
open PySem PySem.Calls PyProof.Rows
namespace Mine
section
variable {prog : Program} {w : World} {A : Around} {E : Value → Shared → Prop} {s s' s₂ : Shared} {s₀ : Base} {env : Env} {tbl tbl' : List Str} {N W N₀ : Addr → Prop} {ρ : Rho} {it : Value} {tp sf : Bool} {h₀ : Heap} {F X : Addr → Prop} {P : List D → Heap → Prop} {y : Str} {Kc : Addr} {i : Nat} {scope : Scope} {cap : List (Option Nat)}
theorem Ring.pullC (G : Ring prog w A it false sf h₀ F X P env s₀ N W) (S : St w prog env tbl s₀ N W ρ s) (R : Frm env tbl N W) (hx : tbl[i]? = some y) (Hm : Home env y Kc true) {p : Pos} {d : D} {ds : List D} (pd : P (d :: ds) s.heap) {Q : Unit → Shared → Prop} {Qn : Shared → Prop}
    (h : ∀ s', St w prog env tbl s₀ N W (ρ.set i (some (.sh d))) s' → P ds s'.heap → Aft (fun a => X a ∨ a = Kc) s s' → Q () s') :
    wpAny (model prog w) A (pyNext it) (fun r s₁ => match r with
      | none => Qn s₁
      | some v => wpAny (model prog w) A (letOwnedTupleGo (.Name y p) it v) (fun _ s₁' => wpAny (model prog w) A (assign (.Name y p) env v) Q E s₁') E s₁) E s := by
  have WK : W Kc := R.homeW y (List.mem_of_getElem? hx) _ Hm
  refine wpAny_mono (G.itr.next (.Name y p) d ds s E E (fun v s₁' => wpAny (model prog w) A (assign (.Name y p) env v) Q E s₁') (fun q => by cases q) pd fun v s₁ p₁ a₁ r₁ => ?_) (fun r s₁ h₁ => ?_) fun _ _ q => q
  · have S₁ := G.aft S a₁ p₁
    have r : Rep w prog (fun a => N a ∨ W a) s₁.heap v d := r₁.anti fun a ha => by
      rcases G.nf a ha with q | q | q
      · exact .inl q
      · exact .inr (.inl q)
      · exact .inr (.inr ⟨q, S.live a ha⟩)
    exact wpAny_assign_Name (S₁.store R hx Hm r fun s₂ S₂ a₂ => h s₂ S₂ (G.keep p₁ a₂ fun a ha => by subst ha; exact G.wx _ WK) ((a₁.mono fun a q => .inl q).trans (a₂.mono fun a q => .inr q)))
  · obtain ⟨v, rfl, h₁⟩ := h₁
    exact h₁
inductive LpC (w : World) (prog : Program) (env : Env) (tbl : List Str) (s₀ : Base) (N W X : Addr → Prop) (ρ : Rho) (P : List D → Heap → Prop) (Dd Kc : Addr) (s : Shared) (f : D → D → (D → Prop) → Prop) (Q : D → Prop) (n : Nat) (s' : Shared) : Prop
  | mk (ds : List D) (acc : List D) (e : n = ds.length) (p : P ds s'.heap) (x : AccL w prog N W Dd acc s') (S : St w prog env tbl s₀ N W ρ s') (a : Aft (fun a => a = Dd ∨ a = Kc ∨ X a) s s') (q : loopW f ds (.lst acc) Q) : LpC w prog env tbl s₀ N W X ρ P Dd Kc s f Q n s'
theorem loop_C {elt : Expr} {gens : List Comprehension} {pos ipos p : Pos} {depth : Nat} {Dd : Addr} {fin : Sem Fin}
    (hs : compTurn (.ListComp elt gens scope pos) depth it (.ref Dd) env = turnShape ipos (.Name y p) it [] env fin (again (.compLoop (.ListComp elt gens scope pos) depth it (.ref Dd) env)))
    (G : Ring prog w A it false sf h₀ F X P env s₀ N W) (R : Frm env tbl N W) (H : AccAt env s₀ N W Dd) (hDX : ¬ X Dd) (hDF : F Dd ∨ h₀.get? Dd = none) (hDK : Dd ≠ Kc) (hx : tbl[i]? = some y) (Hm : Home env y Kc true) (hb : ρ.at i = none) {body : Rho → D → (D → Prop) → Prop}
    (hfin : ∀ ρ' acc s₃ C E, body ρ' (.lst acc) C → St w prog env tbl s₀ N W ρ' s₃ → AccL w prog N W Dd acc s₃ →
      wpAny (model prog w) A fin (fun f s₄ => f = .again (.compLoop (.ListComp elt gens scope pos) depth it (.ref Dd) env) ∧ ∃ acc', C (.lst acc') ∧ AccL w prog N W Dd acc' s₄ ∧ Aft (fun a => a = Dd) s₃ s₄ ∧ St w prog env tbl s₀ N W ρ' s₄) E s₃)
    {Q : D → Prop} {ds : List D} {acc : List D} (S : St w prog env tbl s₀ N W ρ s) (pd : P ds s.heap) (x : AccL w prog N W Dd acc s)
    (hq : loopW (fun d acc C => body (ρ.set i (some (.sh d))) acc C) ds (.lst acc) Q) {RR : Result → Shared → Prop}
    (hR : ∀ acc s', Q (.lst acc) → AccL w prog N W Dd acc s' → Aft (fun a => a = Dd ∨ a = Kc ∨ X a) s s' → (∃ m, s'.heap.Ns env.locals m) → RR (.ok .next) s') :
    codeAny (model prog w) A (.compLoop (.ListComp elt gens scope pos) depth it (.ref Dd) env) RR s := by
  have WK : W Kc := R.homeW y (List.mem_of_getElem? hx) _ Hm
  have hXN : ∀ a, X a → N a ∨ W a := fun a ha => .inl (G.xN a ha)
  refine compLoop_L hs (fun n s' => LpC w prog env tbl s₀ N W X ρ P Dd Kc s (fun d acc C => body (ρ.set i (some (.sh d))) acc C) Q n s') ?_ ds.length ⟨ds, acc, rfl, pd, x, S, .refl _ _, hq⟩
  rintro n s' ⟨ds, acc, rfl, pd, x, S, a₀, hq⟩
  cases ds with
  | nil =>
    refine G.stop S pd fun s₁ a₁ => ?_
    obtain ⟨m, hm⟩ := S.ns
    exact hR acc s₁ hq (x.aft a₁ hXN hDX) (a₀.trans (a₁.mono fun a q => .inr (.inr q))) ⟨m, hm.at' fun o e => a₁.heap _ _ (fun q => G.xl _ q rfl) e⟩
  | cons d ds =>
    rw [loopW] at hq
    refine G.pullC S R hx Hm pd fun s₂ S₂ p₂ a₂ => ?_
    have x₂ := x.aft a₂ (fun a q => q.elim (hXN a) fun q => .inr (q ▸ WK)) fun q => q.elim hDX hDK
    have A₂ : Aft (fun a => a = Dd ∨ a = Kc ∨ X a) s s₂ := a₀.trans (a₂.mono fun a q => q.elim (fun q => .inr (.inr q)) fun q => .inr (.inl q))
    show wpAny _ _ (forIn [] true _) _ _ _
    rw [List.forIn_nil]
    refine wpAny_pure ?_
    rw [if_pos rfl]
    refine wpAny_mono (hfin _ acc s₂ _ _ hq S₂ x₂) (fun f s₄ ⟨hf, acc', hc, x₄, a₄, S₄⟩ => ⟨hf, ds.length, Nat.lt_succ_self _, ds, acc', rfl, G.keep p₂ a₄ (fun a ha => by subst ha; exact ⟨hDX, hDF⟩), x₄, ?_, A₂.trans (a₄.mono fun a q => .inl q), hc⟩) fun _ _ q => q
    refine S₄.weaken fun j lv hj => ?_
    rw [Rho.at_set, if_neg]
    · exact hj
    · rintro ⟨rfl, _⟩; rw [hb] at hj; cases hj
theorem closure_one {n0 n2 n3 : Str} {k : NameKind} (hk : k = .local ∨ k = .cell) {c : Addr} (hsn : scope.names = [(n0, .local), (y, k), (n2, .globalImplicit), (n3, .free)]) (hc : env.cells.lookup n3 = some c) : closureFor scope env = pure [(n3, c)] := by
  unfold closureFor
  rw [hsn]
  have e1 : cellOf env n3 = pure c := by unfold cellOf; rw [hc]
  have q1 : (NameKind.local == NameKind.free) = false := rfl
  have q2 : (NameKind.cell == NameKind.free) = false := rfl
  have q3 : (NameKind.globalImplicit == NameKind.free) = false := rfl
  have q4 : (NameKind.free == NameKind.free) = true := rfl
  rcases hk with rfl | rfl <;> (simp only [List.forIn_cons, List.forIn_nil, q1, q2, q3, q4, if_true, if_false, Bool.false_eq_true, e1, pure_bind])
end
end Mine
end
section
open PySem PySem.Calls PyProof.Rows
namespace Mine
noncomputable def unS (scope : Scope) (n0 y n2 n3 : Str) : Scope := { scope with names := [(n0, .local), (y, .local), (n2, .globalImplicit), (n3, .free)] }
section
variable {prog : Program} {w : World} {A : Around} {E : Value → Shared → Prop} {s s' s₂ : Shared} {s₀ : Base} {env : Env} {tbl tbl' : List Str} {N W N₀ : Addr → Prop} {ρ : Rho} {it : Value} {sf : Bool} {h₀ : Heap} {F X : Addr → Prop} {P : List D → Heap → Prop} {n0 y n2 n3 : Str} {Kc : Addr} {i : Nat} {scope : Scope} {cap : List (Option Nat)}
theorem kind_uncell (hsn : scope.names = [(n0, .local), (y, .cell), (n2, .globalImplicit), (n3, .free)]) {cl : List (Str × Addr)} {C : Addr} {x : Str} (hx : x ≠ y) : (compEnvY scope y Kc cl C env).kindOf x = (compEnvC (unS scope n0 y n2 n3) cl C env).kindOf x := by
  show (relabel scope env).names.lookup x = (relabel (unS scope n0 y n2 n3) env).names.lookup x
  rw [relabel_lookup, relabel_lookup, hsn]
  show Option.map _ (List.lookup x [(n0, NameKind.local), (y, .cell), (n2, .globalImplicit), (n3, .free)]) = Option.map _ (List.lookup x [(n0, NameKind.local), (y, .local), (n2, .globalImplicit), (n3, .free)])
  simp only [List.lookup_cons, beq_eq_false_iff_ne.mpr hx]
theorem kind_cell (hsn : scope.names = [(n0, .local), (y, .cell), (n2, .globalImplicit), (n3, .free)]) (h0 : y ≠ n0) {cl : List (Str × Addr)} {C : Addr} : (compEnvY scope y Kc cl C env).kindOf y = some .cell := by
  show (relabel scope env).names.lookup y = _
  rw [relabel_lookup, hsn]
  simp only [List.lookup_cons, beq_eq_false_iff_ne.mpr h0, beq_self_eq_true]
  rfl
structure CstC (prog : Program) (w : World) (A : Around) (it : Value) (sf : Bool) (F X : Addr → Prop) (P : List D → Heap → Prop) (h₀ : Heap) (cenv : Env) (tbl' : List Str) (s₀ : Base) (s : Shared) (N W : Addr → Prop) (D Kc : Addr) (ρ' : Rho) (s₄ : Shared) : Prop where
  st : St w prog cenv tbl' s₀ (fun a => N a ∨ a = D ∨ X a) (fun a => (W a ∨ a = cenv.locals) ∨ a = Kc) ρ' s₄
  frm : Frm cenv tbl' (fun a => N a ∨ a = D ∨ X a) (fun a => (W a ∨ a = cenv.locals) ∨ a = Kc)
  ring : Ring prog w A it false sf h₀ F X P cenv s₀ (fun a => N a ∨ a = D ∨ X a) (fun a => (W a ∨ a = cenv.locals) ∨ a = Kc)
  acc : AccAt cenv s₀ (fun a => N a ∨ a = D ∨ X a) (fun a => (W a ∨ a = cenv.locals) ∨ a = Kc) D
  evl : Evl s s₄
  dnew : s.heap.get? D = none
  d0 : h₀.get? D = none
  dx : ¬ X D
  dk : D ≠ Kc
  cnew : s.heap.get? cenv.locals = none
  knew : s.heap.get? Kc = none
  xnew : ∀ a, X a → s.heap.get? a = none
  hm : Home cenv y Kc true
theorem cst_cell {c : Addr} {C : Addr} {Dd : Addr} (hsn : scope.names = [(n0, .local), (y, .cell), (n2, .globalImplicit), (n3, .free)]) (hy0 : y ≠ n0) (hc : env.cells.lookup n3 = some c) (hi : tbl'[i]? = some y) {ρ' : Rho} (hρ : ρ'.at i = none) (hk : scope.kind = .function) {ds : List D}
    (Z : Cst prog w A it false sf (fun a => N a ∨ W a) X P h₀ env (compEnvC (unS scope n0 y n2 n3) [(n3, c)] C env) tbl' s₀ s N W Dd ρ' s₂) (hcl : ∃ o, s.heap.get? c = some o) (e0 : Evl s₀.toShared s) (eh : Ext h₀ s₂.heap) (p : P ds s₂.heap) (ev : Evl s₂ s') (kn : s₂.heap.get? Kc = none) (hK : s'.heap.IsCell Kc none) (dl : ∃ o, s₂.heap.get? Dd = some o) :
    CstC (y := y) prog w A it sf (fun a => N a ∨ W a) X P h₀ (compEnvY scope y Kc [(n3, c)] C env) tbl' s₀ s N W Dd Kc ρ' s' ∧ P ds s'.heap := by
  have ne : ∀ {a : Addr}, (∃ o, s₂.heap.get? a = some o) → a ≠ Kc := fun ⟨o, e⟩ q => by rw [q, kn] at e; cases e
  have cl2 : ∃ o, s₂.heap.get? c = some o := by obtain ⟨o, e⟩ := hcl; exact ⟨o, Z.evl.heap _ _ id e⟩
  obtain ⟨S', R'⟩ := Z.st.cellify (env₂ := compEnvY scope y Kc [(n3, c)] C env) (y := y) (Kc := Kc) (i := i) Z.frm ev hi hρ rfl rfl (fun x hx => kind_uncell hsn hx) (kind_cell hsn hy0) hk kn hK fun q hq => by
    rw [List.mem_singleton.mp hq]; exact cl2
  have kold : ∀ {h : Heap}, (∀ b o, h.get? b = some o → s₂.heap.get? b = some o) → h.get? Kc = none := fun {h} k => by
    cases e : h.get? Kc with
    | none => rfl
    | some o => have := k _ _ e; rw [kn] at this; cases this
  have Xl : ∀ a, X a → ∃ o, s₂.heap.get? a = some o := fun a ha => Z.ring.itr.live ds _ p a ha
  have snew : s.heap.get? Kc = none := kold fun b o e => Z.evl.heap b o id e
  have h0new : h₀.get? Kc = none := kold eh
  have cells : ∀ n a, (compEnvY scope y Kc [(n3, c)] C env).cells.lookup n = some a → a = Kc ∨ (compEnvC (unS scope n0 y n2 n3) [(n3, c)] C env).cells.lookup n = some a := fun n a h => by
    have h' : List.lookup n ((y, Kc) :: [(n3, c)]) = some a := h
    rw [List.lookup_cons] at h'
    split at h'
    · cases h'; exact .inl rfl
    · exact .inr h'
  refine ⟨⟨S', R', ⟨Z.ring.itr, Z.ring.xN, Z.ring.x0, fun a ha q => q.elim (Z.ring.xW a ha) (ne (Xl a ha)), Z.ring.xl, fun a ha n b hb q => ?_, fun a ha => ?_⟩, ⟨.inr (.inl rfl), e0.none Z.dnew, fun q => q.elim (fun q => q.elim Z.dw Z.dl) (ne dl), Z.dl, fun n b hb q => ?_⟩, Z.evl.trans ev, Z.dnew, Z.d0, Z.dx, ne dl, Z.cnew, snew, Z.xnew, .cel (kind_cell hsn hy0) (by show List.lookup y ((y, Kc) :: _) = _; simp)⟩, ?_⟩
  · rcases cells n b hb with h | h
    · exact ne (Xl a ha) (q.trans h)
    · exact Z.ring.xc a ha n b h q
  · rcases ha with ha | (ha | ha)
    · exact Z.ring.nf a (.inl ha)
    · exact Z.ring.nf a (.inr ha)
    · exact .inr (.inr (ha ▸ h0new))
  · rcases cells n b hb with h | h
    · exact ne dl (q.trans h)
    · exact Z.dc n b h q
  · exact Z.ring.itr.frame _ _ _ p fun a o _ e => ev.heap a o id e
theorem listcompC (hh : A.handled = none) (S : St w prog env tbl s₀ N W ρ s) (R : Frm env tbl N W) (hN : ∀ a, N₀ a → N a) {elt iter : Expr} {pos ipos p : Pos} (hsn : scope.names = [(n0, .local), (y, .cell), (n2, .globalImplicit), (n3, .free)]) (hy0 : y ≠ n0) (h3 : env.kindOf n3 = some .cell) (m3 : n3 ∈ tbl)
    (ok : scopeOk (unS scope n0 y n2 n3).names env.scope.names tbl tbl' cap = true) (hk : scope.kind = .function) (hi : tbl'[i]? = some y) (hci : cap[i]? = some none) {PI : Rho → (List D → Prop) → Prop} {Pelt : Rho → (D → Prop) → Prop}
    (hit : SndI prog w A env tbl s₀ N₀ false true iter PI) (helt : ∀ Kc cl C, SndE prog w A (compEnvY scope y Kc cl C env) tbl' s₀ N₀ elt Pelt) {Q : D → Prop} {use : Option (Value → Sem Unit)} {Qf : Value → Shared → Prop}
    (hq : PI ρ fun ds => loopW (fun d acc C => Pelt ((capture ρ cap).set i (some (.sh d))) fun d => pushW acc d C) ds (.lst []) Q)
    (hfin : ∀ s' Dd Cc ds, Q (.lst ds) → Evl s s' → s.heap.get? Dd = none → s.heap.get? Cc = none → Dd ≠ Cc → AccL w prog (fun a => N a ∨ a = Cc ∨ a = Dd) W Dd ds s' → (∃ m, s'.heap.Ns Cc m) → compPost (model prog w) A E use Qf (.ref Dd) Cc (.ok .next) s') :
    wpAny (model prog w) A (comprehension (.ListComp elt [⟨.Name y p, iter, [], 0⟩] scope pos) scope env ipos (newList []) false (eval iter env) use) Qf E s := by
  obtain ⟨c, hc⟩ : ∃ c, env.cells.lookup n3 = some c := by
    obtain ⟨a, b, H⟩ := R.home n3 m3
    cases H with
    | loc h => rw [h3] at h; cases h
    | cel _ h => exact ⟨a, h⟩
    | fre h _ => rw [h3] at h; cases h
  have hc1 : closureFor scope env = pure [(n3, c)] := closure_one (.inr rfl) hsn hc
  have hc2 : closureFor (unS scope n0 y n2 n3) env = pure [(n3, c)] := closure_one (.inl rfl) rfl hc
  refine wpAny_comprehension_free rfl hit.1 hc1 hk (fun x hx hl => ?_) (wpAny_mono (hit.2 N W ρ s E _ hN S R hq) (fun xv s₁ ⟨ev₁, hI⟩ => hI _ _ fun it s₂ ds h₀ hq ev₂ eh ⟨e2, X, P, T, p₂⟩ => ?_) fun _ _ q => q)
  · rw [hsn] at hx ⊢
    simp only [List.mem_cons, List.not_mem_nil, or_false] at hx
    rcases hx with rfl | rfl | rfl | rfl
    · simp
    · cases hl
    · cases hl
    · cases hl
  obtain ⟨cl, hcl, _, _, hset⟩ := comp_setup (scope := unS scope n0 y n2 n3) S R ok hk (ev₁.trans ev₂) eh e2 T p₂ { cls := .type "list", dict := none, data := .seq ([] : List Value).toArray } rfl
  have ecl : cl = [(n3, c)] := by
    have := hcl.symm.trans hc2
    injection this
  subst ecl
  refine wpAny_newObj_type (newEnv_cell hsn ?_)
  have csz : ({ s₂ with heap := s₂.heap.push { cls := .type "list", dict := none, data := .seq ([] : List Value).toArray } } : Shared).heap.objs.size = s₂.heap.objs.size + 1 := Heap.size_push ..
  rw [csz]
  generalize hh1 : ({ s₂ with heap := s₂.heap.push { cls := .type "list", dict := none, data := .seq ([] : List Value).toArray } } : Shared).heap = H1 at csz ⊢
  have hns : (H1.push { cls := .type "dict", data := .dict #[] }).Ns (s₂.heap.objs.size + 1) (fun _ => none) := by rw [← csz]; exact Heap.Ns.new H1 (.type "dict")
  obtain ⟨cst, p₄, hD⟩ := hset (H1.push { cls := .type "dict", data := .dict #[] }) s₂.toks hns (by rw [← hh1]; exact Heap.SameBut.refl ..)
  have csz2 : (H1.push { cls := .type "dict", data := .dict #[] }).objs.size = s₂.heap.objs.size + 1 + 1 := by rw [Heap.size_push, csz]
  have up : Ext s₂.heap (H1.push { cls := .type "dict", data := .dict #[] }) := fun b o e => Heap.get?_push_of_some _ (by rw [← hh1]; exact Heap.get?_push_of_some _ e)
  obtain ⟨Z, p₅⟩ := cst_cell (Kc := s₂.heap.objs.size + 1 + 1) (s' := { s₂ with heap := (H1.push { cls := .type "dict", data := .dict #[] }).push { cls := .type "cell", data := .cell none } }) hsn hy0 hc hi (by rw [capture_at, hci]) hk cst (S.cellLive hc) S.evl (fun b o e => up b o (e2 b o e)) p₄ (Evl.push _ _) (by rw [← csz2]; exact fresh_size) ⟨_, by rw [← csz2]; exact Heap.get?_push_size _ rfl, rfl⟩ ⟨_, hD⟩
  refine compStart_L rfl rfl (fun Q E q => Z.ring.itr.self rfl ds _ E Q p₅ q) (loop_C (shape_L1 elt (.Name y p) iter [] scope pos it (.ref s₂.heap.objs.size) _) Z.ring Z.frm Z.acc Z.dx (.inr Z.d0) Z.dk hi Z.hm (by rw [capture_at, hci]) (body := fun ρ' acc C => Pelt ρ' fun d => pushW acc d C) (fun ρ' acc s₃ C E hb S₃ x₃ => ?_) Z.st p₅ ⟨[], ⟨0, Heap.get?_push_of_some _ hD⟩, .nil⟩ hq fun acc s' hq' x' a' hm => ?_)
  · exact emit_L (fun a ha => .inl (hN a ha)) (helt _ _ _) Z.acc S₃ Z.frm x₃ hb fun s' ds' hc' x' a' S' => ⟨rfl, ds', hc', x', a', S'⟩
  · have ev' : Evl s s' := Z.evl.trans' a' fun a ha => by
      rcases ha with rfl | rfl | ha
      · exact .inr Z.dnew
      · exact .inr Z.knew
      · exact .inr (Z.xnew a ha)
    refine hfin s' _ _ acc hq' ev' Z.dnew Z.cnew Z.acc.l ?_ hm
    obtain ⟨vs, hl, rs⟩ := x'
    refine ⟨vs, hl, rs.anti fun a ha => ?_⟩
    rcases ha with (ha | ha | ha) | ha
    · exact .inl (.inl ha)
    · exact .inr (.inl (.inr ha))
    · exact .inl (.inr (.inl ha))
    · exact .inr (.inl (.inl ha))
end
end Mine
end
section
open PySem PySem.Calls PyProof.Rows
namespace Mine
section
variable {prog : Program} {w : World} {A : Around} {E : Value → Shared → Prop} {s s' s₂ : Shared} {s₀ : Base} {env : Env} {tbl tbl' : List Str} {N N' W W' N₀ : Addr → Prop} {ρ : Rho} {it : Value} {tp sf : Bool} {h₀ h1 : Heap} {F X : Addr → Prop} {P : List D → Heap → Prop} {scope : Scope} {cap : List (Option Nat)} {cds : List D} {Dd : Addr} {n T : Nat}
inductive AccLL (w : World) (prog : Program) (h1 : Heap) (N W : Addr → Prop) (Dd : Addr) (n : Nat) (cds : List D) (s : Shared) : Prop
  | mk (as : List Addr) (e : LstAt s.heap Dd (as.map .ref)) (r : RepLs w prog (fun a => N a ∨ W a) s.heap as (List.replicate n cds)) (nd : as.Nodup) (fr : ∀ a ∈ as, h1.get? a = none ∧ ¬ (N a ∨ W a)) : AccLL w prog h1 N W Dd n cds s
theorem AccLL.aft {Y : Addr → Prop} (x : AccLL w prog h1 N W Dd n cds s) (a : Aft Y s s') (hY : ∀ a, Y a → N a ∨ W a) (hD : ¬ Y Dd) : AccLL w prog h1 N W Dd n cds s' := by
  obtain ⟨as, e, r, nd, fr⟩ := x
  exact ⟨as, e.keep fun o e => a.heap _ _ hD e, r.go (fun b o hF e => ⟨hF, a.heap b o (fun q => hF (hY b q)) e⟩) fun b hb o e => a.heap b o (fun q => (fr b hb).2 (hY b q)) e, nd, fr⟩
theorem RepLs.length {h : Heap} {as : List Addr} {dss : List (List D)} (r : RepLs w prog F h as dss) : as.length = dss.length := by
  induction r with
  | nil => rfl
  | cons _ _ _ ih => exact congrArg Nat.succ ih
theorem RepLs.append {h : Heap} {as : List Addr} {dss : List (List D)} {a : Addr} {vs : List Value} {ds : List D} (r : RepLs w prog F h as dss) (e : LstAt h a vs) (q : Reps w prog F h vs ds) : RepLs w prog F h (as ++ [a]) (dss ++ [ds]) := by
  induction r with
  | nil => exact .cons e q .nil
  | cons e1 r1 _ ih => exact .cons e1 r1 ih
theorem RepLs.live {h : Heap} {as : List Addr} {dss : List (List D)} (r : RepLs w prog F h as dss) : ∀ a ∈ as, ∃ o, h.get? a = some o := by
  induction r with
  | nil => exact fun a ha => nomatch ha
  | cons e1 _ _ ih =>
    intro a ha
    rcases List.mem_cons.mp ha with rfl | ha
    · exact e1.live
    · exact ih a ha
theorem push_LL {elt : Expr} (hN : ∀ a, N₀ a → N a) (he : SndO prog w A env tbl s₀ N₀ elt (fun _ Q => Q (.lst cds))) (H : AccAt env s₀ N W Dd) (S : St w prog env tbl s₀ N W ρ s) (R : Frm env tbl N W) (x : AccLL w prog h1 N W Dd n cds s) (hn : n < 1048576)
    (hf : ∀ a, s.heap.get? a = none → h1.get? a = none) {c : Code} {Q : Fin → Shared → Prop}
    (h : ∀ s', AccLL w prog h1 N W Dd (n + 1) cds s' → Aft (fun a => a = Dd) s s' → St w prog env tbl s₀ N W ρ s' → Q (.again c) s') :
    wpAny (model prog w) A ((do let _ ← call (.builtin "list.append") [.ref Dd, ← eval elt env] : Sem Unit) >>= fun _ => again c) Q E s := by
  refine wpAny_bind (wpAny_bind (wpAny_mono (he N W ρ s E (fun d => d = .lst cds) hN S R rfl) (fun v s₁ ⟨d, lv, a, hl, hd, ev, n1, l1, r⟩ => ?_) fun _ _ q => q))
  subst hd
  cases hl
  obtain ⟨b, vs, rfl, hfp, el, rs⟩ := r
  cases hfp
  have S₁ := S.step ev
  obtain ⟨as, e₀, r₀, nd, fr⟩ := x
  have e : LstAt s₁.heap Dd (as.map .ref) := e₀.keep fun o e => ev.heap _ _ id e
  have rl : RepLs w prog (fun a => N a ∨ W a) s₁.heap as (List.replicate n cds) := r₀.go (fun b o hF e => ⟨hF, ev.heap b o id e⟩) fun b hb o e => ev.heap b o id e
  have nNW : ¬ (N a ∨ W a) := fun q => by obtain ⟨o, e⟩ := S.live a q; rw [n1] at e; cases e
  have aD : a ≠ Dd := fun q => nNW (q ▸ .inl H.n)
  have aas : a ∉ as := fun q => by obtain ⟨o, e⟩ := r₀.live a q; rw [n1] at e; cases e
  have hlen : as.length = n := by rw [rl.length, List.length_replicate]
  refine wpAny_bind (wpAny_list_append_plain (hsz := by rw [sizeLine_eq, List.size_toArray, List.length_map, hlen]; (first | lia | omega)) e fun h' hl hs => wpAny_pure (wpAny_pure ?_))
  have af : Aft (fun a => a = Dd) s₁ { s₁ with heap := h' } := Aft.of (tk := s₁.toks) fun b o hb e => hs.extBut b o hb e
  have hl' : LstAt h' Dd ((as ++ [a]).map .ref) := by
    unfold LstAt
    rw [show ((as ++ [a]).map Value.ref).toArray = (as.map Value.ref).toArray.push (.ref a) by simp]; exact hl
  have k : ∀ b o, ¬ (N b ∨ W b) → s₁.heap.get? b = some o → ¬ (N b ∨ W b) ∧ h'.get? b = some o := fun b o hF e => ⟨hF, hs.extBut b o (fun q => hF (.inl (q ▸ H.n))) e⟩
  refine h _ ⟨as ++ [a], hl', ?_, ?_, fun b hb => ?_⟩ (ev.aft.trans af) (H.aft S₁ af hl'.live)
  · rw [List.replicate_succ']
    refine RepLs.append (rl.go k fun b hb o e => hs.extBut b o (fun q => (fr b hb).2 (q ▸ .inl H.n)) e) (el.keep fun o e => hs.extBut a o aD e) (rs.go fun b o hF e => ⟨fun q => hF (.inl q), hs.extBut b o (fun q => hF (.inl (q ▸ .inl H.n))) e⟩)
  · rw [List.nodup_append]
    exact ⟨nd, by simp, fun b hb c hc => by rw [List.mem_singleton.mp hc]; exact fun q => aas (q ▸ hb)⟩
  · rcases List.mem_append.mp hb with hb | hb
    · exact fr b hb
    · rw [List.mem_singleton.mp hb]; exact ⟨hf a n1, nNW⟩
end
end Mine
end
section
open PySem PySem.Calls PyProof.Rows
namespace Mine
section
variable {prog : Program} {w : World} {A : Around} {E : Value → Shared → Prop} {s s' s₁ s₂ : Shared} {s₀ : Base} {env : Env} {tbl tbl' : List Str} {N N' W W' N₀ : Addr → Prop} {ρ : Rho} {it : Value} {tp sf : Bool} {h₀ h1 : Heap} {F X : Addr → Prop} {P : List D → Heap → Prop} {scope : Scope} {cap : List (Option Nat)} {cds : List D} {Dd : Addr} {n T : Nat}
inductive LpLL (w : World) (prog : Program) (env : Env) (tbl : List Str) (s₀ : Base) (N W X : Addr → Prop) (ρ : Rho) (P : List D → Heap → Prop) (Dd : Addr) (s : Shared) (cds : List D) (T : Nat) (m : Nat) (s' : Shared) : Prop
  | mk (ds : List D) (n : Nat) (e : m = ds.length) (t : n + ds.length = T) (p : P ds s'.heap) (x : AccLL w prog s.heap N W Dd n cds s') (S : St w prog env tbl s₀ N W ρ s') (a : Aft (fun a => a = Dd ∨ a = env.locals ∨ X a) s s') : LpLL w prog env tbl s₀ N W X ρ P Dd s cds T m s'
theorem loop_LL (hh : A.handled = none) {elt : Expr} {gens : List Comprehension} {pos ipos : Pos} {depth : Nat} {e : Expr} {i : Nat}
    (hs : compTurn (.ListComp elt gens scope pos) depth it (.ref Dd) env = turnShape ipos e it [] env ((do let _ ← call (.builtin "list.append") [.ref Dd, ← eval elt env] : Sem Unit) >>= fun _ => again (.compLoop (.ListComp elt gens scope pos) depth it (.ref Dd) env)) (again (.compLoop (.ListComp elt gens scope pos) depth it (.ref Dd) env)))
    (hN : ∀ a, N₀ a → N a) (G : Ring prog w A it tp sf h₀ F X P env s₀ N W) (R : Frm env tbl N W) (H : AccAt env s₀ N W Dd) (hDX : ¬ X Dd) (hDF : F Dd ∨ h₀.get? Dd = none)
    (ht : okT true env.scope.names tbl (.nm i) e = true) (htp : tp = true → ∃ es k p, e = .Tuple es k p) (hb : ρ.at i = none) (helt : SndO prog w A env tbl s₀ N₀ elt (fun _ Q => Q (.lst cds))) (hloc : W env.locals) {ds : List D} (hT : ds.length ≤ 1048576) (S : St w prog env tbl s₀ N W ρ s) (p : P ds s.heap) (x : AccLL w prog s.heap N W Dd 0 cds s)
    {RR : Result → Shared → Prop} (hR : ∀ s', AccLL w prog s.heap N W Dd ds.length cds s' → Aft (fun a => a = Dd ∨ a = env.locals ∨ X a) s s' → (∃ m, s'.heap.Ns env.locals m) → RR (.ok .next) s') :
    codeAny (model prog w) A (.compLoop (.ListComp elt gens scope pos) depth it (.ref Dd) env) RR s := by
  have hXN : ∀ a, X a → N a ∨ W a := fun a ha => .inl (G.xN a ha)
  refine compLoop_L hs (fun n s' => LpLL w prog env tbl s₀ N W X ρ P Dd s cds ds.length n s') ?_ ds.length ⟨ds, 0, rfl, Nat.zero_add _, p, x, S, .refl _ _⟩
  rintro m s' ⟨dr, n, rfl, t, p, x, S, a₀⟩
  cases dr with
  | nil =>
    refine G.stop S p fun s₁ a₁ => ?_
    obtain ⟨m, hm⟩ := S.ns
    have t' : n = ds.length := t
    subst t'
    exact hR s₁ (x.aft a₁ hXN hDX) (a₀.trans (a₁.mono fun a q => .inr (.inr q))) ⟨m, hm.at' fun o e => a₁.heap _ _ (fun q => G.xl _ q rfl) e⟩
  | cons d dr =>
    rw [List.length_cons] at t
    refine G.pull hh S R ht htp p (PR := fun ρ' => ρ' = ρ.set i (some (.sh d))) (show (ρ.set i (some (.sh d))) = _ from rfl) fun ρ' s₂ hρ S₂ p₂ a₂ => ?_
    subst hρ
    have a₂' : Aft (fun a => a = env.locals ∨ X a) s' s₂ := a₂.mono fun a q => q.elim .inr fun q => .inl (q.2.elim id fun q => by cases q)
    have x₂ := x.aft a₂' (fun a q => q.elim (fun q => .inr (q ▸ hloc)) (hXN a)) fun q => q.elim H.l hDX
    have A₂ : Aft (fun a => a = Dd ∨ a = env.locals ∨ X a) s s₂ := a₀.trans (a₂'.mono fun a q => .inr q)
    show wpAny _ _ (forIn [] true _) _ _ _
    rw [List.forIn_nil]
    refine wpAny_pure ?_
    rw [if_pos rfl]
    refine push_LL hN helt H S₂ R x₂ (by (first | lia | omega)) (fun a ha => ?_) fun s₄ x₄ a₄ S₄ => ⟨rfl, dr.length, Nat.lt_succ_self _, dr, n + 1, rfl, by (first | lia | omega), G.keep p₂ a₄ (fun a ha => by subst ha; exact ⟨hDX, hDF⟩), x₄, S₄.weaken fun j lv hj => ?_, A₂.trans (a₄.mono fun a q => .inl q)⟩
    · cases q : s.heap.get? a with
      | none => rfl
      | some o =>
        have hn : ¬ (a = Dd ∨ a = env.locals ∨ X a) := fun q2 => by
          have : N a ∨ W a := by
            rcases q2 with rfl | rfl | q2
            · exact .inl H.n
            · exact .inr hloc
            · exact hXN a q2
          obtain ⟨o, e⟩ := S₂.live a this
          rw [ha] at e; cases e
        have := A₂.heap a o hn q
        rw [ha] at this; cases this
    · rw [Rho.at_set, if_neg]
      · exact hj
      · rintro ⟨rfl, _⟩; rw [hb] at hj; cases hj
theorem listcompLL (hh : A.handled = none) (S : St w prog env tbl s₀ N W ρ s) (R : Frm env tbl N W) (hN : ∀ a, N₀ a → N a) {elt iter e : Expr} {pos ipos : Pos} {i : Nat}
    (ok : scopeOk scope.names env.scope.names tbl tbl' cap = true) (hk : scope.kind = .function) {PI : Rho → (List D → Prop) → Prop}
    (hit : SndI prog w A env tbl s₀ N₀ tp true iter PI) (ht : okT true (relabel scope env).names tbl' (.nm i) e = true) (htp : tp = true → ∃ es k p, e = .Tuple es k p) (hc : cap[i]? = some none) (helt : ∀ cl C, SndO prog w A (compEnvC scope cl C env) tbl' s₀ N₀ elt (fun _ Q => Q (.lst cds))) {Q : Nat → Prop} {use : Option (Value → Sem Unit)} {Qf : Value → Shared → Prop}
    (hq : PI ρ fun ds => fits ds.length ∧ Q ds.length)
    (hfin : ∀ s' Dd Cc n, Q n → Evl s s' → s.heap.get? Dd = none → s.heap.get? Cc = none → Dd ≠ Cc → AccLL w prog s.heap (fun a => N a ∨ a = Cc ∨ a = Dd) W Dd n cds s' → (∃ m, s'.heap.Ns Cc m) → compPost (model prog w) A E use Qf (.ref Dd) Cc (.ok .next) s') :
    wpAny (model prog w) A (comprehension (.ListComp elt [⟨e, iter, [], 0⟩] scope pos) scope env ipos (newList []) false (eval iter env) use) Qf E s := by
  obtain ⟨cl₀, hcl, _, _, hnm, _⟩ := S.comp R ok hk
  refine wpAny_comprehension_free rfl hit.1 hcl hk hnm (wpAny_mono (hit.2 N W ρ s E _ hN S R hq) (fun xv s₁ ⟨ev₁, hI⟩ => hI _ _ fun it s₂ ds h₀ ⟨hfit, hq⟩ ev₂ eh ⟨e2, X, P, T, p⟩ => ?_) fun _ _ q => q)
  obtain ⟨cl, hcl', hcell, _, hset⟩ := comp_setup S R ok hk (ev₁.trans ev₂) eh e2 T p { cls := .type "list", dict := none, data := .seq ([] : List Value).toArray } rfl
  have ecl : cl₀ = cl := by
    have := hcl.symm.trans hcl'
    injection this
  subst ecl
  refine wpAny_newObj_type (wpAny_newFunctionEnv hcell (by intro y hy; simp at hy) (fun h₁ hns₁ hsb₁ => ?_) hk)
  have csz : ({ s₂ with heap := s₂.heap.push { cls := .type "list", dict := none, data := .seq ([] : List Value).toArray } } : Shared).heap.objs.size = s₂.heap.objs.size + 1 := Heap.size_push ..
  rw [csz] at hns₁ hsb₁ ⊢
  obtain ⟨c, p₄, hD⟩ := hset h₁ (s₂.toks + ([] : List (Str × Value)).length) hns₁ hsb₁
  have H : AccAt (compEnvC scope cl₀ (s₂.heap.objs.size + 1) env) s₀ (fun a => N a ∨ a = s₂.heap.objs.size ∨ X a) (fun a => W a ∨ a = (compEnvC scope cl₀ (s₂.heap.objs.size + 1) env).locals) s₂.heap.objs.size :=
    ⟨.inr (.inl rfl), S.evl.none c.dnew, fun q => q.elim c.dw c.dl, c.dl, c.dc⟩
  refine compStart_L rfl rfl (fun Q E q => c.ring.itr.self rfl ds _ E Q p₄ q) (loop_LL hh (shape_L1 elt e iter [] scope pos it (.ref s₂.heap.objs.size) _) (fun a ha => .inl (hN a ha)) c.ring c.frm H c.dx (.inr c.d0) ht htp (by rw [capture_at, hc]) (helt _ _) (.inr rfl) hfit c.st p₄ ⟨[], ⟨0, hD⟩, .nil, .nil, fun a ha => nomatch ha⟩ fun s' x' a' hm => ?_)
  have ev' : Evl s s' := c.evl.trans' a' fun a ha => by
    rcases ha with rfl | rfl | ha
    · exact .inr c.dnew
    · exact .inr c.cnew
    · exact .inr (c.xnew a ha)
  refine hfin s' _ _ ds.length hq ev' c.dnew c.cnew c.dl ?_ hm
  obtain ⟨as, hl, rl, nd, fr⟩ := x'
  have sub : ∀ a, ((N a ∨ a = s₂.heap.objs.size + 1 ∨ a = s₂.heap.objs.size) ∨ W a) → (N a ∨ a = s₂.heap.objs.size ∨ X a) ∨ (W a ∨ a = s₂.heap.objs.size + 1) := fun a ha => by
    rcases ha with (ha | ha | ha) | ha
    · exact .inl (.inl ha)
    · exact .inr (.inr ha)
    · exact .inl (.inr (.inl ha))
    · exact .inr (.inl ha)
  refine ⟨as, hl, rl.go (fun a o hF e => ⟨fun q => hF (sub a q), e⟩) (fun _ _ _ e => e), nd, fun a ha => ⟨?_, fun q => (fr a ha).2 (sub a q)⟩⟩
  exact c.evl.none (fr a ha).1
end
end Mine
end
section
open PySem PySem.Calls PyProof.Rows
namespace Mine
section
variable {prog : Program} {w : World} {A : Around} {E : Value → Shared → Prop} {s s' s₁ s₂ : Shared} {s₀ : Base} {env : Env} {tbl tbl' : List Str} {N N' W W' N₀ : Addr → Prop} {ρ : Rho} {it : Value} {tp sf : Bool} {h h' h₀ h1 : Heap} {F F' X : Addr → Prop} {P : List D → Heap → Prop} {scope : Scope} {cap : List (Option Nat)} {Dd : Addr} {n T : Nat} {is : List Int}
theorem reps_int_go {vs : List Value} (r : Reps w prog F h vs (is.map .int)) : Reps w prog F' h' vs (is.map .int) := by
  induction is generalizing vs with
  | nil => rw [show vs = [] from r.view]; exact .nil
  | cons i is ih =>
    obtain ⟨v, vs, rfl, r1, r2⟩ := Reps.view (ds := .int i :: is.map .int) r
    obtain ⟨t, rfl⟩ := r1.view
    exact .cons (.int _ _) (ih r2)
theorem repLs_int_go {as : List Addr} (r : RepLs w prog F h as (List.replicate n (is.map .int))) (k : ∀ a ∈ as, ∀ o, h.get? a = some o → h'.get? a = some o) : RepLs w prog F' h' as (List.replicate n (is.map .int)) := by
  induction n generalizing as with
  | zero =>
    have : as = [] := by have := r.length; simpa using this
    subst this; exact .nil
  | succ n ih =>
    rw [List.replicate_succ] at r ⊢
    cases r with
    | cons e1 r1 r2 => exact .cons (e1.keep fun o e => k _ (.head _) o e) (reps_int_go r1) (ih r2 fun a ha => k a (.tail _ ha))
theorem sndS_assignLL (hh : A.handled = none) {i j : Nat} {x : Str} {p pos cpos : Pos} {elt iter e : Expr} (ht : tgtName false env.scope.names tbl i (.Name x p) = true)
    (ok : scopeOk scope.names env.scope.names tbl tbl' cap = true) (hk : scope.kind = .function) {PI : Rho → (List D → Prop) → Prop}
    (hit : SndI prog w A env tbl s₀ N₀ tp true iter PI) (ht' : okT true (relabel scope env).names tbl' (.nm j) e = true) (htp : tp = true → ∃ es k p, e = .Tuple es k p) (hc : cap[j]? = some none) (helt : ∀ cl C, SndO prog w A (compEnvC scope cl C env) tbl' s₀ N₀ elt (fun _ Q => Q (.lst (is.map .int)))) :
    SndS prog w A env tbl s₀ N₀ (.Assign [.Name x p] (.ListComp elt [⟨e, iter, [], 0⟩] scope cpos) pos) (fun ρ Q => PI ρ fun ds => (fits ds.length ∧ i < ρ.length) ∧ Q (ρ.set i (some (.oll (List.replicate ds.length (is.map .int))))) .next) := fun N W ρ s E Q hN S R hq => by
  have hq' : PI ρ fun ds => (fits ds.length ∧ i < ρ.length) ∧ Q (ρ.set i (some (.oll (List.replicate ds.length (is.map .int))))) .next := hq
  obtain ⟨b, hsw⟩ := swaps_comp (ex := .ListComp elt [⟨e, iter, [], 0⟩] scope cpos) (x := x) (p := p) (l := pos.line) (env := env) rfl
  obtain ⟨x', p', ee, hx, hw⟩ := tgtName_inv ht
  cases ee
  obtain ⟨hm₀, c₀, Hm⟩ := R.home x (List.mem_of_getElem? hx)
  obtain ⟨H', _⟩ := Hm.write hw
  have newN : ∀ {a : Addr}, s.heap.get? a = none → ¬ (N a ∨ W a) := fun ha q => by obtain ⟨o, e⟩ := S.live _ q; rw [ha] at e; cases e
  cases b with
  | false =>
    refine wpAny_Assign_Name (listcompLL hh S R hN ok hk hit ht' htp hc helt (use := none) (Q := fun n => i < ρ.length ∧ Q (ρ.set i (some (.oll (List.replicate n (is.map .int))))) .next) (by simpa only [and_assoc] using hq') fun s' Dd Cc n ⟨hi, hq⟩ ev h1 h2 hne ⟨as, el, rl, nd, fr⟩ ⟨m, hm⟩ => ⟨m, hm, fun h' hs => ?_⟩) hsw
    have asC : ∀ a ∈ as, a ≠ Cc := fun a ha q => (fr a ha).2 (.inl (.inr (.inl q)))
    have asD : ∀ a ∈ as, a ≠ Dd := fun a ha q => (fr a ha).2 (.inl (.inr (.inr q)))
    have ev2 : Evl s { s' with heap := h' } := ev.trans' (Aft.of (W := fun b => b = Cc) (tk := s'.toks) fun b o hb e => hs.extBut b o hb e) fun b hb => .inr (hb ▸ h2)
    have el' : LstAt h' Dd (as.map .ref) := el.keep fun o e => hs.extBut _ _ hne e
    refine S.storeOwn (fp := Dd :: as) (lv := .oll (List.replicate n (is.map .int))) R ev2 hx hi H' (fun b hb => ?_) (List.nodup_cons.mpr ⟨fun q => asD _ q rfl, nd⟩) (fun a => .inl) (fun a => id) (fun b hb q => ?_) ⟨Dd, as, rfl, rfl, el', repLs_int_go rl fun a ha o e => hs.extBut a o (asC a ha) e⟩ fun s'' S'' a'' => ⟨_, .next, _, hq, .next, S'', R.moreW fun a => .inl, fun b hb => hb.imp id fun q => ?_, ev2.aftW.trans a''⟩
    · rcases List.mem_cons.mp hb with rfl | hb
      · exact ⟨h1, el'.live⟩
      · obtain ⟨o, e⟩ := rl.live b hb
        exact ⟨(fr b hb).1, o, hs.extBut b o (asC b hb) e⟩
    · rcases List.mem_cons.mp hb with rfl | hb
      · exact newN h1 (.inl q)
      · exact newN (fr b hb).1 (.inl q)
    · rcases List.mem_cons.mp q with rfl | hb
      · exact h1
      · exact (fr b hb).1
  | true =>
    rw [exec_Assign_Name_used _ _ _ _ hsw]
    have e1 := use_comp (ex := .ListComp elt [⟨e, iter, [], 0⟩] scope cpos) (u := assign (.Name x p) env) (env := env) rfl
    rw [e1]
    refine wpAny_bind (wpAny_standAt (wpAny_bind (wpAny_bind (wpAny_mono (listcompLL hh S R hN ok hk hit ht' htp hc helt (use := some (assign (.Name x p) env)) (Qf := fun _ => PoS w prog env tbl s₀ N W s Q .next) (Q := fun n => i < ρ.length ∧ Q (ρ.set i (some (.oll (List.replicate n (is.map .int))))) .next) (by simpa only [and_assoc] using hq') fun s' a C n ⟨hi, hd⟩ ev h1 h2 hne ⟨as, el, rl, nd, fr⟩ ⟨m, hm⟩ => ?_) (fun _ s' q => wpAny_pure (wpAny_pure q)) fun _ _ q => q))))
    show wpAny _ _ (assign (.Name x p) env (.ref a)) _ _ _
    refine wpAny_assign_Name ?_
    have asC : ∀ b ∈ as, b ≠ C := fun b hb q => (fr b hb).2 (.inl (.inr (.inl q)))
    have asD : ∀ b ∈ as, b ≠ a := fun b hb q => (fr b hb).2 (.inl (.inr (.inr q)))
    have Ccell : ∀ n c, env.cells.lookup n = some c → C ≠ c := fun n c hc q => by obtain ⟨o, e⟩ := S.cellLive hc; rw [← q, h2] at e; cases e
    have Cloc : C ≠ env.locals := fun q => by obtain ⟨m, o, _, _, e, _⟩ := S.ns; rw [← q, h2] at e; cases e
    have CW : ¬ W C := fun q => newN h2 (.inr q)
    have Clive : ∃ o, s'.heap.get? C = some o := by obtain ⟨o, _, _, e, _⟩ := hm; exact ⟨o, e⟩
    have C0 : s₀.heap.get? C = none := S.evl.none h2
    have nN : ∀ b, (N b ∨ b = C) → N b ∨ (s.heap.get? b = none ∧ ∃ o, s'.heap.get? b = some o) := fun b hb => by
      rcases hb with q | q
      · exact .inl q
      · subst q; exact .inr ⟨h2, Clive⟩
    have R' : Frm env tbl (fun b => N b ∨ b = C) W := R.moreN fun b => .inl
    refine S.storeOwn (fp := a :: as) (lv := .oll (List.replicate n (is.map .int))) (N' := fun b => N b ∨ b = C) R ev hx hi H' (fun b hb => ?_) (List.nodup_cons.mpr ⟨fun q => asD _ q rfl, nd⟩) nN (fun b => .inl) (fun b hb q => ?_) ⟨a, as, rfl, rfl, el, repLs_int_go rl fun _ _ _ e => e⟩ fun s'' S₂ a₂ => ?_
    · rcases List.mem_cons.mp hb with rfl | hb
      · exact ⟨h1, el.live⟩
      · exact ⟨(fr b hb).1, rl.live b hb⟩
    · rcases List.mem_cons.mp hb with rfl | hb
      · exact q.elim (fun q => newN h1 (.inl q)) hne
      · exact q.elim (fun q => newN (fr b hb).1 (.inl q)) (asC b hb)
    have cw : ¬ (W C ∨ C ∈ a :: as) := fun q => q.elim CW fun q => by
      rcases List.mem_cons.mp q with q | q
      · exact hne q.symm
      · exact asC _ q rfl
    refine ⟨m, hm.at' fun o e => a₂.heap C o CW e, fun h' hs => ?_⟩
    have aC : Aft (fun b => b = C) s'' { s'' with heap := h' } := Aft.of (tk := s''.toks) fun b o hb e => hs.extBut b o hb e
    have R₂ : Frm env tbl (fun b => N b ∨ b = C) (fun b => W b ∨ b ∈ a :: as) := R'.moreW fun b => .inl
    refine ⟨_, .next, _, hd, .next, S₂.retire aC (fun b hb => by subst hb; exact ⟨.inr rfl, C0, cw, Cloc, Ccell⟩) fun b hb => ⟨.inl hb, fun q => by subst q; exact newN h2 (.inl hb)⟩, ⟨R₂.kind, R₂.nodup, R₂.plain, R₂.home, fun y hy b c Hy => ?_, R₂.homeW⟩, fun b hb => hb.imp id fun q => ?_, ?_⟩
    · rcases R₂.homeN y hy b c Hy with (q | q) | q
      · exact .inl q
      · exfalso
        subst q
        obtain ⟨m, cm, own, L, _⟩ := S.vals
        rcases L.home Hy with q | ⟨n, hn⟩
        · exact Cloc q
        · exact Ccell n _ hn rfl
      · exact .inr q
    · rcases List.mem_cons.mp q with rfl | hb
      · exact h1
      · exact (fr b hb).1
    · exact Aft.trans' (ev.aftW (W := W)) (Aft.trans (a₂.mono fun b q => Or.inl (b := b = C) q) (aC.mono fun b q => Or.inr q)) fun b hb => by
        rcases hb with q | q
        · exact .inl q
        · exact .inr (q ▸ h2)
end
end Mine
end
section
open PySem PySem.Calls PyProof.Rows
namespace Mine
section
variable {prog : Program} {w : World} {A : Around} {E : Value → Shared → Prop} {s s' s₁ s₂ : Shared} {s₀ : Base} {env : Env} {tbl tbl' : List Str} {N N' W W' N₀ : Addr → Prop} {ρ : Rho} {h h' : Heap} {F F' : Addr → Prop} {mg mb : Str → Option Value} {H : Heap}
theorem RepLs.at {as : List Addr} {dss : List (List D)} (r : RepLs w prog F h as dss) {m : Nat} {ds : List D} (hm : dss[m]? = some ds) : ∃ a vs, as[m]? = some a ∧ LstAt h a vs ∧ Reps w prog F h vs ds := by
  induction r generalizing m with
  | nil => exact nomatch hm
  | @cons a as vs ds' dss e q _ ih =>
    cases m with
    | zero => cases (Option.some.inj hm); exact ⟨a, vs, rfl, e, q⟩
    | succ m => exact ih hm
theorem RepLs.set {as : List Addr} {dss : List (List D)} (r : RepLs w prog F h as dss) (nd : as.Nodup) {m : Nat} {a : Addr} (ha : as[m]? = some a) (hF : F a) (k : ∀ b o, b ≠ a → h.get? b = some o → h'.get? b = some o) {vs : List Value} {ds : List D} (e : LstAt h' a vs) (q : Reps w prog F h' vs ds) : RepLs w prog F h' as (dss.set m ds) := by
  induction r generalizing m with
  | nil => exact nomatch ha
  | @cons b as vs' ds' dss e1 q1 r1 ih =>
    rw [List.nodup_cons] at nd
    cases m with
    | zero =>
      cases (Option.some.inj ha)
      exact .cons e q (r1.go (fun c o hc e => ⟨hc, k c o (fun x => hc (x ▸ hF)) e⟩) fun c hc o e => k c o (fun x => nd.1 (x ▸ hc)) e)
    | succ m =>
      have hb : b ≠ a := fun x => nd.1 (x ▸ List.mem_of_getElem? ha)
      exact .cons (e1.keep fun o e => k b o hb e) (q1.go fun c o hc e => ⟨hc, k c o (fun x => hc (x ▸ hF)) e⟩) (ih nd.2 ha)
theorem sndS_augitem2 (hS : N₀ sysModules) {j : Nat} {x : Str} (hx : tbl[j]? = some x) {q sp1 sp pos : Pos} {k1 k2 ex : Expr} {op : Bop} {P1 P2 P3 : Rho → (D → Prop) → Prop} (hsl1 : notSlice k1 = true) (hsl : notSlice k2 = true) (h1 : SndE prog w A env tbl s₀ N₀ k1 P1) (h2 : SndE prog w A env tbl s₀ N₀ k2 P2) (h3 : SndE prog w A env tbl s₀ N₀ ex P3) :
    SndS prog w A env tbl s₀ N₀ (.AugAssign (.Subscript (.Subscript (.Name x q) k1 sp1) k2 sp) op.op ex pos) (fun ρ Q => match ρ.at j with
      | some (.oll dss) => P1 ρ fun d₁ => onI d₁ fun i => ∃ m ds, idx dss.length i = some m ∧ dss[m]? = some ds ∧ P2 ρ fun dk => getW (.ol ds) dk fun a => P3 ρ fun b => iopW op a b fun d =>
          setW (.ol ds) dk d fun lv' => onOl lv' fun ds' => Q (ρ.set j (some (.oll (dss.set m ds')))) .next
      | _ => False) := fun N W ρ s E Q hN S R hq => by
  have hpn := (R.plain x (List.mem_of_getElem? hx)).1
  have hs : ∀ o v, subscripted k1 false o v = operate [o, v] (getItem o v) := fun o v => by cases k1 <;> first | rfl | cases hsl1
  have haug : ∀ ov iv new, augStore k2 ov iv new = (do holding [new, ov, iv] (setItem ov iv new); release [new, ov, iv] []; pure .next) := fun ov iv new => by cases k2 <;> first | rfl | cases hsl
  dsimp only at hq
  split at hq
  · rename_i dss hd
    obtain ⟨v, fp, ⟨a, as, rfl, hfp, e, rl⟩, hW, hnd, hld, hput⟩ := S.own R hx hd rfl
    subst hfp
    refine wpAny_AugAssign_SubscriptAny (Subscript_ (wpAny_Name (hld A E _ s (.refl _ _) ?_) hpn)) haug
    refine wpAny_mono (h1 N W ρ s E _ hN S R hq) (fun v' s₁ ⟨di, hdi, ev, ri⟩ => ?_) fun _ _ q => q
    have e₁ := e.keep fun o q => ev.heap _ _ id q
    refine tail_any (T := "list") (by obtain ⟨o, e, hc, _⟩ := e₁.list; exact ⟨o, e, hc⟩) slot_list_getitem.lookup ?_ (hs _ _)
    obtain ⟨i, rfl, m, ds, hi, hm, hq⟩ := onI_inv hdi
    obtain ⟨t, rfl⟩ := ri.view
    obtain ⟨b, vs, hb, el, rs⟩ := rl.at hm
    have fb : b ∈ a :: as := .tail _ (List.mem_of_getElem? hb)
    have hlen : (as.map Value.ref).length = dss.length := by rw [List.length_map, rl.length]
    rw [← hlen] at hi
    refine item_list e₁.list hi (by rw [List.getElem?_map, hb]; rfl) ?_
    have rr : ∀ {s₂ : Shared}, Evl s s₂ → LvRep w prog (fun a => N a ∨ W a) s₂.heap [b] (.ref b) (.ol ds) := fun ev => ⟨b, vs, rfl, rfl, el.keep fun o e => ev.heap _ _ id e, rs.ext ev.ext⟩
    refine wpAny_mono (h2 N W ρ s₁ E _ hN (S.step ev) R hq) (fun kv s₂ ⟨dk, hd₂, ev₂, rk⟩ => ?_) fun _ _ q => q
    have e12 := ev.trans ev₂
    refine wpAny_mono (own_get (rr e12) rk hd₂) (fun v₂ s₃ ⟨d₃, hd₃, ev₃, r₃⟩ => ?_) fun _ _ q => q
    have e13 := e12.trans ev₃
    refine wpAny_mono (h3 N W ρ s₃ E _ hN (S.step e13) R hd₃) (fun v₄ s₄ ⟨d₄, hd₄, ev₄, r₄⟩ => ?_) fun _ _ q => q
    refine wpAny_mono (iop_sound (r₃.ext ev₄.ext) r₄ hd₄) (fun v₅ s₅ ⟨d₅, hd₅, ev₅, r₅⟩ => ?_) fun _ _ q => q
    have e15 := (e13.trans ev₄).trans ev₅
    refine wpAny_mono (own_set (F := fun a => N a ∨ W a) (fun c hc => by rw [List.mem_singleton.mp hc]; exact .inr (hW b fb).1) (rr e15) (((rk.ext ev₃.ext).ext ev₄.ext).ext ev₅.ext) r₅ hd₅) (fun _ s₆ ⟨lv', h', tk, hq, e6, ho', k1, k2, r'⟩ => ?_) fun _ _ q => q
    subst e6
    obtain ⟨ds', rfl, hq⟩ := onOl_inv hq
    obtain ⟨b', vs', eb, hfp', el', rs'⟩ := r'
    cases hfp'
    cases eb
    rw [List.nodup_cons] at hnd
    have kk : ∀ c o, c ≠ b → s₅.heap.get? c = some o → h'.get? c = some o := fun c o hc e => k1 c o (fun q => hc (List.mem_singleton.mp q)) e
    have rl5 : RepLs w prog (fun a => N a ∨ W a) s₅.heap as dss := rl.go (fun c o hF e => ⟨hF, e15.heap c o id e⟩) fun c _ o e => e15.heap c o id e
    have ab : a ≠ b := fun q => hnd.1 (q ▸ List.mem_of_getElem? hb)
    have new := rl5.set hnd.2 hb (.inr (hW b fb).1) kk el' rs'
    obtain ⟨S', a'⟩ := hput s₅ h' tk (.oll (dss.set m ds')) e15 rfl (fun c o hc e => kk c o (fun q => hc (q ▸ fb)) e) (fun c hc => by
      rcases List.mem_cons.mp hc with rfl | hc
      · obtain ⟨o, e'⟩ := e.live; exact ⟨o, kk _ o ab (e15.heap _ _ id e')⟩
      · exact new.live c hc) ⟨a, as, rfl, rfl, e.keep fun o e' => kk _ o ab (e15.heap _ _ id e'), new⟩
    exact pos_keep S' R (Aft.trans (Evl.aftW e15) a') hq
  · exact hq.elim
theorem sndS_setpair (X : Fx mg mb H env s₀ N₀) (hh : A.handled = none) (hroom : A.depth < recursionLimit) {c P : Addr} (Z : Zn H mg s₀ P) (hc : env.code = .ref c) (hC : PySem.W.CodeHd H c P) {es : List Expr} {Ps : Rho → (List D → Prop) → Prop} (h : SndEs prog w A env tbl s₀ N₀ es Ps)
    {j : Nat} {x : Str} (hx : tbl[j]? = some x) {kx : Expr} {Pk : Rho → (D → Prop) → Prop} (hk : SndE prog w A env tbl s₀ N₀ kx Pk)
    {xa xb : Str} {p1 p2 bp pa pb pt zq zp gpos tq cp q sp pos : Pos} {kt : Nat} {gsc : Scope} (gx : globName env.scope.names "tuple" = true) (gz : globName env.scope.names "zip" = true) (hne : es.isEmpty = false) (hst : es.all notStar = true)
    (hco : gsc.isCoroutine = false) (hfr : ∀ x ∈ gsc.names, x.2 ≠ .free) (hcl : ∀ x ∈ gsc.names, x.2 ≠ .cell) (h0 : gsc.names.lookup (".0" : Str) = some NameKind.local) (hxa : gsc.names.lookup xa = some .local) (hxb : gsc.names.lookup xb = some .local) (hab : xa ≠ xb) (hkind : gsc.kind = .function)
    (pla : plainName xa = true) (plb : plainName xb = true) :
    SndS prog w A env tbl s₀ N₀ (.Assign [.Subscript (.Name x q) kx sp] (.Call (.Name "tuple" tq) [.GeneratorExp (.BinOp (.Name xa p1) .Add (.Name xb p2) bp) [⟨.Tuple [.Name xa pa, .Name xb pb] kt pt, .Call (.Name "zip" zq) es [] zp, [], 0⟩] gsc gpos] [] cp) pos) (fun ρ Q => match ρ.at j with
      | some lv => Ps ρ fun ds => ∃ a₁ a₂ b₁ b₂, ds = [.tup [.int a₁, .int a₂], .tup [.int b₁, .int b₂]] ∧ Pk ρ fun dk => setW lv dk (.tup [.int (a₁ + b₁), .int (a₂ + b₂)]) fun lv' => Q (ρ.set j (some lv')) .next
      | none => False) := fun N W ρ s E Q hN S R hq => by
  have hpn := (R.plain x (List.mem_of_getElem? hx)).1
  dsimp only at hq
  split at hq
  · rename_i lv hlv
    refine wpAny_Assign_Subscript (wpAny_mono (pair_eval X hh hroom Z hc hC h gx gz hne hst hco hfr hcl h0 hxa hxb hab hkind pla plb hN S R (Q := fun d => Pk ρ fun dk => setW lv dk d fun lv' => Q (ρ.set j (some lv')) .next) hq) (fun x₁ s₁ ⟨dv, hd, rv, S₁, a₁⟩ => ?_) fun _ _ q => q) (swaps_false rfl _ _ _)
    by_cases ho : lv.owned = true
    · obtain ⟨v, fp, r, hW, hnd, hld, hput⟩ := S₁.own R hx hlv ho
      refine wpAny_Name (hld A E _ s₁ (.refl _ _) ?_) hpn
      refine wpAny_mono (hk N W ρ s₁ E _ hN S₁ R hd) (fun kv s₂ ⟨dk, hd₂, ev₂, rk⟩ => ?_) fun _ _ q => q
      refine wpAny_mono (own_set (F := fun a => N a ∨ W a) (fun a ha => .inr (hW a ha).1) (r.go (fun a o hF e => ⟨hF, ev₂.heap a o id e⟩) fun _ a _ o e => ev₂.heap a o id e) rk (rv.ext ev₂.ext) hd₂) (fun _ s₃ ⟨lv', h', tk, hq, e3, ho', k1, k2, r'⟩ => ?_) fun _ _ q => q
      subst e3
      obtain ⟨S', a'⟩ := hput s₂ h' tk lv' ev₂ ho' k1 k2 r'
      exact pos_keep S' R (a₁.trans (Aft.trans (Evl.aftW ev₂) a')) hq
    · refine wpAny_Name (S₁.loadv R hx hlv fun v fp r => ?_) hpn
      refine wpAny_mono (hk N W ρ s₁ E _ hN S₁ R hd) (fun kv s₂ ⟨dk, hd₂, _, _⟩ => ?_) fun _ _ q => q
      exact absurd (setW_owned hd₂) ho
  · exact hq.elim
end
end Mine
end
section
open PySem PySem.Calls PyProof.Rows
namespace Mine
structure Cx where
  names : List (Str × NameKind)
  tbl : List Str
  fns : List Str
  gen : Str
  hn : Bool
  np : List Nat
  zs : List Nat
  tr : Bool
noncomputable def relN (names pnames : List (Str × NameKind)) : List (Str × NameKind) := names.map fun p => if p.2 == .free && pnames.lookup p.1 == some .cell then (p.1, .cell) else p
noncomputable def Cx.inner (c : Cx) (sc : Scope) (nt : List Str) : Cx := { c with names := relN sc.names c.names, tbl := nt, zs := [], tr := false }
noncomputable def Cx.at (c : Cx) (i : Nat) (x : Str) : Bool := c.tbl[i]? == some x
noncomputable def isTupT : Expr → Bool | .Tuple _ _ _ => true | _ => false
noncomputable def tpI : I → Bool | .enum _ => true | .zip _ => true | .items _ => true | _ => false
noncomputable def sfI : I → Bool | .items _ => false | _ => true
noncomputable def noneFree (t : Tgt) (cap : List (Option Nat)) : Bool := t.names.all fun i => cap[i]? == some none
noncomputable def biOk (b : Bi) (x : Str) : Bool := match b with
  | .isTuple => false
  | b => x == (b.name : Str)
theorem swap_name (x : Str) (p : Pos) (env : Env) (ts : List Expr) : swappedStores ts (.Name x p) env = pure none := by
  cases ts with
  | nil => rfl
  | cons t r => cases r with
    | nil => cases t <;> rfl
    | cons _ _ => cases t <;> rfl
structure Ok (prog : Program) (w : World) (H : Heap) (mg mb : Str → Option Value) (X : Fns) (c : Cx) (A : Around) (env : Env) (s₀ : Base) (N₀ : Addr → Prop) : Prop where
  fx : Fx mg mb H env s₀ N₀
  nm : env.scope.names = c.names
  hu : A.units + 20 < cLine
  hh : c.hn = true → A.handled = none
  fn : c.hn = true → ∀ f x, c.fns[f]? = some x → c.np.contains f = false → FnOk prog w H mg (fun A' => A' = A) x (X f)
section
variable {prog : Program} {w : World} {A : Around} {E : Value → Shared → Prop} {s s' s₂ : Shared} {s₀ : Base} {env : Env} {tbl : List Str} {N W W' N₀ : Addr → Prop} {ρ : Rho} {F : Addr → Prop} {mg mb : Str → Option Value} {H : Heap} {X : Fns} {c : Cx}
theorem snd_ifs_nil : SndIfs prog w A env tbl s₀ N₀ [] (fun _ Q => Q true) := fun N W ρ s E Q hN S R hq => by
  unfold ifsRun
  rw [List.forIn_nil]
  exact wpAny_pure ⟨hq, .refl _ _⟩
theorem relabel_names (sc : Scope) (hk : env.scope.kind = .function) : (relabel sc env).names = relN sc.names env.scope.names := by
  show sc.names.map _ = _
  unfold relN
  refine List.map_congr_left fun p _ => ?_
  obtain ⟨n, k⟩ := p
  show (if (k == .free && env.scope.kind == .function && env.kindOf n == some .cell) = true then (n, NameKind.cell) else (n, k)) = _
  have e : env.kindOf n = env.scope.names.lookup n := rfl
  rw [hk, e]
  simp
theorem Ok.inner (K : Ok prog w H mg mb X c A env s₀ N₀) {sc : Scope} (hk : sc.kind = .function) (nt : List Str) (cl : List (Str × Addr)) (C : Addr) : Ok prog w H mg mb X (c.inner sc nt) A (compEnvC sc cl C env) s₀ N₀ where
  fx := ⟨K.fx.gl, K.fx.ext, K.fx.glob, K.fx.bns, hk, K.fx.sys⟩
  nm := by
    show (relabel sc env).names = relN sc.names c.names
    rw [relabel_names sc K.fx.kind, K.nm]
  hu := K.hu
  hh := K.hh
  fn := K.fn
theorem Ok.innerY (K : Ok prog w H mg mb X c A env s₀ N₀) {sc : Scope} (hk : sc.kind = .function) (nt : List Str) (y : Str) (Kc : Addr) (cl : List (Str × Addr)) (C : Addr) : Ok prog w H mg mb X (c.inner sc nt) A (compEnvY sc y Kc cl C env) s₀ N₀ where
  fx := ⟨K.fx.gl, K.fx.ext, K.fx.glob, K.fx.bns, hk, K.fx.sys⟩
  nm := by
    show (relabel sc env).names = relN sc.names c.names
    rw [relabel_names sc K.fx.kind, K.nm]
  hu := K.hu
  hh := K.hh
  fn := K.fn
theorem bi_mem {b : Bi} {x : Str} (h : biOk b x = true) : (x, .builtin b.name) ∈ biTab ∧ b.more = [] := by
  cases b <;> first | cases h | (simp only [biOk, beq_iff_eq] at h; subst h; refine ⟨?_, rfl⟩; first | exact List.mem_of_getElem? (i := 0) rfl | exact List.mem_of_getElem? (i := 1) rfl | exact List.mem_of_getElem? (i := 2) rfl | exact List.mem_of_getElem? (i := 3) rfl | exact List.mem_of_getElem? (i := 4) rfl)
theorem isTup_of {t : Expr} (h : isTupT t = true) : ∃ es k p, t = .Tuple es k p := by cases t <;> first | exact ⟨_, _, _, rfl⟩ | cases h
theorem tp_tgt {b : Bool} {t : Expr} (h : (!b || isTupT t) = true) : b = true → ∃ es k p, t = .Tuple es k p := fun q => by subst q; exact isTup_of (by simpa using h)
theorem noneFree_at {t : Tgt} {cap : List (Option Nat)} (h : noneFree t cap = true) : ∀ i ∈ t.names, cap[i]? = some none := fun i hi => by
  have := List.all_eq_true.mp h i hi
  simpa using this
end
structure OkS (prog : Program) (w : World) (H : Heap) (mg mb : Str → Option Value) (X : Fns) (c : Cx) (A : Around) (env : Env) (s₀ : Base) (N₀ : Addr → Prop) : Prop where
  ok : Ok prog w H mg mb X c A env s₀ N₀
  gn : c.hn = true → (∃ k, Rm k A) ∧ ∃ P kk, GFn H mg mb P kk c.gen
  zf : c.hn = true → ∀ f x, c.zs.contains f = true → c.fns[f]? = some x → ZFn prog w A env c.tbl s₀ N₀ H mg x (X f)
  tr : c.tr = true → ∃ P cc, Zn H mg s₀ P ∧ env.code = .ref cc ∧ PySem.W.CodeHd H cc P
section
variable {prog : Program} {w : World} {mg mb : Str → Option Value} {H : Heap} {X : Fns}
theorem frz_go {i : Nat} {ρ : Rho} {Q : Rho → Fl → Prop} {ss : List S} (h : match ρ.at i with | some lv => ∃ d, lv.froz = some d ∧ (match Fl.next with | .next => exSs X ss (ρ.set i (some (.sh d))) Q | fl => Q (ρ.set i (some (.sh d))) fl) | none => False) :
    match ρ.at i with | some lv => ∃ d, lv.froz = some d ∧ exSs X ss (ρ.set i (some (.sh d))) Q | none => False := by
  split at h
  · obtain ⟨d, h1, h2⟩ := h
    exact ⟨d, h1, h2⟩
  · exact h.elim
end
end Mine
end
section
open PySem PySem.Calls PyProof.Rows
namespace Mine
section
variable {prog : Program} {w : World} {mg mb : Str → Option Value} {H : Heap} {X : Fns} {c : Cx} {A : Around} {env : Env} {s₀ : Base} {N₀ : Addr → Prop}
theorem dInt {i : Int} {k : Nat} {p : Pos} : SndE prog w A env c.tbl s₀ N₀ (.Constant (.int i) k p) (evE X (.int i)) := snd_const_int i k p
theorem dStr {x : Str} {k : Nat} {p : Pos} : SndE prog w A env c.tbl s₀ N₀ (.Constant (.str x) k p) (evE X (.str x)) := snd_const_str x k p
theorem dBool {b : Bool} {k : Nat} {p : Pos} : SndE prog w A env c.tbl s₀ N₀ (.Constant (.bool b) k p) (evE X (.bool b)) := snd_const_bool b k p
theorem dVar {i : Nat} {x : Str} {p : Pos} (h : c.tbl[i]? = some x) : SndE prog w A env c.tbl s₀ N₀ (.Name x p) (evE X (.var i)) := snd_var p h
theorem dBin (op : Bop) {l r : E} {a b : Expr} {p : Pos} (hl : SndE prog w A env c.tbl s₀ N₀ a (evE X l)) (hr : SndE prog w A env c.tbl s₀ N₀ b (evE X r)) : SndE prog w A env c.tbl s₀ N₀ (.BinOp a op.op b p) (evE X (.bin op l r)) := snd_bin p hl hr
theorem dNil : SndEs prog w A env c.tbl s₀ N₀ [] (evEs X []) := snd_nil
theorem dCons {e : E} {es : List E} {x : Expr} {xs : List Expr} (n : notStar x = true) (h : SndE prog w A env c.tbl s₀ N₀ x (evE X e)) (hs : SndEs prog w A env c.tbl s₀ N₀ xs (evEs X es)) : SndEs prog w A env c.tbl s₀ N₀ (x :: xs) (evEs X (e :: es)) := snd_cons n h hs
theorem dTup {es : List E} {xs : List Expr} {k : Nat} {p : Pos} (h : SndEs prog w A env c.tbl s₀ N₀ xs (evEs X es)) : SndE prog w A env c.tbl s₀ N₀ (.Tuple xs k p) (evE X (.tup es)) := snd_tup k p h
theorem oLst {es : List E} {xs : List Expr} {p : Pos} (h : SndEs prog w A env c.tbl s₀ N₀ xs (evEs X es)) : SndO prog w A env c.tbl s₀ N₀ (.List xs p) (evE X (.lst es)) := snd_lst p h
theorem oDct0 {p : Pos} : SndO prog w A env c.tbl s₀ N₀ (.Dict [] [] p) (evE X (.dct [])) := snd_dct0 p
theorem dCmp (K : Ok prog w H mg mb X c A env s₀ N₀) (op : Cop) {l r : E} {a b : Expr} {p : Pos} (hi : op ≠ .isnone) (hs : notSetE b = true) (hl : SndE prog w A env c.tbl s₀ N₀ a (evE X l)) (hr : SndE prog w A env c.tbl s₀ N₀ b (evE X r)) : SndE prog w A env c.tbl s₀ N₀ (.Compare a [op.op] [b] p) (evE X (.cmp op l r)) := snd_cmp p K.fx.sys K.hu hs hi hl hr
theorem dB1 (and : Bool) {e : E} {x : Expr} {p : Pos} (h : SndE prog w A env c.tbl s₀ N₀ x (evE X e)) : SndE prog w A env c.tbl s₀ N₀ (.BoolOp (andOp and) [x] p) (evB X and [e]) := snd_bop1 and p h
theorem dB2 (and : Bool) {e e' : E} {es : List E} {x x' : Expr} {xs : List Expr} {p : Pos} (h : SndE prog w A env c.tbl s₀ N₀ x (evE X e)) (hs : SndE prog w A env c.tbl s₀ N₀ (.BoolOp (andOp and) (x' :: xs) p) (evB X and (e' :: es))) : SndE prog w A env c.tbl s₀ N₀ (.BoolOp (andOp and) (x :: x' :: xs) p) (evB X and (e :: e' :: es)) := snd_bop2 and p h hs
theorem dBop {and : Bool} {es : List E} {xs : List Expr} {p : Pos} (h : SndE prog w A env c.tbl s₀ N₀ (.BoolOp (andOp and) xs p) (evB X and es)) : SndE prog w A env c.tbl s₀ N₀ (.BoolOp (andOp and) xs p) (evE X (.bop and es)) := h
theorem dIte {a b d : E} {x y z : Expr} {p : Pos} (h1 : SndC prog w A env c.tbl s₀ N₀ x (evC X a)) (h2 : SndE prog w A env c.tbl s₀ N₀ y (evE X b)) (h3 : SndE prog w A env c.tbl s₀ N₀ z (evE X d)) : SndE prog w A env c.tbl s₀ N₀ (.IfExp x y z p) (evE X (.ite a b d)) := snd_ite p h1 h2 h3
theorem dSub {o i : E} {x y : Expr} {p : Pos} (n : notSlice y = true) (h1 : SndE prog w A env c.tbl s₀ N₀ x (evE X o)) (h2 : SndE prog w A env c.tbl s₀ N₀ y (evE X i)) : SndE prog w A env c.tbl s₀ N₀ (.Subscript x y p) (evE X (.sub o i)) := snd_sub p n h1 h2
theorem dPn : SndPart prog w A env c.tbl s₀ N₀ none (evE X .none) := snd_part_none
theorem dPs {e : E} {x : Expr} (h : SndE prog w A env c.tbl s₀ N₀ x (evE X e)) : SndPart prog w A env c.tbl s₀ N₀ (some x) (evE X e) := snd_part_some h
theorem dSlice {o lo hi : E} {x : Expr} {y z : Option Expr} {p q : Pos} (h1 : SndE prog w A env c.tbl s₀ N₀ x (evE X o)) (h2 : SndPart prog w A env c.tbl s₀ N₀ y (evE X lo)) (h3 : SndPart prog w A env c.tbl s₀ N₀ z (evE X hi)) : SndE prog w A env c.tbl s₀ N₀ (.Subscript x (.Slice y z none q) p) (evE X (.slice o lo hi)) := snd_slice p q h1 h2 h3
theorem dOsub (K : Ok prog w H mg mb X c A env s₀ N₀) {j : Nat} {n : Str} {i : E} {y : Expr} {p q : Pos} (h : c.tbl[j]? = some n) (hn : notSlice y = true) (h2 : SndE prog w A env c.tbl s₀ N₀ y (evE X i)) : SndE prog w A env c.tbl s₀ N₀ (.Subscript (.Name n q) y p) (evE X (.osub j i)) := snd_osub h K.fx.sys p q hn h2
theorem dCall (K : Ok prog w H mg mb X c A env s₀ N₀) (f : Nat) {x : Str} {es : List E} {xs : List Expr} {p q : Pos} (hh : c.hn = true) (hf : c.fns[f]? = some x) (hp : c.np.contains f = false) (g : globName c.names x = true) (n1 : xs.isEmpty = false) (n2 : xs.all notStar = true) (h : SndEs prog w A env c.tbl s₀ N₀ xs (evEs X es)) : SndE prog w A env c.tbl s₀ N₀ (.Call (.Name x q) xs [] p) (evE X (.call f es)) := snd_call K.fx (RmOk := fun A' => A' = A) rfl (K.fn hh f x hf hp) (K.nm ▸ g) n1 n2 p q h
theorem dBi (K : Ok prog w H mg mb X c A env s₀ N₀) (b : Bi) {es : List E} {xs : List Expr} {p q : Pos} (hh : c.hn = true) (hb : biOk b b.name = true) (g : globName c.names b.name = true) (n1 : xs.isEmpty = false) (n2 : xs.all notStar = true) (h : SndEs prog w A env c.tbl s₀ N₀ xs (evEs X es)) : SndE prog w A env c.tbl s₀ N₀ (.Call (.Name b.name q) xs [] p) (evE X (.bi b es)) := snd_bi K.fx (K.hh hh) (K.nm ▸ g) (bi_mem hb).1 (bi_mem hb).2 n1 n2 p q h
theorem kLc1 (K : Ok prog w H mg mb X c A env s₀ N₀) {sc : Scope} {nt : List Str} {cap : List (Option Nat)} {t : Tgt} {it : I} {ifs : List E} {tg ir : Expr} {fs : List Expr} {pos : Pos} {e : E} {x : Expr} (hh : c.hn = true) (hk : sc.kind = .function) (ok : scopeOk sc.names c.names c.tbl nt cap = true) (hi : SndI prog w A env c.tbl s₀ N₀ (tpI it) (sfI it) ir (evI X it)) (hsf : sfI it = true) (ht : okT true (c.inner sc nt).names nt t tg = true) (htp : (!tpI it || isTupT tg) = true) (hc : noneFree t cap = true) (hifs : ∀ {env' : Env}, Ok prog w H mg mb X (c.inner sc nt) A env' s₀ N₀ → SndIfs prog w A env' (c.inner sc nt).tbl s₀ N₀ fs (evIfs X ifs)) (he : ∀ {env' : Env}, Ok prog w H mg mb X (c.inner sc nt) A env' s₀ N₀ → SndE prog w A env' (c.inner sc nt).tbl s₀ N₀ x (evE X e)) : SndK prog w A env c.tbl s₀ N₀ (.ListComp x [⟨tg, ir, fs, 0⟩] sc pos) (evE X (.lcomp e t it ifs [] cap nt)) := snd_lc1 (K.hh hh) pos (by rw [K.nm]; exact ok) hk (by rw [hsf] at hi; exact hi) (by rw [relabel_names sc K.fx.kind, K.nm]; exact ht) (tp_tgt htp) (noneFree_at hc) (fun cl C => hifs (K.inner hk nt cl C)) (fun cl C => he (K.inner hk nt cl C))
theorem dK {e : E} {x : Expr} (h : SndK prog w A env c.tbl s₀ N₀ x (evE X e)) : SndE prog w A env c.tbl s₀ N₀ x (evE X e) := snd_own (snd_compO h)
theorem cNot {e : E} {a : Expr} {p : Pos} (h : SndC prog w A env c.tbl s₀ N₀ a (evC X e)) : SndC prog w A env c.tbl s₀ N₀ (.UnaryOp .Not a p) (evC X (.not e)) := snd_notC p h
theorem cA0 (and : Bool) : SndA prog w A env c.tbl s₀ N₀ (andOp and) [] (evA X and []) := snd_A_nil and
theorem cA (and : Bool) {e : E} {es : List E} {x : Expr} {xs : List Expr} (h : SndC prog w A env c.tbl s₀ N₀ x (evC X e)) (hs : SndA prog w A env c.tbl s₀ N₀ (andOp and) xs (evA X and es)) : SndA prog w A env c.tbl s₀ N₀ (andOp and) (x :: xs) (evA X and (e :: es)) := snd_A_cons and h hs
theorem cBop (and : Bool) {es : List E} {xs : List Expr} {p : Pos} (h : SndA prog w A env c.tbl s₀ N₀ (andOp and) xs (evA X and es)) : SndC prog w A env c.tbl s₀ N₀ (.BoolOp (andOp and) xs p) (evC X (.bop and es)) := snd_bopC and p h
theorem cCmp (K : Ok prog w H mg mb X c A env s₀ N₀) (op : Cop) {l r : E} {a b : Expr} {p : Pos} (hi : op ≠ .isnone) (hs : notSetE b = true) (hl : SndE prog w A env c.tbl s₀ N₀ a (evE X l)) (hr : SndE prog w A env c.tbl s₀ N₀ b (evE X r)) : SndC prog w A env c.tbl s₀ N₀ (.Compare a [op.op] [b] p) (evC X (.cmp op l r)) := snd_cmpC p K.fx.sys K.hu hs hi hl hr
theorem cIn (K : Ok prog w H mg mb X c A env s₀ N₀) {j : Nat} {n : Str} {e : E} {a : Expr} {p q : Pos} (h : c.tbl[j]? = some n) (h2 : SndE prog w A env c.tbl s₀ N₀ a (evE X e)) : SndC prog w A env c.tbl s₀ N₀ (.Compare a [.In] [.Name n q] p) (evC X (.oin false e j)) := snd_oinC (op := .isin) K.fx.sys K.hu h (.inl rfl) p q h2
theorem cVar {i : Nat} {x : Str} {p : Pos} (h : c.tbl[i]? = some x) : SndC prog w A env c.tbl s₀ N₀ (.Name x p) (evC X (.var i)) := sndC_mono (fun ρ Q q => q) (snd_truth (fun _ => rfl) (snd_var p h))
theorem cSub {o i : E} {x y : Expr} {p : Pos} (n : notSlice y = true) (h1 : SndE prog w A env c.tbl s₀ N₀ x (evE X o)) (h2 : SndE prog w A env c.tbl s₀ N₀ y (evE X i)) : SndC prog w A env c.tbl s₀ N₀ (.Subscript x y p) (evC X (.sub o i)) := snd_truth (fun _ => rfl) (snd_sub p n h1 h2)
theorem cIsT (K : Ok prog w H mg mb X c A env s₀ N₀) {e : E} {a : Expr} {p q q' : Pos} (hh : c.hn = true) (g : globName c.names "isinstance" = true) (g' : globName c.names "tuple" = true) (n1 : notStar a = true) (h : SndE prog w A env c.tbl s₀ N₀ a (evE X e)) : SndC prog w A env c.tbl s₀ N₀ (.Call (.Name "isinstance" q) [a, .Name "tuple" q'] [] p) (evC X (.bi .isTuple [e])) := snd_truth (fun _ => rfl) (snd_isTuple K.fx (K.hh hh) (K.nm ▸ g) (K.nm ▸ g') n1 p q q' h)
theorem fNil : SndIfs prog w A env c.tbl s₀ N₀ [] (evIfs X []) := snd_ifs_nil
theorem iEx (K : Ok prog w H mg mb X c A env s₀ N₀) {e : E} {x : Expr} (hh : c.hn = true) (n : notSetE x = true) (h : SndE prog w A env c.tbl s₀ N₀ x (evE X e)) : SndI prog w A env c.tbl s₀ N₀ (tpI (.ex e)) (sfI (.ex e)) x (evI X (.ex e)) := sndI_ex K.fx.sys (K.hh hh) n h
theorem iRange (K : Ok prog w H mg mb X c A env s₀ N₀) {es : List E} {xs : List Expr} {p q : Pos} (hh : c.hn = true) (g : globName c.names "range" = true) (n1 : xs.isEmpty = false) (n2 : xs.all notStar = true) (h : SndEs prog w A env c.tbl s₀ N₀ xs (evEs X es)) : SndI prog w A env c.tbl s₀ N₀ (tpI (.range es)) (sfI (.range es)) (.Call (.Name "range" q) xs [] p) (evI X (.range es)) := sndI_range K.fx (K.hh hh) (K.nm ▸ g) n1 n2 p q h
theorem iEnum (K : Ok prog w H mg mb X c A env s₀ N₀) {e : E} {a : Expr} {p q : Pos} (hh : c.hn = true) (g : globName c.names "enumerate" = true) (n1 : notStar a = true) (h : SndE prog w A env c.tbl s₀ N₀ a (evE X e)) : SndI prog w A env c.tbl s₀ N₀ (tpI (.enum e)) (sfI (.enum e)) (.Call (.Name "enumerate" q) [a] [] p) (evI X (.enum e)) := sndI_enum K.fx (K.hh hh) (K.nm ▸ g) n1 p q h
theorem iZip (K : Ok prog w H mg mb X c A env s₀ N₀) {es : List E} {xs : List Expr} {p q : Pos} (hh : c.hn = true) (g : globName c.names "zip" = true) (n1 : xs.isEmpty = false) (n2 : xs.all notStar = true) (h : SndEs prog w A env c.tbl s₀ N₀ xs (evEs X es)) : SndI prog w A env c.tbl s₀ N₀ (tpI (.zip es)) (sfI (.zip es)) (.Call (.Name "zip" q) xs [] p) (evI X (.zip es)) := sndI_zip K.fx (K.hh hh) (K.nm ▸ g) n1 n2 p q h
theorem iItems (K : Ok prog w H mg mb X c A env s₀ N₀) {i : Nat} {x : Str} {p q ap : Pos} (hh : c.hn = true) (h : c.tbl[i]? = some x) (hl : (ap.endLine == p.line) = true) : SndI prog w A env c.tbl s₀ N₀ (tpI (.items (.var i))) (sfI (.items (.var i))) (.Call (.Attribute (.Name x q) "items" ap) [] [] p) (evI X (.items (.var i))) := by
  refine sndI_mono (fun ρ Q q => ?_) (sndI_items K.fx.sys (K.hh hh) h p q hl)
  rw [evI_items, evE_var] at q
  split at q
  · rename_i d hd
    rw [hd]
    cases d <;> first | exact q | exact q.elim
  · exact q.elim
theorem iValues (K : Ok prog w H mg mb X c A env s₀ N₀) {i : Nat} {x : Str} {p q ap : Pos} (hh : c.hn = true) (h : c.tbl[i]? = some x) (hl : (ap.endLine == p.line) = true) : SndI prog w A env c.tbl s₀ N₀ (tpI (.values (.var i))) (sfI (.values (.var i))) (.Call (.Attribute (.Name x q) "values" ap) [] [] p) (evI X (.values (.var i))) := by
  refine sndI_mono (fun ρ Q q => ?_) (sndI_values K.fx.sys (K.hh hh) h p q hl)
  rw [evI_values, evE_var] at q
  split at q
  · rename_i d hd
    rw [hd]
    cases d <;> first | exact q | exact q.elim
  · exact q.elim
theorem sAsg (K : OkS prog w H mg mb X c A env s₀ N₀) {i : Nat} {e : E} {y : Str} {x : Expr} {tp pos : Pos} (ht : tgtName false c.names c.tbl i (.Name y tp) = true) (nc : notComp x = true) (h : SndE prog w A env c.tbl s₀ N₀ x (evE X e)) : SndS prog w A env c.tbl s₀ N₀ (.Assign [.Name y tp] x pos) (exS X (.assign i e)) := sndS_assign (by rw [K.ok.nm]; exact ht) nc h
theorem sAsgK (K : OkS prog w H mg mb X c A env s₀ N₀) {i : Nat} {e : E} {y : Str} {x : Expr} {tp pos : Pos} (ht : tgtName false c.names c.tbl i (.Name y tp) = true) (h : SndK prog w A env c.tbl s₀ N₀ x (evE X e)) : SndS prog w A env c.tbl s₀ N₀ (.Assign [.Name y tp] x pos) (exS X (.assign i e)) := sndS_comp false (by rw [K.ok.nm]; exact ht) h
theorem sAsgO (K : OkS prog w H mg mb X c A env s₀ N₀) {i : Nat} {e : E} {y : Str} {x : Expr} {tp pos : Pos} (ht : tgtName false c.names c.tbl i (.Name y tp) = true) (nc : notComp x = true) (h : SndO prog w A env c.tbl s₀ N₀ x (evE X e)) : SndS prog w A env c.tbl s₀ N₀ (.Assign [.Name y tp] x pos) (exS X (.assignO i e)) := sndS_assignO (by rw [K.ok.nm]; exact ht) nc h
theorem sUnp (K : OkS prog w H mg mb X c A env s₀ N₀) {is : List Nat} {e : E} {ts : List Expr} {x : Expr} {k : Nat} {tp pos : Pos} (hh : c.hn = true) (ht : tgtNames false c.names c.tbl is ts = true) (nc : notComp x = true) (sw : ∀ (env : Env) (ts : List Expr), swappedStores ts x env = pure none) (h : SndE prog w A env c.tbl s₀ N₀ x (evE X e)) : SndS prog w A env c.tbl s₀ N₀ (.Assign [.Tuple ts k tp] x pos) (exS X (.unpack is e)) := sndS_unpack (K.ok.hh hh) (by rw [K.ok.nm]; exact ht) nc (sw env) h
theorem sSet (K : OkS prog w H mg mb X c A env s₀ N₀) {j : Nat} {k v : E} {y : Str} {i x : Expr} {q sp pos : Pos} (h : c.tbl[j]? = some y) (nc : notComp x = true) (h1 : SndE prog w A env c.tbl s₀ N₀ i (evE X k)) (h2 : SndE prog w A env c.tbl s₀ N₀ x (evE X v)) : SndS prog w A env c.tbl s₀ N₀ (.Assign [.Subscript (.Name y q) i sp] x pos) (exS X (.setitem j k v)) := sndS_setitem h nc h1 h2
theorem sAug (K : OkS prog w H mg mb X c A env s₀ N₀) (op : Bop) {i : Nat} {e : E} {y : Str} {x : Expr} {tp pos : Pos} (ht : tgtName false c.names c.tbl i (.Name y tp) = true) (h : SndE prog w A env c.tbl s₀ N₀ x (evE X e)) : SndS prog w A env c.tbl s₀ N₀ (.AugAssign (.Name y tp) op.op x pos) (exS X (.aug i op e)) := sndS_aug (by rw [K.ok.nm]; exact ht) h
theorem sAugi (K : OkS prog w H mg mb X c A env s₀ N₀) (op : Bop) {j : Nat} {k e : E} {y : Str} {i x : Expr} {q sp pos : Pos} (h : c.tbl[j]? = some y) (ns : notSlice i = true) (h1 : SndE prog w A env c.tbl s₀ N₀ i (evE X k)) (h2 : SndE prog w A env c.tbl s₀ N₀ x (evE X e)) : SndS prog w A env c.tbl s₀ N₀ (.AugAssign (.Subscript (.Name y q) i sp) op.op x pos) (exS X (.augitem j k op e)) := sndS_augitem h ns h1 h2
theorem sApp (K : OkS prog w H mg mb X c A env s₀ N₀) {j : Nat} {e : E} {y : Str} {x : Expr} {q ap p pos : Pos} (h : c.tbl[j]? = some y) (ns : notStar x = true) (hl : (ap.endLine == p.line) = true) (h1 : SndE prog w A env c.tbl s₀ N₀ x (evE X e)) : SndS prog w A env c.tbl s₀ N₀ (.Expr (.Call (.Attribute (.Name y q) "append" ap) [x] [] p) pos) (exS X (.append j e)) := sndS_append h K.ok.fx.kind ns hl h1
theorem sIf (K : OkS prog w H mg mb X c A env s₀ N₀) {a : E} {b d : List S} {y : Expr} {z u : List Stmt} {pos : Pos} (h1 : SndC prog w A env c.tbl s₀ N₀ y (evC X a)) (h2 : SndSs prog w A env c.tbl s₀ N₀ z (exSs X b)) (h3 : SndSs prog w A env c.tbl s₀ N₀ u (exSs X d)) : SndS prog w A env c.tbl s₀ N₀ (.If y z u pos) (exS X (.ife a b d)) := sndS_if h1 h2 h3
theorem sFor (K : OkS prog w H mg mb X c A env s₀ N₀) {t : Tgt} {it : I} {body : List S} {kill : List Nat} {tg ir : Expr} {b : List Stmt} {pos : Pos} (hh : c.hn = true) (h1 : SndI prog w A env c.tbl s₀ N₀ (tpI it) (sfI it) ir (evI X it)) (ht : okT false c.names c.tbl t tg = true) (htp : (!tpI it || isTupT tg) = true) (h2 : SndSs prog w A env c.tbl s₀ N₀ b (exSs X body)) : SndS prog w A env c.tbl s₀ N₀ (.For tg ir b [] pos) (exS X (.fore t it body kill)) := sndS_for (K.ok.hh hh) h1 (by rw [K.ok.nm]; exact ht) (tp_tgt htp) h2
theorem sFgen (K : OkS prog w H mg mb X c A env s₀ N₀) {i : Nat} {e : E} {body : List S} {kill : List Nat} {y : Str} {a : Expr} {b : List Stmt} {tp q p pos : Pos} (hh : c.hn = true) (g : globName c.names c.gen = true) (ns : notStar a = true) (ht : tgtName false c.names c.tbl i (.Name y tp) = true) (h : SndE prog w A env c.tbl s₀ N₀ a (evE X e)) (h2 : SndSs prog w A env c.tbl s₀ N₀ b (exSs X body)) : SndS prog w A env c.tbl s₀ N₀ (.For (.Name y tp) (.Call (.Name c.gen q) [a] [] p) b [] pos) (exS X (.forgen i e body kill)) := by
  obtain ⟨⟨kr, hr⟩, P, kk, GF⟩ := K.gn hh
  exact sndS_forgen K.ok.fx hr GF (K.ok.nm ▸ g) h ns (by rw [K.ok.nm]; exact ht) h2
theorem sRet (K : OkS prog w H mg mb X c A env s₀ N₀) {e : E} {x : Expr} {pos : Pos} (h : SndE prog w A env c.tbl s₀ N₀ x (evE X e)) : SndS prog w A env c.tbl s₀ N₀ (.Return (some x) pos) (exS X (.ret e)) := sndS_ret h
theorem sBrk (K : OkS prog w H mg mb X c A env s₀ N₀) {pos : Pos} : SndS prog w A env c.tbl s₀ N₀ (.Break pos) (exS X .brk) := sndS_brk pos
theorem sZasg (K : OkS prog w H mg mb X c A env s₀ N₀) {i : Nat} {es : List E} {x y : Str} {xs : List Expr} {tp p q pos : Pos} (hh : c.hn = true) (f : Nat) (hz : c.zs.contains f = true) (hf : c.fns[f]? = some x) (g : globName c.names x = true) (n1 : xs.isEmpty = false) (n2 : xs.all notStar = true) (hx : SndEs prog w A env c.tbl s₀ N₀ xs (evEs X es)) (ht : tgtName false c.names c.tbl i (.Name y tp) = true) : SndS prog w A env c.tbl s₀ N₀ (.Assign [.Name y tp] (.Call (.Name x q) xs [] p) pos) (exS X (.zassign i f es)) := sndS_zassign K.ok.fx (K.zf hh f x hz hf) (K.ok.nm ▸ g) n1 n2 p q hx (by rw [K.ok.nm]; exact ht)
theorem sNil (K : OkS prog w H mg mb X c A env s₀ N₀) : SndSs prog w A env c.tbl s₀ N₀ [] (exSs X []) := snd_seq_nil
theorem sCons (K : OkS prog w H mg mb X c A env s₀ N₀) {st : S} {ss : List S} {x : Stmt} {xs : List Stmt} (h : SndS prog w A env c.tbl s₀ N₀ x (exS X st)) (hs : SndSs prog w A env c.tbl s₀ N₀ xs (exSs X ss)) : SndSs prog w A env c.tbl s₀ N₀ (x :: xs) (exSs X (st :: ss)) :=
  fun N W ρ s E Q hN S R hq => snd_seq_cons h hs N W ρ s E Q hN S R (by rw [exSs_cons] at hq; exact hq)
theorem sFrz (K : OkS prog w H mg mb X c A env s₀ N₀) {i : Nat} {y : Str} {ss : List S} {xs : List Stmt} (h : c.tbl[i]? = some y) (hs : SndSs prog w A env c.tbl s₀ N₀ xs (exSs X ss)) : SndSs prog w A env c.tbl s₀ N₀ xs (exSs X (.freeze i :: ss)) :=
  fun N W ρ s E Q hN S R hq => snd_seq_freeze h hs N W ρ s E Q hN S R (by rw [exSs_cons, exS_freeze] at hq; exact frz_go hq)
end
end Mine
end
section
open PySem PySem.Calls PyProof.Rows
namespace Mine
section
variable {prog : Program} {w : World} {mg mb : Str → Option Value} {H : Heap} {X : Fns} {c : Cx} {A : Around} {env : Env} {s₀ : Base} {N₀ : Addr → Prop}
theorem kLcC (K : Ok prog w H mg mb X c A env s₀ N₀) {sc : Scope} {nt : List Str} {cap : List (Option Nat)} {i : Nat} {it : I} {ir : Expr} {pos p : Pos} {e : E} {x : Expr} {n0 y n2 n3 : Str} (hh : c.hn = true) (hk : sc.kind = .function) (hsn : sc.names = [(n0, .local), (y, .cell), (n2, .globalImplicit), (n3, .free)]) (hy0 : y ≠ n0)
    (h3 : c.names.lookup n3 = some .cell) (m3 : n3 ∈ c.tbl) (ok : scopeOk (unS sc n0 y n2 n3).names c.names c.tbl nt cap = true) (hi : SndI prog w A env c.tbl s₀ N₀ (tpI it) (sfI it) ir (evI X it)) (htp : tpI it = false) (hsf : sfI it = true) (hn : nt[i]? = some y) (hc : cap[i]? = some none)
    (he : ∀ {env' : Env}, Ok prog w H mg mb X (c.inner sc nt) A env' s₀ N₀ → SndE prog w A env' (c.inner sc nt).tbl s₀ N₀ x (evE X e)) :
    SndK prog w A env c.tbl s₀ N₀ (.ListComp x [⟨.Name y p, ir, [], 0⟩] sc pos) (evE X (.lcomp e (.nm i) it [] [] cap nt)) :=
  ⟨rfl, fun N W ρ s E Q use Qf hN S R hq hfin => listcompC (K.hh hh) S R hN hsn hy0 (by show env.scope.names.lookup n3 = _; rw [K.nm]; exact h3) m3 (by rw [K.nm]; exact ok) hk hn hc (by rw [htp, hsf] at hi; exact hi) (fun Kc cl C => he (K.innerY hk nt y Kc cl C)) (Q := Q) (by rw [evE_lcomp] at hq; exact hq)
    fun s' Dd Cc ds hq ev h1 h2 hne ⟨vs, el, rs⟩ hm => hfin s' Dd Cc (.lst ds) (.ol ds) rfl hq ev h1 h2 hne el.live ⟨Dd, vs, rfl, rfl, el, rs⟩ hm⟩
theorem evEs_consts (X : Fns) (ρ : Rho) : ∀ (vals : List Int) (Q : List D → Prop), evEs X (vals.map .int) ρ Q = Q (vals.map .int)
  | [], Q => by rw [List.map_nil, evEs_nil]; rfl
  | v :: vs, Q => by rw [List.map_cons, evEs_cons, evE_int, evEs_consts X ρ vs]; rfl
theorem sAsgLL (K : OkS prog w H mg mb X c A env s₀ N₀) {i j : Nat} {vals : List Int} {it : I} {cap : List (Option Nat)} {nt : List Str} {y : Str} {x tg ir : Expr} {sc : Scope} {tp cp pos : Pos} (hh : c.hn = true) (ht : tgtName false c.names c.tbl i (.Name y tp) = true) (hk : sc.kind = .function)
    (ok : scopeOk sc.names c.names c.tbl nt cap = true) (hi : SndI prog w A env c.tbl s₀ N₀ (tpI it) (sfI it) ir (evI X it)) (htp : tpI it = false) (hsf : sfI it = true) (ht' : okT true (c.inner sc nt).names nt (.nm j) tg = true) (hc : cap[j]? = some none) (hf : vals.length ≤ 1048576)
    (he : ∀ {env' : Env}, Ok prog w H mg mb X (c.inner sc nt) A env' s₀ N₀ → SndO prog w A env' (c.inner sc nt).tbl s₀ N₀ x (evE X (.lst (vals.map .int)))) :
    SndS prog w A env c.tbl s₀ N₀ (.Assign [.Name y tp] (.ListComp x [⟨tg, ir, [], 0⟩] sc cp) pos) (exS X (.assignLL i vals j it cap nt)) := by
  rw [htp, hsf] at hi
  refine sndS_assignLL (K.ok.hh hh) (by rw [K.ok.nm]; exact ht) (by rw [K.ok.nm]; exact ok) hk hi (by rw [relabel_names sc K.ok.fx.kind, K.ok.nm]; exact ht') (fun q => by cases q) hc fun cl C N W ρ s E Q hN S R hq => he (K.ok.inner hk nt cl C) N W ρ s E Q hN S R ?_
  rw [evE_lst, evEs_consts]
  exact ⟨by unfold fits; rw [List.length_map]; exact hf, hq⟩
theorem sAug2 (K : OkS prog w H mg mb X c A env s₀ N₀) (op : Bop) {j : Nat} {a b e : E} {y : Str} {k1 k2 x : Expr} {q sp1 sp pos : Pos} (h : c.tbl[j]? = some y) (n1 : notSlice k1 = true) (n2 : notSlice k2 = true) (h1 : SndE prog w A env c.tbl s₀ N₀ k1 (evE X a)) (h2 : SndE prog w A env c.tbl s₀ N₀ k2 (evE X b)) (h3 : SndE prog w A env c.tbl s₀ N₀ x (evE X e)) :
    SndS prog w A env c.tbl s₀ N₀ (.AugAssign (.Subscript (.Subscript (.Name y q) k1 sp1) k2 sp) op.op x pos) (exS X (.augitem2 j a b op e)) := sndS_augitem2 K.ok.fx.sys h n1 n2 h1 h2 h3
theorem sPair (K : OkS prog w H mg mb X c A env s₀ N₀) {j : Nat} {k a b : E} {y : Str} {kx ax bx : Expr} {xa xb : Str} {p1 p2 bp pa pb pt zq zp gpos tq cp q sp pos : Pos} {kt : Nat} {gsc : Scope} (hh : c.hn = true) (htr : c.tr = true) (h : c.tbl[j]? = some y) (gx : globName c.names "tuple" = true) (gz : globName c.names "zip" = true)
    (na : notStar ax = true) (nb : notStar bx = true) (hco : gsc.isCoroutine = false) (hfr : ∀ x ∈ gsc.names, x.2 ≠ .free ∧ x.2 ≠ .cell) (h0 : gsc.names.lookup (".0" : Str) = some NameKind.local) (hxa : gsc.names.lookup xa = some .local) (hxb : gsc.names.lookup xb = some .local) (hab : xa ≠ xb) (hkind : gsc.kind = .function)
    (pla : plainName xa = true) (plb : plainName xb = true) (hk : SndE prog w A env c.tbl s₀ N₀ kx (evE X k)) (ha : SndE prog w A env c.tbl s₀ N₀ ax (evE X a)) (hb : SndE prog w A env c.tbl s₀ N₀ bx (evE X b)) :
    SndS prog w A env c.tbl s₀ N₀ (.Assign [.Subscript (.Name y q) kx sp] (.Call (.Name "tuple" tq) [.GeneratorExp (.BinOp (.Name xa p1) .Add (.Name xb p2) bp) [⟨.Tuple [.Name xa pa, .Name xb pb] kt pt, .Call (.Name "zip" zq) [ax, bx] [] zp, [], 0⟩] gsc gpos] [] cp) pos) (exS X (.setpair j k a b)) := by
  obtain ⟨P, cc, Z, hc, hC⟩ := K.tr htr
  obtain ⟨⟨kr, hr⟩, _⟩ := K.gn hh
  exact sndS_setpair K.ok.fx (K.ok.hh hh) (by have := hr.2.1; unfold recursionLimit; (first | lia | omega)) Z hc hC (dCons na ha (dCons nb hb dNil)) h hk (K.ok.nm ▸ gx) (K.ok.nm ▸ gz) rfl (by show (notStar ax && (notStar bx && true)) = true; rw [na, nb]; rfl) hco (fun x hx => (hfr x hx).1) (fun x hx => (hfr x hx).2) h0 hxa hxb hab hkind pla plb
theorem sZret (K : OkS prog w H mg mb X c A env s₀ N₀) {a b d e : E} {es : List E} {x : Str} {y1 y2 y3 y4 : Expr} {xs : List Expr} {k : Nat} {tp p q pos : Pos} (hh : c.hn = true) (f : Nat) (hz : c.zs.contains f = true) (hf : c.fns[f]? = some x) (g : globName c.names x = true) (n1 : xs.isEmpty = false) (n2 : xs.all notStar = true) (hx : SndEs prog w A env c.tbl s₀ N₀ xs (evEs X es))
    (m1 : notStar y1 = true) (m2 : notStar y2 = true) (m3 : notStar y3 = true) (m4 : notStar y4 = true) (h1 : SndE prog w A env c.tbl s₀ N₀ y1 (evE X a)) (h2 : SndE prog w A env c.tbl s₀ N₀ y2 (evE X b)) (h3 : SndE prog w A env c.tbl s₀ N₀ y3 (evE X d)) (h4 : SndE prog w A env c.tbl s₀ N₀ y4 (evE X e)) :
    SndS prog w A env c.tbl s₀ N₀ (.Return (some (.Tuple [y1, y2, y3, y4, .Call (.Name x q) xs [] p] k tp)) pos) (exS X (.zret a b d e f es)) := zlast K.ok.fx (K.zf hh f x hz hf) (K.ok.nm ▸ g) n1 n2 p q hx m1 m2 m3 m4 h1 h2 h3 h4 k tp pos
end
end Mine
end
section
open PySem PySem.Calls PyProof.Rows
namespace Mine
structure Fn where
  name : Str
  n : Nat
  tbl : List Str
  body : List S
  zs : List Nat := []
  tr : Bool := false
noncomputable def Fn.plain (g : Fn) : Bool := g.zs.isEmpty && !g.tr
noncomputable def npOf : List Fn → Nat → List Nat
  | [], _ => []
  | g :: gs, i => if g.plain then npOf gs (i + 1) else i :: npOf gs (i + 1)
noncomputable def XN (fs : List Fn) : Nat → Fns
  | 0 => fun _ _ _ => False
  | k + 1 => fun f ds Q => match fs[f]? with
    | some g => ds.length = g.n ∧ exSs (XN fs k) g.body (rho0 (g.tbl.length - g.n) ds) (retW Q)
    | none => False
noncomputable def cxOf (fs : List Fn) (gen : Str) (g : Fn) (names : List (Str × NameKind)) : Cx := ⟨names, g.tbl, fs.map (·.name), gen, true, npOf fs 0, g.zs, g.tr⟩
noncomputable def okFn (g : Fn) (d : DefRec) (as : List Arg) : Bool := g.name == d.name && fnScope d.scope g.n g.tbl (as.map (·.arg)) && (g.zs.isEmpty || g.tbl.any fun x => d.scope.names.lookup x == some .local)
noncomputable def DerFn (prog : Program) (w : World) (H : Heap) (mg mb : Str → Option Value) (fs : List Fn) (gen : Str) (g : Fn) (d : DefRec) : Prop :=
  ∀ {X : Fns} {A : Around} {env : Env} {s₀ : Base} {N₀ : Addr → Prop}, OkS prog w H mg mb X (cxOf fs gen g d.scope.names) A env s₀ N₀ → SndSs prog w A env (cxOf fs gen g d.scope.names).tbl s₀ N₀ d.body (exSs X g.body)
noncomputable def recAt (p : Program) (i : Nat) : DefRec := match p.main.body[i]? with
  | some (.FunctionDef name args body _ _ _ sc _ _ pos) => ⟨name, args, body, sc, pos⟩
  | _ => ⟨"", ⟨[], [], none, [], [], none, []⟩, [], ⟨.function, [], false, false, default⟩, ⟨0, 0, 0, 0⟩⟩
theorem gen_lit {p0 p1 p2 p3 p4 p5 p6 p7 p8 p9 p10 p11 p12 p13 p14 p15 p16 p17 p18 p19 p20 p21 p22 p23 p24 p25 p26 p27 p28 p29 p30 p31 p32 p33 : Pos} {k0 k1 k2 k3 k4 : Nat} : ∃ P k, ([(.Assign [.Name "last_interval" p31] (.Constant .none k4 p32) p33), (.For (.Name "interval" p28) (.Name "grouping" p29) ([(.If (.Compare (.Name "interval" p13) [.Eq] [.Name "CHAR_MAX" p14] p15) [.Return none p16] [] p17), (.If (.Compare (.Name "interval" p18) [.Eq] [.Constant (.int 0) k3 p19] p20) [(.If (.Compare (.Name "last_interval" p0) [.Is] [.Constant .none k0 p1] p2) [.Raise (some (.Call (.Name "ValueError" p3) [.Constant (.str "invalid grouping") k1 p4] [] p5)) none p6] [] p7), (.While (.Constant (.bool true) k2 p8) [.Expr (.Yield (some (.Name "last_interval" p9)) p10) p11] [] p12)] [] p21), (.Expr (.Yield (some (.Name "interval" p22)) p23) p24), (.Assign [.Name "last_interval" p25] (.Name "interval" p26) p27)]) [] p30)] : List Stmt) = gAll P k :=
  ⟨fun n => [p0, p1, p2, p3, p4, p5, p6, p7, p8, p9, p10, p11, p12, p13, p14, p15, p16, p17, p18, p19, p20, p21, p22, p23, p24, p25, p26, p27, p28, p29, p30, p31, p32, p33].getD n ⟨0, 0, 0, 0⟩, fun n => [k0, k1, k2, k3, k4].getD n 0, rfl⟩
noncomputable def okGen (gen : Str) (d : DefRec) : Bool := d.name == gen && d.scope.kind == .function && !d.scope.isCoroutine && d.scope.isGenerator && d.scope.names.lookup ("grouping" : Str) == some NameKind.local && d.scope.names.lookup ("last_interval" : Str) == some NameKind.local &&
  d.scope.names.lookup ("interval" : Str) == some NameKind.local && globName d.scope.names "CHAR_MAX" && globName d.scope.names "ValueError"
structure Stands (H : Heap) (mg : Str → Option Value) (d : DefRec) : Prop where
  at' : ∃ a o pm cd doc, mg d.name = some (.ref a) ∧ H.get? a = some o ∧ o.data = .func (docDef d.name d.params d.body d.scope pm cd doc) ∧ H.CodeRec cd d.name
theorem gfn_of {H : Heap} {mg mb : Str → Option Value} {gen : Str} {d : DefRec} (G : Gl mg mb H) (lim : H.NoLimit) (hc : ∃ t : Tok, mg "CHAR_MAX" = some (Value.int 127 t)) (hs : Stands H mg d) (h : okGen gen d = true) (hp : ∃ ap, d.params = ⟨[], [⟨"grouping", none, ap⟩], none, [], [], none, []⟩) (hb : ∃ P k, d.body = gAll P k) : ∃ P k, GFn H mg mb P k gen := by
  obtain ⟨name, params, body, scope, pos⟩ := d
  obtain ⟨ap, hp⟩ := hp
  obtain ⟨P, k, hb⟩ := hb
  dsimp only at hp hb
  subst hp hb
  simp only [okGen, Bool.and_eq_true, beq_iff_eq, Bool.not_eq_true'] at h
  obtain ⟨⟨⟨⟨⟨⟨⟨⟨rfl, h3⟩, h4⟩, h5⟩, h6⟩, h7⟩, h8⟩, h9⟩, h10⟩ := h
  obtain ⟨a, o, pm, cd, doc, e1, e2, e3, e4⟩ := hs.at'
  exact ⟨P, k, G, lim, hc, G.bi "ValueError" (.type "ValueError") (List.mem_of_getElem? (i := 11) rfl), a, o, ap, name, scope, pm, cd, doc, e1, e2, e3, e4, h3, h4, h5, h6, h7, h8, h9, h10⟩
theorem callOk_mono {prog : Program} {w : World} {H : Heap} {Rm' Rm'' : Around → Prop} {a : Addr} {Xf Xf' : List D → (D → Prop) → Prop} (h : CallOk prog w H Rm' a Xf) (k : ∀ A, Rm'' A → Rm' A) (x : ∀ ds Q, Xf' ds Q → Xf ds Q) : CallOk prog w H Rm'' a Xf' :=
  fun A s F vs ds Q E hA e l hs r hq => h A s F vs ds Q E (k A hA) e l hs r (x ds Q hq)
theorem np_mem : ∀ {fs : List Fn} {i f : Nat} {g : Fn}, fs[f]? = some g → g.plain = false → i + f ∈ npOf fs i
  | g :: gs, i, 0, g', h, hp => by
    simp at h; subst h
    rw [npOf, hp]; simp
  | g :: gs, i, f + 1, g', h, hp => by
    have := np_mem (i := i + 1) (f := f) (g := g') (by simpa using h) hp
    rw [npOf]
    split
    · rw [show i + (f + 1) = i + 1 + f by (first | lia | omega)]; exact this
    · refine .tail _ ?_
      rw [show i + (f + 1) = i + 1 + f by (first | lia | omega)]; exact this
  | [], _, _, _, h, _ => by simp at h
theorem plain_of_np {fs : List Fn} {f : Nat} {g : Fn} (h : fs[f]? = some g) (hn : (npOf fs 0).contains f = false) : g.plain = true := by
  cases hp : g.plain with
  | true => rfl
  | false =>
    have := np_mem (i := 0) h hp
    rw [Nat.zero_add] at this
    rw [List.contains_iff_mem.mpr this] at hn; cases hn
structure Tab (prog : Program) (w : World) (fs : List Fn) (gen : Str) (H : Heap) (mg mb : Str → Option Value) : Prop where
  gl : Gl mg mb H
  lim : H.NoLimit
  gfn : ∃ P k, GFn H mg mb P k gen
  fns : ∀ g ∈ fs, ∃ d as, okFn g d as = true ∧ d.params = ⟨[], as, none, [], [], none, []⟩ ∧ DerFn prog w H mg mb fs gen g d ∧ Stands H mg d
section
variable {prog : Program} {w : World} {H : Heap} {mg mb : Str → Option Value} {fs : List Fn} {gen : Str}
theorem okFn_inv {g : Fn} {d : DefRec} {as : List Arg} (h : okFn g d as = true) : g.name = d.name ∧ fnScope d.scope g.n g.tbl (as.map (·.arg)) = true ∧ (g.zs.isEmpty = true ∨ ∃ x ∈ g.tbl, d.scope.names.lookup x = some .local) := by
  simp only [okFn, Bool.and_eq_true, beq_iff_eq, Bool.or_eq_true, List.any_eq_true] at h
  exact ⟨h.1.1, h.1.2, h.2⟩
theorem ok_of (T : Tab prog w fs gen H mg mb) {k : Nat} (ih : ∀ f g, fs[f]? = some g → g.plain = true → FnOk prog w H mg (Rm k) g.name (XN fs k f)) {g : Fn} {sc : Scope} {A : Around} {env : Env} {s₀ : Base} {N₀ : Addr → Prop} (hA : Rm k A) (he : env.scope = sc) (fx : Fx mg mb H env s₀ N₀) :
    Ok prog w H mg mb (XN fs k) (cxOf fs gen g sc.names) A env s₀ N₀ where
  fx := fx
  nm := by rw [he]; rfl
  hu := by have := hA.2.2; unfold cLine; (first | lia | omega)
  hh := fun _ => hA.1
  fn := fun _ f x hf hnp => by
    have hf' : (fs.map (·.name))[f]? = some x := hf
    rw [List.getElem?_map, Option.map_eq_some_iff] at hf'
    obtain ⟨g', hg, rfl⟩ := hf'
    obtain ⟨a, o, fd, h1, h2, h3, h4⟩ := (ih f g' hg (plain_of_np hg hnp)).fn
    exact ⟨a, o, fd, h1, h2, h3, callOk_mono h4 (fun A' q => q ▸ hA) fun _ _ => id⟩
theorem plain_ok (T : Tab prog w fs gen H mg mb) : ∀ (k f : Nat) (g : Fn), fs[f]? = some g → g.plain = true → FnOk prog w H mg (Rm k) g.name (XN fs k f)
  | 0, f, g, hg, _ => by
    obtain ⟨d, as, hd, hpar, hder, ⟨a, o, pm, cd, doc, h1, h2, h3, h4⟩⟩ := T.fns g (List.mem_of_getElem? hg)
    obtain ⟨e, _⟩ := okFn_inv hd
    exact ⟨a, o, _, e ▸ h1, h2, h3, fun _ _ _ _ _ _ _ _ _ _ _ _ hq => hq.elim⟩
  | k + 1, f, g, hg, hp => by
    obtain ⟨d, as, hd, hpar, hder, ⟨a, o, pm, cd, doc, h1, h2, h3, h4⟩⟩ := T.fns g (List.mem_of_getElem? hg)
    obtain ⟨e, hsc, _⟩ := okFn_inv hd
    rw [hpar] at h3
    simp only [Fn.plain, Bool.and_eq_true, Bool.not_eq_true', List.isEmpty_iff] at hp
    refine ⟨a, o, _, e ▸ h1, h2, h3, callOk_mono (call_sound (k := k) (P := exSs (XN fs k) g.body) T.gl T.lim h2 h3 h4 hsc fun A env s₀ N₀ hA he fx => ?_) (fun _ => id) fun ds Q hq => ?_⟩
    · have K := ok_of (g := g) T (plain_ok T k) hA he fx
      refine hder ⟨K, fun _ => ⟨⟨k, hA⟩, T.gfn⟩, fun _ f' x hz _ => ?_, fun hz => ?_⟩
      · have : g.zs.contains f' = true := hz
        rw [hp.1] at this; cases this
      · have : g.tr = true := hz
        rw [hp.2] at this; cases this
    · rw [XN, hg] at hq; exact hq
end
end Mine
end
section
open PySem PySem.Calls PyProof.Rows
namespace Mine
theorem call_zone {prog : Program} {w : World} {H : Heap} {mg mb : Str → Option Value} {k n : Nat} {name : Str} {as : List Arg} {scope : Scope} {tbl : List Str} {body : List Stmt} {pm cd doc : Value} {a : Addr} {o : Obj}
    {P : Rho → (Rho → Fl → Prop) → Prop} (G : Gl mg mb H) (hl : H.NoLimit) (ho : H.get? a = some o) (hd : o.data = .func (docDef name ⟨[], as, none, [], [], none, []⟩ body scope pm cd doc)) (hcd : H.CodeRec cd name)
    (hs : fnScope scope n tbl (as.map (·.arg)) = true) {A : Around} {s : Shared} {F : Addr → Prop} {vs : List Value} {ds : List D} {Q : D → Prop} {E : Value → Shared → Prop} (B : Base) (hBe : Evl B.toShared s) (hBz : ∀ a, B.Z a → B.heap.get? a = none ∧ ∃ o, s.heap.get? a = some o) (hBi : B.ZI s.heap)
    (hExt : Ext H B.heap) (hA : Rm (k + 1) A) (lF : Live F s) (sF : F sysModules) (r : Reps w prog F s.heap vs ds) (hn : ds.length = n) (hZF : ∀ a, B.Z a → F a) (hq : P (rho0 (tbl.length - n) ds) (retW Q))
    (hb : ∀ env : Env, env.scope = scope → env.code = cd → Fx mg mb H env B F → SndSs prog w (A.deeper env) env tbl B F body P) :
    wpAny (model prog w) A (call (.ref a) vs) (fun v s' => ∃ d, Q d ∧ Rep w prog F s'.heap v d ∧ Evl B.toShared s' ∧ B.ZI s'.heap ∧ Aft B.Z s s') E s := by
  simp only [fnScope, Bool.and_eq_true, beq_iff_eq, Bool.not_eq_true', decide_eq_true_eq, List.all_eq_true, Bool.or_eq_true] at hs
  obtain ⟨⟨⟨⟨⟨⟨h1, h2⟩, h3⟩, h4⟩, h5⟩, h6⟩, h7⟩ := hs
  have ext : Ext H s.heap := fun b o q => hBe.heap b o id (hExt b o q)
  have hlen : as.length = vs.length := by rw [r.length, hn]; simpa using h6
  have hps : (as.map (·.arg)).Nodup := by rw [← h5]; exact List.Nodup.sublist (List.take_sublist _ _) h4
  have hkind : ∀ x ∈ (as.map (·.arg)).zip vs, scope.names.lookup x.1 = some .local ∨ (scope.names.lookup x.1 = some .cell ∧ ((cellsFrom (s.heap.objs.size + 1) scope.names []).lookup x.1).isSome = true) := fun x hx => by
    have hm : x.1 ∈ tbl := by
      have := (List.of_mem_zip hx).1
      rw [← h5] at this
      exact List.mem_of_mem_take this
    rcases (h7 _ hm).2 with q | q
    · exact .inl q
    · exact .inr ⟨q, cellsFrom_some _ _ _ _ q⟩
  refine wpAny_call (call_cells_ret (by have := hA.2.1; unfold recursionLimit; (first | lia | omega)) (ext _ _ ho) hd (hl.keeps ext) (hcd.keeps ext) (bind_plain hps hlen) hkind (fun h₁ tk Ff X => ?_) h3 h2 h1)
  generalize henv : envOfC name scope s.heap.objs.size a cd = env at *
  have el : env.locals = s.heap.objs.size := by rw [← henv]; rfl
  have ec : env.cells = cellsFrom (s.heap.objs.size + 1) scope.names [] := by rw [← henv]; rfl
  have es : env.scope = scope := by rw [← henv]; rfl
  have hk : ∀ x, env.kindOf x = scope.names.lookup x := fun x => by rw [← henv]; rfl
  have hlive : ∀ b, (b = env.locals ∨ ∃ x, env.cells.lookup x = some b) → (∃ o, h₁.get? b = some o) ∧ s.heap.objs.size ≤ b := fun b hb => by
    rcases hb with q | ⟨x, q⟩
    · rw [q, el]
      obtain ⟨o, _, _, e, _⟩ := Ff.ns
      exact ⟨⟨o, e⟩, Nat.le_refl _⟩
    · rw [ec] at q
      obtain ⟨o, e, _⟩ := X.cell x b q
      exact ⟨⟨o, e⟩, Nat.le_of_lt (X.above x b (mem_of_lookup q))⟩
  have hfresh : ∀ b, (b = env.locals ∨ ∃ x, env.cells.lookup x = some b) → s.heap.get? b = none := fun b hb => by
    cases e : s.heap.get? b with
    | none => rfl
    | some o => exact absurd (Nat.lt_of_lt_of_le (Heap.lt_size e) (hlive b hb).2) (Nat.lt_irrefl _)
  have ev : Evl s { s with heap := h₁, toks := tk } := Evl.of Ff.keep
  let W : Addr → Prop := fun b => (b = env.locals ∨ ∃ x, env.cells.lookup x = some b) ∨ B.Z b
  have R : Frm env tbl F W := by
    refine ⟨by rw [es]; exact h1, h4, fun x hx => ?_, fun x hx => ?_, fun x hx b c Hm => ?_, fun x hx b Hm => ?_⟩
    · have := (h7 x hx).1
      simpa [plainName] using this
    · rcases (h7 x hx).2 with q | q
      · exact ⟨_, _, .loc (by rw [hk]; exact q)⟩
      · obtain ⟨c, hc⟩ := Option.isSome_iff_exists.mp (cellsFrom_some scope.names (s.heap.objs.size + 1) [] x q)
        exact ⟨c, _, .cel (by rw [hk]; exact q) (by rw [ec]; exact hc)⟩
    · cases Hm with
      | loc _ => exact .inr (.inl (.inl rfl))
      | cel _ hc => exact .inr (.inl (.inr ⟨x, hc⟩))
      | fre _ hc => exact .inr (.inl (.inr ⟨x, hc⟩))
    · cases Hm with
      | loc _ => exact .inl (.inl rfl)
      | cel _ hc => exact .inl (.inr ⟨x, hc⟩)
  have S : St w prog env tbl B F W (rho0 (tbl.length - n) ds) { s with heap := h₁, toks := tk } := by
    refine ⟨hBe.trans ev, fun b hb => ?_, fun b hb => ?_, fun b hb => .inr hb, B.zs _ _ hBi fun b o _ e => Ff.keep b o e, _, _, fun _ => [], ⟨el ▸ Ff.ns, fun x c hc => X.cell x c (ec ▸ hc), ec ▸ X.apart, fun x c hc => ?_⟩, fun b hb => ⟨⟨fun q => ?_, fun x c hc q => ?_⟩, fun i lv hr hown q => by simp at q⟩, fun i lv hr hown => ?_, fun i lv hr hown => ?_, fun i x lv ht hr => ?_⟩
    · rcases hb with q | q | q
      · obtain ⟨o, e⟩ := lF b q; exact ⟨o, Ff.keep b o e⟩
      · exact (hlive b q).1
      · obtain ⟨_, o, e⟩ := hBz b q; exact ⟨o, Ff.keep b o e⟩
    · rcases hb with q | q
      · exact hBe.none (hfresh b q)
      · exact (hBz b q).1
    · rw [el]; exact Nat.ne_of_gt (X.above x c (mem_of_lookup (ec ▸ hc)))
    · obtain ⟨_, o, e⟩ := hBz b hb; rw [hfresh b (.inl q)] at e; cases e
    · obtain ⟨_, o, e⟩ := hBz b hb; rw [hfresh b (.inr ⟨x, q ▸ hc⟩)] at e; cases e
    · obtain ⟨d, _, rfl⟩ := rho0_at hr; cases hown
    · obtain ⟨d, _, rfl⟩ := rho0_at hr; cases hown
    · obtain ⟨d, hd, rfl⟩ := rho0_at hr
      obtain ⟨hi, _⟩ := List.getElem?_eq_some_iff.mp hd
      have hx : (as.map (·.arg))[i]? = some x := by rw [← h5, List.getElem?_take, if_pos (by (first | lia | omega))]; exact ht
      obtain ⟨v, hv, rv⟩ := r.get hd
      refine ⟨v, bind_new hps hx hv, rv.go fun b o hF e => ⟨fun q => q.elim hF fun q => ?_, Ff.keep b o e⟩⟩
      rcases q with q | q
      · rw [hfresh b q] at e; cases e
      · exact hF (hZF b q)
  have fx : Fx mg mb H env B F := ⟨G, hExt, by rw [← henv]; rfl, by rw [← henv]; rfl, by rw [es]; exact h1, sF⟩
  refine wpAny_mono (hb env es (by rw [← henv]; rfl) fx F W _ _ _ _ (fun _ q => q) S R hq) (fun f s' ⟨ρ', fl, W', hq', hf, S', R', g', a'⟩ => ?_) fun _ _ q => q
  have af : Aft B.Z s s' := Aft.trans' (Aft.mono ev fun _ q => q.elim) a' fun b hb => hb.elim (fun q => .inr (hfresh b q)) .inl
  cases hf with
  | next => exact ⟨_, hq', .none, S'.evl, S'.zi, af⟩
  | brk => exact hq'.elim
  | ret r' => exact ⟨_, hq', r'.anti fun b q => .inl q, S'.evl, S'.zi, af⟩
end Mine
end
section
open PySem PySem.Calls PyProof.Rows
open PySem.W (hideAll hideAll_get of_hideAll hideAll_none tabObj CodeHd)
namespace Mine
noncomputable def zBase (s : Shared) (P : Addr) : Base := { s with heap := hideAll s.heap [P], Z := fun a => a = P, ZI := fun h => ∃ ps, h.get? P = some (tabObj ps) ∧ TriplesOk ps.toList, zs := fun h h' ⟨ps, e, t⟩ k => ⟨ps, k P _ rfl e, t⟩ }
theorem hide_get {h : Heap} {P b : Addr} {o : Obj} (e : h.get? b = some o) (hb : b ≠ P) : (hideAll h [P]).get? b = some o := hideAll_get _ e (by simpa using hb)
theorem hide_none {h : Heap} {P : Addr} : (hideAll h [P]).get? P = none := hideAll_none _ (by simp)
structure Zh (H : Heap) (mg : Str → Option Value) (P : Addr) : Prop where
  bm : ∃ bm ob, mg "__builtins__" = some (.ref bm) ∧ bm ≠ builtinsNs ∧ H.get? bm = some ob ∧ ob.cls = .type "module" ∧ ob.dict = some builtinsNs ∧ ob.data = .plain
  lim : H.NoLimit
  np : H.get? P = none
noncomputable def CodeOf (H : Heap) (mg : Str → Option Value) (P : Addr) (x : Str) : Prop := ∃ a o fd cc, mg x = some (.ref a) ∧ H.get? a = some o ∧ o.data = .func fd ∧ fd.code = .ref cc ∧ CodeHd H cc P
section
variable {prog : Program} {w : World} {H : Heap} {mg mb : Str → Option Value} {fs : List Fn} {gen : Str} {P : Addr}
theorem Zh.zn (Z : Zh H mg P) (s : Shared) : Zn H mg (zBase s P) P := ⟨fun _ => Iff.rfl, fun _ => Iff.rfl, Z.bm, Z.lim⟩
theorem call_z (T : Tab prog w fs gen H mg mb) (Zh : Zh H mg P) {k f : Nat} {g : Fn} (hg : fs[f]? = some g) (htr : g.tr = true → CodeOf H mg P g.name)
    (hzf : ∀ (A : Around) (env : Env) (s : Shared) (N₀ : Addr → Prop), Rm k A → Fx mg mb H env (zBase s P) N₀ → ∀ f' ∈ g.zs, ∀ g', fs[f']? = some g' → ZFn prog w A env g.tbl (zBase s P) N₀ H mg g'.name (XN fs k f'))
    {A : Around} {s : Shared} {F : Addr → Prop} {vs : List Value} {ds : List D} {Q : D → Prop} {E : Value → Shared → Prop} (hA : Rm (k + 1) A) (hE : Ext H (hideAll s.heap [P])) (lF : Live F s) (sF : F sysModules) (hPF : F P) (hP : ∃ ps, s.heap.get? P = some (tabObj ps) ∧ TriplesOk ps.toList)
    (r : Reps w prog F s.heap vs ds) {a : Addr} (ha : mg g.name = some (.ref a)) (hq : XN fs (k + 1) f ds Q) :
    wpAny (model prog w) A (call (.ref a) vs) (fun v s' => ∃ d, Q d ∧ Rep w prog F s'.heap v d ∧ Aft (fun b => b = P) s s' ∧ ∃ ps, s'.heap.get? P = some (tabObj ps) ∧ TriplesOk ps.toList) E s := by
  obtain ⟨d, as, hd, hpar, hder, ⟨a', o, pm, cd, doc, h1, h2, h3, h4⟩⟩ := T.fns g (List.mem_of_getElem? hg)
  obtain ⟨e, hsc, _⟩ := okFn_inv hd
  rw [← e, ha] at h1; cases h1
  rw [hpar] at h3
  rw [XN, hg] at hq
  obtain ⟨hn, hq⟩ := hq
  obtain ⟨ps, hP1, hP2⟩ := hP
  have hBe : Evl (zBase s P).toShared s := ⟨fun b o _ q => of_hideAll _ q, fun _ _ q => q, id, rfl⟩
  refine wpAny_mono (call_zone (k := k) (P := exSs (XN fs k) g.body) (Q := Q) (F := F) T.gl T.lim h2 h3 h4 hsc (zBase s P) hBe (fun b hb => ?_) ⟨ps, hP1, hP2⟩ hE hA lF sF r hn (fun b hb => ?_) hq fun env he hec fx => ?_) (fun v s' ⟨d', hq', r', ev', zi', af'⟩ => ⟨d', hq', r', af', zi'⟩) fun _ _ q => q
  · have : b = P := hb
    subst this; exact ⟨hide_none, _, hP1⟩
  · have : b = P := hb
    subst this; exact hPF
  · have hA' := hA.deeper env
    have K := ok_of (g := g) T (plain_ok T k) hA' he fx
    refine hder ⟨K, fun _ => ⟨⟨k, hA'⟩, T.gfn⟩, fun _ f' x hzz hfx => ?_, fun q => ?_⟩
    · have hm : f' ∈ g.zs := List.contains_iff_mem.mp hzz
      have hfx' : (fs.map (·.name))[f']? = some x := hfx
      rw [List.getElem?_map, Option.map_eq_some_iff] at hfx'
      obtain ⟨g', hg', rfl⟩ := hfx'
      exact hzf _ env s _ hA' fx f' hm g' hg'
    · obtain ⟨a₂, o₂, fd, cc, c1, c2, c3, c4, c5⟩ := htr q
      rw [ha] at c1; cases c1
      rw [h2] at c2; cases c2
      rw [h3] at c3; cases c3
      exact ⟨P, cc, Zh.zn s, hec.trans c4, c5⟩
theorem zfn_z (T : Tab prog w fs gen H mg mb) (Zh : Zh H mg P) {k f : Nat} {g : Fn} (hg : fs[f]? = some g) (htr : g.tr = true → CodeOf H mg P g.name)
    (hzf : ∀ (A : Around) (env : Env) (s : Shared) (N₀ : Addr → Prop), Rm k A → Fx mg mb H env (zBase s P) N₀ → ∀ f' ∈ g.zs, ∀ g', fs[f']? = some g' → ZFn prog w A env g.tbl (zBase s P) N₀ H mg g'.name (XN fs k f'))
    {A : Around} {env : Env} {tbl : List Str} {sb : Shared} {N₀ : Addr → Prop} (hA : Rm (k + 1) A) (X : Fx mg mb H env (zBase sb P) N₀) : ZFn prog w A env tbl (zBase sb P) N₀ H mg g.name (XN fs (k + 1) f) := by
  obtain ⟨d, as, hd, _, _, ⟨a, o, pm, cd, doc, h1, h2, h3, h4⟩⟩ := T.fns g (List.mem_of_getElem? hg)
  obtain ⟨e, _, _⟩ := okFn_inv hd
  refine ⟨a, o, _, e ▸ h1, h2, h3, fun N W ρ s vs ds Q E hN S R r hq => ?_⟩
  have WP : W P := S.zw P rfl
  refine wpAny_mono (call_z T Zh hg htr hzf hA (fun b o q => ?_) S.live (.inl (hN _ X.sys)) (.inr WP) S.zi r (e ▸ h1) hq) (fun v s' ⟨d', hq', r', af, ps, z1, z2⟩ => ⟨d', hq', r', S.zone af ⟨ps, z1, z2⟩ fun b hb => by rw [show b = P from hb]; exact ⟨_, z1⟩, af.mono fun b hb => by rw [hb]; exact WP⟩) fun _ _ q => q
  exact hide_get (S.evl.heap b o id (X.ext b o q)) fun q2 => by rw [q2, Zh.np] at q; cases q
theorem law3_call (T : Tab prog w fs gen H mg mb) (Zh : Zh H mg P) {g0 g1 gl : Fn} {fl : Nat} (e0 : fs[0]? = some g0) (e1 : fs[1]? = some g1) (el : fs[fl]? = some gl) (z0 : g0.zs = [1]) (z1 : g1.zs = []) (zl : gl.zs = [0]) (t0 : g0.tr = false) (tl : gl.tr = false) (hc : CodeOf H mg P g1.name) {k : Nat}
    {A : Around} {s : Shared} {F : Addr → Prop} {vs : List Value} {ds : List D} {Q : D → Prop} {E : Value → Shared → Prop} (hA : Rm (k + 4) A) (hE : Ext H (hideAll s.heap [P])) (lF : Live F s) (sF : F sysModules) (hPF : F P) (hP : ∃ ps, s.heap.get? P = some (tabObj ps) ∧ TriplesOk ps.toList)
    (r : Reps w prog F s.heap vs ds) {a : Addr} (ha : mg gl.name = some (.ref a)) (hq : XN fs (k + 4) fl ds Q) :
    wpAny (model prog w) A (call (.ref a) vs) (fun v s' => ∃ d, Q d ∧ Rep w prog F s'.heap v d ∧ Aft (fun b => b = P) s s' ∧ ∃ ps, s'.heap.get? P = some (tabObj ps) ∧ TriplesOk ps.toList) E s := by
  refine call_z T Zh el (fun q => by rw [tl] at q; cases q) (fun A env s N₀ hA X f' hf' g' hg' => ?_) hA hE lF sF hPF hP r ha hq
  rw [zl, List.mem_singleton] at hf'
  subst hf'
  rw [e0] at hg'; cases hg'
  refine zfn_z T Zh e0 (fun q => by rw [t0] at q; cases q) (fun A env s N₀ hA X f' hf' g' hg' => ?_) hA X
  rw [z0, List.mem_singleton] at hf'
  subst hf'
  rw [e1] at hg'; cases hg'
  exact zfn_z T Zh e1 (fun _ => hc) (fun A env s N₀ hA X f' hf' => by rw [z1] at hf'; cases hf') hA X
end
end Mine
end
section
open PySem PySem.Calls PyProof.Rows
open PySem.W (hideAll hideAll_get of_hideAll hideAll_none tabObj CodeHd ghostOf TabsAt ghost_ns ghost_get)
namespace Mine
noncomputable def chkBi (p : Program) (loose : List Str) : Bool := biTab.all fun x => !startupNames.contains x.1 && !loose.contains x.1 && !((recsOf p).map (·.name)).contains x.1 && !((litsOf p).map (·.1)).contains x.1 && !((clssOf p loose).map (·.name)).contains x.1 && !(x.1 == ("__name__" : Str)) && bootBuiltins x.1 == some x.2
noncomputable def chkMax (p : Program) : Bool := match valOf p "CHAR_MAX" with
  | some (.int 127) => true
  | _ => false
theorem reps_ints {w : World} {prog : Program} {F : Addr → Prop} {h : Heap} {vs : List Value} {is : List Int} (H : IntsAre vs is) : Reps w prog F h vs (is.map .int) := by
  induction H with
  | nil => exact .nil
  | cons n t _ ih => exact .cons (.int n t) ih
theorem tab_of3 {p prog : Program} {w : World} {loose : List Str} {mean : ExcName → Option Value} {mg mb : Str → Option Value} {h : Heap} {fs : List Fn} {gen : Str} {gd zd : DefRec} (T : Top p loose mean mg mb h) (h1 : chkBi p loose = true) (h3 : chkMax p = true)
    (hg : gd ∈ recsOf p) (hgo : okGen gen gd = true) (hgp : ∃ ap, gd.params = ⟨[], [⟨"grouping", none, ap⟩], none, [], [], none, []⟩) (hgb : ∃ P k, gd.body = gAll P k)
    (hf : ∀ g ∈ fs, ∃ d as, okFn g d as = true ∧ d.params = ⟨[], as, none, [], [], none, []⟩ ∧ (∀ {H : Heap}, DerFn prog w H mg mb fs gen g d) ∧ d ∈ recsOf p) (hz : zd ∈ recsOf p) :
    ∃ P, h.get? P = some (tabObj #[]) ∧ isCodeTable h P ∧ Tab prog w fs gen (hideAll h [P]) mg mb ∧ Zh (hideAll h [P]) mg P ∧ CodeOf (hideAll h [P]) mg P zd.name := by
  obtain ⟨a, o, fd, c, P, t1, t2, t3, t4, t5, t6⟩ := T.tab zd hz
  have hP : h.get? P = some (tabObj #[]) := t6.2
  have hT : TabsAt [(c, P)] h := fun q hq => by rw [List.mem_singleton.mp hq]; exact ⟨.of t5 t6, hP⟩
  have gg : ∀ {b : Addr} {o : Obj}, h.get? b = some o → o ≠ tabObj #[] → (hideAll h [P]).get? b = some o := fun e hn => ghost_get hT e hn
  have G : Gl mg mb (hideAll h [P]) := ⟨ghost_ns hT T.g, ghost_ns hT T.b, fun x v hx => by
    have := List.all_eq_true.mp h1 (x, v) hx
    simp only [Bool.and_eq_true, Bool.not_eq_true', beq_iff_eq] at this
    obtain ⟨⟨⟨⟨⟨⟨k1, k2⟩, k3⟩, k4⟩, k5⟩, k6⟩, k7⟩ := this
    have nm : ∀ {l : List Str}, l.contains x = false → x ∉ l := fun q hm => by rw [List.contains_iff_mem.mpr hm] at q; cases q
    refine ⟨T.free x (nm k1) (nm k2) (nm k3) (nm k4) (nm k5), ?_⟩
    rw [T.builtins x (by simpa using k6)]; exact k7⟩
  have lim : (hideAll h [P]).NoLimit := let ⟨mc, a, r⟩ := T.nolimit; ⟨mc, ghost_ns hT a, r⟩
  have st : ∀ d ∈ recsOf p, Stands (hideAll h [P]) mg d := fun d hd => by
    obtain ⟨a, o, pm, cd, doc, e1, e2, e3, ⟨c₂, o₂, vs₂, t₂, rfl, g₂, d₂, r₂⟩⟩ := T.fn d hd
    exact ⟨a, o, pm, _, doc, e1, gg e2 (fun q => by rw [q] at e3; cases e3), e3, ⟨c₂, o₂, vs₂, t₂, rfl, gg g₂ (fun q => by rw [q] at d₂; injection d₂ with d₂; subst d₂; cases r₂), d₂, r₂⟩⟩
  refine ⟨P, hP, t6.isCodeTable, ⟨G, lim, ?_, fun g hg => ?_⟩, ⟨?_, lim, hide_none⟩, a, o, fd, c, t1, gg t2 (fun q => by rw [q] at t3; cases t3), t3, t4, ?_⟩
  · refine gfn_of G lim ?_ (st gd hg) hgo hgp hgb
    unfold chkMax at h3
    split at h3
    · rename_i hv
      obtain ⟨v, e, hr⟩ := T.const "CHAR_MAX" _ hv
      have := hr h
      cases this
      exact ⟨_, e⟩
    · cases h3
  · obtain ⟨d, as, a, b, c, e⟩ := hf g hg
    exact ⟨d, as, a, b, c, st d e⟩
  · obtain ⟨bm, ob, b1, b2, b3, b4, b5, b6⟩ := T.bmain
    exact ⟨bm, ob, b1, b2, gg b3 (fun q => by rw [q] at b4; cases b4), b4, b5, b6⟩
  · obtain ⟨o, vs, file, tf, flags, tg, inF, text, tt, e1, r1, r⟩ := (hT (c, P) (.head _)).1
    exact ⟨o, vs, file, tf, flags, tg, inF, text, tt, gg e1 (fun q => by rw [q] at r1; cases r1), r1, r⟩
theorem goodWG_true3 {c : PySem.W.ClaimW} {cl : Str → Option Addr} {mean : PySem.ExcName → Option Value} {args : List PySem.W.WData} {s₁ s' : Shared} {P : Addr} (hP : s₁.heap.get? P = some (tabObj #[])) (hc : isCodeTable s₁.heap P) (af : Aft (fun b => b = P) s₁ s') {ps : Array Value} (hP' : s'.heap.get? P = some (tabObj ps)) (hg : s₁.gens = #[]) (hn : ∀ cls, c.raises args cls = false) (hp : c.post args (.bool true) args = true) :
    PySem.W.GoodWG c cl mean args s₁ (.ok (.ret (.bool true))) s' := by
  refine ⟨.inl ⟨_, .bool true, [], rfl, hn, .bool true, hp, fun _ => ⟨List.nodup_nil, fun a ha => by cases ha⟩⟩, ⟨fun b o e => ?_, fun b o e => ?_⟩, af.os, af.bare ?_⟩
  · by_cases q : b = P
    · subst q
      rw [hP] at e; cases e
      exact .inr (.inl ⟨hc, rfl, #[], ps, rfl, by rw [Array.empty_append]; exact hP'⟩)
    · exact .inl (af.heap b o q e)
  · by_cases q : b = P
    · subst q; exact ⟨_, hP'⟩
    · exact ⟨o, af.heap b o q e⟩
  · rw [hg]; intro x hx; simp at hx
theorem law_true3 {prog : Program} {w : World} {H : Heap} {mg mb : Str → Option Value} {fs : List Fn} {gen : Str} {P : Addr} {s : Shared} (hH : hideAll s.heap [P] = H) (T : Tab prog w fs gen H mg mb) (Zh : Zh H mg P) {g0 g1 gl : Fn} {fl : Nat} (e0 : fs[0]? = some g0) (e1 : fs[1]? = some g1) (el : fs[fl]? = some gl) (z0 : g0.zs = [1]) (z1 : g1.zs = []) (zl : gl.zs = [0]) (t0 : g0.tr = false) (tl : gl.tr = false) (hc : CodeOf H mg P g1.name)
    (hP : s.heap.get? P = some (tabObj #[])) {o : Obj} (hS : s.heap.get? sysModules = some o) (hcl : o.cls = .type "dict") {a l : Addr} (ha : mg gl.name = some (.ref a)) {vs : List Value} {is : List Int} (hl : s.heap.IsList l vs.toArray) (hi : IntsAre vs is)
    (hq : XN fs 5 fl [.lst (is.map .int)] (fun d => d = .bool true)) {Q E : Value → Shared → Prop} (h : ∀ s' ps, Aft (fun b => b = P) s s' → s'.heap.get? P = some (tabObj ps) → Q (.bool true) s') : wpAny (model prog w) callerA (call (.ref a) [.ref l]) Q E s := by
  have hA : Rm 5 callerA := ⟨rfl, by show 1 + claimMargin + 5 < 500; unfold claimMargin; (first | lia | omega), by show 4 + 10 * 5 < 5000; (first | lia | omega)⟩
  have hne : ¬ (l = sysModules ∨ l = P) := fun q => by
    obtain ⟨o', e, hc', _⟩ := hl
    rcases q with q | q
    · rw [q, hS] at e; cases e
      rw [hcl] at hc'; simp at hc'
    · rw [q, hP] at e; cases e
      cases hc'
  refine wpAny_mono (law3_call (k := 1) (F := fun b => b = sysModules ∨ b = P) T Zh e0 e1 el z0 z1 zl t0 tl hc hA (by rw [hH]; exact Ext.refl _) (fun b hb => ?_) (.inl rfl) (.inr rfl) ⟨#[], hP, trivial⟩ (.cons (.lst hne hl (reps_ints hi)) .nil) ha hq) (fun v s' ⟨d, hd, r, af, ps, z, _⟩ => ?_) fun _ _ q => q
  · rcases hb with hb | hb
    · exact ⟨o, hb ▸ hS⟩
    · exact ⟨_, hb ▸ hP⟩
  · subst hd
    cases r
    exact h s' ps af z
end Mine
end
section
open PySem PySem.Calls PyProof.Rows
namespace Mine
noncomputable def q3 : Program := PySem.W.view PySem.Challenge.pw_wn0011_03 [1,2,3,5,6,8,9,10,11,12,13]
noncomputable def sysObs (s : Shared) : Option Value := (s.heap.get? sysModules).map (·.cls)
noncomputable def sysSays (h : Heap) : Prop := ∃ o, h.get? sysModules = some o ∧ o.cls = .type "dict"
theorem sys_of {s : Shared} (e : sysObs s = some (.type "dict")) : sysSays s.heap := by
  unfold sysObs at e
  cases h : s.heap.get? sysModules with
  | none => rw [h] at e; cases e
  | some o => rw [h] at e; injection e with e; exact ⟨o, h, e⟩
set_option maxRecDepth 100000
theorem left3 : PySem.W.LeftO PySem.Challenge.pw_wn0011_03 q3 [] (fun _ => true) sysObs (fun _ => some (.type "dict")) 1000 := fun w => by kernel_rfl
theorem law3_said : PySem.Challenge.rw_wn0011_03.wellSaid = true := by kernel_rfl
theorem law3_def : (PySem.W.defOf q3 (PySem.Str.ofString "law")).isSome = true := by kernel_rfl
noncomputable def d3k : DefRec × List (PySem.Str × PySem.Expr) := (PySem.W.defOf q3 (PySem.Str.ofString "law")).get law3_def
theorem law3_name : d3k.1.name = PySem.Str.ofString "law" := by kernel_rfl
open PySem.W PySem.W.X PySem.W.ZRun
theorem law3_row (hcall : WalkO q3 [] (fun _ _ => True) (fun _ h => sysSays h) PySem.Challenge.rw_wn0011_03.row.toRowW d3k.1 d3k.2 fun f vs => PySem.call f vs) : PySem.Challenge.rw_wn0011_03.Holds :=
  holds_law law3_said fun said => holds_open (q := q3) (loose := []) (Xt := fun _ => true) (XP := fun _ _ => True) (Yf := sysObs) (Ya := fun _ => some (.type "dict")) (YP := fun _ h => sysSays h) (d := d3k.1) (kwd := d3k.2) (N := 1000)
    left3 (fun _ _ e => sys_of e) (fun _ _ _ ⟨o, e, c⟩ k => ⟨o, k _ _ e, c⟩) (fun _ _ => trivial) (fun _ _ _ _ _ => trivial) (by kernel_rfl) (by kernel_rfl) (by kernel_rfl) (fun s _ => recFacts_nil rfl) rfl
    said (by kernel_rfl) ⟨rfl, rfl, rfl, rfl, rfl, by decide +kernel⟩ (by w_witness2) hcall
end Mine
end
section
open PySem PySem.Calls PyProof.Rows
namespace Mine
noncomputable def b3_add_func_stats : List S := [
  .unpack [2, 3, 4, 5, 6] (.var 1),
  .unpack [7, 8, 9, 10, 11] (.var 0),
  .zret (.bin .add (.var 2) (.var 7)) (.bin .add (.var 3) (.var 8)) (.bin .add (.var 4) (.var 9)) (.bin .add (.var 5) (.var 10)) 1 [(.var 11), (.var 6)]]
noncomputable def f3_add_func_stats : Fn := { name := "add_func_stats", n := 2, tbl := ["target", "source", "cc", "nc", "tt", "ct", "callers", "t_cc", "t_nc", "t_tt", "t_ct", "t_callers"], body := b3_add_func_stats, zs := [1] }
noncomputable def b3_add_callers_1 : List S := [.setitem 2 (.var 3) (.var 4)]
noncomputable def b3_add_callers_2 : List S := [.ife (.oin false (.var 3) 2) [.ife (.bi .isTuple [(.var 4)]) [.setpair 2 (.var 3) (.var 4) (.osub 2 (.var 3))] [.augitem 2 (.var 3) .add (.var 4)]] [.setitem 2 (.var 3) (.var 4)]]
noncomputable def b3_add_callers : List S := [
  .assignO 2 (.dct []),
  .fore (.tp [3, 4]) (.items (.var 0)) b3_add_callers_1 [3, 4],
  .fore (.tp [3, 4]) (.items (.var 1)) b3_add_callers_2 [3, 4],
  .freeze 2,
  .ret (.var 2)]
noncomputable def f3_add_callers : Fn := { name := "add_callers", n := 2, tbl := ["target", "source", "new_callers", "func", "caller"], body := b3_add_callers, tr := true }
noncomputable def b3_count_calls_1 : List S := [.aug 1 .add (.var 2)]
noncomputable def b3_count_calls : List S := [
  .assign 1 (.int 0),
  .fore (.nm 2) (.values (.var 0)) b3_count_calls_1 [2],
  .ret (.var 1)]
noncomputable def f3_count_calls : Fn := { name := "count_calls", n := 1, tbl := ["callers", "nc", "calls"], body := b3_count_calls }
noncomputable def b3_law_coins_1 : List S := [.augitem 1 (.bin .mod (.var 2) (.int 3)) .add (.var 3)]
noncomputable def b3_law_coins_2 : List S := [.assign 7 (.bin .mod (.var 6) (.bin .pow (.int 10) (.int 6))), .assign 8 (.bin .add (.int 1) (.bin .mod (.var 7) (.int 4))), .assign 9 (.bin .add (.int 1) (.bin .mod (.bin .fdiv (.var 7) (.int 4)) (.int 3))), .assign 10 (.sub (.lst [(.lst []), (.lst [(.int 0), (.int 5)]), (.lst [(.int 127), (.bin .sub (.var 8) (.int 127))]), (.lst [(.int 0)])]) (.bin .mod (.bin .fdiv (.var 7) (.int 12)) (.int 4))), .append 4 (.tup [(.var 5), (.var 8), (.var 9), (.cmp .isin (.int 0) (.var 10)), (.bin .add (.bin .mul (.lst [(.var 8)]) (.var 9)) (.var 10)), (.var 6)])]
noncomputable def b3_law_coins : List S := [
  .assignO 1 (.lst [(.int 36), (.int 29), (.int 2)]),
  .fore (.tp [2, 3]) (.enum (.slice (.var 0) .none (.int 60))) b3_law_coins_1 [2, 3],
  .freeze 1,
  .assignO 4 (.lst []),
  .fore (.tp [5, 6]) (.zip [(.str "abc"), (.var 1)]) b3_law_coins_2 [5, 6, 7, 8, 9, 10],
  .freeze 4,
  .ret (.var 4)]
noncomputable def f3_law_coins : Fn := { name := "_law_coins", n := 1, tbl := ["script", "totals", "place", "number", "coins", "name", "total", "drawn", "worth", "most", "ending"], body := b3_law_coins }
noncomputable def b3_law_amounts_1 : List S := [.aug 3 .add (.var 5), .aug 4 .add (.int 1), .ife (.cmp .le (.var 3) (.var 1)) [.append 2 (.var 3)] [], .ife (.cmp .eq (.var 4) (.bin .add (.var 1) (.int 2))) [.brk] []]
noncomputable def b3_law_amounts : List S := [
  .assignO 2 (.lst [(.int 0)]),
  .assign 3 (.int 0),
  .assign 4 (.int 0),
  .forgen 5 (.var 0) b3_law_amounts_1 [5],
  .freeze 2,
  .ret (.var 2)]
noncomputable def f3_law_amounts : Fn := { name := "_law_amounts", n := 2, tbl := ["row", "price", "amounts", "amount", "told", "size"], body := b3_law_amounts }
noncomputable def b3_law_multiples : List S := [
  .assign 2 (.bin .fdiv (.var 1) (.sub (.var 0) (.int 1))),
  .ife (.not (.sub (.var 0) (.int 3))) [.assign 2 (.bi .min [(.var 2), (.sub (.var 0) (.int 2))])] [],
  .ret (.lcomp (.bin .mul (.sub (.var 0) (.int 1)) (.var 1)) (.nm 1) (.range [(.bin .add (.var 2) (.int 1))]) [] [] [some 0, none] ["coin", "piece"])]
noncomputable def f3_law_multiples : Fn := { name := "_law_multiples", n := 2, tbl := ["coin", "price", "pieces"], body := b3_law_multiples }
noncomputable def b3_law_entry_1 : List S := [.setitem 6 (.sub (.var 7) (.int 0)) (.ite (.var 2) (.tup [(.var 8), (.var 10)]) (.var 9))]
noncomputable def b3_law_entry : List S := [
  .assign 3 (.lcomp (.bin .mul (.var 1) (.sub (.var 0) (.int 1))) (.tp [0, 1]) (.zip [(.var 0), (.var 1)]) [] [] [none, none] ["coin", "count"]),
  .assign 4 (.lcomp (.bin .mul (.var 1) (.sub (.var 0) (.int 5))) (.tp [0, 1]) (.zip [(.var 0), (.var 1)]) [] [] [none, none] ["coin", "count"]),
  .assign 5 (.bi .sum [(.lcomp (.bin .mul (.var 1) (.sub (.var 0) (.int 5))) (.tp [0, 1]) (.zip [(.var 0), (.var 3)]) [] [] [none, none] ["coin", "worth"])]),
  .assignO 6 (.dct []),
  .fore (.tp [7, 8, 9, 10]) (.zip [(.var 0), (.var 1), (.var 3), (.var 4)]) b3_law_entry_1 [7, 8, 9, 10],
  .freeze 6,
  .ret (.tup [(.bi .sum [(.var 1)]), (.bi .sum [(.var 3)]), (.bi .sum [(.var 4)]), (.var 5), (.var 6)])]
noncomputable def f3_law_entry : Fn := { name := "_law_entry", n := 3, tbl := ["coins", "pieces", "paired", "worths", "weights", "both", "callers", "coin", "count", "worth", "weight"], body := b3_law_entry }
noncomputable def b3_law_owed_1 : List S := [.augitem2 2 (.var 5) (.var 3) .add (.int 1)]
noncomputable def b3_law_owed_2 : List S := [.augitem2 2 (.var 5) (.var 3) .sub (.bin .add (.sub (.var 4) (.int 2)) (.int 1))]
noncomputable def b3_law_owed_3 : List S := [.fore (.nm 5) (.ex (.slice (.call 4 [(.lst [(.sub (.var 4) (.int 1)), (.int 0)]), (.var 1)]) (.int 1) .none)) b3_law_owed_1 [5], .ife (.not (.sub (.var 4) (.int 3))) [.fore (.nm 5) (.ex (.slice (.call 4 [(.lst [(.bin .mul (.sub (.var 4) (.int 1)) (.bin .add (.sub (.var 4) (.int 2)) (.int 1))), (.int 0)]), (.var 1)]) (.int 1) .none)) b3_law_owed_2 [5]] []]
noncomputable def b3_law_owed : List S := [
  .assignLL 2 [0, 0, 0] 0 (.range [(.bin .add (.var 1) (.int 1))]) [none] ["mark"],
  .fore (.tp [3, 4]) (.enum (.var 0)) b3_law_owed_3 [3, 4, 5],
  .freeze 2,
  .ret (.var 2)]
noncomputable def f3_law_owed : Fn := { name := "_law_owed", n := 2, tbl := ["coins", "price", "owed", "place", "coin", "mark"], body := b3_law_owed }
noncomputable def b3_law_1 : List S := [.ife (.cmp .isin (.bin .sub (.bin .sub (.var 3) (.var 7)) (.var 8)) (.sub (.var 4) (.int 2))) [.append 6 (.lst [(.bin .fdiv (.var 7) (.sub (.sub (.var 1) (.int 0)) (.int 1))), (.bin .fdiv (.var 8) (.sub (.sub (.var 1) (.int 1)) (.int 1))), (.bin .fdiv (.bin .sub (.bin .sub (.var 3) (.var 7)) (.var 8)) (.sub (.sub (.var 1) (.int 2)) (.int 1)))])] []]
noncomputable def b3_law_2 : List S := [.fore (.nm 8) (.ex (.sub (.var 4) (.int 1))) b3_law_1 [8]]
noncomputable def b3_law_3 : List S := [.zassign 9 0 [(.var 9), (.call 6 [(.var 1), (.var 10), (.var 2)])]]
noncomputable def b3_law_4 : List S := [.assign 16 (.lcomp (.bin .mul (.osub 0 (.bin .sub (.var 1) (.var 2))) (.var 3)) (.nm 3) (.ex (.sub (.var 11) (.var 15))) [] [] [some 12, some 14, some 15, none] ["ways", "goal", "mark", "count"]), .zassign 13 0 [(.var 13), (.call 6 [(.var 1), (.var 16), (.var 2)])]]
noncomputable def b3_law_5 : List S := [.assign 13 (.var 5), .fore (.nm 15) (.range [(.int 1), (.bin .add (.var 14) (.int 1))]) b3_law_4 [15, 16], .assign 17 (.ite (.var 2) (.sub (.var 13) (.int 1)) (.call 2 [(.sub (.var 13) (.int 4))])), .ife (.cmp .ne (.bin .mod (.var 17) (.var 14)) (.int 0)) [.ret (.bool false)] [], .append 12 (.bin .fdiv (.var 17) (.var 14))]
noncomputable def b3_law : List S := [
  .assign 1 (.call 3 [(.var 0)]),
  .assign 2 (.cmp .eq (.bin .mod (.bi .sum [(.slice (.var 0) .none (.int 60))]) (.int 2)) (.int 1)),
  .assign 3 (.bin .add (.int 4) (.bin .mod (.bin .add (.int 67) (.bi .sum [(.slice (.var 0) .none (.int 60))])) (.int 3))),
  .assign 4 (.lcomp (.call 4 [(.sub (.var 1) (.int 4)), (.var 0)]) (.nm 1) (.ex (.var 1)) [] [] [some 3, none] ["price", "coin"]),
  .ife (.cmp .ne (.var 4) (.lcomp (.call 5 [(.var 1), (.var 0)]) (.nm 1) (.ex (.var 1)) [] [] [some 3, none] ["price", "coin"])) [.ret (.bool false)] [],
  .assign 5 (.call 6 [(.var 1), (.lst [(.int 0), (.int 0), (.int 0)]), (.var 2)]),
  .assignO 6 (.lst []),
  .fore (.nm 7) (.ex (.sub (.var 4) (.int 0))) b3_law_2 [7, 8],
  .freeze 6,
  .assign 9 (.tup [(.int 0), (.int 0), (.int 0), (.int 0), (.dct [])]),
  .fore (.nm 10) (.ex (.bin .add (.var 6) (.lst [(.lst [(.int 0), (.int 0), (.int 0)])]))) b3_law_3 [10],
  .assign 11 (.call 7 [(.var 1), (.var 3)]),
  .assignO 12 (.lst [(.int 1)]),
  .assign 13 (.var 5),
  .fore (.nm 14) (.range [(.int 1), (.bin .add (.var 3) (.int 1))]) b3_law_5 [14, 15, 16, 17],
  .freeze 12,
  .assign 18 (.lcomp (.bi .sum [(.lcomp (.sub (.var 1) (.var 0)) (.nm 1) (.ex (.var 0)) [] [] [some 1, none] ["place", "pieces"])]) (.nm 1) (.range [(.int 3)]) [] [] [some 6, none] ["payments", "place"]),
  .ife (.bop false [(.cmp .ne (.var 13) (.var 9)), (.cmp .ne (.var 9) (.call 6 [(.var 1), (.var 18), (.var 2)]))]) [.ret (.bool false)] [],
  .ret (.bop false [(.var 2), (.cmp .eq (.sub (.var 12) (.var 3)) (.bi .len [(.var 6)]))])]
noncomputable def f3_law : Fn := { name := "law", n := 1, tbl := ["script", "coins", "paired", "price", "amounts", "nothing", "payments", "one", "two", "total", "pieces", "owed", "ways", "book", "goal", "mark", "owing", "money", "plain"], body := b3_law, zs := [0] }
noncomputable def fs3 : List Fn := [f3_add_func_stats, f3_add_callers, f3_count_calls, f3_law_coins, f3_law_amounts, f3_law_multiples, f3_law_entry, f3_law_owed, f3_law]
end Mine
end
section
open PySem PySem.Calls PyProof.Rows
set_option maxHeartbeats 4000000
namespace Mine
theorem d3_add_func_stats {prog : Program} {w : World} {H : Heap} {mg mb : Str → Option Value} : DerFn prog w H mg mb fs3 "_grouping_intervals" f3_add_func_stats (recAt PySem.Challenge.pw_wn0011_03 1) := fun {X A env s₀ N₀} K =>
  (sCons K (sUnp K rfl (by decide +kernel) rfl (swap_name _ _) (dVar rfl)) (sCons K (sUnp K rfl (by decide +kernel) rfl (swap_name _ _) (dVar rfl)) (sCons K (sZret K rfl 1 (by decide +kernel) rfl (by decide +kernel) rfl rfl (dCons rfl (dVar rfl) (dCons rfl (dVar rfl) dNil)) rfl rfl rfl rfl (dBin .add (dVar rfl) (dVar rfl)) (dBin .add (dVar rfl) (dVar rfl)) (dBin .add (dVar rfl) (dVar rfl)) (dBin .add (dVar rfl) (dVar rfl))) (sNil K))))
theorem d3_add_callers {prog : Program} {w : World} {H : Heap} {mg mb : Str → Option Value} : DerFn prog w H mg mb fs3 "_grouping_intervals" f3_add_callers (recAt PySem.Challenge.pw_wn0011_03 2) := fun {X A env s₀ N₀} K =>
  (sCons K (sAsgO K (by decide +kernel) rfl oDct0) (sCons K (sFor K rfl (iItems K.ok rfl rfl rfl) (by decide +kernel) rfl (sCons K (sSet K rfl rfl (dVar rfl) (dVar rfl)) (sNil K))) (sCons K (sFor K rfl (iItems K.ok rfl rfl rfl) (by decide +kernel) rfl (sCons K (sIf K (cIn K.ok rfl (dVar rfl)) (sCons K (sIf K (cIsT K.ok rfl (by decide +kernel) (by decide +kernel) rfl (dVar rfl)) (sCons K (sPair K rfl rfl rfl (by decide +kernel) (by decide +kernel) rfl rfl rfl (by decide +kernel) rfl rfl rfl (by decide +kernel) rfl rfl rfl (dVar rfl) (dVar rfl) (dOsub K.ok rfl rfl (dVar rfl))) (sNil K)) (sCons K (sAugi K .add rfl rfl (dVar rfl) (dVar rfl)) (sNil K))) (sNil K)) (sCons K (sSet K rfl rfl (dVar rfl) (dVar rfl)) (sNil K))) (sNil K))) (sFrz K rfl (sCons K (sRet K (dVar rfl)) (sNil K))))))
theorem d3_count_calls {prog : Program} {w : World} {H : Heap} {mg mb : Str → Option Value} : DerFn prog w H mg mb fs3 "_grouping_intervals" f3_count_calls (recAt PySem.Challenge.pw_wn0011_03 3) := fun {X A env s₀ N₀} K =>
  (sCons K (sAsg K (by decide +kernel) rfl dInt) (sCons K (sFor K rfl (iValues K.ok rfl rfl rfl) (by decide +kernel) rfl (sCons K (sAug K .add (by decide +kernel) (dVar rfl)) (sNil K))) (sCons K (sRet K (dVar rfl)) (sNil K))))
theorem d3_law_coins {prog : Program} {w : World} {H : Heap} {mg mb : Str → Option Value} : DerFn prog w H mg mb fs3 "_grouping_intervals" f3_law_coins (recAt PySem.Challenge.pw_wn0011_03 8) := fun {X A env s₀ N₀} K =>
  (sCons K (sAsgO K (by decide +kernel) rfl (oLst (dCons rfl dInt (dCons rfl dInt (dCons rfl dInt dNil))))) (sCons K (sFor K rfl (iEnum K.ok rfl (by decide +kernel) rfl (dSlice (dVar rfl) dPn (dPs dInt))) (by decide +kernel) rfl (sCons K (sAugi K .add rfl rfl (dBin .mod (dVar rfl) dInt) (dVar rfl)) (sNil K))) (sFrz K rfl (sCons K (sAsgO K (by decide +kernel) rfl (oLst dNil)) (sCons K (sFor K rfl (iZip K.ok rfl (by decide +kernel) rfl rfl (dCons rfl dStr (dCons rfl (dVar rfl) dNil))) (by decide +kernel) rfl (sCons K (sAsg K (by decide +kernel) rfl (dBin .mod (dVar rfl) (dBin .pow dInt dInt))) (sCons K (sAsg K (by decide +kernel) rfl (dBin .add dInt (dBin .mod (dVar rfl) dInt))) (sCons K (sAsg K (by decide +kernel) rfl (dBin .add dInt (dBin .mod (dBin .fdiv (dVar rfl) dInt) dInt))) (sCons K (sAsg K (by decide +kernel) rfl (dSub rfl (snd_own (oLst (dCons rfl (snd_own (oLst dNil)) (dCons rfl (snd_own (oLst (dCons rfl dInt (dCons rfl dInt dNil)))) (dCons rfl (snd_own (oLst (dCons rfl dInt (dCons rfl (dBin .sub (dVar rfl) dInt) dNil)))) (dCons rfl (snd_own (oLst (dCons rfl dInt dNil))) dNil)))))) (dBin .mod (dBin .fdiv (dVar rfl) dInt) dInt))) (sCons K (sApp K rfl rfl rfl (dTup (dCons rfl (dVar rfl) (dCons rfl (dVar rfl) (dCons rfl (dVar rfl) (dCons rfl (dCmp K.ok .isin (by decide) rfl dInt (dVar rfl)) (dCons rfl (dBin .add (dBin .mul (snd_own (oLst (dCons rfl (dVar rfl) dNil))) (dVar rfl)) (dVar rfl)) (dCons rfl (dVar rfl) dNil)))))))) (sNil K))))))) (sFrz K rfl (sCons K (sRet K (dVar rfl)) (sNil K))))))))
theorem d3_law_amounts {prog : Program} {w : World} {H : Heap} {mg mb : Str → Option Value} : DerFn prog w H mg mb fs3 "_grouping_intervals" f3_law_amounts (recAt PySem.Challenge.pw_wn0011_03 9) := fun {X A env s₀ N₀} K =>
  (sCons K (sAsgO K (by decide +kernel) rfl (oLst (dCons rfl dInt dNil))) (sCons K (sAsg K (by decide +kernel) rfl dInt) (sCons K (sAsg K (by decide +kernel) rfl dInt) (sCons K (sFgen K rfl (by decide +kernel) rfl (by decide +kernel) (dVar rfl) (sCons K (sAug K .add (by decide +kernel) (dVar rfl)) (sCons K (sAug K .add (by decide +kernel) dInt) (sCons K (sIf K (cCmp K.ok .le (by decide) rfl (dVar rfl) (dVar rfl)) (sCons K (sApp K rfl rfl rfl (dVar rfl)) (sNil K)) (sNil K)) (sCons K (sIf K (cCmp K.ok .eq (by decide) rfl (dVar rfl) (dBin .add (dVar rfl) dInt)) (sCons K (sBrk K) (sNil K)) (sNil K)) (sNil K)))))) (sFrz K rfl (sCons K (sRet K (dVar rfl)) (sNil K)))))))
theorem d3_law_multiples {prog : Program} {w : World} {H : Heap} {mg mb : Str → Option Value} : DerFn prog w H mg mb fs3 "_grouping_intervals" f3_law_multiples (recAt PySem.Challenge.pw_wn0011_03 10) := fun {X A env s₀ N₀} K =>
  (sCons K (sAsg K (by decide +kernel) rfl (dBin .fdiv (dVar rfl) (dSub rfl (dVar rfl) dInt))) (sCons K (sIf K (cNot (cSub rfl (dVar rfl) dInt)) (sCons K (sAsg K (by decide +kernel) rfl (dBi K.ok .min rfl (by decide +kernel) (by decide +kernel) rfl rfl (dCons rfl (dVar rfl) (dCons rfl (dSub rfl (dVar rfl) dInt) dNil)))) (sNil K)) (sNil K)) (sCons K (sRet K (dK (kLc1 K.ok rfl rfl (by decide +kernel) (iRange K.ok rfl (by decide +kernel) rfl rfl (dCons rfl (dBin .add (dVar rfl) dInt) dNil)) rfl (by decide +kernel) rfl (by decide +kernel) (fun K => fNil) (fun K => (dBin .mul (dSub rfl (dVar rfl) dInt) (dVar rfl)))))) (sNil K))))
theorem d3_law_entry {prog : Program} {w : World} {H : Heap} {mg mb : Str → Option Value} : DerFn prog w H mg mb fs3 "_grouping_intervals" f3_law_entry (recAt PySem.Challenge.pw_wn0011_03 11) := fun {X A env s₀ N₀} K =>
  (sCons K (sAsgK K (by decide +kernel) (kLc1 K.ok rfl rfl (by decide +kernel) (iZip K.ok rfl (by decide +kernel) rfl rfl (dCons rfl (dVar rfl) (dCons rfl (dVar rfl) dNil))) rfl (by decide +kernel) rfl (by decide +kernel) (fun K => fNil) (fun K => (dBin .mul (dVar rfl) (dSub rfl (dVar rfl) dInt))))) (sCons K (sAsgK K (by decide +kernel) (kLc1 K.ok rfl rfl (by decide +kernel) (iZip K.ok rfl (by decide +kernel) rfl rfl (dCons rfl (dVar rfl) (dCons rfl (dVar rfl) dNil))) rfl (by decide +kernel) rfl (by decide +kernel) (fun K => fNil) (fun K => (dBin .mul (dVar rfl) (dSub rfl (dVar rfl) dInt))))) (sCons K (sAsg K (by decide +kernel) rfl (dBi K.ok .sum rfl (by decide +kernel) (by decide +kernel) rfl rfl (dCons rfl (dK (kLc1 K.ok rfl rfl (by decide +kernel) (iZip K.ok rfl (by decide +kernel) rfl rfl (dCons rfl (dVar rfl) (dCons rfl (dVar rfl) dNil))) rfl (by decide +kernel) rfl (by decide +kernel) (fun K => fNil) (fun K => (dBin .mul (dVar rfl) (dSub rfl (dVar rfl) dInt))))) dNil))) (sCons K (sAsgO K (by decide +kernel) rfl oDct0) (sCons K (sFor K rfl (iZip K.ok rfl (by decide +kernel) rfl rfl (dCons rfl (dVar rfl) (dCons rfl (dVar rfl) (dCons rfl (dVar rfl) (dCons rfl (dVar rfl) dNil))))) (by decide +kernel) rfl (sCons K (sSet K rfl rfl (dSub rfl (dVar rfl) dInt) (dIte (cVar rfl) (dTup (dCons rfl (dVar rfl) (dCons rfl (dVar rfl) dNil))) (dVar rfl))) (sNil K))) (sFrz K rfl (sCons K (sRet K (dTup (dCons rfl (dBi K.ok .sum rfl (by decide +kernel) (by decide +kernel) rfl rfl (dCons rfl (dVar rfl) dNil)) (dCons rfl (dBi K.ok .sum rfl (by decide +kernel) (by decide +kernel) rfl rfl (dCons rfl (dVar rfl) dNil)) (dCons rfl (dBi K.ok .sum rfl (by decide +kernel) (by decide +kernel) rfl rfl (dCons rfl (dVar rfl) dNil)) (dCons rfl (dVar rfl) (dCons rfl (dVar rfl) dNil))))))) (sNil K))))))))
theorem d3_law_owed {prog : Program} {w : World} {H : Heap} {mg mb : Str → Option Value} : DerFn prog w H mg mb fs3 "_grouping_intervals" f3_law_owed (recAt PySem.Challenge.pw_wn0011_03 12) := fun {X A env s₀ N₀} K =>
  (sCons K (sAsgLL K rfl (by decide +kernel) rfl (by decide +kernel) (iRange K.ok rfl (by decide +kernel) rfl rfl (dCons rfl (dBin .add (dVar rfl) dInt) dNil)) rfl rfl (by decide +kernel) rfl (by decide) (fun K => (oLst (dCons rfl dInt (dCons rfl dInt (dCons rfl dInt dNil)))))) (sCons K (sFor K rfl (iEnum K.ok rfl (by decide +kernel) rfl (dVar rfl)) (by decide +kernel) rfl (sCons K (sFor K rfl (iEx K.ok rfl rfl (dSlice (dCall K.ok 4 rfl rfl (by decide +kernel) (by decide +kernel) rfl rfl (dCons rfl (snd_own (oLst (dCons rfl (dSub rfl (dVar rfl) dInt) (dCons rfl dInt dNil)))) (dCons rfl (dVar rfl) dNil))) (dPs dInt) dPn)) (by decide +kernel) rfl (sCons K (sAug2 K .add rfl rfl rfl (dVar rfl) (dVar rfl) dInt) (sNil K))) (sCons K (sIf K (cNot (cSub rfl (dVar rfl) dInt)) (sCons K (sFor K rfl (iEx K.ok rfl rfl (dSlice (dCall K.ok 4 rfl rfl (by decide +kernel) (by decide +kernel) rfl rfl (dCons rfl (snd_own (oLst (dCons rfl (dBin .mul (dSub rfl (dVar rfl) dInt) (dBin .add (dSub rfl (dVar rfl) dInt) dInt)) (dCons rfl dInt dNil)))) (dCons rfl (dVar rfl) dNil))) (dPs dInt) dPn)) (by decide +kernel) rfl (sCons K (sAug2 K .sub rfl rfl rfl (dVar rfl) (dVar rfl) (dBin .add (dSub rfl (dVar rfl) dInt) dInt)) (sNil K))) (sNil K)) (sNil K)) (sNil K)))) (sFrz K rfl (sCons K (sRet K (dVar rfl)) (sNil K)))))
theorem d3_law {prog : Program} {w : World} {H : Heap} {mg mb : Str → Option Value} : DerFn prog w H mg mb fs3 "_grouping_intervals" f3_law (recAt PySem.Challenge.pw_wn0011_03 13) := fun {X A env s₀ N₀} K =>
  (sCons K (sAsg K (by decide +kernel) rfl (dCall K.ok 3 rfl rfl (by decide +kernel) (by decide +kernel) rfl rfl (dCons rfl (dVar rfl) dNil))) (sCons K (sAsg K (by decide +kernel) rfl (dCmp K.ok .eq (by decide) rfl (dBin .mod (dBi K.ok .sum rfl (by decide +kernel) (by decide +kernel) rfl rfl (dCons rfl (dSlice (dVar rfl) dPn (dPs dInt)) dNil)) dInt) dInt)) (sCons K (sAsg K (by decide +kernel) rfl (dBin .add dInt (dBin .mod (dBin .add dInt (dBi K.ok .sum rfl (by decide +kernel) (by decide +kernel) rfl rfl (dCons rfl (dSlice (dVar rfl) dPn (dPs dInt)) dNil))) dInt))) (sCons K (sAsgK K (by decide +kernel) (kLc1 K.ok rfl rfl (by decide +kernel) (iEx K.ok rfl rfl (dVar rfl)) rfl (by decide +kernel) rfl (by decide +kernel) (fun K => fNil) (fun K => (dCall K 4 rfl rfl (by decide +kernel) (by decide +kernel) rfl rfl (dCons rfl (dSub rfl (dVar rfl) dInt) (dCons rfl (dVar rfl) dNil)))))) (sCons K (sIf K (cCmp K.ok .ne (by decide) rfl (dVar rfl) (dK (kLc1 K.ok rfl rfl (by decide +kernel) (iEx K.ok rfl rfl (dVar rfl)) rfl (by decide +kernel) rfl (by decide +kernel) (fun K => fNil) (fun K => (dCall K 5 rfl rfl (by decide +kernel) (by decide +kernel) rfl rfl (dCons rfl (dVar rfl) (dCons rfl (dVar rfl) dNil))))))) (sCons K (sRet K dBool) (sNil K)) (sNil K)) (sCons K (sAsg K (by decide +kernel) rfl (dCall K.ok 6 rfl rfl (by decide +kernel) (by decide +kernel) rfl rfl (dCons rfl (dVar rfl) (dCons rfl (snd_own (oLst (dCons rfl dInt (dCons rfl dInt (dCons rfl dInt dNil))))) (dCons rfl (dVar rfl) dNil))))) (sCons K (sAsgO K (by decide +kernel) rfl (oLst dNil)) (sCons K (sFor K rfl (iEx K.ok rfl rfl (dSub rfl (dVar rfl) dInt)) (by decide +kernel) rfl (sCons K (sFor K rfl (iEx K.ok rfl rfl (dSub rfl (dVar rfl) dInt)) (by decide +kernel) rfl (sCons K (sIf K (cCmp K.ok .isin (by decide) rfl (dBin .sub (dBin .sub (dVar rfl) (dVar rfl)) (dVar rfl)) (dSub rfl (dVar rfl) dInt)) (sCons K (sApp K rfl rfl rfl (snd_own (oLst (dCons rfl (dBin .fdiv (dVar rfl) (dSub rfl (dSub rfl (dVar rfl) dInt) dInt)) (dCons rfl (dBin .fdiv (dVar rfl) (dSub rfl (dSub rfl (dVar rfl) dInt) dInt)) (dCons rfl (dBin .fdiv (dBin .sub (dBin .sub (dVar rfl) (dVar rfl)) (dVar rfl)) (dSub rfl (dSub rfl (dVar rfl) dInt) dInt)) dNil)))))) (sNil K)) (sNil K)) (sNil K))) (sNil K))) (sFrz K rfl (sCons K (sAsg K (by decide +kernel) rfl (dTup (dCons rfl dInt (dCons rfl dInt (dCons rfl dInt (dCons rfl dInt (dCons rfl (snd_own oDct0) dNil))))))) (sCons K (sFor K rfl (iEx K.ok rfl rfl (dBin .add (dVar rfl) (snd_own (oLst (dCons rfl (snd_own (oLst (dCons rfl dInt (dCons rfl dInt (dCons rfl dInt dNil))))) dNil))))) (by decide +kernel) rfl (sCons K (sZasg K rfl 0 (by decide +kernel) rfl (by decide +kernel) rfl rfl (dCons rfl (dVar rfl) (dCons rfl (dCall K.ok 6 rfl rfl (by decide +kernel) (by decide +kernel) rfl rfl (dCons rfl (dVar rfl) (dCons rfl (dVar rfl) (dCons rfl (dVar rfl) dNil)))) dNil)) (by decide +kernel)) (sNil K))) (sCons K (sAsg K (by decide +kernel) rfl (dCall K.ok 7 rfl rfl (by decide +kernel) (by decide +kernel) rfl rfl (dCons rfl (dVar rfl) (dCons rfl (dVar rfl) dNil)))) (sCons K (sAsgO K (by decide +kernel) rfl (oLst (dCons rfl dInt dNil))) (sCons K (sAsg K (by decide +kernel) rfl (dVar rfl)) (sCons K (sFor K rfl (iRange K.ok rfl (by decide +kernel) rfl rfl (dCons rfl dInt (dCons rfl (dBin .add (dVar rfl) dInt) dNil))) (by decide +kernel) rfl (sCons K (sAsg K (by decide +kernel) rfl (dVar rfl)) (sCons K (sFor K rfl (iRange K.ok rfl (by decide +kernel) rfl rfl (dCons rfl dInt (dCons rfl (dBin .add (dVar rfl) dInt) dNil))) (by decide +kernel) rfl (sCons K (sAsgK K (by decide +kernel) (kLc1 K.ok rfl rfl (by decide +kernel) (iEx K.ok rfl rfl (dSub rfl (dVar rfl) (dVar rfl))) rfl (by decide +kernel) rfl (by decide +kernel) (fun K => fNil) (fun K => (dBin .mul (dOsub K rfl rfl (dBin .sub (dVar rfl) (dVar rfl))) (dVar rfl))))) (sCons K (sZasg K rfl 0 (by decide +kernel) rfl (by decide +kernel) rfl rfl (dCons rfl (dVar rfl) (dCons rfl (dCall K.ok 6 rfl rfl (by decide +kernel) (by decide +kernel) rfl rfl (dCons rfl (dVar rfl) (dCons rfl (dVar rfl) (dCons rfl (dVar rfl) dNil)))) dNil)) (by decide +kernel)) (sNil K)))) (sCons K (sAsg K (by decide +kernel) rfl (dIte (cVar rfl) (dSub rfl (dVar rfl) dInt) (dCall K.ok 2 rfl rfl (by decide +kernel) (by decide +kernel) rfl rfl (dCons rfl (dSub rfl (dVar rfl) dInt) dNil)))) (sCons K (sIf K (cCmp K.ok .ne (by decide) rfl (dBin .mod (dVar rfl) (dVar rfl)) dInt) (sCons K (sRet K dBool) (sNil K)) (sNil K)) (sCons K (sApp K rfl rfl rfl (dBin .fdiv (dVar rfl) (dVar rfl))) (sNil K))))))) (sFrz K rfl (sCons K (sAsgK K (by decide +kernel) (kLcC K.ok rfl rfl rfl (by decide +kernel) (by decide +kernel) (by decide +kernel) (by decide +kernel) (iRange K.ok rfl (by decide +kernel) rfl rfl (dCons rfl dInt dNil)) rfl rfl rfl rfl (fun K => (dBi K .sum rfl (by decide +kernel) (by decide +kernel) rfl rfl (dCons rfl (dK (kLc1 K rfl rfl (by decide +kernel) (iEx K rfl rfl (dVar rfl)) rfl (by decide +kernel) rfl (by decide +kernel) (fun K => fNil) (fun K => (dSub rfl (dVar rfl) (dVar rfl))))) dNil))))) (sCons K (sIf K (cBop false (cA false (cCmp K.ok .ne (by decide) rfl (dVar rfl) (dVar rfl)) (cA false (cCmp K.ok .ne (by decide) rfl (dVar rfl) (dCall K.ok 6 rfl rfl (by decide +kernel) (by decide +kernel) rfl rfl (dCons rfl (dVar rfl) (dCons rfl (dVar rfl) (dCons rfl (dVar rfl) dNil))))) (cA0 false)))) (sCons K (sRet K dBool) (sNil K)) (sNil K)) (sCons K (sRet K (dBop (dB2 false (dVar rfl) (dB1 false (dCmp K.ok .eq (by decide) rfl (dSub rfl (dVar rfl) (dVar rfl)) (dBi K.ok .len rfl (by decide +kernel) (by decide +kernel) rfl rfl (dCons rfl (dVar rfl) dNil))))))) (sNil K))))))))))))))))))))
theorem fs3_ok {prog : Program} {w : World} {mg mb : Str → Option Value} : ∀ g ∈ fs3, ∃ d as, okFn g d as = true ∧ d.params = ⟨[], as, none, [], [], none, []⟩ ∧ (∀ {H : Heap}, DerFn prog w H mg mb fs3 "_grouping_intervals" g d) ∧ d ∈ recsOf PySem.Challenge.pw_wn0011_03 := by
  intro g hg
  simp only [fs3, List.mem_cons, List.not_mem_nil, or_false] at hg
  rcases hg with rfl | rfl | rfl | rfl | rfl | rfl | rfl | rfl | rfl
  · exact ⟨recAt PySem.Challenge.pw_wn0011_03 1, _, by decide +kernel, rfl, d3_add_func_stats, List.mem_of_getElem? (i := 0) (by kernel_rfl)⟩
  · exact ⟨recAt PySem.Challenge.pw_wn0011_03 2, _, by decide +kernel, rfl, d3_add_callers, List.mem_of_getElem? (i := 1) (by kernel_rfl)⟩
  · exact ⟨recAt PySem.Challenge.pw_wn0011_03 3, _, by decide +kernel, rfl, d3_count_calls, List.mem_of_getElem? (i := 2) (by kernel_rfl)⟩
  · exact ⟨recAt PySem.Challenge.pw_wn0011_03 8, _, by decide +kernel, rfl, d3_law_coins, List.mem_of_getElem? (i := 4) (by kernel_rfl)⟩
  · exact ⟨recAt PySem.Challenge.pw_wn0011_03 9, _, by decide +kernel, rfl, d3_law_amounts, List.mem_of_getElem? (i := 5) (by kernel_rfl)⟩
  · exact ⟨recAt PySem.Challenge.pw_wn0011_03 10, _, by decide +kernel, rfl, d3_law_multiples, List.mem_of_getElem? (i := 6) (by kernel_rfl)⟩
  · exact ⟨recAt PySem.Challenge.pw_wn0011_03 11, _, by decide +kernel, rfl, d3_law_entry, List.mem_of_getElem? (i := 7) (by kernel_rfl)⟩
  · exact ⟨recAt PySem.Challenge.pw_wn0011_03 12, _, by decide +kernel, rfl, d3_law_owed, List.mem_of_getElem? (i := 8) (by kernel_rfl)⟩
  · exact ⟨recAt PySem.Challenge.pw_wn0011_03 13, _, by decide +kernel, rfl, d3_law, List.mem_of_getElem? (i := 9) (by kernel_rfl)⟩
theorem gen3_in : recAt PySem.Challenge.pw_wn0011_03 6 ∈ recsOf PySem.Challenge.pw_wn0011_03 := List.mem_of_getElem? (i := 3) (by kernel_rfl)
end Mine
end
section
open PySem PySem.Calls PyProof.Rows
namespace Mine
@[reducible] def atR : List (Option LV) → Nat → Option LV
  | [], _ => none
  | x :: _, 0 => x
  | _ :: r, n + 1 => atR r n
@[reducible] def setR : List (Option LV) → Nat → Option LV → List (Option LV)
  | [], _, _ => []
  | _ :: r, 0, v => v :: r
  | x :: r, n + 1, v => x :: setR r n v
theorem at_R : Rho.at = atR := by
  funext ρ i
  unfold Rho.at
  induction ρ generalizing i with
  | nil => rfl
  | cons x r ih => cases i with
    | zero => cases x <;> rfl
    | succ n => exact ih n
theorem set_R : (List.set : Rho → Nat → Option LV → Rho) = setR := by
  funext ρ i v
  induction ρ generalizing i with
  | nil => rfl
  | cons x r ih => cases i with
    | zero => rfl
    | succ n => exact congrArg (x :: ·) (ih n)
theorem evE_varR (X : Fns) (i) (ρ) (Q) : evE X (.var i) ρ Q = (match atR ρ i with
    | some (.sh d) => Q d
    | _ => False) := by rw [← at_R]; rfl
theorem evE_osubR (X : Fns) (x) (i) (ρ) (Q) : evE X (.osub x i) ρ Q = (match atR ρ x with
    | some (.ol ds) => evE X i ρ fun b => subW (.lst ds) b Q
    | some (.od ds) => evE X i ρ fun b => subW (.dct ds) b Q
    | _ => False) := by rw [← at_R]; rfl
theorem evC_oinR (X : Fns) (neg) (e) (x) (ρ) (Q) : evC X (.oin neg e x) ρ Q = (evE X e ρ fun a => match atR ρ x with
    | some (.ol ds) => cmpW (if neg then .notin else .isin) a (.lst ds) Q
    | some (.od ds) => cmpW (if neg then .notin else .isin) a (.dct ds) Q
    | _ => False) := by rw [← at_R]; rfl
theorem evC_varR (X : Fns) (i) (ρ) (Q) : evC X (.var i) ρ Q = (match atR ρ i with
    | some (.sh d) => truthW d Q
    | _ => False) := by rw [← at_R]; rfl
theorem exS_assignR (X : Fns) (i) (e) (ρ) (Q) : exS X (.assign i e) ρ Q = (evE X e ρ fun d => Q (setR ρ i (some (.sh d))) .next) := by rw [← set_R]; rfl
theorem exS_assignOR (X : Fns) (i) (e) (ρ) (Q) : exS X (.assignO i e) ρ Q = (evE X e ρ fun d => ∃ lv, toLV d = some lv ∧ i < ρ.length ∧ Q (setR ρ i (some lv)) .next) := by rw [← set_R]; rfl
theorem exS_assignLLR (X : Fns) (i) (vals) (u1) (it) (u2) (u3) (ρ) (Q) : exS X (.assignLL i vals u1 it u2 u3) ρ Q = (evI X it ρ fun ds => (fits ds.length ∧ i < ρ.length) ∧ Q (setR ρ i (some (.oll (List.replicate ds.length (vals.map .int))))) .next) := by rw [← set_R]; rfl
theorem exS_setitemR (X : Fns) (x) (k) (v) (ρ) (Q) : exS X (.setitem x k v) ρ Q = (match atR ρ x with
    | some lv => evE X v ρ fun dv => evE X k ρ fun dk => setW lv dk dv fun lv' => Q (setR ρ x (some lv')) .next
    | none => False) := by rw [← at_R, ← set_R]; rfl
theorem exS_augR (X : Fns) (i) (op) (e) (ρ) (Q) : exS X (.aug i op e) ρ Q = (match atR ρ i with
    | some (.sh a) => evE X e ρ fun b => iopW op a b fun d => Q (setR ρ i (some (.sh d))) .next
    | _ => False) := by rw [← at_R, ← set_R]; rfl
theorem exS_augitemR (X : Fns) (x) (k) (op) (e) (ρ) (Q) : exS X (.augitem x k op e) ρ Q = (match atR ρ x with
    | some lv => evE X k ρ fun dk => getW lv dk fun a => evE X e ρ fun b => iopW op a b fun d => setW lv dk d fun lv' => Q (setR ρ x (some lv')) .next
    | none => False) := by rw [← at_R, ← set_R]; rfl
theorem exS_augitem2R (X : Fns) (x) (k₁) (k₂) (op) (e) (ρ) (Q) : exS X (.augitem2 x k₁ k₂ op e) ρ Q = (match atR ρ x with
    | some (.oll dss) => evE X k₁ ρ fun d₁ => onI d₁ fun i => ∃ j ds, idx dss.length i = some j ∧ dss[j]? = some ds ∧ evE X k₂ ρ fun dk => getW (.ol ds) dk fun a => evE X e ρ fun b => iopW op a b fun d =>
          setW (.ol ds) dk d fun lv' => onOl lv' fun ds' => Q (setR ρ x (some (.oll (dss.set j ds')))) .next
    | _ => False) := by rw [← at_R, ← set_R]; rfl
theorem exS_appendR (X : Fns) (x) (e) (ρ) (Q) : exS X (.append x e) ρ Q = (match atR ρ x with
    | some (.ol ds) => evE X e ρ fun d => fits (ds.length + 1) ∧ Q (setR ρ x (some (.ol (ds ++ [d])))) .next
    | _ => False) := by rw [← at_R, ← set_R]; rfl
theorem exS_freezeR (X : Fns) (i) (ρ) (Q) : exS X (.freeze i) ρ Q = (match atR ρ i with
    | some lv => ∃ d, lv.froz = some d ∧ Q (setR ρ i (some (.sh d))) .next
    | none => False) := by rw [← at_R, ← set_R]; rfl
theorem exS_setpairR (X : Fns) (x) (k) (a) (b) (ρ) (Q) : exS X (.setpair x k a b) ρ Q = (match atR ρ x with
    | some lv => evEs X [a, b] ρ fun ds => ∃ a₁ a₂ b₁ b₂, ds = [.tup [.int a₁, .int a₂], .tup [.int b₁, .int b₂]] ∧ evE X k ρ fun dk => setW lv dk (.tup [.int (a₁ + b₁), .int (a₂ + b₂)]) fun lv' => Q (setR ρ x (some lv')) .next
    | none => False) := by rw [← at_R, ← set_R]; rfl
theorem exS_zassignR (X : Fns) (i) (f) (es) (ρ) (Q) : exS X (.zassign i f es) ρ Q = (evEs X es ρ fun ds => X f ds fun d => Q (setR ρ i (some (.sh d))) .next) := by rw [← set_R]; rfl
theorem asgW_nmR (i : Nat) (d : D) (ρ : Rho) (Q) : asgW (.nm i) d ρ Q = Q (setR ρ i (some (.sh d))) := by rw [← set_R]; rfl
theorem setAll_consR (ρ : Rho) (i : Nat) (is : List Nat) (d : D) (ds : List D) : ρ.setAll (i :: is) (d :: ds) = Rho.setAll (setR ρ i (some (.sh d))) is ds := by rw [← set_R]; rfl
theorem clr_consR (ρ : Rho) (i : Nat) (is : List Nat) : ρ.clr (i :: is) = Rho.clr (setR ρ i none) is := by rw [← set_R]; rfl
theorem rho_atR (ρ : Rho) (i : Nat) : ρ.at i = atR ρ i := congrFun (congrFun at_R ρ) i
end Mine
end
section
open PySem PySem.Calls PyProof.Rows
set_option maxHeartbeats 1000000
namespace Mine
noncomputable def cval (pr : Bool) (x : Int × Int) : D := match pr with
  | true => .tup [.int x.1, .int x.2]
  | false => .int x.1
noncomputable def padd (x y : Int × Int) : Int × Int := (x.1 + y.1, x.2 + y.2)
noncomputable abbrev KP := List (K × (Int × Int))
noncomputable def dKP (pr : Bool) (l : KP) : List (K × D) := l.map fun p => (p.1, cval pr p.2)
noncomputable def kget (k : K) : KP → Option (Int × Int)
  | [] => none
  | (k', i) :: r => if k' = k then some i else kget k r
noncomputable def kput (k : K) (i : Int × Int) : KP → KP
  | [] => [(k, i)]
  | (k', j) :: r => if k' = k then (k', i) :: r else (k', j) :: kput k i r
noncomputable def kbump (k : K) (i : Int × Int) (l : KP) : KP := match kget k l with
  | none => kput k i l
  | some j => kput k (padd j i) l
theorem klook_dKP (pr : Bool) (k : K) : ∀ l : KP, klook k (dKP pr l) = (kget k l).map (cval pr)
  | [] => rfl
  | (k', i) :: r => by
    show (if k' = k then some (cval pr i) else klook k (dKP pr r)) = _
    rw [klook_dKP pr k r, kget]
    split <;> rfl
theorem kset_dKP (pr : Bool) (k : K) (i : Int × Int) : ∀ l : KP, kset k (cval pr i) (dKP pr l) = dKP pr (kput k i l)
  | [] => rfl
  | (k', j) :: r => by
    show (if k' = k then (k', cval pr i) :: dKP pr r else (k', cval pr j) :: kset k (cval pr i) (dKP pr r)) = _
    rw [kset_dKP pr k i r, kput]
    split <;> rfl
theorem key_d : ∀ k : K, D.key? k.d = some k := fun k => by cases k <;> rfl
theorem dKP_cons (pr : Bool) (p : K × (Int × Int)) (l : KP) : dKP pr (p :: l) = (p.1, cval pr p.2) :: dKP pr l := rfl
theorem dKP_length (pr : Bool) (l : KP) : (dKP pr l).length = l.length := by simp [dKP]
theorem kput_new {k : K} {i : Int × Int} : ∀ {l : KP}, (∀ p ∈ l, p.1 ≠ k) → kput k i l = l ++ [(k, i)]
  | [], _ => rfl
  | (k', j) :: r, h => by
    rw [kput, if_neg (h _ (.head _)), kput_new fun p hp => h p (.tail _ hp)]; rfl
variable {X : Fns}
theorem addc1_step {T S : Option LV} {kv : List (K × D)} {kd vd : D} {kk : K} {Q : Rho → Fl → Prop} (hk : D.key? kd = some kk) (hf : fits kv.length) (h : Q [T, S, some (.od (kset kk vd kv)), some (.sh kd), some (.sh vd)] .next) :
    exSs X b3_add_callers_1 [T, S, some (.od kv), some (.sh kd), some (.sh vd)] Q := by
  simp only [b3_add_callers_1, fits, ↓evE_varR, ↓exS_setitemR, ↓exSs_nil, ↓exSs_cons, ↓setW_od]
  exact ⟨kk, hk, hf, h⟩
theorem addc1_loop (pr : Bool) (T S : Option LV) (Q : Rho → Fl → Prop) : ∀ (src acc : KP), acc.length + src.length ≤ 1000 → ((acc ++ src).map (·.1)).Nodup →
    Q [T, S, some (.od (dKP pr (acc ++ src))), none, none] .next →
    forW (.tp [3, 4]) [3, 4] (exSs X b3_add_callers_1) ((dKP pr src).map fun p => .tup [p.1.d, p.2]) [T, S, some (.od (dKP pr acc)), none, none] Q
  | [], acc, _, _, h => by
    rw [List.append_nil] at h
    exact h
  | p :: src, acc, hl, hn, h => by
    simp only [dKP_cons, ↓forW_cons, ↓asgW_tp, setAll_consR, setAll_nil, clr_consR, clr_nil, List.length_cons, List.length_nil, List.map_cons, Nat.reduceAdd, true_and]
    refine addc1_step (key_d _) (by rw [dKP_length]; show _ ≤ 1048576; simp at hl; (first | lia | omega)) ?_
    simp only []
    have hk : ∀ q ∈ acc, q.1 ≠ p.1 := fun q hq e => by
      simp only [List.map_append, List.map_cons, List.nodup_append] at hn
      exact hn.2.2 q.1 (List.mem_map_of_mem hq) p.1 (.head _) e
    rw [kset_dKP, kput_new hk]
    refine addc1_loop pr T S Q src (acc ++ [p]) (by simp at hl ⊢; (first | lia | omega)) (by simpa using hn) (by simpa using h)
theorem addc2_step {pr : Bool} {T S : Option LV} {l : KP} {k : K} {i : Int × Int} {Q : Rho → Fl → Prop} (hf : l.length ≤ 1000) (h : Q [T, S, some (.od (dKP pr (kbump k i l))), some (.sh k.d), some (.sh (cval pr i))] .next) :
    exSs X b3_add_callers_2 [T, S, some (.od (dKP pr l)), some (.sh k.d), some (.sh (cval pr i))] Q := by
  simp only [b3_add_callers_2, fits, ↓evE_varR, ↓evE_osubR, ↓evEs_nil, ↓evEs_cons, ↓evC_oinR, ↓evC_bi, ↓exS_setitemR, ↓exS_augitemR, ↓exS_ife, ↓exS_setpairR, ↓exSs_nil, ↓exSs_cons, ↓subW_d, ↓setW_od, ↓getW_od, ↓cmpW_inD, if_false, Bool.false_eq_true]
  refine ⟨k, key_d k, ?_⟩
  rw [klook_dKP]
  unfold kbump at h
  cases hg : kget k l with
  | none =>
    rw [hg] at h
    simp only [Option.map_none, Option.isSome_none]
    refine ⟨k, key_d k, by rw [dKP_length]; (first | lia | omega), ?_⟩
    rw [kset_dKP]
    exact h
  | some j =>
    rw [hg] at h
    simp only [Option.map_some, Option.isSome_some]
    cases pr with
    | true =>
      simp only [cval, ↓biW_isT, ↓truthW_b]
      refine ⟨k, cval true j, key_d k, by rw [klook_dKP, hg]; rfl, ?_⟩
      refine ⟨i.1, i.2, j.1, j.2, rfl, ?_⟩
      refine ⟨k, key_d k, by rw [dKP_length]; (first | lia | omega), ?_⟩
      have e := kset_dKP true k (padd j i) l
      simp only [cval, padd] at e
      rw [Int.add_comm i.1, Int.add_comm i.2, e]
      exact h
    | false =>
      simp only [cval, ↓biW_isI, ↓truthW_b]
      refine ⟨k, cval false j, key_d k, by rw [klook_dKP, hg]; rfl, ?_⟩
      refine ⟨k, key_d k, by rw [dKP_length]; (first | lia | omega), ?_⟩
      have e := kset_dKP false k (padd j i) l
      simp only [cval, padd] at e
      rw [e]
      exact h
theorem kput_len (k : K) (i : Int × Int) : ∀ l : KP, (kput k i l).length ≤ l.length + 1
  | [] => Nat.le_refl _
  | (k', j) :: r => by
    rw [kput]
    split
    · exact Nat.le_succ _
    · exact Nat.succ_le_succ (kput_len k i r)
theorem kbump_len (k : K) (i : Int × Int) (l : KP) : (kbump k i l).length ≤ l.length + 1 := by
  unfold kbump
  split <;> exact kput_len _ _ _
noncomputable def addK (t s : KP) : KP := s.foldl (fun t p => kbump p.1 p.2 t) t
theorem addc2_loop (pr : Bool) (T S : Option LV) (Q : Rho → Fl → Prop) : ∀ (src l : KP), l.length + src.length ≤ 1000 →
    Q [T, S, some (.od (dKP pr (addK l src))), none, none] .next →
    forW (.tp [3, 4]) [3, 4] (exSs X b3_add_callers_2) ((dKP pr src).map fun p => .tup [p.1.d, p.2]) [T, S, some (.od (dKP pr l)), none, none] Q
  | [], l, _, h => h
  | p :: src, l, hl, h => by
    simp only [dKP_cons, ↓forW_cons, ↓asgW_tp, setAll_consR, setAll_nil, clr_consR, clr_nil, List.length_cons, List.length_nil, List.map_cons, Nat.reduceAdd, true_and]
    refine addc2_step (by simp at hl; (first | lia | omega)) ?_
    simp only []
    refine addc2_loop pr T S Q src (kbump p.1 p.2 l) ?_ h
    have := kbump_len p.1 p.2 l
    simp at hl
    (first | lia | omega)
theorem addc_spec {n : Nat} (pr : Bool) (t s : KP) (hl : t.length + s.length ≤ 900) (hn : (t.map (·.1)).Nodup) {Q : D → Prop} (h : Q (.dct (dKP pr (addK t s)))) :
    XN fs3 (n + 1) 1 [.dct (dKP pr t), .dct (dKP pr s)] Q := by
  show _ ∧ exSs _ (_ :: _ :: b3_add_callers.drop 2) _ _
  refine ⟨rfl, ?_⟩
  simp only [f3_add_callers, rho0, retW, List.replicate, List.cons_append, List.nil_append, Nat.reduceSub, ↓evE_varR, ↓evE_dct, ↓evKV_nil, ↓evI_items, ↓exS_assignOR, ↓exS_fore, ↓exSs_cons, List.length_cons, List.length_nil, ↓onK_d, ↓toLV_dct, List.map_cons, List.map_nil, Nat.reduceAdd, true_and, Nat.reduceLT]
  refine ⟨_, rfl, ?_⟩
  refine addc1_loop pr _ _ _ t [] (by simp; (first | lia | omega)) (by simpa using hn) ?_
  show exSs _ (_ :: b3_add_callers.drop 3) _ _
  simp only [retW, List.nil_append, ↓evE_varR, ↓evI_items, ↓exS_fore, ↓exSs_cons, ↓onK_d]
  refine addc2_loop pr _ _ _ s _ (by simpa using (show t.length + s.length ≤ 1000 by (first | lia | omega))) ?_
  show exSs _ [_, _] _ _
  simp only [retW, ↓evE_varR, ↓exS_ret, ↓exS_freezeR, ↓exSs_cons, ↓froz_od]
  refine ⟨_, rfl, ?_⟩
  exact h
theorem count_loop (C : Option LV) (Q : Rho → Fl → Prop) : ∀ (l : KP) (a : Int), Q [C, some (.sh (.int (a + (l.map (·.2.1)).sum))), none] .next →
    forW (.nm 2) [2] (exSs X b3_count_calls_1) ((dKP false l).map fun p => p.2) [C, some (.sh (.int a)), none] Q
  | [], a, h => by
    simp only [List.map_nil, List.sum_nil, Int.add_zero] at h
    exact h
  | p :: l, a, h => by
    simp only [dKP_cons, b3_count_calls_1, cval, ↓evE_varR, ↓exS_augR, ↓exSs_nil, ↓exSs_cons, ↓forW_cons, ↓asgW_nmR, clr_consR, clr_nil, ↓iopW_add, List.map_cons]
    refine count_loop C Q l (a + p.2.1) ?_
    simpa [Int.add_assoc] using h
theorem count_spec {n : Nat} (l : KP) {Q : D → Prop} (h : Q (.int (l.map (·.2.1)).sum)) : XN fs3 (n + 1) 2 [.dct (dKP false l)] Q := by
  show _ ∧ exSs _ b3_count_calls _ _
  refine ⟨rfl, ?_⟩
  simp only [f3_count_calls, b3_count_calls, rho0, retW, List.replicate, List.cons_append, List.nil_append, Nat.reduceSub, ↓evE_int, ↓evE_varR, ↓evI_values, ↓exS_assignR, ↓exS_fore, ↓exS_ret, ↓exSs_cons, List.length_cons, List.length_nil, ↓onK_d, List.map_cons, List.map_nil, Nat.reduceAdd]
  refine count_loop _ _ l 0 ?_
  simp only []
  simpa using h
structure Ent where
  cc : Int
  nc : Int
  tt : Int
  ct : Int
  cs : KP
noncomputable def Ent.d (pr : Bool) (e : Ent) : D := .tup [.int e.cc, .int e.nc, .int e.tt, .int e.ct, .dct (dKP pr e.cs)]
noncomputable def Ent.add (e s : Ent) : Ent := ⟨s.cc + e.cc, s.nc + e.nc, s.tt + e.tt, s.ct + e.ct, addK e.cs s.cs⟩
theorem addf_spec {n : Nat} (pr : Bool) (e s : Ent) (hl : e.cs.length + s.cs.length ≤ 900) (hn : (e.cs.map (·.1)).Nodup) {Q : D → Prop} (h : Q ((e.add s).d pr)) :
    XN fs3 (n + 2) 0 [e.d pr, s.d pr] Q := by
  show _ ∧ exSs _ b3_add_func_stats _ _
  refine ⟨rfl, ?_⟩
  simp only [f3_add_func_stats, b3_add_func_stats, Ent.d, rho0, retW, List.replicate, List.cons_append, List.nil_append, Nat.reduceSub, ↓evE_varR, ↓evE_bin, ↓evEs_nil, ↓evEs_cons, ↓exS_unpack, ↓exS_zret, ↓exSs_cons, ↓asgW_tp, setAll_consR, setAll_nil, List.length_cons, List.length_nil, ↓binW_addI, List.map_cons, List.map_nil, Nat.reduceAdd, true_and]
  refine addc_spec pr e.cs s.cs hl hn ?_
  exact h
end Mine
end
section
open PySem PySem.Calls PyProof.Rows
set_option maxHeartbeats 1000000
namespace Mine
theorem fm (a b : Int) (h : 0 < b) : 0 ≤ a.fmod b ∧ a.fmod b < b := ⟨Int.fmod_nonneg_of_pos a h, Int.fmod_lt_of_pos a h⟩
theorem ints_map : ∀ l : List Int, ints? (l.map .int) = some l
  | [] => rfl
  | i :: l => by rw [List.map_cons, ints?, ints_map l]; rfl
variable {X : Fns}
theorem tot_step {A : Option LV} {a b c pl nm : Int} (R : Rho) (hp : 0 ≤ pl) : ∃ a' b' c' : Int, ∀ Q : Rho → Fl → Prop,
    Q (A :: some (.ol [.int a', .int b', .int c']) :: some (.sh (.int pl)) :: some (.sh (.int nm)) :: R) .next →
    exSs X b3_law_coins_1 (A :: some (.ol [.int a, .int b, .int c]) :: some (.sh (.int pl)) :: some (.sh (.int nm)) :: R) Q := by
  obtain ⟨h1, h2⟩ := fm pl 3 (by decide)
  simp only [b3_law_coins_1, fits, ne_eq, Int.reduceEq, not_false_eq_true, ↓evE_int, ↓evE_varR, ↓evE_bin, ↓exS_augitemR, ↓exSs_nil, ↓exSs_cons, List.length_cons, List.length_nil, ↓binW_mod, ↓setW_ol, ↓getW_ol, Nat.reduceAdd, true_and, Nat.reduceLeDiff]
  generalize pl.fmod 3 = k at *
  have hk : k = 0 ∨ k = 1 ∨ k = 2 := by (first | lia | omega)
  rcases hk with rfl | rfl | rfl
  · exact ⟨a + nm, b, c, fun Q h => ⟨.int a, rfl, by decide, h⟩⟩
  · exact ⟨a, b + nm, c, fun Q h => ⟨.int b, rfl, by decide, h⟩⟩
  · exact ⟨a, b, c + nm, fun Q h => ⟨.int c, rfl, by decide, h⟩⟩
theorem tot_loop (A : Option LV) (R : Rho) : ∀ (is : List Int) (i a b c : Int), 0 ≤ i → ∃ a' b' c' : Int, ∀ Q : Rho → Fl → Prop,
    Q (A :: some (.ol [.int a', .int b', .int c']) :: none :: none :: R) .next →
    forW (.tp [2, 3]) [2, 3] (exSs X b3_law_coins_1) (enumL i (is.map .int)) (A :: some (.ol [.int a, .int b, .int c]) :: none :: none :: R) Q
  | [], i, a, b, c, _ => ⟨a, b, c, fun Q h => h⟩
  | n :: is, i, a, b, c, hi => by
    obtain ⟨a₁, b₁, c₁, h₁⟩ := tot_step (X := X) (A := A) (a := a) (b := b) (c := c) (nm := n) R hi
    obtain ⟨a₂, b₂, c₂, h₂⟩ := tot_loop A R is (i + 1) a₁ b₁ c₁ (by (first | lia | omega))
    refine ⟨a₂, b₂, c₂, fun Q h => ?_⟩
    simp only [enumL_cons, ↓forW_cons, ↓asgW_tp, setAll_consR, setAll_nil, clr_consR, clr_nil, List.length_cons, List.length_nil, List.map_cons, Nat.reduceAdd, true_and]
    refine h₁ _ ?_
    simp only []
    exact h₂ Q h
structure Coin where
  w : Nat
  m : Nat
  e : Nat
  t : Int
structure Coin.Ok (c : Coin) : Prop where
  w1 : 1 ≤ c.w
  w4 : c.w ≤ 4
  m1 : 1 ≤ c.m
  m3 : c.m ≤ 3
  e4 : c.e < 4
noncomputable def endC (w : Nat) : Nat → List Int
  | 0 => []
  | 1 => [0, 5]
  | 2 => [127, (w : Int) - 127]
  | _ => [0]
noncomputable def freeE : Nat → Bool
  | 0 => false
  | 1 => true
  | 2 => false
  | _ => true
noncomputable def Coin.row (c : Coin) : List Int := List.replicate c.m (c.w : Int) ++ endC c.w c.e
noncomputable def Coin.d (c : Coin) (nm : Str) : D := .tup [.str nm, .int c.w, .int c.m, .bool (freeE c.e), .lst (c.row.map .int), .int c.t]
theorem idx_nat {n i : Nat} (h : i < n) (hn : n ≤ 1000000) : idx n (i : Int) = some i := by
  unfold idx
  rw [if_pos (by (first | lia | omega)), if_pos (by (first | lia | omega)), if_pos (by simpa using h)]
  simp
theorem flat_one (x : D) : ∀ n : Nat, (List.replicate n [x]).flatten = List.replicate n x
  | 0 => rfl
  | n + 1 => by rw [List.replicate_succ, List.flatten_cons, flat_one x n, List.replicate_succ]; rfl
theorem coin_ends {w e : Nat} (hw : w ≤ 4) (he : e < 4) : ∃ en : List D, en = (endC w e).map .int ∧ ((([[], [D.int 0, .int 5], [.int 127, .int ((w : Int) - 127)], [.int 0]] : List (List D)).map D.lst)[e]? = some (.lst en)) ∧ (en.all fun y => eqP 4 y (.int 0)) = true ∧ (en.any fun y => eqv y (.int 0)) = freeE e ∧ en.length ≤ 2 := by
  have h : e = 0 ∨ e = 1 ∨ e = 2 ∨ e = 3 := by (first | lia | omega)
  rcases h with rfl | rfl | rfl | rfl
  · exact ⟨_, rfl, rfl, rfl, rfl, by simp [endC]⟩
  · exact ⟨_, rfl, rfl, rfl, rfl, by simp [endC]⟩
  · refine ⟨_, rfl, rfl, rfl, ?_, by simp [endC]⟩
    have q : ((w : Int) - 127 == 0) = false := beq_eq_false_iff_ne.mpr (by (first | lia | omega))
    show (eqv (.int 127) (.int 0) || (eqv (.int ((w : Int) - 127)) (.int 0) || false)) = false
    rw [eqv_int, eqv_int, q]; rfl
  · exact ⟨_, rfl, rfl, rfl, rfl, by simp [endC]⟩
theorem coin_step {r0 r1 r2 r3 : Option LV} {acc : List D} (nm : Str) (t : Int) (hl : acc.length ≤ 100) : ∃ c : Coin, c.Ok ∧ ∀ Q : Rho → Fl → Prop,
    (∀ x7 x8 x9 x10, Q [r0, r1, r2, r3, some (.ol (acc ++ [c.d nm])), some (.sh (.str nm)), some (.sh (.int t)), x7, x8, x9, x10] .next) →
    exSs X b3_law_coins_2 [r0, r1, r2, r3, some (.ol acc), some (.sh (.str nm)), some (.sh (.int t)), none, none, none, none] Q := by
  obtain ⟨k0, _⟩ := fm t (10 ^ (6 : Int).toNat) (by decide)
  generalize hk : t.fmod (10 ^ (6 : Int).toNat) = k at k0
  obtain ⟨w0, w1⟩ := fm k 4 (by decide)
  obtain ⟨m0, m1⟩ := fm (k.fdiv 4) 3 (by decide)
  obtain ⟨e0, e1⟩ := fm (k.fdiv 12) 4 (by decide)
  obtain ⟨w, hw⟩ := Int.eq_ofNat_of_zero_le (show 0 ≤ 1 + k.fmod 4 by (first | lia | omega))
  obtain ⟨m, hm⟩ := Int.eq_ofNat_of_zero_le (show 0 ≤ 1 + (k.fdiv 4).fmod 3 by (first | lia | omega))
  obtain ⟨e, he⟩ := Int.eq_ofNat_of_zero_le e0
  obtain ⟨en, n1, n2, n3, n4, n5⟩ := coin_ends (w := w) (e := e) (by (first | lia | omega)) (by (first | lia | omega))
  refine ⟨⟨w, m, e, t⟩, ⟨by show 1 ≤ w; (first | lia | omega), by show w ≤ 4; (first | lia | omega), by show 1 ≤ m; (first | lia | omega), by show m ≤ 3; (first | lia | omega), by show e < 4; (first | lia | omega)⟩, fun Q h => ?_⟩
  show exSs _ (_ :: _ :: _ :: b3_law_coins_2.drop 3) _ _
  simp only [ne_eq, Int.reduceEq, not_false_eq_true, Int.reduceLE, ↓evE_int, ↓evE_varR, ↓evE_bin, ↓exS_assignR, ↓exSs_cons, ↓binW_addI, ↓binW_fdiv, ↓binW_mod, ↓binW_pow, true_and]
  refine ⟨(by unfold smallI; decide), by decide, ?_⟩
  rw [hk, hw, hm]
  refine ⟨by decide, ?_⟩
  show exSs _ (_ :: b3_law_coins_2.drop 4) _ _
  simp only [fits, ne_eq, Int.reduceEq, not_false_eq_true, ↓evE_int, ↓evE_varR, ↓evE_lst, ↓evE_bin, ↓evE_sub, ↓evEs_nil, ↓evEs_cons, ↓exS_assignR, ↓exSs_cons, List.length_cons, List.length_nil, ↓binW_sub, ↓binW_fdiv, ↓binW_mod, ↓subW_l, Nat.reduceAdd, true_and, Nat.reduceLeDiff]
  rw [he]
  refine ⟨by decide, .lst en, ?_, ?_⟩
  · rw [idx_nat (show e < 4 by (first | lia | omega)) (by decide)]
    exact n2
  show exSs _ [_] _ _
  simp only [fits, ↓evE_int, ↓evE_varR, ↓evE_tup, ↓evE_lst, ↓evE_bin, ↓evE_cmp, ↓evEs_nil, ↓evEs_cons, ↓exS_appendR, ↓exSs_nil, ↓exSs_cons, List.length_cons, List.length_nil, ↓binW_addL, ↓binW_mulL, Nat.reduceAdd, true_and, Nat.reduceLeDiff, ↓cmpW_inL]
  rw [flat_one, n4, Int.toNat_natCast]
  have er : List.replicate m (D.int w) ++ en = (List.replicate m (w : Int) ++ endC w e).map .int := by rw [List.map_append, List.map_replicate, n1]
  refine ⟨n3, ⟨by (first | lia | omega), by (first | lia | omega), by (first | lia | omega)⟩, by rw [List.length_replicate]; (first | lia | omega), by (first | lia | omega), ?_⟩
  rw [er]
  exact h _ _ _ _
theorem coins_spec (n : Nat) (is : List Int) (hi : is.length ≤ 63) : ∃ a b c : Coin, a.Ok ∧ b.Ok ∧ c.Ok ∧ ∀ Q : D → Prop, Q (.lst [a.d "a", b.d "b", c.d "c"]) → XN fs3 (n + 1) 3 [.lst (is.map .int)] Q := by
  obtain ⟨t₀, t₁, t₂, h₁⟩ := tot_loop (X := XN fs3 n) (some (.sh (.lst (is.map .int)))) [none, none, none, none, none, none, none] (is.take 60) 0 36 29 2 (by decide)
  obtain ⟨a, oa, ha⟩ := coin_step (X := XN fs3 n) (r0 := some (.sh (.lst (is.map .int)))) (r1 := some (.sh (.lst [.int t₀, .int t₁, .int t₂]))) (r2 := none) (r3 := none) (acc := []) "a" t₀ (by decide)
  obtain ⟨b, ob, hb⟩ := coin_step (X := XN fs3 n) (r0 := some (.sh (.lst (is.map .int)))) (r1 := some (.sh (.lst [.int t₀, .int t₁, .int t₂]))) (r2 := none) (r3 := none) (acc := [a.d "a"]) "b" t₁ (by simp)
  obtain ⟨c, oc, hc⟩ := coin_step (X := XN fs3 n) (r0 := some (.sh (.lst (is.map .int)))) (r1 := some (.sh (.lst [.int t₀, .int t₁, .int t₂]))) (r2 := none) (r3 := none) (acc := [a.d "a", b.d "b"]) "c" t₂ (by simp)
  refine ⟨a, b, c, oa, ob, oc, fun Q h => ?_⟩
  show _ ∧ exSs _ (_ :: _ :: b3_law_coins.drop 2) _ _
  refine ⟨rfl, ?_⟩
  simp only [f3_law_coins, fits, and_true, Int.reduceLE, rho0, retW, List.replicate, List.cons_append, List.nil_append, Nat.reduceSub, ↓evE_int, ↓evE_none, ↓evE_varR, ↓evE_lst, ↓evE_slice, ↓evEs_nil, ↓evEs_cons, ↓evI_enum, ↓exS_assignOR, ↓exS_fore, ↓exSs_cons, List.length_cons, List.length_nil, ↓onL_l, ↓toLV_lst, List.map_cons, List.map_nil, Nat.reduceAdd, true_and, Nat.reduceLeDiff, Nat.reduceLT, List.length_map, sliceW_to, ← List.map_take, List.length_take, Int.reduceToNat]
  refine ⟨_, rfl, by (first | lia | omega), by (first | lia | omega), ?_⟩
  refine h₁ _ ?_
  show exSs _ (_ :: _ :: _ :: b3_law_coins.drop 5) _ _
  simp only [fits, and_true, retW, ↓evE_str, ↓evE_varR, ↓evE_lst, ↓evEs_nil, ↓evEs_cons, ↓evI_zip, ↓exS_assignOR, ↓exS_fore, ↓exS_freezeR, ↓exSs_cons, List.length_cons, List.length_nil, ↓toLV_lst, ↓froz_ol, Nat.reduceAdd, true_and, Nat.reduceLeDiff, Nat.reduceLT, zipW]
  refine ⟨_, rfl, ?_⟩
  refine ⟨_, rfl, ?_⟩
  refine ⟨3, _, rfl, fun xs hx => ?_, ?_⟩
  · simp only [List.mem_cons, List.not_mem_nil, or_false] at hx
    rcases hx with rfl | rfl <;> rfl
  have hz : zipN 3 [[D.str "a", .str "b", .str "c"], [.int t₀, .int t₁, .int t₂]] = [.tup [.str "a", .int t₀], .tup [.str "b", .int t₁], .tup [.str "c", .int t₂]] := rfl
  show forW _ _ _ (zipN 3 [[D.str "a", .str "b", .str "c"], [.int t₀, .int t₁, .int t₂]]) _ _
  rw [hz]
  simp only [↓forW_nil, ↓forW_cons, ↓asgW_tp, setAll_consR, setAll_nil, clr_consR, clr_nil, List.length_cons, List.length_nil, Nat.reduceAdd, true_and]
  refine ha _ fun _ _ _ _ => ?_
  simp only [List.nil_append]
  refine hb _ fun _ _ _ _ => ?_
  simp only [List.cons_append, List.nil_append]
  refine hc _ fun _ _ _ _ => ?_
  show exSs _ [_, _] _ _
  simp only [retW, List.cons_append, List.nil_append, ↓evE_varR, ↓exS_ret, ↓exS_freezeR, ↓exSs_cons, ↓froz_ol]
  refine ⟨_, rfl, ?_⟩
  exact h
end Mine
end
section
open PySem PySem.Calls PyProof.Rows
set_option maxRecDepth 100000
set_option maxHeartbeats 1000000
namespace Mine
noncomputable def ti (l : List Int) : D := .lst (l.map .int)
noncomputable def mulL (w n : Nat) : List Int := (List.range (n + 1)).map fun k => ((w * k : Nat) : Int)
noncomputable def capC (w m e p : Nat) : Nat := match freeE e with
  | true => p / w
  | false => min (p / w) m
noncomputable def amtA (p a : Int) (acc : List Int) : List Int := match decide (a ≤ p) with
  | true => acc ++ [a]
  | false => acc
noncomputable def amtR (p : Int) : Nat → GS → List Int → Int → Int → Option (List Int)
  | 0, _, _, _, _ => none
  | n + 1, st, acc, a, t => match st.pull with
    | none => some acc
    | some (x, st') => match eqv (.int (t + 1)) (.int (p + 2)) with
      | true => some (amtA p (a + x) acc)
      | false => amtR p n st' (amtA p (a + x) acc) (a + x) (t + 1)
theorem amt_loop {X : Fns} {r0 : Option LV} {p : Int} {Q : Rho → Fl → Prop} {l : List Int} (q : ∀ a t, Q [r0, some (.sh (.int p)), some (.ol (l.map .int)), some (.sh (.int a)), some (.sh (.int t)), none] .next) :
    ∀ (n : Nat) (st : GS) (acc : List Int) (a t : Int), amtR p n st acc a t = some l → acc.length + n ≤ 1000 → genW 5 [5] (exSs X b3_law_amounts_1) n st [r0, some (.sh (.int p)), some (.ol (acc.map .int)), some (.sh (.int a)), some (.sh (.int t)), none] Q
  | 0, st, acc, a, t, h, _ => by cases h
  | n + 1, st, acc, a, t, h, hn => by
    unfold genW
    unfold amtR at h
    cases hp : st.pull with
    | none => rw [hp] at h; cases h; exact q a t
    | some y =>
      obtain ⟨x, st'⟩ := y
      rw [hp] at h
      have hl : (amtA p (a + x) acc).length ≤ acc.length + 1 := by
        unfold amtA; split <;> simp
      have IH := fun o => amt_loop (X := X) (r0 := r0) q n st' (amtA p (a + x) acc) (a + x) (t + 1) o (by (first | lia | omega))
      have hk := @q (a + x) (t + 1)
      show exSs X (_ :: _ :: _ :: _ :: []) [r0, some (.sh (.int p)), some (.ol (acc.map .int)), some (.sh (.int a)), some (.sh (.int t)), some (.sh (.int x))] _
      dsimp only at h
      unfold amtA at h IH
      simp only [fits, ↓evE_int, ↓evE_varR, ↓evE_bin, ↓evC_cmp, ↓exS_augR, ↓exS_appendR, ↓exS_ife, ↓exS_brk, ↓exSs_nil, ↓exSs_cons, clr_consR, clr_nil, ↓binW_addI, ↓iopW_add, Nat.reduceLeDiff, ↓cmpW_le, ↓cmpW_eq]
      cases hd : decide (a + x ≤ p) <;> rw [hd] at h IH <;> dsimp only at h IH ⊢
      · refine ⟨rfl, ?_⟩
        cases he : eqv (.int (t + 1)) (.int (p + 2)) <;> rw [he] at h <;> dsimp only at h ⊢
        · exact IH h
        · cases h; exact hk
      · refine ⟨by rw [List.length_map]; (first | lia | omega), rfl, ?_⟩
        rw [List.map_append, List.map_cons, List.map_nil] at IH
        cases he : eqv (.int (t + 1)) (.int (p + 2)) <;> rw [he] at h <;> dsimp only at h ⊢
        · exact IH h
        · cases h; rw [List.map_append, List.map_cons, List.map_nil] at hk; exact hk
noncomputable def amtOk (row : List Int) (p : Nat) (l : List Int) : Bool := !rowBad row && match amtR p 64 (.go none row) [0] 0 0 with
  | some l' => decide (l' = l)
  | none => false
theorem amt_ok {k : Nat} {row : List Int} {p : Nat} {l : List Int} (h : amtOk row p l = true) {Q : D → Prop} (q : Q (ti l)) : XN fs3 (k + 1) 4 [ti row, .int p] Q := by
  unfold amtOk at h
  split at h
  · rename_i l' e
    have hb : rowBad row = false := by cases hb : rowBad row <;> rw [hb] at h <;> first | rfl | cases h
    rw [hb, Bool.not_false, Bool.true_and] at h
    have := of_decide_eq_true h
    subst this
    show _ ∧ exSs _ b3_law_amounts _ _
    refine ⟨rfl, ?_⟩
    simp only [f3_law_amounts, b3_law_amounts, ti, fits, rho0, retW, List.replicate, List.cons_append, List.nil_append, Nat.reduceSub, ↓evE_int, ↓evE_varR, ↓evE_lst, ↓evEs_nil, ↓evEs_cons, ↓exS_assignR, ↓exS_assignOR, ↓exS_forgen, ↓exS_ret, ↓exS_freezeR, ↓exSs_cons, List.length_cons, List.length_nil, ↓toLV_lst, List.map_cons, List.map_nil, Nat.reduceAdd, true_and, Nat.reduceLeDiff, Nat.reduceLT]
    refine ⟨_, rfl, _, ints_map row, ?_⟩
    rw [hb]
    refine ⟨64, amt_loop (fun a t => ?_) 64 _ [0] 0 0 e (by show 1 + 64 ≤ 1000; decide)⟩
    exact ⟨_, rfl, q⟩
  · rw [Bool.and_false] at h; cases h
noncomputable def r4 : List Nat := [0, 1, 2, 3]
theorem Coin.Ok.mw {c : Coin} (h : c.Ok) : c.w ∈ ([1, 2, 3, 4] : List Nat) := (by decide : ∀ w, w < 5 → 1 ≤ w → w ∈ ([1, 2, 3, 4] : List Nat)) c.w (Nat.lt_succ_of_le h.2) h.1
theorem Coin.Ok.mm {c : Coin} (h : c.Ok) : c.m ∈ ([1, 2, 3] : List Nat) := (by decide : ∀ w, w < 4 → 1 ≤ w → w ∈ ([1, 2, 3] : List Nat)) c.m (Nat.lt_succ_of_le h.4) h.3
theorem Coin.Ok.me {c : Coin} (h : c.Ok) : c.e ∈ r4 := (by decide : ∀ w, w < 4 → w ∈ r4) c.e h.5
theorem mem456 {p : Nat} (h : p = 4 ∨ p = 5 ∨ p = 6) : p ∈ ([4, 5, 6] : List Nat) := by
  rcases h with rfl | rfl | rfl <;> decide
noncomputable def chkA (e p : Nat) : Bool := ([1, 2, 3, 4] : List Nat).all fun w => ([1, 2, 3] : List Nat).all fun m => amtOk (List.replicate m (w : Int) ++ endC w e) p (mulL w (capC w m e p))
noncomputable def chkB (p : Nat) : Bool := ([1, 2, 3, 4, 6, 8, 9, 12, 16] : List Nat).all fun v => amtOk [(v : Int), 0] p (mulL v (p / v))
theorem chkA_all : (r4.all fun e => [4, 5, 6].all fun p => chkA e p) = true := by decide +kernel
theorem chkB_all : ([4, 5, 6].all fun p => chkB p) = true := by decide +kernel
theorem amounts_spec {c : Coin} (hc : c.Ok) {p : Nat} (hp : p = 4 ∨ p = 5 ∨ p = 6) {Q : D → Prop} (q : Q (ti (mulL c.w (capC c.w c.m c.e p)))) : XN fs3 4 4 [ti c.row, .int p] Q := by
  refine amt_ok ?_ q
  exact List.all_eq_true.mp (List.all_eq_true.mp (List.all_eq_true.mp (List.all_eq_true.mp chkA_all c.e hc.me) p (mem456 hp)) c.w hc.mw) c.m hc.mm
theorem ruler_spec {v p : Nat} (hv : v ∈ ([1, 2, 3, 4, 6, 8, 9, 12, 16] : List Nat)) (hp : p = 4 ∨ p = 5 ∨ p = 6) {Q : D → Prop} (q : Q (ti (mulL v (p / v)))) : XN fs3 3 4 [ti [(v : Int), 0], .int p] Q := by
  refine amt_ok ?_ q
  exact List.all_eq_true.mp (List.all_eq_true.mp chkB_all p (mem456 hp)) v hv
end Mine
end
section
open PySem PySem.Calls PyProof.Rows
set_option maxHeartbeats 1000000
namespace Mine
variable {X : Fns}
theorem rangeL_range : ∀ (n : Nat) (a : Int), rangeL a 1 n = (List.range n).map fun i => D.int (a + (i : Nat))
  | 0, _ => rfl
  | n + 1, a => by
    rw [rangeL, rangeL_range n, List.range_succ_eq_map, List.map_cons, List.map_map]
    congr 1
    · simp
    · refine List.map_congr_left fun i _ => ?_
      show D.int (a + 1 + (i : Int)) = D.int (a + ((i + 1 : Nat) : Int))
      congr 1
      (first | lia | omega)
theorem range_n (n : Nat) : rangeL 0 1 n = (List.range n).map fun i => D.int (i : Nat) := by
  rw [rangeL_range]; simp
theorem loop_map {α : Type} {f : D → D → (D → Prop) → Prop} (enc : α → D) (v : α → D) {Q : D → Prop} : ∀ (xs : List α) (acc : List D), (∀ x ∈ xs, ∀ (acc : List D) (C : D → Prop), acc.length ≤ 1000 → C (.lst (acc ++ [v x])) → f (enc x) (.lst acc) C) → acc.length + xs.length ≤ 1000 →
    Q (.lst (acc ++ xs.map v)) → loopW f (xs.map enc) (.lst acc) Q
  | [], acc, _, _, q => by simpa [loopW_nil] using q
  | x :: xs, acc, hf, hl, q => by
    simp only [List.length_cons] at hl
    simp only [List.map_cons, loopW_cons]
    refine hf x (.head _) acc _ (by (first | lia | omega)) ?_
    refine loop_map enc v xs (acc ++ [v x]) (fun y hy => hf y (.tail _ hy)) (by simp; (first | lia | omega)) ?_
    simpa using q
theorem cap_le {w m e p : Nat} (hw : 1 ≤ w) : capC w m e p ≤ p := by
  unfold capC
  split
  · exact Nat.div_le_self _ _
  · exact Nat.le_trans (Nat.min_le_left _ _) (Nat.div_le_self _ _)
theorem ti_mul (w n : Nat) : ti (mulL w n) = .lst ((List.range (n + 1)).map fun k => D.int ((w : Int) * (k : Nat))) := by
  unfold ti mulL
  rw [List.map_map]
  rfl
theorem mult_spec (n : Nat) {c : Coin} (hc : c.Ok) (nm : Str) {p : Nat} (hp : p ≤ 6) {Q : D → Prop} (q : Q (ti (mulL c.w (capC c.w c.m c.e p)))) : XN fs3 (n + 1) 5 [c.d nm, .int p] Q := by
  obtain ⟨h1, h2, h3, h4, h5⟩ := hc
  have hcap := cap_le (w := c.w) (m := c.m) (e := c.e) (p := p) h1
  show _ ∧ exSs _ (_ :: b3_law_multiples.drop 1) _ _
  refine ⟨rfl, ?_⟩
  simp only [f3_law_multiples, Coin.d, rho0, List.replicate, List.cons_append, List.nil_append, Nat.reduceSub, ↓evE_int, ↓evE_varR, ↓evE_bin, ↓evE_sub, ↓exS_assignR, ↓exSs_cons, List.length_cons, List.length_nil, ↓subW_t, List.map_cons, List.map_nil, Nat.reduceAdd]
  refine ⟨.int c.w, rfl, ?_⟩
  simp only [ne_eq, ↓binW_fdiv]
  refine ⟨by (first | lia | omega), ?_⟩
  have hd : (p : Int).fdiv (c.w : Int) = ((p / c.w : Nat) : Int) := by rw [Int.fdiv_eq_ediv_of_nonneg _ (by (first | lia | omega))]; simp
  rw [hd]
  have tail : ∀ k : Nat, k = capC c.w c.m c.e p → exSs (XN fs3 n) (b3_law_multiples.drop 2) [some (.sh (c.d nm)), some (.sh (.int p)), some (.sh (.int (k : Nat)))] (retW Q) := fun k hk => by
    show exSs _ [_] _ _
    simp only [retW, ↓evE_int, ↓evE_varR, ↓evE_bin, ↓evE_sub, ↓evE_lcomp, ↓evEs_nil, ↓evEs_cons, ↓evI_range, ↓evIfs_nil, ↓evGs_nil, ↓exS_ret, ↓exSs_cons, ↓asgW_nmR, rho_atR, ↓binW_addI, capture, List.map_cons, List.map_nil, rangeW_1]
    refine ⟨by (first | lia | omega), ?_⟩
    rw [show ((k : Int) + 1).toNat = k + 1 by (first | lia | omega), range_n]
    refine loop_map (fun i : Nat => D.int (i : Nat)) (fun i : Nat => D.int ((c.w : Int) * (i : Nat))) _ [] (fun i hi acc C ha hC => ?_) (by simp; (first | lia | omega)) ?_
    · simp only [fits, List.length_cons, List.length_nil, ↓subW_t, Nat.reduceAdd, Nat.reduceLeDiff, Coin.d, pushW_l]
      refine ⟨.int c.w, rfl, ?_⟩
      simp only [↓binW_mulI]
      exact ⟨.inl (by unfold smallI; (first | lia | omega)), by (first | lia | omega), hC⟩
    · rw [← hk, ti_mul] at q
      exact q
  show exSs _ (_ :: b3_law_multiples.drop 2) _ _
  simp only [↓evE_int, ↓evE_varR, ↓evE_sub, ↓evE_bi, ↓evEs_nil, ↓evEs_cons, ↓evC_not, ↓evC_sub, ↓exS_assignR, ↓exS_ife, ↓exSs_nil, ↓exSs_cons, List.length_cons, List.length_nil, ↓subW_t, Nat.reduceAdd]
  refine ⟨.bool (freeE c.e), rfl, ?_⟩
  simp only [↓truthW_b]
  cases hf : freeE c.e with
  | true =>
    simp only [Bool.not_true]
    have := tail (p / c.w) (by unfold capC; rw [hf])
    simpa only [Coin.d, hf] using this
  | false =>
    simp only [Bool.not_false]
    refine ⟨.int c.m, rfl, ?_⟩
    simp only [↓biW_min2]
    have := tail (min (p / c.w) c.m) (by unfold capC; rw [hf])
    have e : (if (c.m : Int) < ((p / c.w : Nat) : Int) then (c.m : Int) else ((p / c.w : Nat) : Int)) = ((min (p / c.w) c.m : Nat) : Int) := by
      split <;> (first | lia | omega)
    rw [e]
    simpa only [Coin.d, hf] using this
structure Pc where
  a : Int
  b : Int
  c : Int
noncomputable def Pc.add (p q : Pc) : Pc := ⟨p.a + q.a, p.b + q.b, p.c + q.c⟩
noncomputable def Pc.d (p : Pc) : D := .lst [.int p.a, .int p.b, .int p.c]
noncomputable def smallP (p : Pc) : Prop := -100000 ≤ p.a ∧ p.a ≤ 100000 ∧ -100000 ≤ p.b ∧ p.b ≤ 100000 ∧ -100000 ≤ p.c ∧ p.c ≤ 100000
noncomputable def callerOf (pr : Bool) (x : Int) (c : Coin) : Int × Int := match pr with
  | true => (x, x * c.t)
  | false => (x * c.w, 0)
noncomputable def entC (pr : Bool) (x y z : Coin) (p : Pc) : KP := [(.str "a", callerOf pr p.a x), (.str "b", callerOf pr p.b y), (.str "c", callerOf pr p.c z)]
noncomputable def entOf (pr : Bool) (x y z : Coin) (p : Pc) : Ent := ⟨p.a + p.b + p.c, p.a * x.w + p.b * y.w + p.c * z.w, p.a * x.t + p.b * y.t + p.c * z.t, p.a * x.w * x.t + p.b * y.w * y.t + p.c * z.w * z.t, entC pr x y z p⟩
theorem subW_c0 (c : Coin) (nm : Str) (Q : D → Prop) : subW (c.d nm) (.int 0) Q = Q (.str nm) := propext ⟨fun ⟨_, h, q⟩ => (Option.some.inj h) ▸ q, fun q => ⟨_, rfl, q⟩⟩
theorem subW_c1 (c : Coin) (nm : Str) (Q : D → Prop) : subW (c.d nm) (.int 1) Q = Q (.int c.w) := propext ⟨fun ⟨_, h, q⟩ => (Option.some.inj h) ▸ q, fun q => ⟨_, rfl, q⟩⟩
theorem subW_c2 (c : Coin) (nm : Str) (Q : D → Prop) : subW (c.d nm) (.int 2) Q = Q (.int c.m) := propext ⟨fun ⟨_, h, q⟩ => (Option.some.inj h) ▸ q, fun q => ⟨_, rfl, q⟩⟩
theorem subW_c3 (c : Coin) (nm : Str) (Q : D → Prop) : subW (c.d nm) (.int 3) Q = Q (.bool (freeE c.e)) := propext ⟨fun ⟨_, h, q⟩ => (Option.some.inj h) ▸ q, fun q => ⟨_, rfl, q⟩⟩
theorem subW_c4 (c : Coin) (nm : Str) (Q : D → Prop) : subW (c.d nm) (.int 4) Q = Q (ti c.row) := propext ⟨fun ⟨d, h, q⟩ => (show d = ti c.row from (Option.some.inj h).symm) ▸ q, fun q => ⟨_, rfl, q⟩⟩
theorem subW_c5 (c : Coin) (nm : Str) (Q : D → Prop) : subW (c.d nm) (.int 5) Q = Q (.int c.t) := propext ⟨fun ⟨_, h, q⟩ => (Option.some.inj h) ▸ q, fun q => ⟨_, rfl, q⟩⟩
theorem kab : ¬ (K.str "a" = K.str "b") := by decide +kernel
theorem kac : ¬ (K.str "a" = K.str "c") := by decide +kernel
theorem kbc : ¬ (K.str "b" = K.str "c") := by decide +kernel
theorem small_of {i : Int} (h : -100000 ≤ i ∧ i ≤ 100000) : smallI i := by unfold smallI; (first | lia | omega)
theorem small_mul {i : Int} {w : Nat} (h : -100000 ≤ i ∧ i ≤ 100000) (hw : w ≤ 4) : smallI (i * w) := by
  unfold smallI
  rw [Int.natAbs_mul]
  have h1 : i.natAbs ≤ 100000 := by (first | lia | omega)
  have h2 : (w : Int).natAbs ≤ 4 := by (first | lia | omega)
  have := Nat.mul_le_mul h1 h2
  (first | lia | omega)
theorem zip2_3 (a b c d e f : D) : zipN 3 [[a, b, c], [d, e, f]] = [.tup [a, d], .tup [b, e], .tup [c, f]] := rfl
theorem zip4_3 (a b c d e f g h i j k l : D) : zipN 3 [[a, b, c], [d, e, f], [g, h, i], [j, k, l]] = [.tup [a, d, g, j], .tup [b, e, h, k], .tup [c, f, i, l]] := rfl
theorem zipW2_3 {a b c d e f : D} {Q : List D → Prop} (h : Q [.tup [a, d], .tup [b, e], .tup [c, f]]) : zipW [.lst [a, b, c], .lst [d, e, f]] Q :=
  ⟨⟨by simp, by simp⟩, 3, _, rfl, fun xs hx => by simp only [List.mem_cons, List.not_mem_nil, or_false] at hx; rcases hx with rfl | rfl <;> rfl, by rw [zip2_3]; exact h⟩
theorem zipW4_3 {a b c d e f g h i j k l : D} {Q : List D → Prop} (q : Q [.tup [a, d, g, j], .tup [b, e, h, k], .tup [c, f, i, l]]) : zipW [.lst [a, b, c], .lst [d, e, f], .lst [g, h, i], .lst [j, k, l]] Q :=
  ⟨⟨by simp, by simp⟩, 3, _, rfl, fun xs hx => by simp only [List.mem_cons, List.not_mem_nil, or_false] at hx; rcases hx with rfl | rfl | rfl | rfl <;> rfl, by rw [zip4_3]; exact q⟩
theorem ent_step {r0 r1 r3 r4 r5 : Option LV} (pr : Bool) (nm : Str) (c : Coin) (x : Int) {l : KP} (hl : l.length ≤ 3) {Q : Rho → Fl → Prop}
    (q : Q [r0, r1, some (.sh (.bool pr)), r3, r4, r5, some (.od (dKP pr (kput (.str nm) (callerOf pr x c) l))), some (.sh (c.d nm)), some (.sh (.int x)), some (.sh (.int (x * c.w))), some (.sh (.int (x * c.t)))] .next) :
    exSs X b3_law_entry_1 [r0, r1, some (.sh (.bool pr)), r3, r4, r5, some (.od (dKP pr l)), some (.sh (c.d nm)), some (.sh (.int x)), some (.sh (.int (x * c.w))), some (.sh (.int (x * c.t)))] Q := by
  rw [← kset_dKP] at q
  cases pr with
  | true =>
    simp only [b3_law_entry_1, ↓subW_c0, fits, ↓evE_int, ↓evE_varR, ↓evE_tup, ↓evE_ite, ↓evE_sub, ↓evEs_nil, ↓evEs_cons, ↓evC_varR, ↓exS_setitemR, ↓exSs_nil, ↓exSs_cons, List.length_cons, List.length_nil, ↓truthW_b, ↓setW_od, Nat.reduceAdd, true_and, Nat.reduceLeDiff]
    exact ⟨.str nm, rfl, by rw [dKP_length]; (first | lia | omega), q⟩
  | false =>
    simp only [b3_law_entry_1, ↓subW_c0, fits, ↓evE_int, ↓evE_varR, ↓evE_ite, ↓evE_sub, ↓evC_varR, ↓exS_setitemR, ↓exSs_nil, ↓exSs_cons, ↓truthW_b, ↓setW_od]
    exact ⟨.str nm, rfl, by rw [dKP_length]; (first | lia | omega), q⟩
theorem ent_put (pr : Bool) (x y z : Coin) (p : Pc) : kput (.str "c") (callerOf pr p.c z) (kput (.str "b") (callerOf pr p.b y) (kput (.str "a") (callerOf pr p.a x) [])) = entC pr x y z p := by
  simp only [kput, if_neg kab, if_neg kac, if_neg kbc]
  rfl
theorem sum3 (a b c : Int) : [a, b, c].sum = a + b + c := by
  show a + (b + (c + 0)) = _
  rw [Int.add_zero, Int.add_assoc]
theorem entry_spec (n : Nat) (pr : Bool) {x y z : Coin} (hx : x.Ok) (hy : y.Ok) (hz : z.Ok) {p : Pc} (hp : smallP p) {Q : D → Prop} (q : Q ((entOf pr x y z p).d pr)) : XN fs3 (n + 1) 6 [.lst [x.d "a", y.d "b", z.d "c"], p.d, .bool pr] Q := by
  obtain ⟨w1, w2, _, _, _⟩ := hx
  obtain ⟨v1, v2, _, _, _⟩ := hy
  obtain ⟨u1, u2, _, _, _⟩ := hz
  obtain ⟨a1, a2, b1, b2, c1, c2⟩ := hp
  show _ ∧ exSs _ (_ :: b3_law_entry.drop 1) _ _
  refine ⟨rfl, ?_⟩
  simp only [f3_law_entry, Pc.d, rho0, List.replicate, List.cons_append, List.nil_append, Nat.reduceSub, ↓evE_int, ↓evE_varR, ↓evE_bin, ↓evE_sub, ↓evE_lcomp, ↓evEs_nil, ↓evEs_cons, ↓evI_zip, ↓evIfs_nil, ↓evGs_nil, ↓exS_assignR, ↓exSs_cons, rho_atR, List.length_cons, List.length_nil, capture, List.map_cons, List.map_nil, Nat.reduceAdd]
  refine zipW2_3 ?_
  simp only [loopW_cons, loopW_nil, ↓subW_c1, pushW_l, fits, List.cons_append, List.nil_append, ↓asgW_tp, setAll_consR, setAll_nil, List.length_cons, List.length_nil, ↓binW_mulI, Nat.reduceAdd, true_and, Nat.reduceLeDiff]
  refine ⟨.inl (small_of ⟨a1, a2⟩), .inl (small_of ⟨b1, b2⟩), .inl (small_of ⟨c1, c2⟩), ?_⟩
  show exSs _ (_ :: b3_law_entry.drop 2) _ _
  simp only [↓evE_int, ↓evE_varR, ↓evE_bin, ↓evE_sub, ↓evE_lcomp, ↓evEs_nil, ↓evEs_cons, ↓evI_zip, ↓evIfs_nil, ↓evGs_nil, ↓exS_assignR, ↓exSs_cons, rho_atR, capture, List.map_cons, List.map_nil]
  refine zipW2_3 ?_
  simp only [loopW_cons, loopW_nil, ↓subW_c5, pushW_l, fits, List.cons_append, List.nil_append, ↓asgW_tp, setAll_consR, setAll_nil, List.length_cons, List.length_nil, ↓binW_mulI, Nat.reduceAdd, true_and, Nat.reduceLeDiff]
  refine ⟨.inl (small_of ⟨a1, a2⟩), .inl (small_of ⟨b1, b2⟩), .inl (small_of ⟨c1, c2⟩), ?_⟩
  show exSs _ (_ :: b3_law_entry.drop 3) _ _
  simp only [↓evE_int, ↓evE_varR, ↓evE_bin, ↓evE_sub, ↓evE_bi, ↓evE_lcomp, ↓evEs_nil, ↓evEs_cons, ↓evI_zip, ↓evIfs_nil, ↓evGs_nil, ↓exS_assignR, ↓exSs_cons, rho_atR, capture, List.map_cons, List.map_nil]
  refine zipW2_3 ?_
  simp only [loopW_cons, loopW_nil, ↓subW_c5, pushW_l, fits, List.cons_append, List.nil_append, ↓asgW_tp, setAll_consR, setAll_nil, List.length_cons, List.length_nil, ↓binW_mulI, ↓biW_sum, Nat.reduceAdd, true_and, Nat.reduceLeDiff]
  refine ⟨.inl (small_mul ⟨a1, a2⟩ w2), .inl (small_mul ⟨b1, b2⟩ v2), .inl (small_mul ⟨c1, c2⟩ u2), ?_⟩
  refine ⟨_, rfl, by simp, ?_⟩
  show exSs _ (_ :: _ :: b3_law_entry.drop 5) _ _
  simp only [retW, ↓evE_varR, ↓evE_dct, ↓evEs_nil, ↓evEs_cons, ↓evKV_nil, ↓evI_zip, ↓exS_assignOR, ↓exS_fore, ↓exSs_cons, List.length_cons, List.length_nil, ↓toLV_dct, Nat.reduceAdd, true_and, Nat.reduceLT]
  refine ⟨_, rfl, ?_⟩
  refine zipW4_3 ?_
  simp only [↓forW_nil, ↓forW_cons, ↓asgW_tp, setAll_consR, setAll_nil, clr_consR, clr_nil, List.length_cons, List.length_nil, Nat.reduceAdd, true_and]
  refine ent_step pr "a" x p.a (l := []) (by decide) ?_
  simp only []
  refine ent_step pr "b" y p.b (Nat.le_trans (kput_len _ _ _) (by decide)) ?_
  simp only []
  refine ent_step pr "c" z p.c (Nat.le_trans (kput_len _ _ _) (Nat.succ_le_succ (Nat.le_trans (kput_len _ _ _) (by decide)))) ?_
  rw [ent_put]
  show exSs _ [_, _] _ _
  simp only [fits, retW, ↓evE_varR, ↓evE_tup, ↓evE_bi, ↓evEs_nil, ↓evEs_cons, ↓exS_ret, ↓exS_freezeR, ↓exSs_cons, List.length_cons, List.length_nil, ↓biW_sum, ↓froz_od, Nat.reduceAdd, true_and, Nat.reduceLeDiff]
  refine ⟨_, rfl, ?_⟩
  refine ⟨_, rfl, by simp, ?_⟩
  refine ⟨_, rfl, by simp, ?_⟩
  refine ⟨_, rfl, by simp, ?_⟩
  rw [sum3, sum3, sum3, sum3]
  exact q
end Mine
end
section
open PySem PySem.Calls PyProof.Rows
set_option maxHeartbeats 1000000
namespace Mine
variable {X : Fns}
noncomputable def tabO (p : Nat) (f : Nat → Nat → Int) : List (List D) := (List.range (p + 1)).map fun k => [D.int (f k 0), .int (f k 1), .int (f k 2)]
noncomputable def bump (f : Nat → Nat → Int) (k i : Nat) (v : Int) : Nat → Nat → Int := fun k' i' => if k' = k ∧ i' = i then f k i + v else f k' i'
theorem tabO_len (p : Nat) (f : Nat → Nat → Int) : (tabO p f).length = p + 1 := by simp [tabO]
theorem tabO_at {p k : Nat} (f : Nat → Nat → Int) (h : k ≤ p) : (tabO p f)[k]? = some [D.int (f k 0), .int (f k 1), .int (f k 2)] := by
  unfold tabO
  rw [List.getElem?_map, List.getElem?_range (by (first | lia | omega))]; rfl
theorem tabO_set {p k : Nat} {f g : Nat → Nat → Int} (h : k ≤ p) (hg : ∀ j, j ≠ k → ∀ i, g j i = f j i) : (tabO p f).set k [D.int (g k 0), .int (g k 1), .int (g k 2)] = tabO p g := by
  refine List.ext_getElem? fun j => ?_
  rw [List.getElem?_set]
  by_cases q : k = j
  · subst q
    rw [if_pos rfl, if_pos (by rw [tabO_len]; (first | lia | omega)), tabO_at g h]
  · rw [if_neg q]
    by_cases hj : j ≤ p
    · rw [tabO_at f hj, tabO_at g hj, hg j (fun e => q e.symm), hg j (fun e => q e.symm), hg j (fun e => q e.symm)]
    · rw [List.getElem?_eq_none (by rw [tabO_len]; (first | lia | omega)), List.getElem?_eq_none (by rw [tabO_len]; (first | lia | omega))]
theorem bump_off {f : Nat → Nat → Int} {k i : Nat} {v : Int} : ∀ j, j ≠ k → ∀ i', bump f k i v j i' = f j i' := fun j h i' => by
  unfold bump; rw [if_neg (fun q => h q.1)]
theorem owed1_step {r0 r1 r4 : Option LV} {p k i : Nat} {f : Nat → Nat → Int} (hp : p ≤ 6) (hk : k ≤ p) (hi : i < 3) {Q : Rho → Fl → Prop}
    (q : Q [r0, r1, some (.oll (tabO p (bump f k i 1))), some (.sh (.int i)), r4, some (.sh (.int k))] .next) :
    exSs X b3_law_owed_1 [r0, r1, some (.oll (tabO p f)), some (.sh (.int i)), r4, some (.sh (.int k))] Q := by
  have hs := tabO_set (p := p) (k := k) (f := f) (g := bump f k i 1) hk (fun j h i' => bump_off j h i')
  simp only [b3_law_owed_1, fits, ↓evE_int, ↓evE_varR, ↓exS_augitem2R, ↓exSs_nil, ↓exSs_cons, ↓setW_ol, ↓getW_ol, ↓onI_i, ↓onOl_ol]
  refine ⟨k, _, by rw [tabO_len]; exact idx_nat (by (first | lia | omega)) (by (first | lia | omega)), tabO_at f hk, ?_⟩
  simp only [List.length_cons, List.length_nil, Nat.reduceAdd, true_and, Nat.reduceLeDiff]
  have h3 : i = 0 ∨ i = 1 ∨ i = 2 := by (first | lia | omega)
  rcases h3 with rfl | rfl | rfl
  · refine ⟨.int (f k 0), rfl, ?_⟩
    simp only [↓iopW_add]
    refine ⟨by decide, ?_⟩
    rw [← hs] at q
    simpa [bump] using q
  · refine ⟨.int (f k 1), rfl, ?_⟩
    simp only [↓iopW_add]
    refine ⟨by decide, ?_⟩
    rw [← hs] at q
    simpa [bump] using q
  · refine ⟨.int (f k 2), rfl, ?_⟩
    simp only [↓iopW_add]
    refine ⟨by decide, ?_⟩
    rw [← hs] at q
    simpa [bump] using q
theorem owed2_step {r0 r1 : Option LV} {c : Coin} {nm : Str} {p k i : Nat} {f : Nat → Nat → Int} (hp : p ≤ 6) (hk : k ≤ p) (hi : i < 3) {Q : Rho → Fl → Prop}
    (q : Q [r0, r1, some (.oll (tabO p (bump f k i (-(c.m + 1 : Int))))), some (.sh (.int i)), some (.sh (c.d nm)), some (.sh (.int k))] .next) :
    exSs X b3_law_owed_2 [r0, r1, some (.oll (tabO p f)), some (.sh (.int i)), some (.sh (c.d nm)), some (.sh (.int k))] Q := by
  have hs := tabO_set (p := p) (k := k) (f := f) (g := bump f k i (-(c.m + 1 : Int))) hk (fun j h i' => bump_off j h i')
  simp only [b3_law_owed_2, fits, ↓evE_int, ↓evE_varR, ↓evE_bin, ↓evE_sub, ↓exS_augitem2R, ↓exSs_nil, ↓exSs_cons, ↓setW_ol, ↓getW_ol, ↓onI_i, ↓onOl_ol]
  refine ⟨k, _, by rw [tabO_len]; exact idx_nat (by (first | lia | omega)) (by (first | lia | omega)), tabO_at f hk, ?_⟩
  simp only [List.length_cons, List.length_nil, Nat.reduceAdd, true_and, Nat.reduceLeDiff]
  have h3 : i = 0 ∨ i = 1 ∨ i = 2 := by (first | lia | omega)
  rcases h3 with rfl | rfl | rfl
  · refine ⟨.int (f k 0), rfl, ?_⟩
    simp only [↓subW_c2, ↓binW_addI, ↓iopW_sub]
    refine ⟨by decide, ?_⟩
    rw [← hs] at q
    simpa [bump, Int.sub_eq_add_neg] using q
  · refine ⟨.int (f k 1), rfl, ?_⟩
    simp only [↓subW_c2, ↓binW_addI, ↓iopW_sub]
    refine ⟨by decide, ?_⟩
    rw [← hs] at q
    simpa [bump, Int.sub_eq_add_neg] using q
  · refine ⟨.int (f k 2), rfl, ?_⟩
    simp only [↓subW_c2, ↓binW_addI, ↓iopW_sub]
    refine ⟨by decide, ?_⟩
    rw [← hs] at q
    simpa [bump, Int.sub_eq_add_neg] using q
noncomputable def bumps (f : Nat → Nat → Int) (ms : List Nat) (i : Nat) (v : Int) : Nat → Nat → Int := ms.foldl (fun f k => bump f k i v) f
theorem owed1_loop {r0 r1 r4 : Option LV} {p i : Nat} (hp : p ≤ 6) (hi : i < 3) {Q : Rho → Fl → Prop} : ∀ (ms : List Nat) (f : Nat → Nat → Int), (∀ k ∈ ms, k ≤ p) → Q [r0, r1, some (.oll (tabO p (bumps f ms i 1))), some (.sh (.int i)), r4, none] .next →
    forW (.nm 5) [5] (exSs X b3_law_owed_1) (ms.map fun k => D.int (k : Nat)) [r0, r1, some (.oll (tabO p f)), some (.sh (.int i)), r4, none] Q
  | [], f, _, h => h
  | k :: ms, f, hk, h => by
    simp only [↓forW_cons, ↓asgW_nmR, clr_consR, clr_nil, List.map_cons]
    refine owed1_step hp (hk k (.head _)) hi ?_
    simp only []
    exact owed1_loop hp hi ms (bump f k i 1) (fun j hj => hk j (.tail _ hj)) h
theorem owed2_loop {r0 r1 : Option LV} {c : Coin} {nm : Str} {p i : Nat} (hp : p ≤ 6) (hi : i < 3) {Q : Rho → Fl → Prop} : ∀ (ms : List Nat) (f : Nat → Nat → Int), (∀ k ∈ ms, k ≤ p) → Q [r0, r1, some (.oll (tabO p (bumps f ms i (-(c.m + 1 : Int))))), some (.sh (.int i)), some (.sh (c.d nm)), none] .next →
    forW (.nm 5) [5] (exSs X b3_law_owed_2) (ms.map fun k => D.int (k : Nat)) [r0, r1, some (.oll (tabO p f)), some (.sh (.int i)), some (.sh (c.d nm)), none] Q
  | [], f, _, h => h
  | k :: ms, f, hk, h => by
    simp only [↓forW_cons, ↓asgW_nmR, clr_consR, clr_nil, List.map_cons]
    refine owed2_step hp (hk k (.head _)) hi ?_
    simp only []
    exact owed2_loop hp hi ms (bump f k i (-(c.m + 1 : Int))) (fun j hj => hk j (.tail _ hj)) h
noncomputable def marks (v p : Nat) : List Nat := ((List.range (p / v + 1)).map fun k => v * k).drop 1
theorem marks_le {v p : Nat} : ∀ k ∈ marks v p, k ≤ p := fun k hk => by
  obtain ⟨j, hj, rfl⟩ := List.mem_map.mp (List.mem_of_mem_drop hk)
  have h1 : j ≤ p / v := by have := List.mem_range.mp hj; (first | lia | omega)
  exact Nat.le_trans (Nat.mul_le_mul_left v h1) (Nat.mul_div_le p v)
theorem ti_marks (v p : Nat) : ((mulL v (p / v)).map D.int).drop 1 = (marks v p).map fun k => D.int (k : Nat) := by
  unfold marks mulL
  rw [List.map_map, ← List.map_drop, ← List.map_drop, List.map_map]
  rfl
noncomputable def owedBy (c : Coin) (p i : Nat) (f : Nat → Nat → Int) : Nat → Nat → Int := match freeE c.e with
  | true => bumps f (marks c.w p) i 1
  | false => bumps (bumps f (marks c.w p) i 1) (marks (c.w * (c.m + 1)) p) i (-(c.m + 1 : Int))
theorem mem_rul {c : Coin} (hc : c.Ok) : c.w ∈ ([1, 2, 3, 4, 6, 8, 9, 12, 16] : List Nat) ∧ c.w * (c.m + 1) ∈ ([1, 2, 3, 4, 6, 8, 9, 12, 16] : List Nat) :=
  (by decide : ∀ w ∈ ([1, 2, 3, 4] : List Nat), ∀ m ∈ ([1, 2, 3] : List Nat), w ∈ ([1, 2, 3, 4, 6, 8, 9, 12, 16] : List Nat) ∧ w * (m + 1) ∈ ([1, 2, 3, 4, 6, 8, 9, 12, 16] : List Nat)) c.w hc.mw c.m hc.mm
theorem owed3_step {r0 : Option LV} {c : Coin} (hc : c.Ok) {nm : Str} {p i : Nat} (hp : p = 4 ∨ p = 5 ∨ p = 6) (hi : i < 3) {f : Nat → Nat → Int} {Q : Rho → Fl → Prop}
    (q : Q [r0, some (.sh (.int p)), some (.oll (tabO p (owedBy c p i f))), some (.sh (.int i)), some (.sh (c.d nm)), none] .next) :
    exSs (XN fs3 3) b3_law_owed_3 [r0, some (.sh (.int p)), some (.oll (tabO p f)), some (.sh (.int i)), some (.sh (c.d nm)), none] Q := by
  obtain ⟨m1, m2⟩ := mem_rul hc
  obtain ⟨c1, c2, c3, c4, c5⟩ := hc
  have hp6 : p ≤ 6 := by (first | lia | omega)
  show exSs _ (_ :: b3_law_owed_3.drop 1) _ _
  simp only [↓subW_c1, fits, ↓evE_int, ↓evE_none, ↓evE_varR, ↓evE_lst, ↓evE_sub, ↓evE_slice, ↓evE_call, ↓evEs_nil, ↓evEs_cons, ↓evI_ex, ↓exS_fore, ↓exSs_cons, List.length_cons, List.length_nil, Nat.reduceAdd, true_and, Nat.reduceLeDiff]
  refine ruler_spec m1 hp ?_
  simp only [ti, sliceW_from, fits, and_true, Int.reduceLE, seqOf]
  refine ⟨by rw [List.length_map]; unfold mulL; rw [List.length_map, List.length_range]; have := Nat.div_le_self p c.w; (first | lia | omega), ?_⟩
  refine ⟨_, rfl, ?_⟩
  rw [show List.drop (Int.toNat 1) (List.map D.int (mulL c.w (p / c.w))) = _ from ti_marks c.w p]
  refine owed1_loop hp6 hi _ f marks_le ?_
  show exSs _ [_] _ _
  simp only [↓subW_c3, fits, ↓evE_int, ↓evE_none, ↓evE_varR, ↓evE_lst, ↓evE_bin, ↓evE_sub, ↓evE_slice, ↓evE_call, ↓evEs_nil, ↓evEs_cons, ↓evC_not, ↓evC_sub, ↓evI_ex, ↓exS_ife, ↓exS_fore, ↓exSs_nil, ↓exSs_cons, List.length_cons, List.length_nil, ↓truthW_b, Nat.reduceAdd, true_and, Nat.reduceLeDiff]
  unfold owedBy at q
  cases hf : freeE c.e with
  | true =>
    rw [hf] at q
    simp only [Bool.not_true]
    exact q
  | false =>
    rw [hf] at q
    simp only [↓subW_c1, ↓subW_c2, ↓binW_addI, ↓binW_mulI, Bool.not_false]
    refine ⟨.inl (by unfold smallI; (first | lia | omega)), ?_⟩
    rw [show (c.w : Int) * ((c.m : Int) + 1) = ((c.w * (c.m + 1) : Nat) : Int) by rw [Int.natCast_mul]; rfl]
    refine ruler_spec m2 hp ?_
    simp only [ti, sliceW_from, fits, and_true, Int.reduceLE, seqOf]
    refine ⟨by rw [List.length_map]; unfold mulL; rw [List.length_map, List.length_range]; have := Nat.div_le_self p (c.w * (c.m + 1)); (first | lia | omega), ?_⟩
    refine ⟨_, rfl, ?_⟩
    rw [show List.drop (Int.toNat 1) (List.map D.int (mulL (c.w * (c.m + 1)) (p / (c.w * (c.m + 1))))) = _ from ti_marks _ p]
    refine owed2_loop hp6 hi _ _ marks_le ?_
    exact q
noncomputable def zeroF : Nat → Nat → Int := fun _ _ => 0
noncomputable def owedF (x y z : Coin) (p : Nat) : Nat → Nat → Int := owedBy z p 2 (owedBy y p 1 (owedBy x p 0 zeroF))
theorem owed_spec {x y z : Coin} (hx : x.Ok) (hy : y.Ok) (hz : z.Ok) {p : Nat} (hp : p = 4 ∨ p = 5 ∨ p = 6) {Q : D → Prop} (q : Q (.lst ((tabO p (owedF x y z p)).map .lst))) : XN fs3 4 7 [.lst [x.d "a", y.d "b", z.d "c"], .int p] Q := by
  show _ ∧ exSs _ (_ :: _ :: b3_law_owed.drop 2) _ _
  refine ⟨rfl, ?_⟩
  simp only [f3_law_owed, fits, and_true, rho0, retW, List.replicate, List.cons_append, List.nil_append, Nat.reduceSub, ↓evE_int, ↓evE_varR, ↓evE_bin, ↓evEs_nil, ↓evEs_cons, ↓evI_range, ↓evI_enum, ↓exS_assignLLR, ↓exS_fore, ↓exSs_cons, List.length_cons, List.length_nil, ↓binW_addI, ↓onL_l, List.map_cons, List.map_nil, Nat.reduceAdd, true_and, Nat.reduceLeDiff, Nat.reduceLT, rangeW_1]
  rw [show ((p : Int) + 1).toNat = p + 1 by (first | lia | omega), range_n]
  refine ⟨by (first | lia | omega), by rw [List.length_map, List.length_range]; (first | lia | omega), ?_⟩
  have e0 : List.replicate ((List.range (p + 1)).map fun i => D.int (i : Nat)).length [D.int 0, .int 0, .int 0] = tabO p zeroF := by
    rw [List.length_map, List.length_range]
    unfold tabO
    refine List.ext_getElem? fun j => ?_
    rw [List.getElem?_map, List.getElem?_replicate]
    split
    · rename_i h; rw [List.getElem?_range h]; rfl
    · rename_i h; rw [List.getElem?_eq_none (by simpa using h)]; rfl
  rw [e0]
  simp only [enumL_nil, enumL_cons, ↓forW_nil, ↓forW_cons, ↓asgW_tp, setAll_consR, setAll_nil, clr_consR, clr_nil, List.length_cons, List.length_nil, Nat.reduceAdd, true_and]
  refine owed3_step hx hp (i := 0) (by decide) ?_
  simp only []
  refine owed3_step hy hp (i := 1) (by decide) ?_
  simp only []
  refine owed3_step hz hp (i := 2) (by decide) ?_
  show exSs _ [_, _] _ _
  simp only [retW, ↓evE_varR, ↓exS_ret, ↓exS_freezeR, ↓exSs_cons, ↓froz_oll]
  refine ⟨_, rfl, ?_⟩
  exact q
end Mine
end
section
namespace Mine
noncomputable def sm (f : Nat → Int) : Nat → Int
  | 0 => f 0
  | n + 1 => sm f n + f (n + 1)
noncomputable def cv (f g : Nat → Int) (n : Nat) : Int := sm (fun i => f i * g (n - i)) n
noncomputable def oj (f o : Nat → Int) : Nat → Int
  | 0 => 0
  | k + 1 => sm (fun i => f (k - i) * o (i + 1)) k
theorem sm_congr {f g : Nat → Int} : ∀ (n : Nat), (∀ i, i ≤ n → f i = g i) → sm f n = sm g n
  | 0, h => h 0 (Nat.le_refl _)
  | n + 1, h => by
    show sm f n + _ = sm g n + _
    rw [sm_congr n fun i hi => h i (by (first | lia | omega)), h (n + 1) (Nat.le_refl _)]
theorem sm_mul (c : Int) (f : Nat → Int) : ∀ n, sm (fun i => c * f i) n = c * sm f n
  | 0 => rfl
  | n + 1 => by
    show sm _ n + _ = c * (sm f n + _)
    rw [sm_mul c f n, Int.mul_add]
theorem cv_congr {f f' g g' : Nat → Int} {n : Nat} (hf : ∀ i, i ≤ n → f i = f' i) (hg : ∀ i, i ≤ n → g i = g' i) : cv f g n = cv f' g' n :=
  sm_congr n fun i hi => by rw [hf i hi, hg (n - i) (by (first | lia | omega))]
theorem le6 {g : Nat} (h : g ≤ 6) : g = 0 ∨ g = 1 ∨ g = 2 ∨ g = 3 ∨ g = 4 ∨ g = 5 ∨ g = 6 :=
  (by decide : ∀ g, g < 7 → (g = 0 ∨ g = 1 ∨ g = 2 ∨ g = 3 ∨ g = 4 ∨ g = 5 ∨ g = 6)) g (Nat.lt_succ_of_le h)
theorem oj_cv1 (f G o : Nat → Int) {g : Nat} (h : g ≤ 6) : oj (cv f G) o g = cv (oj f o) G g := by
  rcases le6 h with rfl | rfl | rfl | rfl | rfl | rfl | rfl <;> simp only [oj, cv, sm, Nat.reduceSub, Nat.reduceAdd] <;> grind
theorem oj_cv2 (f G o : Nat → Int) {g : Nat} (h : g ≤ 6) : oj (cv f G) o g = cv f (oj G o) g := by
  rcases le6 h with rfl | rfl | rfl | rfl | rfl | rfl | rfl <;> simp only [oj, cv, sm, Nat.reduceSub, Nat.reduceAdd] <;> grind
theorem sm_add (f g : Nat → Int) : ∀ n, sm f n + sm g n = sm (fun i => f i + g i) n
  | 0 => rfl
  | n + 1 => by
    show (sm f n + f (n + 1)) + (sm g n + g (n + 1)) = sm _ n + (f (n + 1) + g (n + 1))
    rw [← sm_add f g n, Int.add_assoc, Int.add_left_comm (f (n + 1)), ← Int.add_assoc (sm f n)]
theorem leib (f g : Nat → Int) (n : Nat) : cv (fun k => k * f k) g n + cv f (fun k => k * g k) n = n * cv f g n := by
  unfold cv
  rw [sm_add, ← sm_mul]
  refine sm_congr n fun i hi => ?_
  rw [Int.mul_left_comm (f i), Int.mul_assoc, ← Int.add_mul, ← Int.natCast_add, Nat.add_sub_cancel' hi]
theorem cv_add (f a b : Nat → Int) (n : Nat) : cv f a n + cv f b n = cv f (fun k => a k + b k) n := by
  unfold cv
  rw [sm_add]
  exact sm_congr n fun i _ => (Int.mul_add _ _ _).symm
theorem euler (f0 f1 f2 : Nat → Int) {g : Nat} (h : g ≤ 6) : cv (fun k => k * f0 k) (cv f1 f2) g + cv f0 (cv (fun k => k * f1 k) f2) g + cv f0 (cv f1 fun k => k * f2 k) g = g * cv f0 (cv f1 f2) g := by
  rw [Int.add_assoc, cv_add, ← leib f0 (cv f1 f2) g]
  congr 2
  exact funext fun k => leib f1 f2 k
theorem sm_tail {f : Nat → Int} {n : Nat} (h : ∀ j, n < j → f j = 0) : ∀ d : Nat, sm f (n + d) = sm f n
  | 0 => rfl
  | d + 1 => by
    show sm f (n + d) + f (n + d + 1) = _
    rw [h _ (Nat.lt_succ_of_le (Nat.le_add_right n d)), Int.add_zero, sm_tail h d]
theorem pay_cv (u v t : Nat → Int) {p : Nat} (hp : p = 4 ∨ p = 5 ∨ p = 6) : sm (fun i => u i * sm (fun j => v j * (if i + j ≤ p then t (p - i - j) else 0)) p) p = cv u (cv v t) p := by
  refine sm_congr p fun i hi => congrArg (fun x => u i * x) ?_
  refine (congrArg (sm _) (Nat.sub_add_cancel hi).symm).trans ((sm_tail (fun j hj => ?_) i).trans (sm_congr (p - i) fun j hj => ?_))
  · rw [if_neg (by (first | lia | omega)), Int.mul_zero]
  · rw [if_pos (by (first | lia | omega))]
end Mine
end
section
set_option maxRecDepth 100000
namespace Mine
noncomputable def seqF (w m e k : Nat) : Int := if w ∣ k ∧ (freeE e = true ∨ k / w ≤ m) then 1 else 0
noncomputable def seqO (w m e k : Nat) : Int := (if w ∣ k then 1 else 0) + (if freeE e = true then 0 else if w * (m + 1) ∣ k then -(m + 1 : Int) else 0)
noncomputable def seqJ (w m e k : Nat) : Int := ((k / w : Nat) : Int) * seqF w m e k
noncomputable def Coin.F (c : Coin) : Nat → Int := seqF c.w c.m c.e
noncomputable def Coin.O (c : Coin) : Nat → Int := seqO c.w c.m c.e
noncomputable def Coin.J (c : Coin) : Nat → Int := seqJ c.w c.m c.e
noncomputable def r7 : List Nat := [0, 1, 2, 3, 4, 5, 6]
noncomputable def okSeq (w m e k : Nat) : Bool := decide (oj (seqF w m e) (seqO w m e) k = seqJ w m e k) && decide ((w : Int) * seqJ w m e k = k * seqF w m e k) && decide (0 ≤ seqF w m e k ∧ seqF w m e k ≤ 1) && decide (0 ≤ seqJ w m e k ∧ seqJ w m e k ≤ 6) && decide (-5 ≤ seqO w m e k ∧ seqO w m e k ≤ 5)
theorem okSeq_all : (([1, 2, 3, 4] : List Nat).all fun w => ([1, 2, 3] : List Nat).all fun m => r4.all fun e => r7.all fun k => okSeq w m e k) = true := by decide +kernel
structure SeqOk (c : Coin) (k : Nat) : Prop where
  j : oj c.F c.O k = c.J k
  w : (c.w : Int) * c.J k = k * c.F k
  f0 : 0 ≤ c.F k
  f1 : c.F k ≤ 1
  j0 : 0 ≤ c.J k
  j6 : c.J k ≤ 6
  o0 : -5 ≤ c.O k
  o5 : c.O k ≤ 5
theorem mem7 {k : Nat} (h : k ≤ 6) : k ∈ r7 := (by decide : ∀ k, k < 7 → k ∈ r7) k (Nat.lt_succ_of_le h)
theorem seq_ok {c : Coin} (hc : c.Ok) {k : Nat} (hk : k ≤ 6) : SeqOk c k := by
  have h := List.all_eq_true.mp (List.all_eq_true.mp (List.all_eq_true.mp (List.all_eq_true.mp okSeq_all c.w hc.mw) c.m hc.mm) c.e hc.me) k (mem7 hk)
  simp only [okSeq, Bool.and_eq_true, decide_eq_true_eq] at h
  obtain ⟨⟨⟨⟨a, b⟩, c1, c2⟩, d1, d2⟩, e1, e2⟩ := h
  exact ⟨a, b, c1, c2, d1, d2, e1, e2⟩
noncomputable def wayN (x y z : Coin) (n : Nat) : Int := cv x.F (cv y.F z.F) n
theorem way_x {x y z : Coin} (hx : x.Ok) {g : Nat} (hg : g ≤ 6) : oj (wayN x y z) x.O g = cv x.J (cv y.F z.F) g := by
  show oj (cv x.F _) x.O g = _
  rw [oj_cv1 _ _ _ hg]
  exact cv_congr (fun i hi => (seq_ok hx (by (first | lia | omega))).j) fun _ _ => rfl
theorem way_y {x y z : Coin} (hy : y.Ok) {g : Nat} (hg : g ≤ 6) : oj (wayN x y z) y.O g = cv x.F (cv y.J z.F) g := by
  show oj (cv x.F _) y.O g = _
  rw [oj_cv2 _ _ _ hg]
  refine cv_congr (fun _ _ => rfl) fun i hi => ?_
  rw [oj_cv1 _ _ _ (by (first | lia | omega))]
  exact cv_congr (fun i hi => (seq_ok hy (by (first | lia | omega))).j) fun _ _ => rfl
theorem way_z {x y z : Coin} (hz : z.Ok) {g : Nat} (hg : g ≤ 6) : oj (wayN x y z) z.O g = cv x.F (cv y.F z.J) g := by
  show oj (cv x.F _) z.O g = _
  rw [oj_cv2 _ _ _ hg]
  refine cv_congr (fun _ _ => rfl) fun i hi => ?_
  rw [oj_cv2 _ _ _ (by (first | lia | omega))]
  exact cv_congr (fun _ _ => rfl) fun i hi => (seq_ok hz (by (first | lia | omega))).j
theorem cv_mul1 (c : Int) (f g : Nat → Int) (n : Nat) : c * cv f g n = cv (fun i => c * f i) g n := by
  unfold cv
  rw [← sm_mul]
  exact sm_congr n fun i _ => (Int.mul_assoc _ _ _).symm
theorem cv_mul2 (c : Int) (f g : Nat → Int) (n : Nat) : c * cv f g n = cv f (fun i => c * g i) n := by
  unfold cv
  rw [← sm_mul]
  exact sm_congr n fun i _ => Int.mul_left_comm _ _ _
theorem money_eq {x y z : Coin} (hx : x.Ok) (hy : y.Ok) (hz : z.Ok) {g : Nat} (hg : g ≤ 6) : (x.w : Int) * oj (wayN x y z) x.O g + (y.w : Int) * oj (wayN x y z) y.O g + (z.w : Int) * oj (wayN x y z) z.O g = g * wayN x y z g := by
  rw [way_x hx hg, way_y hy hg, way_z hz hg, cv_mul1, cv_mul2, cv_mul2]
  unfold wayN
  rw [← euler _ _ _ hg]
  congr 1
  · congr 1
    · exact cv_congr (fun i hi => (seq_ok hx (by (first | lia | omega))).w) fun _ _ => rfl
    · refine cv_congr (fun _ _ => rfl) fun i hi => ?_
      rw [cv_mul1]
      exact cv_congr (fun i hi => (seq_ok hy (by (first | lia | omega))).w) fun _ _ => rfl
  · refine cv_congr (fun _ _ => rfl) fun i hi => ?_
    rw [cv_mul2]
    exact cv_congr (fun _ _ => rfl) fun i hi => (seq_ok hz (by (first | lia | omega))).w
theorem sm_bound {f : Nat → Int} {B : Int} : ∀ (n : Nat), (∀ i, i ≤ n → 0 ≤ f i ∧ f i ≤ B) → 0 ≤ sm f n ∧ sm f n ≤ (n + 1) * B
  | 0, h => by
    have := h 0 (Nat.le_refl _)
    show 0 ≤ f 0 ∧ f 0 ≤ _
    exact ⟨this.1, by have := this.2; simpa using this⟩
  | n + 1, h => by
    have h1 := sm_bound (f := f) (B := B) n fun i hi => h i (by (first | lia | omega))
    have h2 := h (n + 1) (Nat.le_refl _)
    show 0 ≤ sm f n + f (n + 1) ∧ sm f n + f (n + 1) ≤ _
    refine ⟨by (first | lia | omega), ?_⟩
    have e : (((n + 1 : Nat) : Int) + 1) * B = ((n : Int) + 1) * B + B := by push_cast; rw [Int.add_mul]; simp
    rw [e]; (first | lia | omega)
theorem mul01 {a b B : Int} (a0 : 0 ≤ a) (a1 : a ≤ 1) (b0 : 0 ≤ b) (bB : b ≤ B) : 0 ≤ a * b ∧ a * b ≤ B := by
  have : a = 0 ∨ a = 1 := by (first | lia | omega)
  rcases this with rfl | rfl
  · rw [Int.zero_mul]; (first | lia | omega)
  · rw [Int.one_mul]; (first | lia | omega)
theorem cv_bound {f g : Nat → Int} {B : Int} {n : Nat} (hf : ∀ i, i ≤ n → 0 ≤ f i ∧ f i ≤ 1) (hg : ∀ i, i ≤ n → 0 ≤ g i ∧ g i ≤ B) : 0 ≤ cv f g n ∧ cv f g n ≤ (n + 1) * B :=
  sm_bound n fun i hi => mul01 (hf i hi).1 (hf i hi).2 (hg (n - i) (by (first | lia | omega))).1 (hg (n - i) (by (first | lia | omega))).2
theorem F01 {c : Coin} (hc : c.Ok) {n : Nat} (hn : n ≤ 6) : ∀ i, i ≤ n → 0 ≤ c.F i ∧ c.F i ≤ 1 := fun i hi => ⟨(seq_ok hc (by (first | lia | omega))).f0, (seq_ok hc (by (first | lia | omega))).f1⟩
theorem way_bound {x y z : Coin} (hx : x.Ok) (hy : y.Ok) (hz : z.Ok) {n : Nat} (hn : n ≤ 6) : 0 ≤ wayN x y z n ∧ wayN x y z n ≤ 49 := by
  have h1 : ∀ i, i ≤ n → 0 ≤ cv y.F z.F i ∧ cv y.F z.F i ≤ 7 := fun i hi => by
    obtain ⟨a, b⟩ := cv_bound (B := 1) (F01 hy (show i ≤ 6 by (first | lia | omega))) (F01 hz (by (first | lia | omega)))
    exact ⟨a, by (first | lia | omega)⟩
  obtain ⟨a, b⟩ := cv_bound (F01 hx hn) h1
  exact ⟨a, by unfold wayN; (first | lia | omega)⟩
end Mine
end
section
set_option maxRecDepth 100000
namespace Mine
theorem bumps_eq (i : Nat) (v : Int) (k j : Nat) : ∀ (ms : List Nat) (f : Nat → Nat → Int), bumps f ms i v k j = f k j + if j = i then (ms.count k : Int) * v else 0
  | [], f => by
    show f k j = _
    rw [List.count_nil]
    split <;> simp
  | m :: ms, f => by
    show bumps (bump f m i v) ms i v k j = _
    rw [bumps_eq i v k j ms, List.count_cons]
    unfold bump
    by_cases hj : j = i
    · subst hj
      by_cases hk : k = m
      · subst hk
        simp only [and_self, if_true, beq_self_eq_true]
        push_cast
        rw [Int.add_mul, Int.one_mul]; (first | lia | omega)
      · have hk' : (m == k) = false := beq_eq_false_iff_ne.mpr (fun e => hk e.symm)
        simp [hk, hk']
    · simp [hj]
noncomputable def l9 : List Nat := [1, 2, 3, 4, 6, 8, 9, 12, 16]
theorem count_all : (([4, 5, 6] : List Nat).all fun p => l9.all fun v => r7.all fun k => Nat.beq k 0 || Nat.blt p k || Nat.beq ((marks v p).count k) (if v ∣ k then 1 else 0)) = true := by decide +kernel
theorem count_marks {p v k : Nat} (hp : p = 4 ∨ p = 5 ∨ p = 6) (hv : v ∈ l9) (k1 : 1 ≤ k) (hk : k ≤ p) : (marks v p).count k = if v ∣ k then 1 else 0 := by
  have h := List.all_eq_true.mp (List.all_eq_true.mp (List.all_eq_true.mp count_all p (mem456 hp)) v hv) k (mem7 (by (first | lia | omega)))
  simp only [Bool.or_eq_true] at h
  rcases h with (h | h) | h
  · have := Nat.eq_of_beq_eq_true h; (first | lia | omega)
  · have : p + 1 ≤ k := by simpa [Nat.blt] using h
    (first | lia | omega)
  · exact Nat.eq_of_beq_eq_true h
theorem owedBy_eq {c : Coin} (hc : c.Ok) {p i : Nat} (hp : p = 4 ∨ p = 5 ∨ p = 6) {f : Nat → Nat → Int} {k j : Nat} (k1 : 1 ≤ k) (hk : k ≤ p) : owedBy c p i f k j = f k j + if j = i then c.O k else 0 := by
  obtain ⟨m1, m2⟩ := mem_rul hc
  unfold owedBy Coin.O seqO
  cases hf : freeE c.e with
  | true =>
    dsimp only
    rw [bumps_eq, count_marks hp m1 k1 hk]
    by_cases hj : j = i
    · simp only [hj, if_true]; split <;> simp
    · simp [hj]
  | false =>
    dsimp only
    rw [bumps_eq, bumps_eq, count_marks hp m1 k1 hk, count_marks hp m2 k1 hk]
    by_cases hj : j = i
    · simp only [hj, if_true, Bool.false_eq_true, if_false]
      by_cases h1 : c.w ∣ k <;> by_cases h2 : c.w * (c.m + 1) ∣ k <;> simp [h1, h2, Int.add_assoc]
    · simp [hj]
theorem owedF_eq {x y z : Coin} (hx : x.Ok) (hy : y.Ok) (hz : z.Ok) {p k : Nat} (hp : p = 4 ∨ p = 5 ∨ p = 6) (k1 : 1 ≤ k) (hk : k ≤ p) : owedF x y z p k 0 = x.O k ∧ owedF x y z p k 1 = y.O k ∧ owedF x y z p k 2 = z.O k := by
  unfold owedF
  refine ⟨?_, ?_, ?_⟩ <;> (rw [owedBy_eq hz hp k1 hk, owedBy_eq hy hp k1 hk, owedBy_eq hx hp k1 hk]; simp [zeroF])
theorem sum_mul {w n : Nat} (g : Int → Int) : ∀ p : Nat, sm (fun k => (if w ∣ k ∧ k / w ≤ n then 1 else 0) * g (k : Nat)) p = ((List.range (min (n + 1) (p / w + 1))).map fun j => g ((w * j : Nat) : Int)).sum
  | 0 => by
    rw [Nat.zero_div, Nat.zero_add, Nat.min_eq_right (Nat.succ_le_succ (Nat.zero_le n))]
    show (if w ∣ 0 ∧ 0 / w ≤ n then (1 : Int) else 0) * g ((0 : Nat) : Int) = g ((w * 0 : Nat) : Int) + 0
    rw [if_pos ⟨Nat.dvd_zero w, by rw [Nat.zero_div]; exact Nat.zero_le n⟩, Int.one_mul, Int.add_zero, Nat.mul_zero]
  | p + 1 => by
    show sm _ p + (if w ∣ p + 1 ∧ (p + 1) / w ≤ n then (1 : Int) else 0) * g ((p + 1 : Nat) : Int) = _
    rw [sum_mul g p]
    by_cases hd : w ∣ p + 1
    · have hq : (p + 1) / w = p / w + 1 := by rw [Nat.succ_div, if_pos hd]
      have hm : w * (p / w + 1) = p + 1 := by rw [← hq]; exact Nat.mul_div_cancel' hd
      by_cases hn : p / w + 1 ≤ n
      · rw [if_pos ⟨hd, by rw [hq]; exact hn⟩, Int.one_mul, hq, Nat.min_eq_right (Nat.succ_le_succ hn), Nat.min_eq_right (Nat.le_succ_of_le hn), List.range_succ (n := p / w + 1), List.map_append, List.sum_append]
        show _ = _ + (g ((w * (p / w + 1) : Nat) : Int) + 0)
        rw [hm, Int.add_zero]
      · rw [if_neg (fun q => hn (by have := q.2; rw [hq] at this; exact this)), Int.zero_mul, Int.add_zero, hq, Nat.min_eq_left (Nat.lt_of_not_le hn), Nat.min_eq_left (Nat.le_succ_of_le (Nat.lt_of_not_le hn))]
    · rw [if_neg (fun q => hd q.1), Int.zero_mul, Int.add_zero, Nat.succ_div, if_neg hd, Nat.add_zero]
theorem seqF_cap {c : Coin} (hc : c.Ok) {p k : Nat} (hk : k ≤ p) : c.F k = if c.w ∣ k ∧ k / c.w ≤ capC c.w c.m c.e p then 1 else 0 := by
  have h := Nat.div_le_div_right (c := c.w) hk
  unfold Coin.F seqF capC
  cases hf : freeE c.e with
  | true =>
    dsimp only
    by_cases hd : c.w ∣ k <;> simp [hd, h]
  | false =>
    dsimp only
    have : (k / c.w ≤ min (p / c.w) c.m) ↔ k / c.w ≤ c.m := by (first | lia | omega)
    simp [this]
theorem cap_div {w m e p : Nat} : capC w m e p ≤ p / w := by
  unfold capC
  split
  · exact Nat.le_refl _
  · exact Nat.min_le_left _ _
theorem coin_sum {c : Coin} (hc : c.Ok) (p : Nat) (g : Int → Int) : ((mulL c.w (capC c.w c.m c.e p)).map g).sum = sm (fun k => c.F k * g (k : Nat)) p := by
  rw [sm_congr (g := fun k => (if c.w ∣ k ∧ k / c.w ≤ capC c.w c.m c.e p then 1 else 0) * g (k : Nat)) p (fun i hi => by rw [seqF_cap hc hi]), sum_mul g p]
  have := cap_div (w := c.w) (m := c.m) (e := c.e) (p := p)
  rw [show min (capC c.w c.m c.e p + 1) (p / c.w + 1) = capC c.w c.m c.e p + 1 by (first | lia | omega)]
  unfold mulL
  rw [List.map_map]
  rfl
theorem coin_has {c : Coin} (hc : c.Ok) {p i j : Nat} (v : Int) : (if (mulL c.w (capC c.w c.m c.e p)).contains ((p : Int) - i - j) = true then v else 0) = (if i + j ≤ p then c.F (p - i - j) else 0) * v := by
  have hw : 1 ≤ c.w := hc.w1
  by_cases h : i + j ≤ p
  · rw [if_pos h, seqF_cap hc (show p - i - j ≤ p by (first | lia | omega))]
    have e : ((p : Int) - i - j) = ((p - i - j : Nat) : Int) := by (first | lia | omega)
    have hm : (mulL c.w (capC c.w c.m c.e p)).contains ((p : Int) - i - j) = true ↔ (c.w ∣ p - i - j ∧ (p - i - j) / c.w ≤ capC c.w c.m c.e p) := by
      rw [List.contains_iff_mem, e]
      unfold mulL
      rw [List.mem_map]
      constructor
      · rintro ⟨k, hk, q⟩
        have q' : c.w * k = p - i - j := by exact_mod_cast q
        rw [← q']
        exact ⟨Nat.dvd_mul_right _ _, by rw [Nat.mul_div_cancel_left _ hw]; have := List.mem_range.mp hk; (first | lia | omega)⟩
      · rintro ⟨hd, hq⟩
        exact ⟨(p - i - j) / c.w, List.mem_range.mpr (by (first | lia | omega)), by rw [Nat.mul_div_cancel' hd]⟩
    by_cases q : c.w ∣ p - i - j ∧ (p - i - j) / c.w ≤ capC c.w c.m c.e p
    · rw [if_pos (hm.mpr q), if_pos q, Int.one_mul]
    · rw [if_neg (fun a => q (hm.mp a)), if_neg q, Int.zero_mul]
  · rw [if_neg h, Int.zero_mul, if_neg]
    rw [List.contains_iff_mem]
    unfold mulL
    rw [List.mem_map]
    rintro ⟨k, _, q⟩
    (first | lia | omega)
noncomputable def paysOf (x y z : Coin) (p : Nat) : List Pc := (mulL x.w (capC x.w x.m x.e p)).flatMap fun a => (mulL y.w (capC y.w y.m y.e p)).flatMap fun b =>
  if (mulL z.w (capC z.w z.m z.e p)).contains ((p : Int) - a - b) = true then [⟨a.fdiv x.w, b.fdiv y.w, ((p : Int) - a - b).fdiv z.w⟩] else []
theorem sum_flat {α : Type} (φ : Pc → Int) (f : α → List Pc) : ∀ l : List α, ((l.flatMap f).map φ).sum = (l.map fun a => ((f a).map φ).sum).sum
  | [] => rfl
  | a :: l => by rw [List.flatMap_cons, List.map_append, List.sum_append, sum_flat φ f l]; rfl
theorem pays_sum {x y z : Coin} (hx : x.Ok) (hy : y.Ok) (hz : z.Ok) (p : Nat) (φ : Pc → Int) : ((paysOf x y z p).map φ).sum =
    sm (fun i => x.F i * sm (fun j => y.F j * ((if i + j ≤ p then z.F (p - i - j) else 0) * φ ⟨((i : Nat) : Int).fdiv x.w, ((j : Nat) : Int).fdiv y.w, ((p : Int) - (i : Nat) - (j : Nat)).fdiv z.w⟩)) p) p := by
  unfold paysOf
  rw [sum_flat, coin_sum hx]
  refine sm_congr p fun i hi => ?_
  congr 1
  rw [sum_flat, coin_sum hy]
  refine sm_congr p fun j hj => ?_
  congr 1
  rw [← coin_has hz]
  split
  · simp
  · rfl
theorem fdivN (a b : Nat) : ((a : Nat) : Int).fdiv ((b : Nat) : Int) = ((a / b : Nat) : Int) := by
  rw [Int.fdiv_eq_ediv_of_nonneg _ (by (first | lia | omega))]; simp
theorem pays_len {x y z : Coin} (hx : x.Ok) (hy : y.Ok) (hz : z.Ok) {p : Nat} (hp : p = 4 ∨ p = 5 ∨ p = 6) : ((paysOf x y z p).length : Int) = wayN x y z p := by
  have e : ((paysOf x y z p).length : Int) = ((paysOf x y z p).map fun _ => (1 : Int)).sum := by
    induction paysOf x y z p with
    | nil => rfl
    | cons a l ih => rw [List.length_cons, List.map_cons, List.sum_cons, ← ih]; (first | lia | omega)
  rw [e, pays_sum hx hy hz]
  simp only [Int.mul_one]
  exact pay_cv _ _ _ hp
theorem pays_a {x y z : Coin} (hx : x.Ok) (hy : y.Ok) (hz : z.Ok) {p : Nat} (hp : p = 4 ∨ p = 5 ∨ p = 6) : ((paysOf x y z p).map Pc.a).sum = oj (wayN x y z) x.O p := by
  rw [way_x hx (by (first | lia | omega)), pays_sum hx hy hz, ← pay_cv _ _ _ hp]
  refine sm_congr p fun i _ => ?_
  rw [fdivN]
  show x.F i * sm (fun j => y.F j * (_ * ((i / x.w : Nat) : Int))) p = ((i / x.w : Nat) : Int) * x.F i * _
  rw [sm_congr (g := fun j => ((i / x.w : Nat) : Int) * (y.F j * (if i + j ≤ p then z.F (p - i - j) else 0))) p (fun j _ => by rw [Int.mul_comm _ ((i / x.w : Nat) : Int), Int.mul_left_comm]), sm_mul, ← Int.mul_assoc, Int.mul_comm (x.F i)]
theorem pays_b {x y z : Coin} (hx : x.Ok) (hy : y.Ok) (hz : z.Ok) {p : Nat} (hp : p = 4 ∨ p = 5 ∨ p = 6) : ((paysOf x y z p).map Pc.b).sum = oj (wayN x y z) y.O p := by
  rw [way_y hy (by (first | lia | omega)), pays_sum hx hy hz, ← pay_cv _ _ _ hp]
  refine sm_congr p fun i _ => ?_
  congr 1
  refine sm_congr p fun j _ => ?_
  show y.F j * (_ * ((j : Nat) : Int).fdiv y.w) = ((j / y.w : Nat) : Int) * y.F j * _
  rw [fdivN, Int.mul_comm ((j / y.w : Nat) : Int) (y.F j), Int.mul_assoc, Int.mul_comm ((j / y.w : Nat) : Int)]
theorem pays_c {x y z : Coin} (hx : x.Ok) (hy : y.Ok) (hz : z.Ok) {p : Nat} (hp : p = 4 ∨ p = 5 ∨ p = 6) : ((paysOf x y z p).map Pc.c).sum = oj (wayN x y z) z.O p := by
  rw [way_z hz (by (first | lia | omega)), pays_sum hx hy hz, ← pay_cv _ _ _ hp]
  refine sm_congr p fun i _ => ?_
  congr 1
  refine sm_congr p fun j _ => ?_
  congr 1
  show _ * ((p : Int) - (i : Nat) - (j : Nat)).fdiv z.w = _
  split
  · rename_i h
    rw [show (p : Int) - (i : Nat) - (j : Nat) = ((p - i - j : Nat) : Int) by (first | lia | omega), fdivN]
    show _ = ((_ / z.w : Nat) : Int) * z.F _
    rw [Int.mul_comm]
  · rw [Int.zero_mul]
end Mine
end
section
open PySem PySem.Calls PyProof.Rows
set_option maxHeartbeats 1000000
namespace Mine
variable {X : Fns}
theorem any_int (v : Int) : ∀ l : List Int, ((l.map D.int).any fun y => eqv y (.int v)) = l.contains v
  | [] => rfl
  | i :: l => by
    rw [List.map_cons, List.any_cons, eqv_int, any_int v l, List.contains_cons]
    congr 1
    by_cases h : i = v
    · subst h; simp
    · rw [beq_eq_false_iff_ne.mpr h, beq_eq_false_iff_ne.mpr (fun e => h e.symm)]
theorem all_int (v : Int) : ∀ l : List Int, ((l.map D.int).all fun y => eqP 4 y (.int v)) = true
  | [] => rfl
  | i :: l => by rw [List.map_cons, List.all_cons, all_int v l]; rfl
noncomputable def coinsD (x y z : Coin) : D := .lst [x.d "a", y.d "b", z.d "c"]
noncomputable def payOf (x y z : Coin) (A2 : List Int) (p a b : Int) : List Pc := if A2.contains (p - a - b) = true then [⟨a.fdiv x.w, b.fdiv y.w, (p - a - b).fdiv z.w⟩] else []
theorem pay_step {r0 r2 r5 : Option LV} {x y z : Coin} (hx : x.Ok) (hy : y.Ok) (hz : z.Ok) {A0 A1 : D} {A2 : List Int} {p a b : Int} {acc : List Pc} {R : Rho} (hl : acc.length ≤ 1000) {Q : Rho → Fl → Prop}
    (q : Q (r0 :: some (.sh (coinsD x y z)) :: r2 :: some (.sh (.int p)) :: some (.sh (.lst [A0, A1, ti A2])) :: r5 :: some (.ol ((acc ++ payOf x y z A2 p a b).map Pc.d)) :: some (.sh (.int a)) :: some (.sh (.int b)) :: R) .next) :
    exSs X b3_law_1 (r0 :: some (.sh (coinsD x y z)) :: r2 :: some (.sh (.int p)) :: some (.sh (.lst [A0, A1, ti A2])) :: r5 :: some (.ol (acc.map Pc.d)) :: some (.sh (.int a)) :: some (.sh (.int b)) :: R) Q := by
  obtain ⟨w1, w2, _⟩ := hx
  obtain ⟨v1, v2, _⟩ := hy
  obtain ⟨u1, u2, _⟩ := hz
  simp only [b3_law_1, coinsD, fits, ↓evE_int, ↓evE_varR, ↓evE_lst, ↓evE_bin, ↓evE_sub, ↓evEs_nil, ↓evEs_cons, ↓evC_cmp, ↓exS_appendR, ↓exS_ife, ↓exSs_nil, ↓exSs_cons, List.length_cons, List.length_nil, ↓binW_sub, ↓subW_l, Nat.reduceAdd, true_and, Nat.reduceLeDiff]
  refine ⟨ti A2, rfl, ?_⟩
  simp only [ti, ↓cmpW_inL]
  refine ⟨all_int _ _, ?_⟩
  rw [any_int]
  unfold payOf at q
  cases hc : A2.contains (p - a - b) with
  | false =>
    rw [hc] at q
    rw [if_neg Bool.false_ne_true, List.append_nil] at q
    exact q
  | true =>
    rw [hc] at q
    simp only []
    refine ⟨x.d "a", rfl, ?_⟩
    simp only [↓subW_c1, ne_eq, ↓binW_fdiv]
    refine ⟨by (first | lia | omega), ?_⟩
    refine ⟨y.d "b", rfl, ?_⟩
    simp only [↓subW_c1, ne_eq, ↓binW_fdiv]
    refine ⟨by (first | lia | omega), ?_⟩
    refine ⟨z.d "c", rfl, ?_⟩
    simp only [↓subW_c1, ne_eq, ↓binW_fdiv]
    refine ⟨by (first | lia | omega), by rw [List.length_map]; (first | lia | omega), ?_⟩
    rw [if_pos rfl, List.map_append] at q
    exact q
theorem payOf_len (x y z : Coin) (A2 : List Int) (p a b : Int) : (payOf x y z A2 p a b).length ≤ 1 := by
  unfold payOf
  split
  · exact Nat.le_refl _
  · exact Nat.zero_le _
theorem pay_loop2 {r0 r2 r5 : Option LV} {x y z : Coin} (hx : x.Ok) (hy : y.Ok) (hz : z.Ok) {A0 A1 : D} {A2 : List Int} {p a : Int} {R : Rho} {Q : Rho → Fl → Prop} : ∀ (bs : List Int) (acc : List Pc), acc.length + bs.length ≤ 1000 →
    Q (r0 :: some (.sh (coinsD x y z)) :: r2 :: some (.sh (.int p)) :: some (.sh (.lst [A0, A1, ti A2])) :: r5 :: some (.ol ((acc ++ bs.flatMap (payOf x y z A2 p a)).map Pc.d)) :: some (.sh (.int a)) :: none :: R) .next →
    forW (.nm 8) [8] (exSs X b3_law_1) (bs.map D.int) (r0 :: some (.sh (coinsD x y z)) :: r2 :: some (.sh (.int p)) :: some (.sh (.lst [A0, A1, ti A2])) :: r5 :: some (.ol (acc.map Pc.d)) :: some (.sh (.int a)) :: none :: R) Q
  | [], acc, _, q => by
    rw [List.flatMap_nil, List.append_nil] at q
    exact q
  | b :: bs, acc, hl, q => by
    simp only [List.length_cons] at hl
    simp only [↓forW_cons, ↓asgW_nmR, clr_consR, clr_nil, List.map_cons]
    refine pay_step hx hy hz (by (first | lia | omega)) ?_
    simp only []
    refine pay_loop2 hx hy hz bs _ ?_ ?_
    · have := payOf_len x y z A2 p a b
      rw [List.length_append]; (first | lia | omega)
    · rw [List.flatMap_cons, ← List.append_assoc] at q
      exact q
theorem flat_len (x y z : Coin) (A2 : List Int) (p a : Int) : ∀ bs : List Int, (bs.flatMap (payOf x y z A2 p a)).length ≤ bs.length
  | [] => Nat.le_refl _
  | b :: bs => by
    have h1 := payOf_len x y z A2 p a b
    have h2 := flat_len x y z A2 p a bs
    rw [List.flatMap_cons, List.length_append, List.length_cons]; (first | lia | omega)
theorem pay_loop1 {r0 r2 r5 : Option LV} {x y z : Coin} (hx : x.Ok) (hy : y.Ok) (hz : z.Ok) {A0 : D} {A1 A2 : List Int} {p : Int} {R : Rho} {Q : Rho → Fl → Prop} : ∀ (as : List Int) (acc : List Pc), acc.length + as.length * A1.length + A1.length ≤ 1000 →
    Q (r0 :: some (.sh (coinsD x y z)) :: r2 :: some (.sh (.int p)) :: some (.sh (.lst [A0, ti A1, ti A2])) :: r5 :: some (.ol ((acc ++ as.flatMap fun a => A1.flatMap (payOf x y z A2 p a)).map Pc.d)) :: none :: none :: R) .next →
    forW (.nm 7) [7, 8] (exSs X b3_law_2) (as.map D.int) (r0 :: some (.sh (coinsD x y z)) :: r2 :: some (.sh (.int p)) :: some (.sh (.lst [A0, ti A1, ti A2])) :: r5 :: some (.ol (acc.map Pc.d)) :: none :: none :: R) Q
  | [], acc, _, q => by
    rw [List.flatMap_nil, List.append_nil] at q
    exact q
  | a :: as, acc, hl, q => by
    simp only [List.length_cons, Nat.add_mul, Nat.one_mul] at hl
    simp only [b3_law_2, ↓evE_int, ↓evE_varR, ↓evE_sub, ↓evI_ex, ↓exS_fore, ↓exSs_nil, ↓exSs_cons, ↓forW_cons, ↓asgW_nmR, clr_consR, clr_nil, List.length_cons, List.length_nil, ↓subW_l, List.map_cons, Nat.reduceAdd]
    refine ⟨ti A1, rfl, ?_⟩
    refine ⟨A1.map .int, rfl, ?_⟩
    refine pay_loop2 hx hy hz A1 acc (by (first | lia | omega)) ?_
    simp only []
    have h2 := flat_len x y z A2 p a A1
    refine pay_loop1 hx hy hz as _ ?_ ?_
    · rw [List.length_append]; (first | lia | omega)
    · rw [List.flatMap_cons, ← List.append_assoc] at q
      exact q
end Mine
end
section
open PySem PySem.Calls PyProof.Rows
set_option maxHeartbeats 1000000
namespace Mine
noncomputable def ent0 : Ent := ⟨0, 0, 0, 0, []⟩
theorem caller_add (pr : Bool) (a b : Int) (c : Coin) : padd (callerOf pr a c) (callerOf pr b c) = callerOf pr (a + b) c := by
  cases pr with
  | true => show (a + b, a * c.t + b * c.t) = (a + b, (a + b) * c.t); rw [Int.add_mul]
  | false => show (a * c.w + b * c.w, (0 : Int) + 0) = ((a + b) * c.w, 0); rw [Int.add_mul]; rfl
theorem addK3 (u v w u' v' w' : Int × Int) : addK [(.str "a", u), (.str "b", v), (.str "c", w)] [(.str "a", u'), (.str "b", v'), (.str "c", w')] = [(.str "a", padd u u'), (.str "b", padd v v'), (.str "c", padd w w')] := by
  simp only [addK, List.foldl_cons, List.foldl_nil, kbump, kget, kput, if_true, if_neg kab, if_neg kac, if_neg kbc]
theorem addK0 (u v w : Int × Int) : addK [] [(.str "a", u), (.str "b", v), (.str "c", w)] = [(.str "a", u), (.str "b", v), (.str "c", w)] := by
  simp only [addK, List.foldl_cons, List.foldl_nil, kbump, kget, kput, if_neg kab, if_neg kac, if_neg kbc]
theorem lin3 (a b c a' b' c' w v u : Int) : a' * w + b' * v + c' * u + (a * w + b * v + c * u) = (a + a') * w + (b + b') * v + (c + c') * u := by
  rw [Int.add_mul, Int.add_mul, Int.add_mul]; (first | lia | omega)
theorem ent_add (pr : Bool) (x y z : Coin) (p q : Pc) : (entOf pr x y z p).add (entOf pr x y z q) = entOf pr x y z (p.add q) := by
  unfold Ent.add entOf entC
  rw [addK3, caller_add, caller_add, caller_add]
  congr 1
  · show q.a + q.b + q.c + (p.a + p.b + p.c) = p.a + q.a + (p.b + q.b) + (p.c + q.c); (first | lia | omega)
  · exact lin3 ..
  · exact lin3 ..
  · have := lin3 p.a p.b p.c q.a q.b q.c ((x.w : Int) * x.t) (y.w * y.t) (z.w * z.t)
    simp only [← Int.mul_assoc] at this
    exact this
theorem ent_add0 (pr : Bool) (x y z : Coin) (q : Pc) : ent0.add (entOf pr x y z q) = entOf pr x y z q := by
  unfold Ent.add entOf entC ent0
  rw [addK0]
  congr 1 <;> exact Int.add_zero _
theorem ent_keys (pr : Bool) (x y z : Coin) (p : Pc) : ((entOf pr x y z p).cs.map (·.1)).Nodup := by
  show [K.str "a", K.str "b", K.str "c"].Nodup
  decide +kernel
variable {x y z : Coin}
theorem tot_ent (pr : Bool) {r0 r3 r4 r5 r6 r7 r8 : Option LV} (hx : x.Ok) (hy : y.Ok) (hz : z.Ok) {e : Ent} (hl : e.cs.length ≤ 800) (hn : (e.cs.map (·.1)).Nodup) {p : Pc} (hp : smallP p) {R : Rho} {Q : Rho → Fl → Prop}
    (q : Q (r0 :: some (.sh (coinsD x y z)) :: some (.sh (.bool pr)) :: r3 :: r4 :: r5 :: r6 :: r7 :: r8 :: some (.sh ((e.add (entOf pr x y z p)).d pr)) :: some (.sh p.d) :: R) .next) :
    exSs (XN fs3 4) b3_law_3 (r0 :: some (.sh (coinsD x y z)) :: some (.sh (.bool pr)) :: r3 :: r4 :: r5 :: r6 :: r7 :: r8 :: some (.sh (e.d pr)) :: some (.sh p.d) :: R) Q := by
  simp only [b3_law_3, ↓evE_varR, ↓evE_call, ↓evEs_nil, ↓evEs_cons, ↓exS_zassignR, ↓exSs_nil, ↓exSs_cons]
  refine entry_spec 3 pr hx hy hz hp ?_
  refine addf_spec (n := 2) pr e _ (by show e.cs.length + 3 ≤ 900; (first | lia | omega)) hn ?_
  exact q
noncomputable def sumP (P : Pc) (ps : List Pc) : Pc := ps.foldl Pc.add P
theorem sumP_eq : ∀ (ps : List Pc) (P : Pc), sumP P ps = ⟨P.a + (ps.map Pc.a).sum, P.b + (ps.map Pc.b).sum, P.c + (ps.map Pc.c).sum⟩
  | [], P => by simp [sumP]
  | p :: ps, P => by
    show sumP (P.add p) ps = _
    rw [sumP_eq ps]
    simp [Pc.add, Int.add_assoc]
theorem tot_loop' (pr : Bool) {r0 r3 r4 r5 r6 r7 r8 : Option LV} (hx : x.Ok) (hy : y.Ok) (hz : z.Ok) {R : Rho} {Q : Rho → Fl → Prop} : ∀ (ps : List Pc) (P : Pc), (∀ p ∈ ps, smallP p) →
    Q (r0 :: some (.sh (coinsD x y z)) :: some (.sh (.bool pr)) :: r3 :: r4 :: r5 :: r6 :: r7 :: r8 :: some (.sh ((entOf pr x y z (sumP P ps)).d pr)) :: none :: R) .next →
    forW (.nm 10) [10] (exSs (XN fs3 4) b3_law_3) (ps.map Pc.d) (r0 :: some (.sh (coinsD x y z)) :: some (.sh (.bool pr)) :: r3 :: r4 :: r5 :: r6 :: r7 :: r8 :: some (.sh ((entOf pr x y z P).d pr)) :: none :: R) Q
  | [], P, _, q => q
  | p :: ps, P, h, q => by
    simp only [↓forW_cons, ↓asgW_nmR, clr_consR, clr_nil, List.map_cons]
    refine tot_ent pr hx hy hz (e := entOf pr x y z P) (by show 3 ≤ 800; decide) (ent_keys pr x y z P) (h p (.head _)) ?_
    rw [ent_add]
    simp only []
    exact tot_loop' pr hx hy hz ps _ (fun p' hp' => h p' (.tail _ hp')) q
noncomputable def pc0 : Pc := ⟨0, 0, 0⟩
theorem small0 : smallP pc0 := by unfold smallP pc0; decide
theorem tot_all (pr : Bool) {r0 r3 r4 r5 r6 r7 r8 : Option LV} (hx : x.Ok) (hy : y.Ok) (hz : z.Ok) {R : Rho} {Q : Rho → Fl → Prop} (ps : List Pc) (h : ∀ p ∈ ps, smallP p)
    (q : Q (r0 :: some (.sh (coinsD x y z)) :: some (.sh (.bool pr)) :: r3 :: r4 :: r5 :: r6 :: r7 :: r8 :: some (.sh ((entOf pr x y z ⟨(ps.map Pc.a).sum, (ps.map Pc.b).sum, (ps.map Pc.c).sum⟩).d pr)) :: none :: R) .next) :
    forW (.nm 10) [10] (exSs (XN fs3 4) b3_law_3) ((ps ++ [pc0]).map Pc.d) (r0 :: some (.sh (coinsD x y z)) :: some (.sh (.bool pr)) :: r3 :: r4 :: r5 :: r6 :: r7 :: r8 :: some (.sh (ent0.d pr)) :: none :: R) Q := by
  have first : ∀ (p : Pc) (rest : List Pc), smallP p → (∀ p ∈ rest, smallP p) → sumP p rest = ⟨(ps.map Pc.a).sum, (ps.map Pc.b).sum, (ps.map Pc.c).sum⟩ →
      forW (.nm 10) [10] (exSs (XN fs3 4) b3_law_3) ((p :: rest).map Pc.d) (r0 :: some (.sh (coinsD x y z)) :: some (.sh (.bool pr)) :: r3 :: r4 :: r5 :: r6 :: r7 :: r8 :: some (.sh (ent0.d pr)) :: none :: R) Q := fun p rest h1 h2 e => by
    simp only [↓forW_cons, ↓asgW_nmR, clr_consR, clr_nil, List.map_cons]
    refine tot_ent pr hx hy hz (e := ent0) (by decide) .nil h1 ?_
    rw [ent_add0]
    simp only []
    refine tot_loop' pr hx hy hz rest p h2 ?_
    rw [e]; exact q
  cases ps with
  | nil => exact first pc0 [] small0 (fun _ h => nomatch h) rfl
  | cons p ps =>
    refine first p (ps ++ [pc0]) (h p (.head _)) (fun p' hp' => ?_) ?_
    · rcases List.mem_append.mp hp' with hp' | hp'
      · exact h p' (.tail _ hp')
      · rw [List.mem_singleton.mp hp']; exact small0
    · rw [sumP_eq]
      simp [pc0]
end Mine
end
section
open PySem PySem.Calls PyProof.Rows
set_option maxHeartbeats 1000000
namespace Mine
noncomputable def scl (v : Int) (f : Nat → Nat → Int) (m : Nat) : Pc := ⟨v * f m 0, v * f m 1, v * f m 2⟩
theorem scl_small {v : Int} {f : Nat → Nat → Int} {m : Nat} (h0 : 0 ≤ v) (h1 : v ≤ 49) (hf : ∀ i, i < 3 → -5 ≤ f m i ∧ f m i ≤ 5) : smallP (scl v f m) := by
  have key : ∀ a : Int, -5 ≤ a → a ≤ 5 → -100000 ≤ v * a ∧ v * a ≤ 100000 := fun a a1 a2 => by
    have e1 : v * a ≤ v * 5 := Int.mul_le_mul_of_nonneg_left a2 h0
    have e2 : v * (-5) ≤ v * a := Int.mul_le_mul_of_nonneg_left a1 h0
    (first | lia | omega)
  obtain ⟨a1, a2⟩ := key _ (hf 0 (by decide)).1 (hf 0 (by decide)).2
  obtain ⟨b1, b2⟩ := key _ (hf 1 (by decide)).1 (hf 1 (by decide)).2
  obtain ⟨c1, c2⟩ := key _ (hf 2 (by decide)).1 (hf 2 (by decide)).2
  exact ⟨a1, a2, b1, b2, c1, c2⟩
noncomputable def waysD (W : Nat → Int) (g : Nat) : List D := (List.range g).map fun k => D.int (W k)
theorem waysD_at {W : Nat → Int} {g k : Nat} (h : k < g) (hg : g ≤ 7) : ((idx (waysD W g).length (k : Nat)).bind fun j => (waysD W g)[j]?) = some (.int (W k)) := by
  unfold waysD
  rw [List.length_map, List.length_range, idx_nat h (by (first | lia | omega))]
  show (List.map _ _)[k]? = _
  rw [List.getElem?_map, List.getElem?_range h]; rfl
variable {x y z : Coin}
theorem mark_step (pr : Bool) {r0 r3 r4 r5 r6 r7 r8 r9 r10 : Option LV} (hx : x.Ok) (hy : y.Ok) (hz : z.Ok) {W : Nat → Int} {f : Nat → Nat → Int} {p g m : Nat} (hp : p ≤ 6) (m1 : 1 ≤ m) (mg : m ≤ g) (gp : g ≤ p) (hW : 0 ≤ W (g - m) ∧ W (g - m) ≤ 49) (hf : ∀ i, i < 3 → -5 ≤ f m i ∧ f m i ≤ 5) {P : Pc} {R : Rho} {Q : Rho → Fl → Prop}
    (q : ∀ o, Q (r0 :: some (.sh (coinsD x y z)) :: some (.sh (.bool pr)) :: r3 :: r4 :: r5 :: r6 :: r7 :: r8 :: r9 :: r10 :: some (.sh (.lst ((tabO p f).map .lst))) :: some (.ol (waysD W g)) :: some (.sh ((entOf pr x y z (P.add (scl (W (g - m)) f m))).d pr)) :: some (.sh (.int g)) :: some (.sh (.int m)) :: o :: R) .next) :
    exSs (XN fs3 4) b3_law_4 (r0 :: some (.sh (coinsD x y z)) :: some (.sh (.bool pr)) :: r3 :: r4 :: r5 :: r6 :: r7 :: r8 :: r9 :: r10 :: some (.sh (.lst ((tabO p f).map .lst))) :: some (.ol (waysD W g)) :: some (.sh ((entOf pr x y z P).d pr)) :: some (.sh (.int g)) :: some (.sh (.int m)) :: none :: R) Q := by
  have e1 : ((g : Int) - (m : Int)) = ((g - m : Nat) : Int) := by (first | lia | omega)
  have hs : smallI (W (g - m)) := by unfold smallI; (first | lia | omega)
  show exSs _ (_ :: b3_law_4.drop 1) _ _
  simp only [↓evE_varR, ↓evE_bin, ↓evE_sub, ↓evE_osubR, ↓evE_lcomp, ↓evI_ex, ↓evIfs_nil, ↓evGs_nil, ↓exS_assignR, ↓exSs_cons, ↓asgW_nmR, rho_atR, ↓binW_sub, ↓subW_l, capture, List.map_cons, List.map_nil]
  refine ⟨.lst [.int (f m 0), .int (f m 1), .int (f m 2)], ?_, ?_⟩
  · rw [List.length_map, tabO_len, idx_nat (by (first | lia | omega)) (by (first | lia | omega))]
    show (List.map _ _)[m]? = _
    rw [List.getElem?_map, tabO_at f (by (first | lia | omega))]; rfl
  refine ⟨_, rfl, ?_⟩
  have at' := waysD_at (W := W) (show g - m < g by (first | lia | omega)) (by (first | lia | omega))
  rw [← e1] at at'
  simp only [loopW_cons, loopW_nil, pushW_l, fits, List.cons_append, List.nil_append, List.length_cons, List.length_nil, Nat.reduceAdd, true_and, Nat.reduceLeDiff]
  refine ⟨_, at', ?_⟩
  simp only [↓binW_mulI]
  refine ⟨.inl hs, ?_⟩
  refine ⟨_, at', ?_⟩
  simp only [↓binW_mulI]
  refine ⟨.inl hs, ?_⟩
  refine ⟨_, at', ?_⟩
  simp only [↓binW_mulI]
  refine ⟨.inl hs, ?_⟩
  show exSs _ [_] _ _
  simp only [↓evE_varR, ↓evE_call, ↓evEs_nil, ↓evEs_cons, ↓exS_zassignR, ↓exSs_nil, ↓exSs_cons]
  refine entry_spec 3 pr hx hy hz (p := scl (W (g - m)) f m) (scl_small hW.1 hW.2 hf) ?_
  refine addf_spec (n := 2) pr (entOf pr x y z P) _ (by show 3 + 3 ≤ 900; decide) (ent_keys pr x y z P) ?_
  rw [ent_add]
  exact q _
noncomputable def bkF (W : Nat → Int) (f : Nat → Nat → Int) (g i : Nat) : Nat → Pc → Pc
  | 0, P => P
  | n + 1, P => bkF W f g (i + 1) n (P.add (scl (W (g - (i + 1))) f (i + 1)))
theorem mark_loop (pr : Bool) {r0 r3 r4 r5 r6 r7 r8 r9 r10 : Option LV} (hx : x.Ok) (hy : y.Ok) (hz : z.Ok) {W : Nat → Int} {f : Nat → Nat → Int} {p g : Nat} (hp : p ≤ 6) (gp : g ≤ p) (hW : ∀ k, k ≤ 6 → 0 ≤ W k ∧ W k ≤ 49) (hf : ∀ m, 1 ≤ m → m ≤ p → ∀ i, i < 3 → -5 ≤ f m i ∧ f m i ≤ 5) {R : Rho} {Q : Rho → Fl → Prop} : ∀ (n i : Nat) (P : Pc), i + n = g →
    Q (r0 :: some (.sh (coinsD x y z)) :: some (.sh (.bool pr)) :: r3 :: r4 :: r5 :: r6 :: r7 :: r8 :: r9 :: r10 :: some (.sh (.lst ((tabO p f).map .lst))) :: some (.ol (waysD W g)) :: some (.sh ((entOf pr x y z (bkF W f g i n P)).d pr)) :: some (.sh (.int g)) :: none :: none :: R) .next →
    forW (.nm 15) [15, 16] (exSs (XN fs3 4) b3_law_4) (rangeL ((i + 1 : Nat) : Int) 1 n) (r0 :: some (.sh (coinsD x y z)) :: some (.sh (.bool pr)) :: r3 :: r4 :: r5 :: r6 :: r7 :: r8 :: r9 :: r10 :: some (.sh (.lst ((tabO p f).map .lst))) :: some (.ol (waysD W g)) :: some (.sh ((entOf pr x y z P).d pr)) :: some (.sh (.int g)) :: none :: none :: R) Q
  | 0, i, P, _, q => q
  | n + 1, i, P, h, q => by
    rw [rangeL]
    simp only [↓forW_cons, ↓asgW_nmR, clr_consR, clr_nil]
    refine mark_step pr hx hy hz hp (by (first | lia | omega)) (by (first | lia | omega)) gp (hW _ (by (first | lia | omega))) (hf _ (by (first | lia | omega)) (by (first | lia | omega))) fun o => ?_
    simp only []
    exact mark_loop pr hx hy hz hp gp hW hf n (i + 1) _ (by (first | lia | omega)) q
noncomputable def frS (t : Nat → Int) (i : Nat) : Nat → Int
  | 0 => 0
  | n + 1 => t i + frS t (i + 1) n
theorem frS_last (t : Nat → Int) : ∀ (n i : Nat), frS t i (n + 1) = frS t i n + t (i + n)
  | 0, i => by show t i + 0 = 0 + t (i + 0); rw [Int.add_zero, Int.zero_add, Nat.add_zero]
  | n + 1, i => by
    show t i + frS t (i + 1) (n + 1) = t i + frS t (i + 1) n + t (i + (n + 1))
    rw [frS_last t n (i + 1), Int.add_assoc, show i + 1 + n = i + (n + 1) by (first | lia | omega)]
theorem frS_sm (t : Nat → Int) : ∀ n, frS t 0 (n + 1) = sm t n
  | 0 => by show t 0 + 0 = t 0; rw [Int.add_zero]
  | n + 1 => by rw [frS_last t (n + 1) 0, frS_sm t n, Nat.zero_add]; rfl
theorem bkF_eq (W : Nat → Int) (f : Nat → Nat → Int) (g : Nat) : ∀ (n i : Nat) (P : Pc), bkF W f g i n P = ⟨P.a + frS (fun k => W (g - (k + 1)) * f (k + 1) 0) i n, P.b + frS (fun k => W (g - (k + 1)) * f (k + 1) 1) i n, P.c + frS (fun k => W (g - (k + 1)) * f (k + 1) 2) i n⟩
  | 0, i, P => by show P = ⟨P.a + 0, P.b + 0, P.c + 0⟩; rw [Int.add_zero, Int.add_zero, Int.add_zero]
  | n + 1, i, P => by
    show bkF W f g (i + 1) n _ = _
    rw [bkF_eq W f g n (i + 1)]
    show (⟨P.a + _ + _, P.b + _ + _, P.c + _ + _⟩ : Pc) = _
    rw [Int.add_assoc, Int.add_assoc, Int.add_assoc]
    rfl
theorem frS_oj (W : Nat → Int) (o : Nat → Int) {g : Nat} (hg : 1 ≤ g) : frS (fun k => W (g - (k + 1)) * o (k + 1)) 0 g = oj W o g := by
  cases g with
  | zero => (first | lia | omega)
  | succ n =>
    rw [frS_sm]
    show _ = sm (fun i => W (n - i) * o (i + 1)) n
    exact sm_congr n fun i _ => by rw [show n + 1 - (i + 1) = n - i by (first | lia | omega)]
noncomputable def bookP (x y z : Coin) (g : Nat) : Pc := ⟨oj (wayN x y z) x.O g, oj (wayN x y z) y.O g, oj (wayN x y z) z.O g⟩
theorem frS_congr {t t' : Nat → Int} : ∀ (n i : Nat), (∀ k, i ≤ k → k < i + n → t k = t' k) → frS t i n = frS t' i n
  | 0, _, _ => rfl
  | n + 1, i, h => by
    show t i + _ = t' i + _
    rw [h i (by (first | lia | omega)) (by (first | lia | omega)), frS_congr n (i + 1) fun k h1 h2 => h k (by (first | lia | omega)) (by (first | lia | omega))]
theorem book_eq (hx : x.Ok) (hy : y.Ok) (hz : z.Ok) {p g : Nat} (hp : p = 4 ∨ p = 5 ∨ p = 6) (g1 : 1 ≤ g) (gp : g ≤ p) : bkF (wayN x y z) (owedF x y z p) g 0 g pc0 = bookP x y z g := by
  rw [bkF_eq]
  unfold bookP
  rw [← frS_oj _ _ g1, ← frS_oj _ _ g1, ← frS_oj _ _ g1]
  have e := fun k (h1 : 0 ≤ k) (h2 : k < 0 + g) => owedF_eq hx hy hz hp (show 1 ≤ k + 1 by (first | lia | omega)) (show k + 1 ≤ p by (first | lia | omega))
  congr 1
  · show 0 + _ = _; rw [Int.zero_add]; exact frS_congr g 0 fun k h1 h2 => by rw [(e k h1 h2).1]
  · show 0 + _ = _; rw [Int.zero_add]; exact frS_congr g 0 fun k h1 h2 => by rw [(e k h1 h2).2.1]
  · show 0 + _ = _; rw [Int.zero_add]; exact frS_congr g 0 fun k h1 h2 => by rw [(e k h1 h2).2.2]
theorem book_nc (hx : x.Ok) (hy : y.Ok) (hz : z.Ok) {g : Nat} (hg : g ≤ 6) : oj (wayN x y z) x.O g * x.w + oj (wayN x y z) y.O g * y.w + oj (wayN x y z) z.O g * z.w = g * wayN x y z g := by
  rw [← money_eq hx hy hz hg, Int.mul_comm _ (x.w : Int), Int.mul_comm _ (y.w : Int), Int.mul_comm _ (z.w : Int)]
end Mine
end
section
open PySem PySem.Calls PyProof.Rows
set_option maxHeartbeats 1000000
namespace Mine
variable {x y z : Coin}
theorem waysD_snoc (W : Nat → Int) (g : Nat) : waysD W g ++ [.int (W g)] = waysD W (g + 1) := by
  unfold waysD; rw [List.range_succ, List.map_append]; rfl
theorem subW_e1 (e : Ent) (pr : Bool) (Q : D → Prop) : subW (e.d pr) (.int 1) Q = Q (.int e.nc) := propext ⟨fun ⟨_, h, q⟩ => (Option.some.inj h) ▸ q, fun q => ⟨_, rfl, q⟩⟩
theorem subW_e4 (e : Ent) (pr : Bool) (Q : D → Prop) : subW (e.d pr) (.int 4) Q = Q (.dct (dKP pr e.cs)) := propext ⟨fun ⟨_, h, q⟩ => (Option.some.inj h) ▸ q, fun q => ⟨_, rfl, q⟩⟩
noncomputable def bookD (pr : Bool) (x y z : Coin) (g : Nat) : D := (entOf pr x y z (bookP x y z g)).d pr
theorem goal_step (pr : Bool) {r0 r3 r4 r6 r7 r8 r9 r10 r13 : Option LV} (hx : x.Ok) (hy : y.Ok) (hz : z.Ok) {p g : Nat} (hp : p = 4 ∨ p = 5 ∨ p = 6) (g1 : 1 ≤ g) (gp : g ≤ p) {R : Rho} {Q : Rho → Fl → Prop}
    (q : ∀ o, Q (r0 :: some (.sh (coinsD x y z)) :: some (.sh (.bool pr)) :: r3 :: r4 :: some (.sh ((entOf pr x y z pc0).d pr)) :: r6 :: r7 :: r8 :: r9 :: r10 :: some (.sh (.lst ((tabO p (owedF x y z p)).map .lst))) :: some (.ol (waysD (wayN x y z) (g + 1))) :: some (.sh (bookD pr x y z g)) :: some (.sh (.int g)) :: none :: none :: o :: R) .next) :
    exSs (XN fs3 4) b3_law_5 (r0 :: some (.sh (coinsD x y z)) :: some (.sh (.bool pr)) :: r3 :: r4 :: some (.sh ((entOf pr x y z pc0).d pr)) :: r6 :: r7 :: r8 :: r9 :: r10 :: some (.sh (.lst ((tabO p (owedF x y z p)).map .lst))) :: some (.ol (waysD (wayN x y z) g)) :: r13 :: some (.sh (.int g)) :: none :: none :: none :: R) Q := by
  have hp6 : p ≤ 6 := by (first | lia | omega)
  have hb := book_eq hx hy hz hp g1 gp
  have hnc := book_nc hx hy hz (show g ≤ 6 by (first | lia | omega))
  show exSs _ (_ :: _ :: b3_law_5.drop 2) _ _
  simp only [Int.reduceLE, ↓evE_int, ↓evE_varR, ↓evE_bin, ↓evEs_nil, ↓evEs_cons, ↓evI_range, ↓exS_assignR, ↓exS_fore, ↓exSs_cons, ↓binW_addI, true_and, rangeW_2]
  refine ⟨by (first | lia | omega), ?_⟩
  rw [show ((g : Int) + 1 - 1).toNat = g by (first | lia | omega)]
  refine mark_loop pr hx hy hz hp6 gp (fun k hk => way_bound hx hy hz hk) (fun m m1 mp i hi => ?_) g 0 pc0 (by (first | lia | omega)) ?_
  · obtain ⟨o0, o1, o2⟩ := owedF_eq hx hy hz hp m1 mp
    have h3 : i = 0 ∨ i = 1 ∨ i = 2 := by (first | lia | omega)
    rcases h3 with rfl | rfl | rfl
    · rw [o0]; exact ⟨(seq_ok hx (by (first | lia | omega))).o0, (seq_ok hx (by (first | lia | omega))).o5⟩
    · rw [o1]; exact ⟨(seq_ok hy (by (first | lia | omega))).o0, (seq_ok hy (by (first | lia | omega))).o5⟩
    · rw [o2]; exact ⟨(seq_ok hz (by (first | lia | omega))).o0, (seq_ok hz (by (first | lia | omega))).o5⟩
  rw [hb]
  have tail : exSs (XN fs3 4) (b3_law_5.drop 3) (r0 :: some (.sh (coinsD x y z)) :: some (.sh (.bool pr)) :: r3 :: r4 :: some (.sh ((entOf pr x y z pc0).d pr)) :: r6 :: r7 :: r8 :: r9 :: r10 :: some (.sh (.lst ((tabO p (owedF x y z p)).map .lst))) :: some (.ol (waysD (wayN x y z) g)) :: some (.sh (bookD pr x y z g)) :: some (.sh (.int g)) :: none :: none :: some (.sh (.int (g * wayN x y z g))) :: R) Q := by
    show exSs _ [_, _] _ _
    simp only [fits, ne_eq, ↓evE_int, ↓evE_bool, ↓evE_varR, ↓evE_bin, ↓evC_cmp, ↓exS_appendR, ↓exS_ife, ↓exS_ret, ↓exSs_nil, ↓exSs_cons, ↓binW_fdiv, ↓binW_mod, Nat.reduceLeDiff, ↓cmpW_ne]
    rw [Int.mul_fmod_right, Int.mul_fdiv_cancel_left _ (show (g : Int) ≠ 0 by (first | lia | omega))]
    refine ⟨by (first | lia | omega), rfl, ?_⟩
    show _ ∧ _ ∧ _
    refine ⟨by (first | lia | omega), by unfold waysD; rw [List.length_map, List.length_range]; (first | lia | omega), ?_⟩
    rw [waysD_snoc]
    exact q _
  show exSs _ (_ :: b3_law_5.drop 3) _ _
  simp only [↓evE_int, ↓evE_varR, ↓evE_ite, ↓evE_sub, ↓evE_call, ↓evEs_nil, ↓evEs_cons, ↓evC_varR, ↓exS_assignR, ↓exSs_cons, ↓truthW_b]
  cases pr with
  | true =>
    simp only [↓subW_e1]
    rw [show (entOf true x y z (bookP x y z g)).nc = g * wayN x y z g from hnc]
    exact tail
  | false =>
    simp only [↓subW_e4]
    refine count_spec (n := 3) _ ?_
    have e : ((entOf false x y z (bookP x y z g)).cs.map (·.2.1)).sum = g * wayN x y z g := by
      rw [← hnc]
      show oj (wayN x y z) x.O g * x.w + (oj (wayN x y z) y.O g * y.w + (oj (wayN x y z) z.O g * z.w + 0)) = _
      rw [Int.add_zero, Int.add_assoc]
    rw [e]
    exact tail
theorem goal_loop (pr : Bool) {r0 r3 r4 r6 r7 r8 r9 r10 : Option LV} (hx : x.Ok) (hy : y.Ok) (hz : z.Ok) {p : Nat} (hp : p = 4 ∨ p = 5 ∨ p = 6) {R : Rho} {Q : Rho → Fl → Prop}
    (q : Q (r0 :: some (.sh (coinsD x y z)) :: some (.sh (.bool pr)) :: r3 :: r4 :: some (.sh ((entOf pr x y z pc0).d pr)) :: r6 :: r7 :: r8 :: r9 :: r10 :: some (.sh (.lst ((tabO p (owedF x y z p)).map .lst))) :: some (.ol (waysD (wayN x y z) (p + 1))) :: some (.sh (bookD pr x y z p)) :: none :: none :: none :: none :: R) .next) :
    ∀ (n i : Nat) (r13 : Option LV), i + n = p → (n = 0 → r13 = some (.sh (bookD pr x y z p))) →
    forW (.nm 14) [14, 15, 16, 17] (exSs (XN fs3 4) b3_law_5) (rangeL ((i + 1 : Nat) : Int) 1 n) (r0 :: some (.sh (coinsD x y z)) :: some (.sh (.bool pr)) :: r3 :: r4 :: some (.sh ((entOf pr x y z pc0).d pr)) :: r6 :: r7 :: r8 :: r9 :: r10 :: some (.sh (.lst ((tabO p (owedF x y z p)).map .lst))) :: some (.ol (waysD (wayN x y z) (i + 1))) :: r13 :: none :: none :: none :: none :: R) Q
  | 0, i, r13, h, hb => by
    rw [hb rfl, show i = p by (first | lia | omega)]
    exact q
  | n + 1, i, r13, h, _ => by
    rw [rangeL]
    simp only [↓forW_cons, ↓asgW_nmR, clr_consR, clr_nil]
    refine goal_step pr hx hy hz hp (g := i + 1) (by (first | lia | omega)) (by (first | lia | omega)) fun o => ?_
    simp only []
    exact goal_loop pr hx hy hz hp q n (i + 1) _ (by (first | lia | omega)) fun e => by
      subst e
      rw [show i + 1 = p by (first | lia | omega)]
end Mine
end
section
namespace Mine
theorem eqvs_ints : ∀ l : List Int, eqvs (l.map D.int) (l.map D.int) = true
  | [] => rfl
  | i :: l => by rw [List.map_cons, eqvs_cons, eqv_int, eqvs_ints l]; simp
theorem all2_ints (n : Nat) : ∀ l : List Int, all2 (eqP (n + 1)) (l.map D.int) (l.map D.int) = true
  | [] => rfl
  | i :: l => by rw [List.map_cons, all2_cons, eqP_int, all2_ints n l]; rfl
theorem cval_eqP (pr : Bool) (u : Int × Int) : eqP 4 (cval pr u) (cval pr u) = true := by cases pr <;> rfl
theorem cval_eqv (pr : Bool) (u : Int × Int) : eqv (cval pr u) (cval pr u) = true := by
  cases pr with
  | true =>
    show eqv (.tup [.int u.1, .int u.2]) (.tup [.int u.1, .int u.2]) = true
    rw [eqv_tup, eqvs_cons, eqvs_cons, eqvs_nil, eqv_int, eqv_int]; simp
  | false =>
    show eqv (.int u.1) (.int u.1) = true
    rw [eqv_int]; simp
theorem look3 (u v w : D) : klook (.str "a") [(K.str "a", u), (K.str "b", v), (K.str "c", w)] = some u ∧ klook (.str "b") [(K.str "a", u), (K.str "b", v), (K.str "c", w)] = some v ∧ klook (.str "c") [(K.str "a", u), (K.str "b", v), (K.str "c", w)] = some w := by
  simp only [klook, if_true, if_neg kab, if_neg kac, if_neg kbc, and_self]
theorem ent_dD (pr : Bool) (x y z : Coin) (p : Pc) : ∃ a b c d : Int, ∃ u v w : Int × Int, (entOf pr x y z p).d pr = .tup [.int a, .int b, .int c, .int d, .dct [(.str "a", cval pr u), (.str "b", cval pr v), (.str "c", cval pr w)]] := ⟨_, _, _, _, _, _, _, rfl⟩
theorem ent_same (pr : Bool) (x y z : Coin) (p : Pc) : eqOk ((entOf pr x y z p).d pr) ((entOf pr x y z p).d pr) = true ∧ eqv ((entOf pr x y z p).d pr) ((entOf pr x y z p).d pr) = true := by
  obtain ⟨a, b, c, d, u, v, w, e⟩ := ent_dD pr x y z p
  rw [e]
  obtain ⟨l1, l2, l3⟩ := look3 (cval pr u) (cval pr v) (cval pr w)
  constructor
  · rw [eqOk_tup]
    simp only [all2_cons, all2_nil, eqC_int, eqC_dct, eqK_cons, eqK_nil, l1, l2, l3, cval_eqP, Bool.and_self]
  · rw [eqv_tup]
    simp only [eqvs_cons, eqvs_nil, eqv_int, eqv_dct, eqvk_cons, eqvk_nil, l1, l2, l3, cval_eqv, Bool.and_self, beq_self_eq_true]
theorem smallP_mk {a b c : Int} (h : -100000 ≤ a ∧ a ≤ 100000 ∧ -100000 ≤ b ∧ b ≤ 100000 ∧ -100000 ≤ c ∧ c ≤ 100000) : smallP ⟨a, b, c⟩ := h
theorem mulL_div {w n : Nat} (hw : 1 ≤ w) (hn : n ≤ 6) {v : Int} (h : v ∈ mulL w n) : 0 ≤ v.fdiv w ∧ v.fdiv w ≤ 6 := by
  unfold mulL at h
  obtain ⟨k, hk, rfl⟩ := List.mem_map.mp h
  rw [fdivN, Nat.mul_div_cancel_left _ hw]
  have := List.mem_range.mp hk
  (first | lia | omega)
theorem cap6 {c : Coin} (hc : c.Ok) {p : Nat} (hp : p ≤ 6) : capC c.w c.m c.e p ≤ 6 := Nat.le_trans (cap_le hc.w1) hp
theorem pays_small {x y z : Coin} (hx : x.Ok) (hy : y.Ok) (hz : z.Ok) {p : Nat} (hp : p ≤ 6) : ∀ q ∈ paysOf x y z p, smallP q := fun q hq => by
  unfold paysOf at hq
  obtain ⟨a, ha, hq⟩ := List.mem_flatMap.mp hq
  obtain ⟨b, hb, hq⟩ := List.mem_flatMap.mp hq
  split at hq
  · rename_i hc
    rw [List.mem_singleton.mp hq]
    have h1 := mulL_div hx.w1 (cap6 hx hp) ha
    have h2 := mulL_div hy.w1 (cap6 hy hp) hb
    have h3 := mulL_div hz.w1 (cap6 hz hp) (List.contains_iff_mem.mp hc)
    exact smallP_mk (by (first | lia | omega))
  · cases hq
theorem mulL_len (w n : Nat) : (mulL w n).length = n + 1 := by simp [mulL]
theorem mulB {a b A B : Int} (a0 : 0 ≤ a) (aA : a ≤ A) (b0 : 0 ≤ b) (bB : b ≤ B) : 0 ≤ a * b ∧ a * b ≤ A * B :=
  ⟨Int.mul_nonneg a0 b0, Int.mul_le_mul aA bB b0 (Int.le_trans a0 aA)⟩
theorem cv_boundAB {f g : Nat → Int} {A B : Int} {n : Nat} (hf : ∀ i, i ≤ n → 0 ≤ f i ∧ f i ≤ A) (hg : ∀ i, i ≤ n → 0 ≤ g i ∧ g i ≤ B) : 0 ≤ cv f g n ∧ cv f g n ≤ (n + 1) * (A * B) :=
  sm_bound n fun i hi => mulB (hf i hi).1 (hf i hi).2 (hg (n - i) (by (first | lia | omega))).1 (hg (n - i) (by (first | lia | omega))).2
theorem J06 {c : Coin} (hc : c.Ok) {n : Nat} (hn : n ≤ 6) : ∀ i, i ≤ n → 0 ≤ c.J i ∧ c.J i ≤ 6 := fun i hi => ⟨(seq_ok hc (by (first | lia | omega))).j0, (seq_ok hc (by (first | lia | omega))).j6⟩
theorem book_small {x y z : Coin} (hx : x.Ok) (hy : y.Ok) (hz : z.Ok) {g : Nat} (hg : g ≤ 6) : smallP (bookP x y z g) := by
  have in2 : ∀ {f h : Nat → Int} {A B : Int}, 0 ≤ A * B → (∀ i, i ≤ g → 0 ≤ f i ∧ f i ≤ A) → (∀ i, i ≤ g → 0 ≤ h i ∧ h i ≤ B) → ∀ i, i ≤ g → 0 ≤ cv f h i ∧ cv f h i ≤ 7 * (A * B) := fun {f h A B} hAB hf hh i hi => by
    obtain ⟨a, b⟩ := cv_boundAB (n := i) (fun j hj => hf j (by (first | lia | omega))) (fun j hj => hh j (by (first | lia | omega)))
    refine ⟨a, Int.le_trans b (Int.mul_le_mul_of_nonneg_right (by (first | lia | omega)) hAB)⟩
  have hF := F01 hx hg; have hFy := F01 hy hg; have hFz := F01 hz hg
  have h1 := in2 (by decide) (J06 hx hg) (in2 (by decide) hFy hFz) g (Nat.le_refl _)
  have h2 := in2 (by decide) hF (in2 (by decide) (J06 hy hg) hFz) g (Nat.le_refl _)
  have h3 := in2 (by decide) hF (in2 (by decide) hFy (J06 hz hg)) g (Nat.le_refl _)
  unfold bookP
  rw [way_x hx hg, way_y hy hg, way_z hz hg]
  exact smallP_mk (by (first | lia | omega))
theorem F_zero {c : Coin} : c.F 0 = 1 := by
  unfold Coin.F seqF
  rw [if_pos ⟨Nat.dvd_zero _, .inr (by rw [Nat.zero_div]; exact Nat.zero_le _)⟩]
theorem way_zero (x y z : Coin) : wayN x y z 0 = 1 := by
  show x.F 0 * (y.F 0 * z.F 0) = 1
  rw [F_zero, F_zero, F_zero]; rfl
theorem pays_count {x y z : Coin} (hx : x.Ok) (hy : y.Ok) (hz : z.Ok) {p : Nat} (hp : p = 4 ∨ p = 5 ∨ p = 6) : (paysOf x y z p).length ≤ 49 := by
  have h1 := pays_len hx hy hz hp
  have h2 := way_bound hx hy hz (show p ≤ 6 by (first | lia | omega))
  (first | lia | omega)
end Mine
end
section
open PySem PySem.Calls PyProof.Rows
set_option maxHeartbeats 1000000
namespace Mine
variable {x y z : Coin}
noncomputable def lawS (k : Nat) : List S := b3_law.drop k
theorem comp_sum (ps : List Pc) (place : Int) (φ : Pc → Int) (hφ : ∀ (q : Pc) (Q : D → Prop), Q (.int (φ q)) → subW q.d (.int place) Q) (hl : ps.length ≤ 900) {Q : D → Prop} (q : Q (.int (ps.map φ).sum)) :
    ∃ ds, seqOf (.lst (ps.map Pc.d)) = some ds ∧ loopW (fun d acc C => subW d (.int place) fun d => pushW acc d C) ds (.lst []) fun d => biW .sum [d] Q := by
  refine ⟨_, rfl, ?_⟩
  refine loop_map Pc.d (fun q => D.int (φ q)) ps [] (fun q hq acc C ha hC => ?_) (by simp; (first | lia | omega)) ?_
  · refine hφ q _ ?_
    exact ⟨by show acc.length + 1 ≤ 1048576; (first | lia | omega), hC⟩
  · rw [List.nil_append]
    have e : ps.map (fun q => D.int (φ q)) = (ps.map φ).map D.int := by rw [List.map_map]; rfl
    rw [e]
    exact ⟨ps.map φ, ints_map _, by show _ ≤ 1048576; rw [List.length_map]; (first | lia | omega), q⟩
theorem law_end (pr : Bool) {r0 r4 r5 r7 r8 r10 r11 : Option LV} (hx : x.Ok) (hy : y.Ok) (hz : z.Ok) {p : Nat} (hp : p = 4 ∨ p = 5 ∨ p = 6) :
    exSs (XN fs3 4) (lawS 16) [r0, some (.sh (coinsD x y z)), some (.sh (.bool pr)), some (.sh (.int p)), r4, r5, some (.sh (.lst ((paysOf x y z p).map Pc.d))), r7, r8, some (.sh (bookD pr x y z p)), r10, r11, some (.sh (.lst (waysD (wayN x y z) (p + 1)))), some (.sh (bookD pr x y z p)), none, none, none, none, none] (retW fun d => d = .bool true) := by
  have hn := pays_count hx hy hz hp
  obtain ⟨s1, s2⟩ := ent_same pr x y z (bookP x y z p)
  show exSs _ (_ :: lawS 17) _ _
  simp only [and_true, Int.reduceLE, ↓evE_int, ↓evE_varR, ↓evE_sub, ↓evE_bi, ↓evE_lcomp, ↓evEs_nil, ↓evEs_cons, ↓evI_ex, ↓evI_range, ↓evIfs_nil, ↓evGs_nil, ↓exS_assignR, ↓exSs_cons, ↓asgW_nmR, rho_atR, capture, List.map_cons, List.map_nil, true_and, rangeW_1]
  show loopW _ [D.int 0, .int (0 + 1), .int (0 + 1 + 1)] _ _
  simp only [loopW_cons, loopW_nil]
  refine comp_sum _ 0 Pc.a (fun q Q h => ⟨_, rfl, h⟩) (by (first | lia | omega)) ?_
  rw [pays_a hx hy hz hp]
  refine ⟨by show _ ≤ 1048576; simp, ?_⟩
  refine comp_sum _ 1 Pc.b (fun q Q h => ⟨_, rfl, h⟩) (by (first | lia | omega)) ?_
  rw [pays_b hx hy hz hp]
  refine ⟨by show _ ≤ 1048576; simp, ?_⟩
  refine comp_sum _ 2 Pc.c (fun q Q h => ⟨_, rfl, h⟩) (by (first | lia | omega)) ?_
  rw [pays_c hx hy hz hp]
  refine ⟨by show _ ≤ 1048576; simp, ?_⟩
  show exSs _ (_ :: lawS 18) _ _
  simp only [retW, List.cons_append, List.nil_append, ↓evE_bool, ↓evE_varR, ↓evE_call, ↓evEs_nil, ↓evEs_cons, ↓evC_bop, ↓evC_cmp, ↓evA_nil, ↓evA_cons, ↓exS_ife, ↓exS_ret, ↓exSs_nil, ↓exSs_cons, ↓cmpW_ne]
  refine ⟨s1, ?_⟩
  rw [show eqv (bookD pr x y z p) (bookD pr x y z p) = true from s2]
  simp only [Bool.not_true]
  refine entry_spec 3 pr hx hy hz (p := bookP x y z p) (book_small hx hy hz (by (first | lia | omega))) ?_
  refine ⟨s1, ?_⟩
  rw [show eqv (bookD pr x y z p) _ = true from s2]
  show exSs _ [_] _ _
  cases pr with
  | true =>
    simp only [retW, ↓evE_varR, ↓evE_bop, ↓evB_cons, ↓exS_ret, ↓exSs_cons, ↓truthW_b]
  | false =>
    simp only [fits, retW, ↓evE_varR, ↓evE_cmp, ↓evE_bop, ↓evE_sub, ↓evE_bi, ↓evEs_nil, ↓evEs_cons, ↓evB_one, ↓evB_cons, ↓exS_ret, ↓exSs_cons, ↓biW_lenL, ↓truthW_b, ↓subW_l, ↓cmpW_eq]
    refine ⟨_, waysD_at (show p < p + 1 by (first | lia | omega)) (by (first | lia | omega)), ?_⟩
    refine ⟨by rw [List.length_map]; (first | lia | omega), rfl, ?_⟩
    rw [List.length_map, pays_len hx hy hz hp, eqv_int]
    simp
theorem law_goals (pr : Bool) {r0 r4 r7 r8 r10 : Option LV} (hx : x.Ok) (hy : y.Ok) (hz : z.Ok) {p : Nat} (hp : p = 4 ∨ p = 5 ∨ p = 6) :
    exSs (XN fs3 4) (lawS 11) [r0, some (.sh (coinsD x y z)), some (.sh (.bool pr)), some (.sh (.int p)), r4, some (.sh ((entOf pr x y z pc0).d pr)), some (.sh (.lst ((paysOf x y z p).map Pc.d))), r7, r8, some (.sh (bookD pr x y z p)), r10, none, none, none, none, none, none, none, none] (retW fun d => d = .bool true) := by
  show exSs _ (_ :: lawS 12) _ _
  simp only [↓evE_varR, ↓evE_call, ↓evEs_nil, ↓evEs_cons, ↓exS_assignR, ↓exSs_cons]
  refine owed_spec hx hy hz hp ?_
  show exSs _ (_ :: _ :: lawS 14) _ _
  simp only [fits, ↓evE_int, ↓evE_varR, ↓evE_lst, ↓evEs_nil, ↓evEs_cons, ↓exS_assignR, ↓exS_assignOR, ↓exSs_cons, List.length_cons, List.length_nil, ↓toLV_lst, Nat.reduceAdd, true_and, Nat.reduceLeDiff, Nat.reduceLT]
  refine ⟨_, rfl, ?_⟩
  show exSs _ (_ :: lawS 15) _ _
  simp only [Int.reduceLE, retW, ↓evE_int, ↓evE_varR, ↓evE_bin, ↓evEs_nil, ↓evEs_cons, ↓evI_range, ↓exS_fore, ↓exSs_cons, ↓binW_addI, true_and, rangeW_2]
  refine ⟨by (first | lia | omega), ?_⟩
  rw [show ((p : Int) + 1 - 1).toNat = p by (first | lia | omega)]
  have w1 : waysD (wayN x y z) 1 = [.int 1] := by
    show [D.int (wayN x y z 0)] = _
    rw [way_zero]
  rw [← w1]
  refine goal_loop pr hx hy hz hp ?_ p 0 _ (by (first | lia | omega)) (fun e => by (first | lia | omega))
  show exSs _ (_ :: lawS 16) _ _
  simp only [↓exS_freezeR, ↓exSs_cons, ↓froz_ol]
  refine ⟨_, rfl, ?_⟩
  exact law_end pr hx hy hz hp
theorem law_pays (pr : Bool) {r0 : Option LV} (hx : x.Ok) (hy : y.Ok) (hz : z.Ok) {p : Nat} (hp : p = 4 ∨ p = 5 ∨ p = 6) :
    exSs (XN fs3 4) (lawS 5) [r0, some (.sh (coinsD x y z)), some (.sh (.bool pr)), some (.sh (.int p)), some (.sh (.lst [ti (mulL x.w (capC x.w x.m x.e p)), ti (mulL y.w (capC y.w y.m y.e p)), ti (mulL z.w (capC z.w z.m z.e p))])), none, none, none, none, none, none, none, none, none, none, none, none, none, none] (retW fun d => d = .bool true) := by
  have c1 := cap6 hx (show p ≤ 6 by (first | lia | omega))
  have c2 := cap6 hy (show p ≤ 6 by (first | lia | omega))
  have hn := pays_count hx hy hz hp
  show exSs _ (_ :: lawS 6) _ _
  simp only [fits, ↓evE_int, ↓evE_varR, ↓evE_lst, ↓evE_call, ↓evEs_nil, ↓evEs_cons, ↓exS_assignR, ↓exSs_cons, List.length_cons, List.length_nil, Nat.reduceAdd, true_and, Nat.reduceLeDiff]
  refine entry_spec 3 pr hx hy hz (p := pc0) small0 ?_
  show exSs _ (_ :: _ :: lawS 8) _ _
  simp only [fits, retW, ↓evE_int, ↓evE_varR, ↓evE_lst, ↓evE_sub, ↓evEs_nil, ↓evI_ex, ↓exS_assignOR, ↓exS_fore, ↓exSs_cons, List.length_cons, List.length_nil, ↓subW_l, ↓toLV_lst, Nat.reduceAdd, true_and, Nat.reduceLeDiff, Nat.reduceLT]
  refine ⟨_, rfl, ?_⟩
  refine ⟨ti (mulL x.w (capC x.w x.m x.e p)), rfl, ?_⟩
  refine ⟨_, rfl, ?_⟩
  refine pay_loop1 hx hy hz (mulL x.w (capC x.w x.m x.e p)) [] ?_ ?_
  · rw [mulL_len, mulL_len]
    have := Nat.mul_le_mul (show capC x.w x.m x.e p + 1 ≤ 7 by (first | lia | omega)) (show capC y.w y.m y.e p + 1 ≤ 7 by (first | lia | omega))
    show 0 + _ + _ ≤ 1000
    (first | lia | omega)
  show exSs _ (_ :: lawS 9) _ _
  simp only [List.nil_append, ↓exS_freezeR, ↓exSs_cons, ↓froz_ol]
  refine ⟨_, rfl, ?_⟩
  show exSs _ (_ :: _ :: lawS 11) _ _
  simp only [fits, retW, ↓evE_int, ↓evE_varR, ↓evE_tup, ↓evE_lst, ↓evE_dct, ↓evE_bin, ↓evEs_nil, ↓evEs_cons, ↓evKV_nil, ↓evI_ex, ↓exS_assignR, ↓exS_fore, ↓exSs_cons, List.length_cons, List.length_nil, ↓binW_addL, Nat.reduceAdd, true_and, Nat.reduceLeDiff]
  show ((paysOf x y z p).map Pc.d).length ≤ 1048575 ∧ ∃ ds, seqOf (.lst ((paysOf x y z p).map Pc.d ++ [pc0.d])) = some ds ∧ forW _ _ _ ds _ _
  refine ⟨by rw [List.length_map]; (first | lia | omega), _, rfl, ?_⟩
  rw [show (paysOf x y z p).map Pc.d ++ [pc0.d] = (paysOf x y z p ++ [pc0]).map Pc.d by rw [List.map_append]; rfl]
  refine tot_all pr hx hy hz _ (pays_small hx hy hz (by (first | lia | omega))) ?_
  rw [pays_a hx hy hz hp, pays_b hx hy hz hp, pays_c hx hy hz hp]
  exact law_goals pr hx hy hz hp
end Mine
end
section
open PySem PySem.Calls PyProof.Rows
set_option maxHeartbeats 1000000
namespace Mine
variable {x y z : Coin}
theorem law_amounts (pr : Bool) {r0 : Option LV} (hx : x.Ok) (hy : y.Ok) (hz : z.Ok) {p : Nat} (hp : p = 4 ∨ p = 5 ∨ p = 6) :
    exSs (XN fs3 4) (lawS 3) [r0, some (.sh (coinsD x y z)), some (.sh (.bool pr)), some (.sh (.int p)), none, none, none, none, none, none, none, none, none, none, none, none, none, none, none] (retW fun d => d = .bool true) := by
  have hp6 : p ≤ 6 := by (first | lia | omega)
  show exSs _ (_ :: lawS 4) _ _
  simp only [coinsD, ↓evE_int, ↓evE_varR, ↓evE_sub, ↓evE_call, ↓evE_lcomp, ↓evEs_nil, ↓evEs_cons, ↓evI_ex, ↓evIfs_nil, ↓evGs_nil, ↓exS_assignR, ↓exSs_cons, ↓asgW_nmR, rho_atR, capture, List.map_cons, List.map_nil, seqOf]
  refine ⟨_, rfl, ?_⟩
  simp only [loopW_cons, loopW_nil, ↓subW_c4]
  refine amounts_spec hx hp ?_
  refine ⟨by show _ ≤ 1048576; simp, ?_⟩
  refine amounts_spec hy hp ?_
  refine ⟨by show _ ≤ 1048576; simp, ?_⟩
  refine amounts_spec hz hp ?_
  refine ⟨by show _ ≤ 1048576; simp, ?_⟩
  show exSs _ (_ :: lawS 5) _ _
  simp only [retW, List.cons_append, List.nil_append, ↓evE_bool, ↓evE_varR, ↓evE_call, ↓evE_lcomp, ↓evEs_nil, ↓evEs_cons, ↓evC_cmp, ↓evI_ex, ↓evIfs_nil, ↓evGs_nil, ↓exS_ife, ↓exS_ret, ↓exSs_nil, ↓exSs_cons, ↓asgW_nmR, rho_atR, capture, List.map_cons, List.map_nil, seqOf, ↓cmpW_ne]
  refine ⟨_, rfl, ?_⟩
  simp only [loopW_cons, loopW_nil]
  refine mult_spec 3 hx "a" hp6 ?_
  refine ⟨by show _ ≤ 1048576; simp, ?_⟩
  refine mult_spec 3 hy "b" hp6 ?_
  refine ⟨by show _ ≤ 1048576; simp, ?_⟩
  refine mult_spec 3 hz "c" hp6 ?_
  refine ⟨by show _ ≤ 1048576; simp, ?_⟩
  have e1 : eqOk (.lst [ti (mulL x.w (capC x.w x.m x.e p)), ti (mulL y.w (capC y.w y.m y.e p)), ti (mulL z.w (capC z.w z.m z.e p))]) (.lst [ti (mulL x.w (capC x.w x.m x.e p)), ti (mulL y.w (capC y.w y.m y.e p)), ti (mulL z.w (capC z.w z.m z.e p))]) = true := by
    rw [eqOk_lst]
    simp only [all2_cons, all2_nil, ti, eqP_lst, all2_ints, Bool.and_self]
  have e2 : eqv (.lst [ti (mulL x.w (capC x.w x.m x.e p)), ti (mulL y.w (capC y.w y.m y.e p)), ti (mulL z.w (capC z.w z.m z.e p))]) (.lst [ti (mulL x.w (capC x.w x.m x.e p)), ti (mulL y.w (capC y.w y.m y.e p)), ti (mulL z.w (capC z.w z.m z.e p))]) = true := by
    rw [eqv_lst]
    simp only [eqvs_cons, eqvs_nil, ti, eqv_lst, eqvs_ints, Bool.and_self]
  refine ⟨e1, ?_⟩
  show (match !(eqv (.lst [ti (mulL x.w (capC x.w x.m x.e p)), ti (mulL y.w (capC y.w y.m y.e p)), ti (mulL z.w (capC z.w z.m z.e p))]) (.lst [ti (mulL x.w (capC x.w x.m x.e p)), ti (mulL y.w (capC y.w y.m y.e p)), ti (mulL z.w (capC z.w z.m z.e p))])) with | true => _ | false => _)
  rw [e2]
  exact law_pays pr hx hy hz hp
theorem plain3 (is : List Int) (hi : is.length ≤ 63) : XN fs3 5 8 [.lst (is.map .int)] (fun d => d = .bool true) := by
  obtain ⟨x, y, z, hx, hy, hz, hc⟩ := coins_spec 3 is hi
  show _ ∧ exSs _ (_ :: _ :: lawS 2) _ _
  refine ⟨rfl, ?_⟩
  simp only [f3_law, rho0, List.replicate, List.cons_append, List.nil_append, Nat.reduceSub, ↓evE_int, ↓evE_none, ↓evE_varR, ↓evE_bin, ↓evE_cmp, ↓evE_slice, ↓evE_call, ↓evE_bi, ↓evEs_nil, ↓evEs_cons, ↓exS_assignR, ↓exSs_cons, List.length_cons, List.length_nil, List.map_cons, List.map_nil, Nat.reduceAdd]
  refine hc _ ?_
  simp only [fits, ne_eq, Int.reduceEq, not_false_eq_true, and_true, Int.reduceLE, ↓binW_mod, ↓biW_sum, true_and, List.length_map, sliceW_to, ← List.map_take, Int.reduceToNat, ↓cmpW_eq]
  refine ⟨by (first | lia | omega), ?_⟩
  refine ⟨_, ints_map _, by rw [List.length_take]; (first | lia | omega), ?_⟩
  refine ⟨rfl, ?_⟩
  generalize eqv (.int ((List.take 60 is).sum.fmod 2)) (.int 1) = pr
  show exSs _ (_ :: lawS 3) [some (.sh (.lst (is.map .int))), some (.sh (coinsD x y z)), some (.sh (.bool pr)), none, none, none, none, none, none, none, none, none, none, none, none, none, none, none, none] _
  simp only [fits, ne_eq, Int.reduceEq, not_false_eq_true, and_true, Int.reduceLE, ↓evE_int, ↓evE_none, ↓evE_varR, ↓evE_bin, ↓evE_slice, ↓evE_bi, ↓evEs_nil, ↓evEs_cons, ↓exS_assignR, ↓exSs_cons, ↓binW_addI, ↓binW_mod, ↓biW_sum, true_and, List.length_map, sliceW_to, ← List.map_take, Int.reduceToNat]
  refine ⟨by (first | lia | omega), ?_⟩
  refine ⟨_, ints_map _, by rw [List.length_take]; (first | lia | omega), ?_⟩
  have hf := fm (67 + (List.take 60 is).sum) 3 (by decide)
  generalize (67 + (List.take 60 is).sum).fmod 3 = t at hf ⊢
  obtain ⟨p, hp⟩ : ∃ p : Nat, 4 + t = (p : Int) := ⟨(4 + t).toNat, by (first | lia | omega)⟩
  rw [hp]
  exact law_amounts pr hx hy hz (by (first | lia | omega))
end Mine
end
open PySem PySem.Calls PyProof.Rows
set_option maxRecDepth 100000
namespace Mine
open PySem.W PySem.W.X PySem.W.ZRun
theorem law3_walk : WalkO q3 [] (fun _ _ => True) (fun _ h => sysSays h) PySem.Challenge.rw_wn0011_03.row.toRowW d3k.1 d3k.2 fun f vs => PySem.call f vs := by
  intro w s₀ s₁ mg mb G Y fa o pm cd doc dV kV ho hd hcd hD hmg hg args vals as hpre hlay hrd hwl hlo
  obtain ⟨om, hom, hoc⟩ := Y
  refine Ground.open G ?_
  intro T B D TE TW
  rw [law3_name] at hmg
  clear ho hd hcd hD
  wrow_args hpre hlay hrd hwl hlo
  rename IntsAre _ _ => hI
  rename Heap.IsList _ _ _ => hL
  rename ¬ (_ < _) => hlen
  obtain ⟨P, hP, hct, hT, hZ, hC⟩ := Mine.tab_of3 (fs := Mine.fs3) (gen := "_grouping_intervals") (prog := PySem.Challenge.rw_wn0011_03.row.prog) (w := w) (gd := Mine.recAt PySem.Challenge.pw_wn0011_03 6) (zd := Mine.recAt PySem.Challenge.pw_wn0011_03 2) T (by decide +kernel) (by decide +kernel) Mine.gen3_in (by decide +kernel) ⟨_, rfl⟩ Mine.gen_lit Mine.fs3_ok (List.mem_of_getElem? (i := 1) (by kernel_rfl))
  refine Mine.law_true3 (fl := 8) rfl hT hZ (g0 := Mine.f3_add_func_stats) (g1 := Mine.f3_add_callers) (gl := Mine.f3_law) rfl rfl rfl rfl rfl rfl rfl rfl hC hP hom hoc hmg hL hI (Mine.plain3 _ (by (first | lia | omega))) fun s' ps af hP' => ?_
  exact Mine.goodWG_true3 hP hct af hP' hg (fun _ => rfl) (postW_of rfl (w_eq_bool (w_res rfl) w_lit) rfl)
end Mine
theorem PySem.Challenge.cw_wn0011_03_holds : PySem.Challenge.rw_wn0011_03.Holds :=
  Mine.law3_row Mine.law3_walk