import PyProof.Rows.All
import Wide.All
import OpenK.AllK
import Wide.FinOn
import Lean
import PySem.Challenge.RW_wn0011_01
set_option Elab.async false
set_option backward.eqns.nonrecursive false
set_option linter.all false
set_option bootstrap.genMatcherCode false
section
open PySem PySem.Calls PyProof.Rows
namespace Mine
theorem cps {P : Prop} (h : ∀ G : Prop, (P → G) → G) : P := h P id
inductive K where
  | int (i : Int)
  | str (s : Str)
  deriving DecidableEq
inductive D where
  | none
  | bool (b : Bool)
  | int (i : Int)
  | str (s : Str)
  | tup (l : List D)
  | lst (l : List D)
  | dct (l : List (K × D))
noncomputable def K.d : K → D
  | .int i => .int i
  | .str s => .str s
noncomputable def K.is : K → Value → Bool
  | .int i, v => Value.isInt i v
  | .str s, v => Value.isStrOf s v
theorem K.is_int {i : Int} {v : Value} (h : (K.int i).is v = true) : ∃ t, v = .int i t := Value.isInt_shape h
theorem K.is_str {s : Str} {v : Value} (h : (K.str s).is v = true) : ∃ t, v = .str s t := Value.isStrOf_shape h
theorem K.is_inj (v : Value) (a b : K) (ha : a.is v = true) (hb : b.is v = true) : a = b := by
  cases a with
  | int i =>
    obtain ⟨t, rfl⟩ := K.is_int ha
    cases b with
    | int j => obtain ⟨u, e⟩ := K.is_int hb; injection e with e; rw [e]
    | str x => obtain ⟨u, e⟩ := K.is_str hb; cases e
  | str x =>
    obtain ⟨t, rfl⟩ := K.is_str ha
    cases b with
    | int j => obtain ⟨u, e⟩ := K.is_int hb; cases e
    | str y => obtain ⟨u, e⟩ := K.is_str hb; injection e with e; rw [e]
noncomputable def K.hash (w : World) : K → Int
  | .int i => hashInt i
  | .str s => hashStr w s
noncomputable def kind (prog : Program) (w : World) : KeyKind prog w K where
  is := K.is
  hash := K.hash w
  inj := K.is_inj
  byValue := fun k v h => by
    cases k with
    | int i => obtain ⟨t, rfl⟩ := K.is_int h; rfl
    | str x => obtain ⟨t, rfl⟩ := K.is_str h; rfl
  pyHash := fun {A E s k v Q} hv h => by
    cases k with
    | int i => obtain ⟨t, rfl⟩ := K.is_int hv; exact wpAny_pyHash_int h
    | str x => obtain ⟨t, rfl⟩ := K.is_str hv; exact wpAny_pyHash_str h
  eqBool := fun {A E s a b u v Q} hu hv h => by
    cases a with
    | int i =>
      obtain ⟨t, rfl⟩ := K.is_int hu
      cases b with
      | int j => obtain ⟨t', rfl⟩ := K.is_int hv; exact wpAny_eqBool_int (by
          have e : decide (K.int i = K.int j) = (i == j) := by
            by_cases h : i = j
            · subst h; simp
            · have : ¬ (K.int i = K.int j) := fun e => h (by injection e)
              simp [this, h]
          rw [← e]; exact h)
      | str y => obtain ⟨t', rfl⟩ := K.is_str hv; exact (SeqAt.EqAt.int_str i t y t' prog w E Q (by
          have e : decide (K.int i = K.str y) = false := decide_eq_false (by intro e; cases e)
          rw [← e]; exact h))
    | str x =>
      obtain ⟨t, rfl⟩ := K.is_str hu
      cases b with
      | int j => obtain ⟨t', rfl⟩ := K.is_int hv; exact (SeqAt.EqAt.str_int x t j t' prog w E Q (by
          have e : decide (K.str x = K.int j) = false := decide_eq_false (by intro e; cases e)
          rw [← e]; exact h))
      | str y => obtain ⟨t', rfl⟩ := K.is_str hv; exact wpAny_eqBool_str (by
          have e : decide (K.str x = K.str y) = decide (x = y) := by
            by_cases h : x = y
            · subst h; simp
            · have : ¬ (K.str x = K.str y) := fun e => h (by injection e)
              simp [this, h]
          rw [← e]; exact h)
  «strs» := fun k x t v h => by
    cases k with
    | int i => obtain ⟨u, e⟩ := K.is_int h; cases e
    | str y =>
      obtain ⟨u, hu⟩ := K.is_str h
      injection hu with hx
      subst hx
      cases v <;> rfl
noncomputable def LstAt (h : Heap) (a : Addr) (vs : List Value) : Prop := ∃ n, h.get? a = some { cls := .type "list", dict := none, data := .seq vs.toArray n, slots := #[] }
noncomputable def TupAt (h : Heap) (a : Addr) (vs : List Value) : Prop := ∃ n, h.get? a = some { cls := .type "tuple", dict := none, data := .seq vs.toArray n, slots := #[] }
theorem TupAt.tup {h : Heap} {a : Addr} {vs : List Value} (x : TupAt h a vs) : h.IsTuple a vs.toArray := let ⟨n, e⟩ := x; ⟨_, e, rfl, n, rfl⟩
theorem LstAt.list {h : Heap} {a : Addr} {vs : List Value} (x : LstAt h a vs) : h.IsList a vs.toArray := let ⟨n, e⟩ := x; ⟨_, e, rfl, n, rfl⟩
theorem LstAt.keep {h h' : Heap} {a : Addr} {vs : List Value} (x : LstAt h a vs) (k : ∀ o, h.get? a = some o → h'.get? a = some o) : LstAt h' a vs := let ⟨n, e⟩ := x; ⟨n, k _ e⟩
theorem LstAt.live {h : Heap} {a : Addr} {vs : List Value} (x : LstAt h a vs) : ∃ o, h.get? a = some o := let ⟨_, e⟩ := x; ⟨_, e⟩
section
variable (w : World) (prog : Program) (F : Addr → Prop) (h : Heap)
mutual
inductive Rep : Value → D → Prop
  | none : Rep .none .none
  | bool (b : Bool) : Rep (.bool b) (.bool b)
  | int (i : Int) (t : Tok) : Rep (.int i t) (.int i)
  | str (s : Str) (t : Tok) : Rep (.str s t) (.str s)
  | tup {a : Addr} {vs : List Value} {ds : List D} : ¬ F a → h.IsTuple a vs.toArray → Reps vs ds → Rep (.ref a) (.tup ds)
  | lst {a : Addr} {vs : List Value} {ds : List D} : ¬ F a → h.IsList a vs.toArray → Reps vs ds → Rep (.ref a) (.lst ds)
  | dct {a : Addr} {kvs : List (K × Value)} {ds : List (K × D)} : ¬ F a → h.DictOf (kind prog w) a kvs → RepKs kvs ds → Rep (.ref a) (.dct ds)
inductive Reps : List Value → List D → Prop
  | nil : Reps [] []
  | cons {v : Value} {d : D} {vs : List Value} {ds : List D} : Rep v d → Reps vs ds → Reps (v :: vs) (d :: ds)
inductive RepKs : List (K × Value) → List (K × D) → Prop
  | nil : RepKs [] []
  | cons {k : K} {v : Value} {d : D} {vs : List (K × Value)} {ds : List (K × D)} : Rep v d → RepKs vs ds → RepKs ((k, v) :: vs) ((k, d) :: ds)
end
end
variable {w : World} {prog : Program} {F F' : Addr → Prop} {h h' : Heap}
theorem go_tup (k : ∀ a o, ¬ F a → h.get? a = some o → ¬ F' a ∧ h'.get? a = some o) {a : Addr} {vs : Array Value} (hF : ¬ F a) (e : h.IsTuple a vs) : ¬ F' a ∧ h'.IsTuple a vs := by
  obtain ⟨o, e, x⟩ := e
  exact ⟨(k _ _ hF e).1, o, (k _ _ hF e).2, x⟩
theorem go_lst (k : ∀ a o, ¬ F a → h.get? a = some o → ¬ F' a ∧ h'.get? a = some o) {a : Addr} {vs : Array Value} (hF : ¬ F a) (e : h.IsList a vs) : ¬ F' a ∧ h'.IsList a vs := by
  obtain ⟨o, e, x⟩ := e
  exact ⟨(k _ _ hF e).1, o, (k _ _ hF e).2, x⟩
theorem go_dct (k : ∀ a o, ¬ F a → h.get? a = some o → ¬ F' a ∧ h'.get? a = some o) {a : Addr} {kvs : List (K × Value)} (hF : ¬ F a) (e : h.DictOf (kind prog w) a kvs) : ¬ F' a ∧ h'.DictOf (kind prog w) a kvs := by
  obtain ⟨o, es, ep, e, x⟩ := e
  exact ⟨(k _ _ hF e).1, o, es, ep, (k _ _ hF e).2, x⟩
theorem Rep.go (k : ∀ a o, ¬ F a → h.get? a = some o → ¬ F' a ∧ h'.get? a = some o) {v : Value} {d : D} (r : Rep w prog F h v d) : Rep w prog F' h' v d :=
  Rep.rec (motive_1 := fun v d _ => Rep w prog F' h' v d) (motive_2 := fun v d _ => Reps w prog F' h' v d) (motive_3 := fun v d _ => RepKs w prog F' h' v d)
    .none .bool .int .str (fun hF e _ ih => .tup (go_tup k hF e).1 (go_tup k hF e).2 ih) (fun hF e _ ih => .lst (go_lst k hF e).1 (go_lst k hF e).2 ih) (fun hF e _ ih => .dct (go_dct k hF e).1 (go_dct k hF e).2 ih)
    .nil (fun _ _ a b => .cons a b) .nil (fun _ _ a b => .cons a b) r
theorem Reps.go (k : ∀ a o, ¬ F a → h.get? a = some o → ¬ F' a ∧ h'.get? a = some o) {v : List Value} {d : List D} (r : Reps w prog F h v d) : Reps w prog F' h' v d :=
  Reps.rec (motive_1 := fun v d _ => Rep w prog F' h' v d) (motive_2 := fun v d _ => Reps w prog F' h' v d) (motive_3 := fun v d _ => RepKs w prog F' h' v d)
    .none .bool .int .str (fun hF e _ ih => .tup (go_tup k hF e).1 (go_tup k hF e).2 ih) (fun hF e _ ih => .lst (go_lst k hF e).1 (go_lst k hF e).2 ih) (fun hF e _ ih => .dct (go_dct k hF e).1 (go_dct k hF e).2 ih)
    .nil (fun _ _ a b => .cons a b) .nil (fun _ _ a b => .cons a b) r
theorem RepKs.go (k : ∀ a o, ¬ F a → h.get? a = some o → ¬ F' a ∧ h'.get? a = some o) {v : List (K × Value)} {d : List (K × D)} (r : RepKs w prog F h v d) : RepKs w prog F' h' v d :=
  RepKs.rec (motive_1 := fun v d _ => Rep w prog F' h' v d) (motive_2 := fun v d _ => Reps w prog F' h' v d) (motive_3 := fun v d _ => RepKs w prog F' h' v d)
    .none .bool .int .str (fun hF e _ ih => .tup (go_tup k hF e).1 (go_tup k hF e).2 ih) (fun hF e _ ih => .lst (go_lst k hF e).1 (go_lst k hF e).2 ih) (fun hF e _ ih => .dct (go_dct k hF e).1 (go_dct k hF e).2 ih)
    .nil (fun _ _ a b => .cons a b) .nil (fun _ _ a b => .cons a b) r
noncomputable def RepV (w : World) (prog : Program) (F : Addr → Prop) (h : Heap) (v : Value) : D → Prop
  | .none => v = .none
  | .bool b => v = .bool b
  | .int i => ∃ t, v = .int i t
  | .str s => ∃ t, v = .str s t
  | .tup ds => ∃ a vs, v = .ref a ∧ ¬ F a ∧ h.IsTuple a vs.toArray ∧ Reps w prog F h vs ds
  | .lst ds => ∃ a vs, v = .ref a ∧ ¬ F a ∧ h.IsList a vs.toArray ∧ Reps w prog F h vs ds
  | .dct ds => ∃ a kvs, v = .ref a ∧ ¬ F a ∧ h.DictOf (kind prog w) a kvs ∧ RepKs w prog F h kvs ds
theorem Rep.view {v : Value} {d : D} (r : Rep w prog F h v d) : RepV w prog F h v d := by
  cases r with
  | none => rfl
  | bool b => rfl
  | int i t => exact ⟨t, rfl⟩
  | str s t => exact ⟨t, rfl⟩
  | tup a b c => exact ⟨_, _, rfl, a, b, c⟩
  | lst a b c => exact ⟨_, _, rfl, a, b, c⟩
  | dct a b c => exact ⟨_, _, rfl, a, b, c⟩
noncomputable def RepsV (w : World) (prog : Program) (F : Addr → Prop) (h : Heap) (vs : List Value) : List D → Prop
  | [] => vs = []
  | d :: ds => ∃ v vs', vs = v :: vs' ∧ Rep w prog F h v d ∧ Reps w prog F h vs' ds
theorem Reps.view {vs : List Value} {ds : List D} (r : Reps w prog F h vs ds) : RepsV w prog F h vs ds := by
  cases r with
  | nil => rfl
  | cons a b => exact ⟨_, _, rfl, a, b⟩
noncomputable def RepKsV (w : World) (prog : Program) (F : Addr → Prop) (h : Heap) (vs : List (K × Value)) : List (K × D) → Prop
  | [] => vs = []
  | (k, d) :: ds => ∃ v vs', vs = (k, v) :: vs' ∧ Rep w prog F h v d ∧ RepKs w prog F h vs' ds
theorem RepKs.view {vs : List (K × Value)} {ds : List (K × D)} (r : RepKs w prog F h vs ds) : RepKsV w prog F h vs ds := by
  cases r with
  | nil => rfl
  | cons a b => exact ⟨_, _, rfl, a, b⟩
noncomputable def RepU (w : World) (prog : Program) (F : Addr → Prop) (h : Heap) (d : D) : Value → Prop
  | .none => d = .none
  | .bool b => d = .bool b
  | .int i _ => d = .int i
  | .str s _ => d = .str s
  | .ref a => (∃ vs ds, d = .tup ds ∧ h.IsTuple a vs.toArray ∧ Reps w prog F h vs ds) ∨ (∃ vs ds, d = .lst ds ∧ h.IsList a vs.toArray ∧ Reps w prog F h vs ds) ∨ ∃ kvs ds, d = .dct ds ∧ h.DictOf (kind prog w) a kvs ∧ RepKs w prog F h kvs ds
  | _ => False
theorem Rep.uview {v : Value} {d : D} (r : Rep w prog F h v d) : RepU w prog F h d v := by
  cases r with
  | none => rfl
  | bool b => rfl
  | int i t => rfl
  | str s t => rfl
  | tup a b c => exact .inl ⟨_, _, rfl, b, c⟩
  | lst a b c => exact .inr (.inl ⟨_, _, rfl, b, c⟩)
  | dct a b c => exact .inr (.inr ⟨_, _, rfl, b, c⟩)
theorem Reps.length {vs : List Value} {ds : List D} (r : Reps w prog F h vs ds) : vs.length = ds.length := by
  induction ds generalizing vs with
  | nil => rw [r.view]; rfl
  | cons d ds ih => obtain ⟨v, vs, rfl, _, r⟩ := r.view; exact congrArg Nat.succ (ih r)
theorem RepKs.length {vs : List (K × Value)} {ds : List (K × D)} (r : RepKs w prog F h vs ds) : vs.length = ds.length := by
  induction ds generalizing vs with
  | nil => rw [r.view]; rfl
  | cons d ds ih => obtain ⟨v, vs, rfl, _, r⟩ := r.view; exact congrArg Nat.succ (ih r)
theorem RepKs.keys {vs : List (K × Value)} {ds : List (K × D)} (r : RepKs w prog F h vs ds) : vs.map (·.1) = ds.map (·.1) := by
  induction ds generalizing vs with
  | nil => rw [r.view]; rfl
  | cons d ds ih => obtain ⟨v, vs, rfl, _, r⟩ := r.view; exact congrArg (d.1 :: ·) (ih r)
theorem Reps.append {vs vs' : List Value} {ds ds' : List D} (r : Reps w prog F h vs ds) (r' : Reps w prog F h vs' ds') : Reps w prog F h (vs ++ vs') (ds ++ ds') := by
  induction ds generalizing vs with
  | nil => rw [show vs = [] from r.view]; exact r'
  | cons d ds ih => obtain ⟨v, vs, rfl, a, r⟩ := r.view; exact .cons a (ih r)
theorem Reps.get {vs : List Value} {ds : List D} (r : Reps w prog F h vs ds) {i : Nat} {d : D} (hd : ds[i]? = some d) : ∃ v, vs[i]? = some v ∧ Rep w prog F h v d := by
  induction ds generalizing vs i with
  | nil => exact nomatch hd
  | cons x ds ih =>
    obtain ⟨v, vs, rfl, a, r⟩ := r.view
    cases i with
    | zero => exact ⟨v, rfl, Option.some.inj hd ▸ a⟩
    | succ i => exact ih r hd
theorem Reps.get' {vs : List Value} {ds : List D} (r : Reps w prog F h vs ds) {i : Nat} {v : Value} (hv : vs[i]? = some v) : ∃ d, ds[i]? = some d ∧ Rep w prog F h v d := by
  induction ds generalizing vs i with
  | nil => rw [show vs = [] from r.view] at hv; exact nomatch hv
  | cons x ds ih =>
    obtain ⟨v, vs, rfl, a, r⟩ := r.view
    cases i with
    | zero => exact ⟨x, rfl, Option.some.inj hv ▸ a⟩
    | succ i => exact ih r hv
theorem Reps.drop {vs : List Value} {ds : List D} (r : Reps w prog F h vs ds) (i : Nat) : Reps w prog F h (vs.drop i) (ds.drop i) := by
  induction i generalizing vs ds with
  | zero => exact r
  | succ i ih => cases r with
    | nil => exact .nil
    | cons a r => exact ih r
theorem Reps.take {vs : List Value} {ds : List D} (r : Reps w prog F h vs ds) (i : Nat) : Reps w prog F h (vs.take i) (ds.take i) := by
  induction i generalizing vs ds with
  | zero => exact .nil
  | succ i ih => cases r with
    | nil => exact .nil
    | cons a r => exact .cons a (ih r)
theorem Reps.set {vs : List Value} {ds : List D} (r : Reps w prog F h vs ds) {i : Nat} {v : Value} {d : D} (q : Rep w prog F h v d) : Reps w prog F h (vs.set i v) (ds.set i d) := by
  induction r using Reps.rec (motive_1 := fun _ _ _ => True) (motive_3 := fun _ _ _ => True) generalizing i with
  | nil => exact .nil
  | cons a r _ ih =>
    cases i with
    | zero => exact .cons q r
    | succ i => exact .cons a ih
  | _ => trivial
noncomputable def Ext (h h' : Heap) : Prop := ∀ b o, h.get? b = some o → h'.get? b = some o
theorem Ext.refl (h : Heap) : Ext h h := fun _ _ e => e
theorem Ext.trans {h₁ h₂ h₃ : Heap} (x : Ext h₁ h₂) (y : Ext h₂ h₃) : Ext h₁ h₃ := fun b o e => y b o (x b o e)
theorem Ext.push (h : Heap) (o : Obj) : Ext h (h.push o) := fun _ _ e => Heap.get?_push_of_some o e
theorem Rep.ext {v : Value} {d : D} (r : Rep w prog F h v d) (k : Ext h h') : Rep w prog F h' v d := r.go fun a o f e => ⟨f, k a o e⟩
theorem Reps.ext {v : List Value} {d : List D} (r : Reps w prog F h v d) (k : Ext h h') : Reps w prog F h' v d := r.go fun a o f e => ⟨f, k a o e⟩
theorem RepKs.ext {v : List (K × Value)} {d : List (K × D)} (r : RepKs w prog F h v d) (k : Ext h h') : RepKs w prog F h' v d := r.go fun a o f e => ⟨f, k a o e⟩
theorem Rep.anti {v : Value} {d : D} (r : Rep w prog F h v d) (k : ∀ a, F' a → F a) : Rep w prog F' h v d := r.go fun a _ f e => ⟨fun q => f (k a q), e⟩
theorem Reps.anti {v : List Value} {d : List D} (r : Reps w prog F h v d) (k : ∀ a, F' a → F a) : Reps w prog F' h v d := r.go fun a _ f e => ⟨fun q => f (k a q), e⟩
theorem Rep.more {v : Value} {d : D} (r : Rep w prog F h v d) (k : ∀ a, F' a → F a ∨ h.get? a = Option.none) : Rep w prog F' h v d :=
  r.go fun a o f e => ⟨fun q => (k a q).elim f (fun q => by rw [q] at e; cases e), e⟩
theorem Reps.more {v : List Value} {d : List D} (r : Reps w prog F h v d) (k : ∀ a, F' a → F a ∨ h.get? a = Option.none) : Reps w prog F' h v d :=
  r.go fun a o f e => ⟨fun q => (k a q).elim f (fun q => by rw [q] at e; cases e), e⟩
structure Aft (W : Addr → Prop) (s s' : Shared) : Prop where
  heap : ∀ b o, ¬ W b → s.heap.get? b = some o → s'.heap.get? b = some o
  gens : ∀ (i : Nat) (x : GenState), s.gens[i]? = some x → s'.gens[i]? = some x
  bare : AllBare s.gens → AllBare s'.gens
  os : s'.os = s.os
theorem Aft.refl (W : Addr → Prop) (s : Shared) : Aft W s s := ⟨fun _ _ _ e => e, fun _ _ e => e, id, rfl⟩
theorem Aft.trans {W : Addr → Prop} {s₁ s₂ s₃ : Shared} (x : Aft W s₁ s₂) (y : Aft W s₂ s₃) : Aft W s₁ s₃ :=
  ⟨fun b o f e => y.heap b o f (x.heap b o f e), fun i g e => y.gens i g (x.gens i g e), fun q => y.bare (x.bare q), y.os.trans x.os⟩
theorem Aft.trans' {W W' : Addr → Prop} {s₁ s₂ s₃ : Shared} (x : Aft W s₁ s₂) (y : Aft W' s₂ s₃) (k : ∀ a, W' a → W a ∨ s₁.heap.get? a = none) : Aft W s₁ s₃ :=
  ⟨fun b o f e => y.heap b o (fun q => (k b q).elim f (fun q => by rw [q] at e; cases e)) (x.heap b o f e), fun i g e => y.gens i g (x.gens i g e), fun q => y.bare (x.bare q), y.os.trans x.os⟩
noncomputable abbrev Evl (s s' : Shared) : Prop := Aft (fun _ => False) s s'
theorem Evl.ext {s s' : Shared} (x : Evl s s') : Ext s.heap s'.heap := fun b o e => x.heap b o id e
theorem Evl.of {s : Shared} {h' : Heap} {tk : Nat} (k : Ext s.heap h') : Evl s { s with heap := h', toks := tk } := ⟨fun b o _ e => k b o e, fun _ _ e => e, id, rfl⟩
theorem Evl.toks {s : Shared} {tk : Nat} : Evl s { s with toks := tk } := ⟨fun _ _ _ e => e, fun _ _ e => e, id, rfl⟩
theorem Aft.of {W : Addr → Prop} {s : Shared} {h' : Heap} {tk : Nat} (k : ∀ b o, ¬ W b → s.heap.get? b = some o → h'.get? b = some o) : Aft W s { s with heap := h', toks := tk } := ⟨k, fun _ _ e => e, id, rfl⟩
theorem Aft.mono {W W' : Addr → Prop} {s s' : Shared} (x : Aft W s s') (k : ∀ a, W a → W' a) : Aft W' s s' := ⟨fun b o f e => x.heap b o (fun q => f (k b q)) e, x.gens, x.bare, x.os⟩
theorem Evl.aft {W : Addr → Prop} {s s' : Shared} (x : Evl s s') : Aft W s s' := x.mono fun _ q => q.elim
end Mine
end
section
open PySem PySem.Calls PyProof.Rows
namespace Mine
structure Loc (env : Env) (h : Heap) (m cm : Str → Option Value) : Prop where
  ns : h.Ns env.locals m
  cell : ∀ n c, env.cells.lookup n = some c → h.IsCell c (cm n)
  apart : env.cells.Pairwise fun x y => x.2 ≠ y.2
  ne : ∀ n c, env.cells.lookup n = some c → c ≠ env.locals
noncomputable def val (env : Env) (m cm : Str → Option Value) (x : Str) : Option Value := if env.kindOf x = some .local then m x else cm x
inductive Home (env : Env) (x : Str) : Addr → Bool → Prop
  | loc : env.kindOf x = some .local → Home env x env.locals true
  | cel {c : Addr} : env.kindOf x = some .cell → env.cells.lookup x = some c → Home env x c true
  | fre {c : Addr} : env.kindOf x = some .free → env.cells.lookup x = some c → Home env x c false
section
variable {prog : Program} {w : World} {A : Around} {E : Value → Shared → Prop} {s : Shared} {env : Env} {m cm : Str → Option Value}
theorem Loc.home {x : Str} {a : Addr} {b : Bool} (L : Loc env s.heap m cm) (H : Home env x a b) : a = env.locals ∨ ∃ n, env.cells.lookup n = some a := by
  cases H with
  | loc => exact .inl rfl
  | cel _ hc => exact .inr ⟨x, hc⟩
  | fre _ hc => exact .inr ⟨x, hc⟩
theorem Loc.load {x : Str} {a : Addr} {b : Bool} {v : Value} {Q : Value → Shared → Prop} (hk : env.scope.kind = .function) (L : Loc env s.heap m cm) (H : Home env x a b) (hv : val env m cm x = some v) (h : Q v s)
    (hn : (x == ("__classdict__" : Str)) = false) : wpAny (model prog w) A (loadName env x) Q E s := by
  cases H with
  | loc hl => unfold val at hv; rw [if_pos hl] at hv; exact wpAny_loadName_local hk hl L.ns hv h
  | cel hl hc =>
    unfold val at hv; rw [if_neg (by rw [hl]; decide)] at hv
    exact wpAny_loadName_cell hk hl hc (hv ▸ L.cell _ _ hc) h
  | fre hl hc =>
    unfold val at hv; rw [if_neg (by rw [hl]; decide)] at hv
    exact wpAny_loadName_free hk hl hc (hv ▸ L.cell _ _ hc) h hn
theorem Loc.keep {h h' : Heap} (L : Loc env h m cm) (k : ∀ a o, (a = env.locals ∨ ∃ n, env.cells.lookup n = some a) → h.get? a = some o → h'.get? a = some o) : Loc env h' m cm := by
  refine ⟨?_, fun n c hc => ?_, L.apart, L.ne⟩
  · refine cps fun gZ hZ => ?_
    obtain ⟨o, es, ep, e, r⟩ := L.ns
    refine hZ ?_
    clear hZ gZ
    exact ⟨o, es, ep, k _ _ (.inl rfl) e, r⟩
  · refine cps fun gZ hZ => ?_
    obtain ⟨o, e, r⟩ := L.cell n c hc
    refine hZ ?_
    clear hZ gZ
    exact ⟨o, k _ _ (.inr ⟨n, hc⟩) e, r⟩
theorem Loc.store {x : Str} {a : Addr} {v : Value} {Q : Unit → Shared → Prop} (hk : env.scope.kind = .function) (L : Loc env s.heap m cm) (H : Home env x a true)
    (h : ∀ h' m' cm' tk, Loc env h' m' cm' → (∀ y, val env m' cm' y = if y = x then some v else val env m cm y) → Heap.SameBut a s.heap h' → Q () { s with heap := h', toks := tk }) :
    wpAny (model prog w) A (storeName env x v) Q E s := by
  cases H with
  | loc hl =>
    refine wpAny_storeName_local hl L.ns (fun h' hn hs => h h' _ cm _ ⟨hn, fun n c hc => (L.cell n c hc).sameBut hs (L.ne n c hc), L.apart, L.ne⟩ (fun y => ?_) hs) (by rw [hk]; rfl)
    unfold val
    by_cases hy : y = x
    · subst hy; simp [hl]
    · simp [hy]
  | cel hl hc =>
    refine wpAny_storeName_cell hk hl hc (L.cell _ _ hc) fun h' hc' hs' => h h' m (fun y => if y = x then some v else cm y) s.toks ⟨L.ns.sameBut hs' (Ne.symm (L.ne _ _ hc)), fun n c' hc2 => ?_, L.apart, L.ne⟩ (fun y => ?_) hs'
    · by_cases hn : n = x
      · subst hn
        rw [hc] at hc2; cases hc2
        simpa using hc'
      · rw [if_neg hn]
        exact (L.cell n c' hc2).sameBut hs' fun e => hn (name_of_addr L.apart (mem_of_lookup hc2) (e ▸ mem_of_lookup hc))
    · unfold val
      by_cases hy : y = x
      · subst hy; simp [hl]
      · simp [hy]
end
inductive LV where
  | sh (d : D)
  | ol (ds : List D)
  | od (ds : List (K × D))
  | oll (dss : List (List D))
  | exc (msg : Str)
noncomputable def LV.owned : LV → Bool
  | .sh _ => false
  | _ => true
section
variable (w : World) (prog : Program) (F : Addr → Prop) (h : Heap)
inductive RepLs : List Addr → List (List D) → Prop
  | nil : RepLs [] []
  | cons {a : Addr} {as : List Addr} {vs : List Value} {ds : List D} {dss : List (List D)} : LstAt h a vs → Reps w prog F h vs ds → RepLs as dss → RepLs (a :: as) (ds :: dss)
noncomputable def LvRep (fp : List Addr) (v : Value) : LV → Prop
  | .sh d => Rep w prog F h v d
  | .ol ds => ∃ a vs, v = .ref a ∧ fp = [a] ∧ LstAt h a vs ∧ Reps w prog F h vs ds
  | .od ds => ∃ a kvs, v = .ref a ∧ fp = [a] ∧ h.DictOf (kind prog w) a kvs ∧ RepKs w prog F h kvs ds
  | .oll dss => ∃ a as, v = .ref a ∧ fp = a :: as ∧ LstAt h a (as.map .ref) ∧ RepLs w prog F h as dss
  | .exc msg => ∃ e t tk d sl rest, v = .ref e ∧ fp = [e] ∧ h.get? e = some ⟨.type "ValueError", d, .fields (#[.ref t] ++ rest), sl⟩ ∧ TupAt h t [.str msg tk] ∧ ¬ F t
end
section
variable {w : World} {prog : Program} {F F' : Addr → Prop} {h h' : Heap}
theorem RepLs.go (k : ∀ a o, ¬ F a → h.get? a = some o → ¬ F' a ∧ h'.get? a = some o) {as : List Addr} {dss : List (List D)} (kk : ∀ a ∈ as, ∀ o, h.get? a = some o → h'.get? a = some o) (r : RepLs w prog F h as dss) : RepLs w prog F' h' as dss := by
  induction r with
  | nil => exact .nil
  | cons e r _ ih =>
    exact .cons (e.keep fun o e => kk _ (.head _) _ e) (r.go k) (ih fun a ha => kk a (.tail _ ha))
theorem LvRep.go (k : ∀ a o, ¬ F a → h.get? a = some o → ¬ F' a ∧ h'.get? a = some o) {fp : List Addr} {v : Value} {lv : LV} (hfp : lv.owned = true → ∀ a ∈ fp, ∀ o, h.get? a = some o → h'.get? a = some o)
    (r : LvRep w prog F h fp v lv) : LvRep w prog F' h' fp v lv := by
  cases lv with
  | sh d => exact Rep.go k r
  | ol ds =>
    refine cps fun gZ hZ => ?_
    obtain ⟨a, vs, rfl, rfl, e, r⟩ := r
    refine hZ ?_
    clear hZ gZ
    exact ⟨a, vs, rfl, rfl, e.keep fun o e => hfp rfl a (.head _) _ e, r.go k⟩
  | od ds =>
    refine cps fun gZ hZ => ?_
    obtain ⟨a, kvs, rfl, rfl, ⟨o, es, ep, e, x⟩, r⟩ := r
    refine hZ ?_
    clear hZ gZ
    exact ⟨a, kvs, rfl, rfl, ⟨o, es, ep, hfp rfl a (.head _) _ e, x⟩, r.go k⟩
  | oll dss =>
    refine cps fun gZ hZ => ?_
    obtain ⟨a, as, rfl, rfl, e, r⟩ := r
    refine hZ ?_
    clear hZ gZ
    exact ⟨a, as, rfl, rfl, e.keep fun o e => hfp rfl a (.head _) _ e, r.go k fun b hb => hfp rfl b (.tail _ hb)⟩
  | exc msg =>
    refine cps fun gZ hZ => ?_
    obtain ⟨e, t, tk, d, sl, rest, rfl, rfl, ho, ⟨n, ht⟩, hnt⟩ := r
    refine hZ ?_
    clear hZ gZ
    obtain ⟨q3, q4⟩ := k _ _ hnt ht
    exact ⟨e, t, tk, d, sl, rest, rfl, rfl, hfp rfl e (.head _) _ ho, ⟨n, q4⟩, q3⟩
end
noncomputable abbrev Rho := List (Option LV)
noncomputable def Rho.at (ρ : Rho) (i : Nat) : Option LV := (ρ[i]?).join
structure Base extends Shared where
  Z : Addr → Prop
  ZI : Heap → Prop
  zs : ∀ h h', ZI h → (∀ b o, Z b → h.get? b = some o → h'.get? b = some o) → ZI h'
noncomputable def Base.of (s : Shared) : Base := { s with Z := fun _ => False, ZI := fun _ => True, zs := fun _ _ _ _ => trivial }
inductive StV (w : World) (prog : Program) (env : Env) (tbl : List Str) (s₀ : Base) (N W : Addr → Prop) (ρ : Rho) (s : Shared) : Prop
  | mk (m cm : Str → Option Value) (own : Nat → List Addr) (L : Loc env s.heap m cm) (ZL : ∀ a, s₀.Z a → (a ≠ env.locals ∧ ∀ n c, env.cells.lookup n = some c → a ≠ c) ∧ ∀ i lv, ρ.at i = some lv → lv.owned = true → a ∉ own i)
    (O1 : ∀ i lv, ρ.at i = some lv → lv.owned = true → ∀ a ∈ own i, (W a ∧ ¬ N a) ∧ a ≠ env.locals ∧ (∀ n c, env.cells.lookup n = some c → a ≠ c) ∧ ∀ j lv', ρ.at j = some lv' → lv'.owned = true → a ∈ own j → i = j)
    (O2 : ∀ i lv, ρ.at i = some lv → lv.owned = true → (own i).Nodup)
    (V : ∀ i x lv, tbl[i]? = some x → ρ.at i = some lv → ∃ v, val env m cm x = some v ∧ LvRep w prog (fun a => N a ∨ W a) s.heap (own i) v lv) : StV w prog env tbl s₀ N W ρ s
structure St (w : World) (prog : Program) (env : Env) (tbl : List Str) (s₀ : Base) (N W : Addr → Prop) (ρ : Rho) (s : Shared) : Prop where
  evl : Evl s₀.toShared s
  live : ∀ a, N a ∨ W a → ∃ o, s.heap.get? a = some o
  fresh : ∀ a, W a → s₀.heap.get? a = none
  zw : ∀ a, s₀.Z a → W a
  zi : s₀.ZI s.heap
  vals : StV w prog env tbl s₀ N W ρ s
structure Frm (env : Env) (tbl : List Str) (N W : Addr → Prop) : Prop where
  kind : env.scope.kind = .function
  nodup : tbl.Nodup
  plain : ∀ x ∈ tbl, (x == ("__debug__" : Str)) = false ∧ (x == ("__classdict__" : Str)) = false
  home : ∀ x ∈ tbl, ∃ a b, Home env x a b
  homeN : ∀ x ∈ tbl, ∀ a b, Home env x a b → N a ∨ W a
  homeW : ∀ x ∈ tbl, ∀ a, Home env x a true → W a
section
variable {prog : Program} {w : World} {A : Around} {E : Value → Shared → Prop} {s s' : Shared} {s₀ : Base} {env : Env} {tbl : List Str} {N N' W W' : Addr → Prop} {ρ : Rho}
theorem Rho.at_set (ρ : Rho) (i j : Nat) (x : Option LV) : (Rho.at (ρ.set i x) j) = if i = j ∧ j < ρ.length then x else ρ.at j := by
  unfold Rho.at
  rw [List.getElem?_set]
  by_cases h : i = j
  · subst h
    by_cases hl : i < ρ.length
    · simp [hl]
    · simp [hl]
  · simp [h]
theorem St.aft {X : Addr → Prop} (S : St w prog env tbl s₀ N W ρ s) (x : Aft X s s') (hX : ∀ a, X a → N a ∧ s₀.heap.get? a = none ∧ ¬ W a ∧ a ≠ env.locals ∧ (∀ n c, env.cells.lookup n = some c → a ≠ c))
    (hl : ∀ a, X a → ∃ o, s'.heap.get? a = some o) : St w prog env tbl s₀ N W ρ s' := by
  refine ⟨⟨fun b o _ e => ?_, fun i g e => x.gens i g (S.evl.gens i g e), fun q => x.bare (S.evl.bare q), x.os.trans S.evl.os⟩, fun a ha => ?_, S.fresh, S.zw, s₀.zs _ _ S.zi fun b o hb e => x.heap b o (fun q => (hX b q).2.2.1 (S.zw b hb)) e, ?_⟩
  · refine x.heap b o (fun q => ?_) (S.evl.heap b o id e)
    have := (hX b q).2.1
    rw [this] at e; cases e
  · by_cases q : X a
    · exact hl a q
    · obtain ⟨o, e⟩ := S.live a ha
      exact ⟨o, x.heap a o q e⟩
  · refine cps fun gZ hZ => ?_
    obtain ⟨m, cm, own, L, ZL, O1, O2, V⟩ := S.vals
    refine hZ ?_
    clear hZ gZ
    refine ⟨m, cm, own, L.keep fun a o ha e => x.heap a o (fun q => ?_) e, ZL, O1, O2, fun i y lv ht hr => ?_⟩
    · rcases ha with rfl | ⟨n, hn⟩
      · exact (hX _ q).2.2.2.1 rfl
      · exact (hX _ q).2.2.2.2 n a hn rfl
    · refine cps fun gZ hZ => ?_
      obtain ⟨v, hv, r⟩ := V i y lv ht hr
      refine hZ ?_
      clear hZ gZ
      exact ⟨v, hv, r.go (fun a o hF e => ⟨hF, x.heap a o (fun q => hF (.inl (hX a q).1)) e⟩) (fun ho a ha o e => x.heap a o (fun q => (hX a q).2.2.1 (O1 i lv hr ho a ha).1.1) e)⟩
theorem St.step (S : St w prog env tbl s₀ N W ρ s) (x : Evl s s') : St w prog env tbl s₀ N W ρ s' := S.aft x (fun _ q => q.elim) (fun _ q => q.elim)
theorem St.load {i : Nat} {x : Str} {d : D} {Q : Value → Shared → Prop} (S : St w prog env tbl s₀ N W ρ s) (R : Frm env tbl N W) (hx : tbl[i]? = some x) (hd : ρ.at i = some (.sh d))
    (h : ∀ v, Rep w prog (fun a => N a ∨ W a) s.heap v d → Q v s) : wpAny (model prog w) A (loadName env x) Q E s := by
  refine cps fun gZ hZ => ?_
  obtain ⟨m, cm, own, L, ZL, O1, O2, V⟩ := S.vals
  refine hZ ?_
  clear hZ gZ
  refine cps fun gZ hZ => ?_
  obtain ⟨v, hv, r⟩ := V i x _ hx hd
  refine hZ ?_
  clear hZ gZ
  refine cps fun gZ hZ => ?_
  obtain ⟨a, b, H⟩ := R.home x (List.mem_of_getElem? hx)
  refine hZ ?_
  clear hZ gZ
  exact L.load R.kind H hv (h v r) (R.plain x (List.mem_of_getElem? hx)).2
theorem St.loadv {i : Nat} {x : Str} {lv : LV} {Q : Value → Shared → Prop} (S : St w prog env tbl s₀ N W ρ s) (R : Frm env tbl N W) (hx : tbl[i]? = some x) (hd : ρ.at i = some lv)
    (h : ∀ v fp, LvRep w prog (fun a => N a ∨ W a) s.heap fp v lv → Q v s) : wpAny (model prog w) A (loadName env x) Q E s := by
  refine cps fun gZ hZ => ?_
  obtain ⟨m, cm, own, L, ZL, O1, O2, V⟩ := S.vals
  refine hZ ?_
  clear hZ gZ
  refine cps fun gZ hZ => ?_
  obtain ⟨v, hv, r⟩ := V i x _ hx hd
  refine hZ ?_
  clear hZ gZ
  refine cps fun gZ hZ => ?_
  obtain ⟨a, b, H⟩ := R.home x (List.mem_of_getElem? hx)
  refine hZ ?_
  clear hZ gZ
  exact L.load R.kind H hv (h v _ r) (R.plain x (List.mem_of_getElem? hx)).2
theorem St.weaken {ρ' : Rho} (S : St w prog env tbl s₀ N W ρ s) (k : ∀ i lv, ρ'.at i = some lv → ρ.at i = some lv) : St w prog env tbl s₀ N W ρ' s := by
  refine cps fun gZ hZ => ?_
  obtain ⟨m, cm, own, L, ZL, O1, O2, V⟩ := S.vals
  refine hZ ?_
  clear hZ gZ
  exact ⟨S.evl, S.live, S.fresh, S.zw, S.zi, m, cm, own, L, fun a ha => ⟨(ZL a ha).1, fun i lv hr ho => (ZL a ha).2 i lv (k i lv hr) ho⟩, fun i lv hr ho a ha => ⟨(O1 i lv (k i lv hr) ho a ha).1, (O1 i lv (k i lv hr) ho a ha).2.1, (O1 i lv (k i lv hr) ho a ha).2.2.1, fun j lv' hr' ho' ha' => (O1 i lv (k i lv hr) ho a ha).2.2.2 j lv' (k j lv' hr') ho' ha'⟩,
    fun i lv hr ho => O2 i lv (k i lv hr) ho, fun i x lv ht hr => V i x lv ht (k i lv hr)⟩
theorem St.lessN (S : St w prog env tbl s₀ N W ρ s) (k : ∀ a, N' a → N a) : St w prog env tbl s₀ N' W ρ s := by
  refine cps fun gZ hZ => ?_
  obtain ⟨m, cm, own, L, ZL, O1, O2, V⟩ := S.vals
  refine hZ ?_
  clear hZ gZ
  refine ⟨S.evl, fun a ha => S.live a (ha.imp (k a) id), S.fresh, S.zw, S.zi, m, cm, own, L, ZL, fun i lv hr ho a ha => ⟨⟨(O1 i lv hr ho a ha).1.1, fun q => (O1 i lv hr ho a ha).1.2 (k a q)⟩, (O1 i lv hr ho a ha).2⟩, O2, fun i x lv ht hr => ?_⟩
  refine cps fun gZ hZ => ?_
  obtain ⟨v, hv, r⟩ := V i x lv ht hr
  refine hZ ?_
  clear hZ gZ
  exact ⟨v, hv, r.go (fun a o hF e => ⟨fun q => hF (q.imp (k a) id), e⟩) fun _ a _ o e => e⟩
theorem St.moreN (S : St w prog env tbl s₀ N W ρ s) (x : Evl s s') (k : ∀ a, N' a → N a ∨ (s.heap.get? a = Option.none ∧ ∃ o, s'.heap.get? a = some o)) : St w prog env tbl s₀ N' W ρ s' := by
  have S' := S.step x
  refine ⟨S'.evl, fun a ha => ?_, S'.fresh, S'.zw, S'.zi, ?_⟩
  · rcases ha with ha | ha
    · rcases k a ha with q | q
      · exact S'.live a (.inl q)
      · exact q.2
    · exact S'.live a (.inr ha)
  · refine cps fun gZ hZ => ?_
    obtain ⟨m, cm, own, L, ZL, O1, O2, V⟩ := S.vals
    refine hZ ?_
    clear hZ gZ
    refine ⟨m, cm, own, L.keep fun a o _ e => x.heap a o id e, ZL, fun i lv hr ho a ha => ⟨⟨(O1 i lv hr ho a ha).1.1, fun q => ?_⟩, (O1 i lv hr ho a ha).2⟩, O2, fun i y lv ht hr => ?_⟩
    · rcases k a q with q | q
      · exact (O1 i lv hr ho a ha).1.2 q
      · obtain ⟨o, e⟩ := S.live a (.inr (O1 i lv hr ho a ha).1.1)
        rw [q.1] at e; cases e
    refine cps fun gZ hZ => ?_
    obtain ⟨v, hv, r⟩ := V i y lv ht hr
    refine hZ ?_
    clear hZ gZ
    refine ⟨v, hv, r.go (fun a o hF e => ⟨fun q => ?_, x.heap a o id e⟩) fun _ a _ o e => x.heap a o id e⟩
    rcases q with q | q
    · rcases k a q with q | q
      · exact hF (.inl q)
      · rw [q.1] at e; cases e
    · exact hF (.inr q)
theorem St.store {i : Nat} {x : Str} {a : Addr} {v : Value} {d : D} {Q : Unit → Shared → Prop} (S : St w prog env tbl s₀ N W ρ s) (R : Frm env tbl N W) (hx : tbl[i]? = some x) (H : Home env x a true) (r : Rep w prog (fun a => N a ∨ W a) s.heap v d)
    (h : ∀ s', St w prog env tbl s₀ N W (ρ.set i (some (.sh d))) s' → Aft (fun b => b = a) s s' → Q () s') : wpAny (model prog w) A (storeName env x v) Q E s := by
  refine cps fun gZ hZ => ?_
  obtain ⟨m, cm, own, L, ZL, O1, O2, V⟩ := S.vals
  refine hZ ?_
  clear hZ gZ
  have Wa := R.homeW x (List.mem_of_getElem? hx) a H
  have fr : ∀ a' o, ¬ (N a' ∨ W a') → s.heap.get? a' = some o → a' ≠ a := fun a' o hF _ e => hF (.inr (e ▸ Wa))
  refine L.store R.kind H fun h' m' cm' tk L' hv' hs => h _ ⟨⟨fun b o _ e => ?_, S.evl.gens, S.evl.bare, S.evl.os⟩, fun b hb => ?_, S.fresh, S.zw, s₀.zs _ _ S.zi fun b o hb e => (hs.2 b fun q => ?_).trans e, m', cm', own, L', fun b hb => ⟨(ZL b hb).1, fun j lv hr ho => ?_⟩, ?_, ?_, ?_⟩ (Aft.of fun b o hb e => (hs.2 b fun q => hb q).trans e)
  · refine (hs.2 b fun q => ?_).trans (S.evl.heap b o id e)
    have := S.fresh a Wa
    rw [q, this] at e; cases e
  · by_cases q : b = a
    · subst q
      cases H with
      | loc _ => obtain ⟨o, es, ep, e, _⟩ := L'.ns; exact ⟨o, e⟩
      | cel _ hc => obtain ⟨o, e, _⟩ := L'.cell x b hc; exact ⟨o, e⟩
    · obtain ⟨o, e⟩ := S.live b hb
      exact ⟨o, (hs.2 b q).trans e⟩
  · subst q
    rcases L.home H with q | ⟨n, hn⟩
    · exact (ZL b hb).1.1 q
    · exact (ZL b hb).1.2 n _ hn rfl
  · rw [Rho.at_set] at hr
    split at hr
    · cases hr; cases ho
    · exact (ZL b hb).2 j lv hr ho
  · intro j lv hr ho b hb
    rw [Rho.at_set] at hr
    split at hr
    · cases hr; cases ho
    · refine ⟨(O1 j lv hr ho b hb).1, (O1 j lv hr ho b hb).2.1, (O1 j lv hr ho b hb).2.2.1, fun j' lv' hr' ho' hb' => ?_⟩
      rw [Rho.at_set] at hr'
      split at hr'
      · cases hr'; cases ho'
      · exact (O1 j lv hr ho b hb).2.2.2 j' lv' hr' ho' hb'
  · intro j lv hr ho
    rw [Rho.at_set] at hr
    split at hr
    · cases hr; cases ho
    · exact O2 j lv hr ho
  · intro j y lv ht hr
    rw [Rho.at_set] at hr
    rw [hv']
    have k : ∀ a' o, ¬ (N a' ∨ W a') → s.heap.get? a' = some o → ¬ (N a' ∨ W a') ∧ h'.get? a' = some o := fun a' o hF e => ⟨hF, (hs.2 a' (fr a' o hF e)).trans e⟩
    split at hr
    · rename_i q
      cases hr
      obtain ⟨rfl, _⟩ := q
      rw [hx] at ht; cases ht
      exact ⟨v, by simp, r.go k⟩
    · rename_i q
      have hxy : y ≠ x := by
        intro e; subst e
        have e1 := (List.getElem?_eq_some_iff.mp hx)
        have e2 := (List.getElem?_eq_some_iff.mp ht)
        obtain ⟨l1, e1⟩ := e1
        obtain ⟨l2, e2⟩ := e2
        have : i = j := (List.getElem_inj R.nodup).mp (e1.trans e2.symm)
        subst this
        by_cases hl : i < ρ.length
        · exact q ⟨rfl, hl⟩
        · have : ρ.at i = none := by unfold Rho.at; rw [List.getElem?_eq_none (by (first | lia | omega))]; rfl
          rw [this] at hr; cases hr
      rw [if_neg hxy]
      refine cps fun gZ hZ => ?_
      obtain ⟨v', hv, r'⟩ := V j y lv ht hr
      refine hZ ?_
      clear hZ gZ
      refine ⟨v', hv, r'.go k fun ho b hb o e => (hs.2 b fun q => ?_).trans e⟩
      subst q
      rcases L.home H with rfl | ⟨n, hn⟩
      · exact (O1 j lv hr ho _ hb).2.1 rfl
      · exact (O1 j lv hr ho _ hb).2.2.1 n _ hn rfl
end
end Mine
end
section
open PySem PySem.Calls PyProof.Rows
namespace Mine
section
variable {prog : Program} {w : World} {A : Around} {E : Value → Shared → Prop} {s s' s₁ : Shared} {s₀ : Base} {env : Env} {tbl : List Str} {N N' W W' : Addr → Prop} {ρ : Rho}
theorem Frm.moreW (R : Frm env tbl N W) (k : ∀ a, W a → W' a) : Frm env tbl N W' :=
  ⟨R.kind, R.nodup, R.plain, R.home, fun x hx a b H => (R.homeN x hx a b H).imp id (k a), fun x hx a H => k a (R.homeW x hx a H)⟩
theorem Frm.moreN (R : Frm env tbl N W) (k : ∀ a, N a → N' a) : Frm env tbl N' W :=
  ⟨R.kind, R.nodup, R.plain, R.home, fun x hx a b H => (R.homeN x hx a b H).imp (k a) id, R.homeW⟩
theorem tbl_ne {i j : Nat} {x y : Str} (hn : tbl.Nodup) (hx : tbl[i]? = some x) (hy : tbl[j]? = some y) (h : i ≠ j) : y ≠ x := by
  intro e; subst e
  obtain ⟨l1, e1⟩ := List.getElem?_eq_some_iff.mp hx
  obtain ⟨l2, e2⟩ := List.getElem?_eq_some_iff.mp hy
  exact h ((List.getElem_inj hn).mp (e1.trans e2.symm))
theorem Rho.at_lt {i : Nat} {lv : LV} (h : ρ.at i = some lv) : i < ρ.length := by
  apply Decidable.byContradiction; intro hl
  have : ρ.at i = none := by unfold Rho.at; rw [List.getElem?_eq_none (by (first | lia | omega))]; rfl
  rw [this] at h; cases h
theorem St.storeOwn {i : Nat} {x : Str} {a : Addr} {v : Value} {lv : LV} {fp : List Addr} {Q : Unit → Shared → Prop} (S : St w prog env tbl s₀ N W ρ s₁) (R : Frm env tbl N W) (ev : Evl s₁ s) (hx : tbl[i]? = some x) (hi : i < ρ.length) (H : Home env x a true)
    (hnew : ∀ b ∈ fp, s₁.heap.get? b = none ∧ ∃ o, s.heap.get? b = some o) (hnd : fp.Nodup) (hN' : ∀ a, N' a → N a ∨ (s₁.heap.get? a = none ∧ ∃ o, s.heap.get? a = some o)) (hNN : ∀ a, N a → N' a) (hfN : ∀ a ∈ fp, ¬ N' a)
    (r : LvRep w prog (fun a => N' a ∨ W a ∨ a ∈ fp) s.heap fp v lv)
    (h : ∀ s', St w prog env tbl s₀ N' (fun a => W a ∨ a ∈ fp) (ρ.set i (some lv)) s' → Aft W s s' → Q () s') : wpAny (model prog w) A (storeName env x v) Q E s := by
  refine cps fun gZ hZ => ?_
  obtain ⟨m, cm, own, L₁, ZL, O1, O2, V⟩ := S.vals
  refine hZ ?_
  clear hZ gZ
  have L : Loc env s.heap m cm := L₁.keep fun b o _ e => ev.heap b o id e
  have Wa := R.homeW x (List.mem_of_getElem? hx) a H
  have old : ∀ b, W b → b ∉ fp := fun b hb q => by
    obtain ⟨o, e⟩ := S.live b (.inr hb)
    rw [(hnew b q).1] at e; cases e
  have oldN : ∀ b o, s₁.heap.get? b = some o → b ∉ fp := fun b o e q => by rw [(hnew b q).1] at e; cases e
  have locfp : env.locals ∉ fp := by obtain ⟨o, es, ep, e, _⟩ := L₁.ns; exact oldN _ _ e
  have celfp : ∀ n c, env.cells.lookup n = some c → c ∉ fp := fun n c hn => by
    refine cps fun gZ hZ => ?_
    obtain ⟨o, e, _⟩ := L₁.cell n c hn
    refine hZ ?_
    clear hZ gZ
    exact oldN _ _ e
  have fr : ∀ a' o, ¬ (N a' ∨ W a') → s.heap.get? a' = some o → a' ≠ a := fun a' o hF _ e => hF (.inr (e ▸ Wa))
  refine L.store R.kind H fun h' m' cm' tk L' hv' hs => h _ ⟨⟨fun b o _ e => ?_, fun i g e => ev.gens i g (S.evl.gens i g e), fun q => ev.bare (S.evl.bare q), ev.os.trans S.evl.os⟩, fun b hb => ?_, fun b hb => ?_, fun b hb => .inl (S.zw b hb), s₀.zs _ _ S.zi fun b o hb e => (hs.2 b fun q => ?_).trans (ev.heap b o id e), m', cm', (fun j => if j = i then fp else own j), L', fun b hb => ⟨(ZL b hb).1, fun j lv' hr ho q => ?_⟩, ?_, ?_, ?_⟩ (Aft.of fun b o hb e => (hs.2 b fun q => hb (q ▸ Wa)).trans e)
  · refine (hs.2 b fun q => ?_).trans (ev.heap b o id (S.evl.heap b o id e))
    have := S.fresh a Wa
    rw [q, this] at e; cases e
  · by_cases q : b = a
    · subst q
      cases H with
      | loc _ => obtain ⟨o, es, ep, e, _⟩ := L'.ns; exact ⟨o, e⟩
      | cel _ hc => obtain ⟨o, e, _⟩ := L'.cell x b hc; exact ⟨o, e⟩
    · have : ∃ o, s.heap.get? b = some o := by
        rcases hb with hb | hb | hb
        · rcases hN' b hb with q | q
          · obtain ⟨o, e⟩ := S.live b (.inl q); exact ⟨o, ev.heap b o id e⟩
          · exact q.2
        · obtain ⟨o, e⟩ := S.live b (.inr hb); exact ⟨o, ev.heap b o id e⟩
        · exact (hnew b hb).2
      obtain ⟨o, e⟩ := this
      exact ⟨o, (hs.2 b q).trans e⟩
  · rcases hb with hb | hb
    · exact S.fresh b hb
    · cases e : s₀.heap.get? b with
      | none => rfl
      | some o =>
        have := S.evl.heap b o id e
        rw [(hnew b hb).1] at this; cases this
  · subst q
    rcases L.home H with q | ⟨n, hn⟩
    · exact (ZL b hb).1.1 q
    · exact (ZL b hb).1.2 n _ hn rfl
  · rw [Rho.at_set] at hr
    try dsimp only at q
    by_cases hji : j = i
    · rw [if_pos hji] at q
      exact old b (S.zw b hb) q
    · rw [if_neg hji] at q
      rw [if_neg (fun q => hji q.1.symm)] at hr
      exact (ZL b hb).2 j lv' hr ho q
  · intro j lv' hr ho b hb
    rw [Rho.at_set] at hr
    try dsimp only at hb ⊢
    by_cases hji : j = i
    · subst hji
      rw [if_pos rfl] at hb
      refine ⟨⟨.inr hb, hfN b hb⟩, fun q => locfp (q ▸ hb), fun n c hn q => celfp n c hn (q ▸ hb), fun j' lv'' hr' ho' hb' => ?_⟩
      by_cases hj' : j' = j
      · exact hj'.symm
      · rw [if_neg hj'] at hb'
        rw [Rho.at_set, if_neg (fun q => hj' q.1.symm)] at hr'
        exact absurd hb (old b (O1 j' lv'' hr' ho' b hb').1.1)
    · rw [if_neg hji] at hb
      rw [if_neg (fun q => hji q.1.symm)] at hr
      have O := O1 j lv' hr ho b hb
      refine ⟨⟨.inl O.1.1, fun q => (hN' b q).elim O.1.2 fun q => by obtain ⟨o, e⟩ := S.live b (.inr O.1.1); rw [q.1] at e; cases e⟩, O.2.1, O.2.2.1, fun j' lv'' hr' ho' hb' => ?_⟩
      by_cases hj' : j' = i
      · subst hj'
        rw [if_pos rfl] at hb'
        exact absurd hb' (old b O.1.1)
      · rw [if_neg hj'] at hb'
        rw [Rho.at_set, if_neg (fun q => hj' q.1.symm)] at hr'
        exact O.2.2.2 j' lv'' hr' ho' hb'
  · intro j lv' hr ho
    rw [Rho.at_set] at hr
    try dsimp only
    by_cases hji : j = i
    · rw [if_pos hji]; exact hnd
    · rw [if_neg hji]
      rw [if_neg (fun q => hji q.1.symm)] at hr
      exact O2 j lv' hr ho
  · intro j y lv' ht hr
    rw [Rho.at_set] at hr
    rw [hv']
    dsimp only
    by_cases hji : j = i
    · subst hji
      rw [if_pos ⟨rfl, hi⟩] at hr
      cases hr
      rw [hx] at ht; cases ht
      rw [if_pos rfl, if_pos rfl]
      refine ⟨v, rfl, r.go (fun a' o hF e => ⟨hF, (hs.2 a' fun q => hF (.inr (.inl (q ▸ Wa)))).trans e⟩) fun _ b hb o e => (hs.2 b fun q => old b (q ▸ Wa) hb).trans e⟩
    · rw [if_neg (fun q => hji q.1.symm)] at hr
      have hxy : y ≠ x := tbl_ne R.nodup hx ht (Ne.symm hji)
      rw [if_neg hxy, if_neg hji]
      refine cps fun gZ hZ => ?_
      obtain ⟨v', hv, r'⟩ := V j y lv' ht hr
      refine hZ ?_
      clear hZ gZ
      refine ⟨v', hv, r'.go (fun a' o hF e => ⟨fun q => ?_, (hs.2 a' fun q => hF (.inr (q ▸ Wa))).trans (ev.heap a' o id e)⟩) fun ho b hb o e => (hs.2 b fun q => ?_).trans (ev.heap b o id e)⟩
      · rcases q with q | q | q
        · rcases hN' a' q with q | q
          · exact hF (.inl q)
          · rw [q.1] at e; cases e
        · exact hF (.inr q)
        · exact oldN a' o e q
      · subst q
        rcases L.home H with rfl | ⟨n, hn⟩
        · exact (O1 j lv' hr ho _ hb).2.1 rfl
        · exact (O1 j lv' hr ho _ hb).2.2.1 n _ hn rfl
theorem St.own {i : Nat} {x : Str} {lv : LV} (S : St w prog env tbl s₀ N W ρ s) (R : Frm env tbl N W) (hx : tbl[i]? = some x) (hd : ρ.at i = some lv) (ho : lv.owned = true) :
    ∃ v fp, LvRep w prog (fun a => N a ∨ W a) s.heap fp v lv ∧ (∀ a ∈ fp, W a ∧ ¬ N a) ∧ fp.Nodup ∧
      (∀ (A : Around) (E : Value → Shared → Prop) (Q : Value → Shared → Prop) (s₂ : Shared), Evl s s₂ → Q v s₂ → wpAny (model prog w) A (loadName env x) Q E s₂) ∧
      ∀ (s₂ : Shared) (h' : Heap) (tk : Nat) (lv' : LV), Evl s s₂ → lv'.owned = true → (∀ b o, b ∉ fp → s₂.heap.get? b = some o → h'.get? b = some o) → (∀ a ∈ fp, ∃ o, h'.get? a = some o) → LvRep w prog (fun a => N a ∨ W a) h' fp v lv' →
        St w prog env tbl s₀ N W (ρ.set i (some lv')) { s₂ with heap := h', toks := tk } ∧ Aft W s₂ { s₂ with heap := h', toks := tk } := by
  refine cps fun gZ hZ => ?_
  obtain ⟨m, cm, own, L, ZL, O1, O2, V⟩ := S.vals
  refine hZ ?_
  clear hZ gZ
  refine cps fun gZ hZ => ?_
  obtain ⟨v, hv, r⟩ := V i x _ hx hd
  refine hZ ?_
  clear hZ gZ
  refine cps fun gZ hZ => ?_
  obtain ⟨a, b, H⟩ := R.home x (List.mem_of_getElem? hx)
  refine hZ ?_
  clear hZ gZ
  refine ⟨v, own i, r, fun a ha => (O1 i lv hd ho a ha).1, O2 i lv hd ho, fun A E Q s₂ ev hq => ?_, fun s₂ h' tk lv' ev ho' hk hl r' => ?_⟩
  · exact (L.keep fun b o _ e => ev.heap b o id e).load R.kind H hv hq (R.plain x (List.mem_of_getElem? hx)).2
  · have hO : ∀ b ∈ own i, W b := fun b hb => (O1 i lv hd ho b hb).1.1
    have L' : Loc env h' m cm := L.keep fun b o hb e => hk b o (fun q => by
      rcases hb with rfl | ⟨n, hn⟩
      · exact (O1 i lv hd ho _ q).2.1 rfl
      · exact (O1 i lv hd ho _ q).2.2.1 n _ hn rfl) (ev.heap b o id e)
    refine ⟨⟨⟨fun b o _ e => hk b o (fun q => ?_) (ev.heap b o id (S.evl.heap b o id e)), fun i g e => ev.gens i g (S.evl.gens i g e), fun q => ev.bare (S.evl.bare q), ev.os.trans S.evl.os⟩, fun b hb => ?_, S.fresh, S.zw, s₀.zs _ _ S.zi fun b o hb e => hk b o ((ZL b hb).2 i lv hd ho) (ev.heap b o id e), m, cm, own, L', fun b hb => ⟨(ZL b hb).1, fun j lv₂ hr ho₂ => ?_⟩, ?_, ?_, ?_⟩, Aft.of fun b o hb e => hk b o (fun q => hb (hO b q)) e⟩
    · have := S.fresh b (hO b q)
      rw [this] at e; cases e
    · by_cases q : b ∈ own i
      · exact hl b q
      · obtain ⟨o, e⟩ := S.live b hb
        exact ⟨o, hk b o q (ev.heap b o id e)⟩
    · rw [Rho.at_set] at hr
      split at hr
      · rename_i q; exact q.1 ▸ (ZL b hb).2 i lv hd ho
      · exact (ZL b hb).2 j lv₂ hr ho₂
    · intro j lv₂ hr ho₂ b hb
      rw [Rho.at_set] at hr
      have hj : ∃ lv₃, ρ.at j = some lv₃ ∧ lv₃.owned = true := by
        split at hr
        · rename_i q; exact ⟨lv, q.1 ▸ hd, ho⟩
        · exact ⟨lv₂, hr, ho₂⟩
      refine cps fun gZ hZ => ?_
      obtain ⟨lv₃, h3, h4⟩ := hj
      refine hZ ?_
      clear hZ gZ
      refine ⟨(O1 j lv₃ h3 h4 b hb).1, (O1 j lv₃ h3 h4 b hb).2.1, (O1 j lv₃ h3 h4 b hb).2.2.1, fun j' lv₄ hr' ho' hb' => ?_⟩
      rw [Rho.at_set] at hr'
      split at hr'
      · rename_i q; exact (O1 j lv₃ h3 h4 b hb).2.2.2 j' lv (q.1 ▸ hd) ho hb'
      · exact (O1 j lv₃ h3 h4 b hb).2.2.2 j' lv₄ hr' ho' hb'
    · intro j lv₂ hr ho₂
      rw [Rho.at_set] at hr
      split at hr
      · rename_i q; exact q.1 ▸ O2 i lv hd ho
      · exact O2 j lv₂ hr ho₂
    · intro j y lv₂ ht hr
      rw [Rho.at_set] at hr
      have k : ∀ a' o, ¬ (N a' ∨ W a') → s.heap.get? a' = some o → ¬ (N a' ∨ W a') ∧ h'.get? a' = some o := fun a' o hF e => ⟨hF, hk a' o (fun q => hF (.inr (hO a' q))) (ev.heap a' o id e)⟩
      split at hr
      · rename_i q
        obtain ⟨rfl, _⟩ := q
        cases hr
        rw [hx] at ht; cases ht
        exact ⟨v, hv, r'⟩
      · rename_i q
        have hij : i ≠ j := fun e => q ⟨e, by subst e; exact Rho.at_lt hd⟩
        refine cps fun gZ hZ => ?_
        obtain ⟨v', hv', r''⟩ := V j y lv₂ ht hr
        refine hZ ?_
        clear hZ gZ
        exact ⟨v', hv', r''.go k fun ho₂ b hb o e => hk b o (fun q => hij ((O1 j lv₂ hr ho₂ b hb).2.2.2 i lv hd ho q).symm) (ev.heap b o id e)⟩
noncomputable def LV.froz : LV → Option D
  | .ol ds => some (.lst ds)
  | .od ds => some (.dct ds)
  | .oll dss => some (.lst (dss.map .lst))
  | _ => none
theorem St.freeze {i : Nat} {lv : LV} {d : D} {x : Str} (S : St w prog env tbl s₀ N W ρ s) (R : Frm env tbl N W) (hx : tbl[i]? = some x) (hd : ρ.at i = some lv) (hf : lv.froz = some d) :
    ∃ W' : Addr → Prop, (∀ a, W' a → W a) ∧ Frm env tbl N W' ∧ St w prog env tbl s₀ N W' (ρ.set i (some (.sh d))) s := by
  refine cps fun gZ hZ => ?_
  obtain ⟨m, cm, own, L, ZL, O1, O2, V⟩ := S.vals
  refine hZ ?_
  clear hZ gZ
  have ho : lv.owned = true := by cases lv <;> first | rfl | cases hf
  have le : ∀ a, (W a ∧ a ∉ own i) → W a := fun a h => h.1
  have hh : ∀ y ∈ tbl, ∀ a b, Home env y a b → a ∉ own i := fun y _ a b H q => by
    rcases L.home H with rfl | ⟨n, hn⟩
    · exact (O1 i lv hd ho _ q).2.1 rfl
    · exact (O1 i lv hd ho _ q).2.2.1 n _ hn rfl
  refine cps fun gZ hZ => ?_
  obtain ⟨v, hv, r⟩ := V i x _ hx hd
  refine hZ ?_
  clear hZ gZ
  refine ⟨fun a => W a ∧ a ∉ own i, le, ⟨R.kind, R.nodup, R.plain, R.home, fun y hy a b H => (R.homeN y hy a b H).imp id fun q => ⟨q, hh y hy a b H⟩, fun y hy a H => ⟨R.homeW y hy a H, hh y hy a true H⟩⟩,
    S.evl, fun a ha => S.live a (ha.imp id (le a)), fun a ha => S.fresh a ha.1, fun a ha => ⟨S.zw a ha, (ZL a ha).2 i lv hd ho⟩, S.zi, m, cm, own, L, fun a ha => ⟨(ZL a ha).1, fun j lv₂ hr ho₂ => ?_⟩, ?_, ?_, ?_⟩
  · rw [Rho.at_set] at hr
    split at hr
    · cases hr; cases ho₂
    · exact (ZL a ha).2 j lv₂ hr ho₂
  · intro j lv₂ hr ho₂ b hb
    rw [Rho.at_set] at hr
    split at hr
    · cases hr; cases ho₂
    · rename_i q
      have hij : i ≠ j := fun e => q ⟨e, by subst e; exact Rho.at_lt hd⟩
      have O := O1 j lv₂ hr ho₂ b hb
      refine ⟨⟨⟨O.1.1, fun q => hij (O.2.2.2 i lv hd ho q).symm⟩, O.1.2⟩, O.2.1, O.2.2.1, fun j' lv₄ hr' ho' hb' => ?_⟩
      rw [Rho.at_set] at hr'
      split at hr'
      · cases hr'; cases ho'
      · exact O.2.2.2 j' lv₄ hr' ho' hb'
  · intro j lv₂ hr ho₂
    rw [Rho.at_set] at hr
    split at hr
    · cases hr; cases ho₂
    · exact O2 j lv₂ hr ho₂
  · intro j y lv₂ ht hr
    rw [Rho.at_set] at hr
    have k : ∀ a' o, ¬ (N a' ∨ W a') → s.heap.get? a' = some o → ¬ (N a' ∨ (W a' ∧ a' ∉ own i)) ∧ s.heap.get? a' = some o := fun a' o hF e => ⟨fun q => hF (q.imp id (le a')), e⟩
    split at hr
    · rename_i q
      obtain ⟨rfl, _⟩ := q
      cases hr
      rw [hx] at ht; cases ht
      refine ⟨v, hv, ?_⟩
      have nN : ∀ a ∈ own i, ¬ (N a ∨ (W a ∧ a ∉ own i)) := fun a h1 h2 => h2.elim (O1 i lv hd ho a h1).1.2 fun q => q.2 h1
      cases lv with
      | ol ds =>
        cases hf
        refine cps fun gZ hZ => ?_
        obtain ⟨a, vs, rfl, hfp, e, r⟩ := r
        refine hZ ?_
        clear hZ gZ
        exact .lst (nN a (hfp ▸ .head _)) e.list (r.go k)
      | od ds =>
        cases hf
        refine cps fun gZ hZ => ?_
        obtain ⟨a, vs, rfl, hfp, e, r⟩ := r
        refine hZ ?_
        clear hZ gZ
        exact .dct (nN a (hfp ▸ .head _)) e (r.go k)
      | oll dss =>
        cases hf
        refine cps fun gZ hZ => ?_
        obtain ⟨a, as, rfl, hfp, e, r⟩ := r
        refine hZ ?_
        clear hZ gZ
        refine .lst (nN a (hfp ▸ .head _)) e.list ?_
        have : ∀ {as : List Addr} {dss : List (List D)}, (∀ a ∈ as, a ∈ own i) → RepLs w prog (fun a => N a ∨ W a) s.heap as dss → Reps w prog (fun a => N a ∨ (W a ∧ a ∉ own i)) s.heap (as.map .ref) (dss.map .lst) := by
          intro as dss hs r
          induction r with
          | nil => exact .nil
          | cons e r _ ih => exact .cons (.lst (nN _ (hs _ (.head _))) e.list (r.go k)) (ih fun a ha => hs a (.tail _ ha))
        exact this (fun b hb => hfp ▸ .tail _ hb) r
      | sh d => cases hf
      | exc _ => cases hf
    · exact let ⟨v', hv', r'⟩ := V j y lv₂ ht hr; ⟨v', hv', r'.go k fun _ _ _ _ e => e⟩
end
end Mine
end
section
open PySem PySem.Calls PyProof.Rows
namespace Mine
inductive Bop where | add | sub | mul | fdiv | mod | pow | band
  deriving DecidableEq
inductive Cop where | eq | ne | lt | le | gt | ge | isin | notin | isnone
  deriving DecidableEq
inductive Bi where | sum | len | min | max | abs | isTuple
  deriving DecidableEq
inductive Tgt where
  | nm (i : Nat)
  | tp (is : List Nat)
  deriving DecidableEq
set_option genSizeOf false
set_option genInjectivity false
mutual
inductive E where
  | int (i : Int)
  | str (s : Str)
  | bool (b : Bool)
  | none
  | var (i : Nat)
  | tup (es : List E)
  | lst (es : List E)
  | dct (kvs : List KV)
  | bin (op : Bop) (l r : E)
  | cmp (op : Cop) (l r : E)
  | neg (e : E)
  | bop (and : Bool) (es : List E)
  | ite (c a b : E)
  | sub (o i : E)
  | slice (o lo hi : E)
  | osub (x : Nat) (i : E)
  | olen (x : Nat)
  | oin (neg : Bool) (e : E) (x : Nat)
  | call (f : Nat) (es : List E)
  | callo (f : Nat) (e : E) (x : Nat) (es₂ : List E)
  | bi (b : Bi) (es : List E)
  | lcomp (elt : E) (t : Tgt) (it : I) (ifs : List E) (gs : List G) (cap : List (Option Nat)) (nt : List Str)
  | dcomp (k v : E) (t : Tgt) (it : I) (ifs : List E) (gs : List G) (cap : List (Option Nat)) (nt : List Str)
  | strexc (x : Nat)
inductive I where
  | ex (e : E)
  | range (es : List E)
  | enum (e : E)
  | zip (es : List E)
  | items (e : E)
  | values (e : E)
inductive G where
  | mk (t : Tgt) (it : I) (ifs : List E)
inductive KV where
  | mk (k v : E)
end
set_option genSizeOf false
set_option genInjectivity false
inductive S where
  | assign (i : Nat) (e : E)
  | assignO (i : Nat) (e : E)
  | unpack (is : List Nat) (e : E)
  | setitem (x : Nat) (k v : E)
  | aug (i : Nat) (op : Bop) (e : E)
  | augitem (x : Nat) (k : E) (op : Bop) (e : E)
  | append (x : Nat) (e : E)
  | ife (c : E) (a b : List S)
  | fore (t : Tgt) (it : I) (body : List S) (kill : List Nat)
  | forgen (t : Nat) (e : E) (body : List S) (kill : List Nat)
  | trygen (t : Nat) (e : E) (body : List S) (kill : List Nat) (x : Nat) (hand : List S)
  | while (c : E) (body : List S) (kill : List Nat)
  | ret (e : E)
  | brk
  | freeze (i : Nat)
  | dead
  | zif (c₁ c₂ : E) (f : Nat) (es : List E) (body : List S)
inductive Fl where
  | next
  | brk
  | ret (d : D)
noncomputable def smallI (i : Int) : Prop := i.natAbs < 2 ^ 64
noncomputable def fits (n : Nat) : Prop := n ≤ 1048576
noncomputable def D.key? : D → Option K
  | .int i => .some (.int i)
  | .str s => .some (.str s)
  | _ => Option.none
noncomputable def klook (k : K) : List (K × D) → Option D
  | [] => .none
  | (k', d) :: r => if k' = k then some d else klook k r
noncomputable def kset (k : K) (d : D) : List (K × D) → List (K × D)
  | [] => [(k, d)]
  | (k', d') :: r => if k' = k then (k', d) :: r else (k', d') :: kset k d r
noncomputable def onI (d : D) (k : Int → Prop) : Prop := match d with
  | .int i => k i
  | _ => False
noncomputable def onL (d : D) (k : List D → Prop) : Prop := match d with
  | .lst l => k l
  | _ => False
theorem onI_inv {d : D} {k : Int → Prop} (h : onI d k) : ∃ i, d = .int i ∧ k i := by
  cases d <;> first | exact ⟨_, rfl, h⟩ | exact h.elim
theorem onL_inv {d : D} {k : List D → Prop} (h : onL d k) : ∃ l, d = .lst l ∧ k l := by
  cases d <;> first | exact ⟨_, rfl, h⟩ | exact h.elim
noncomputable def onIL (d : D) (k : Int → Prop) (l : List D → Prop) : Prop := match d with
  | .int i => k i
  | .lst x => l x
  | _ => False
noncomputable def onK (d : D) (k : List (K × D) → Prop) : Prop := match d with
  | .dct l => k l
  | _ => False
theorem onIL_inv {d : D} {k : Int → Prop} {l : List D → Prop} (h : onIL d k l) : (∃ i, d = .int i ∧ k i) ∨ ∃ x, d = .lst x ∧ l x := by
  cases d <;> first | exact .inl ⟨_, rfl, h⟩ | exact .inr ⟨_, rfl, h⟩ | exact h.elim
noncomputable def binW (op : Bop) (a b : D) (Q : D → Prop) : Prop :=
  match op with
  | .add => onIL a (fun a => onI b fun b => Q (.int (a + b))) fun a => onL b fun b => fits (a.length + b.length) ∧ Q (.lst (a ++ b))
  | .sub => onI a fun a => onI b fun b => Q (.int (a - b))
  | .mul => onIL a (fun a => onI b fun b => (smallI a ∨ smallI b) ∧ Q (.int (a * b))) fun a => onI b fun b => (0 ≤ b ∧ b ≤ 1048576 ∧ fits (a.length * b.toNat)) ∧ Q (.lst (List.replicate b.toNat a).flatten)
  | .fdiv => onI a fun a => onI b fun b => (b ≠ 0 ∧ b.natAbs < 1073741824) ∧ Q (.int (a.fdiv b))
  | .mod => onI a fun a => onI b fun b => b ≠ 0 ∧ Q (.int (a.fmod b))
  | .pow => onI a fun a => onI b fun b => (0 ≤ b ∧ b ≤ 1000000 ∧ smallI a) ∧ Q (.int (a ^ b.toNat))
  | .band => onI a fun a => onI b fun b => Q (.int (Builtin.bitAnd a b))
mutual
noncomputable def eqv : D → D → Bool
  | .none, b => match b with
    | .none => true
    | _ => false
  | .bool a, b => match b with
    | .bool b => a == b
    | .int b => (if a then 1 else 0) == b
    | _ => false
  | .int a, b => match b with
    | .bool b => a == (if b then 1 else 0)
    | .int b => a == b
    | _ => false
  | .str a, b => match b with
    | .str b => a == b
    | _ => false
  | .tup a, b => match b with
    | .tup b => eqvs a b
    | _ => false
  | .lst a, b => match b with
    | .lst b => eqvs a b
    | _ => false
  | .dct a, b => match b with
    | .dct b => a.length == b.length && eqvk a b
    | _ => false
noncomputable def eqvs : List D → List D → Bool
  | [], [] => true
  | x :: xs, y :: ys => eqv x y && eqvs xs ys
  | _, _ => false
noncomputable def eqvk : List (K × D) → List (K × D) → Bool
  | [], _ => true
  | (k, d) :: r, b => (match klook k b with | some d' => eqv d d' | none => false) && eqvk r b
end
theorem eqv_bool (a b : Bool) : eqv (.bool a) (.bool b) = (a == b) := rfl
theorem eqv_int (a b : Int) : eqv (.int a) (.int b) = (a == b) := rfl
theorem eqv_str (a b : Str) : eqv (.str a) (.str b) = (a == b) := rfl
theorem eqv_tup (a b : List D) : eqv (.tup a) (.tup b) = eqvs a b := rfl
theorem eqv_lst (a b : List D) : eqv (.lst a) (.lst b) = eqvs a b := rfl
theorem eqv_dct (a b : List (K × D)) : eqv (.dct a) (.dct b) = (a.length == b.length && eqvk a b) := rfl
theorem eqvs_nil : eqvs [] [] = true := rfl
theorem eqvs_cons (x y : D) (xs ys : List D) : eqvs (x :: xs) (y :: ys) = (eqv x y && eqvs xs ys) := rfl
theorem eqvk_cons (k : K) (d : D) (r b : List (K × D)) : eqvk ((k, d) :: r) b = ((match klook k b with | some d' => eqv d d' | none => false) && eqvk r b) := rfl
noncomputable def scal : D → Bool
  | .none => true
  | .bool _ => true
  | .int _ => true
  | .str _ => true
  | _ => false
noncomputable def all2 (f : D → D → Bool) : List D → List D → Bool
  | x :: xs, ys => match ys with
    | y :: ys => f x y && all2 f xs ys
    | [] => true
  | [], _ => true
theorem all2_cons (f : D → D → Bool) (x y : D) (xs ys : List D) : all2 f (x :: xs) (y :: ys) = (f x y && all2 f xs ys) := rfl
theorem all2_nil (f : D → D → Bool) (ys : List D) : all2 f [] ys = true := rfl
noncomputable def eqP : Nat → D → D → Bool
  | 0, a, b => scal a && scal b
  | n + 1, a, b => match a with
    | .lst x => match b with
      | .lst y => all2 (eqP n) x y
      | _ => false
    | .tup x => match b with
      | .tup y => all2 (eqP n) x y
      | _ => false
    | a => scal a && scal b
theorem eqP_int (n : Nat) (a b : Int) : eqP (n + 1) (.int a) (.int b) = true := rfl
theorem eqP_str (n : Nat) (a b : Str) : eqP (n + 1) (.str a) (.str b) = true := rfl
theorem eqP_bool (n : Nat) (a b : Bool) : eqP (n + 1) (.bool a) (.bool b) = true := rfl
theorem eqP_lst (n : Nat) (a b : List D) : eqP (n + 1) (.lst a) (.lst b) = all2 (eqP n) a b := rfl
theorem eqP_tup (n : Nat) (a b : List D) : eqP (n + 1) (.tup a) (.tup b) = all2 (eqP n) a b := rfl
noncomputable def eqK : List (K × D) → List (K × D) → Bool
  | [], _ => true
  | (k, d) :: r, b => (match klook k b with | some d' => eqP 4 d d' | none => true) && eqK r b
theorem eqK_cons (k : K) (d : D) (r b : List (K × D)) : eqK ((k, d) :: r) b = ((match klook k b with | some d' => eqP 4 d d' | none => true) && eqK r b) := rfl
noncomputable def eqC (a b : D) : Bool := match a with
  | .dct x => match b with
    | .dct y => eqK x y
    | _ => false
  | a => eqP 4 a b
noncomputable def eqOk (a b : D) : Bool := match a with
  | .tup x => match b with
    | .tup y => all2 eqC x y
    | _ => false
  | a => eqP 4 a b
theorem eqC_dct (a b : List (K × D)) : eqC (.dct a) (.dct b) = eqK a b := rfl
theorem eqC_int (a b : Int) : eqC (.int a) (.int b) = true := rfl
theorem eqOk_tup (a b : List D) : eqOk (.tup a) (.tup b) = all2 eqC a b := rfl
noncomputable def inW (x b : D) (Q : Bool → Prop) : Prop := match b with
  | .lst ys => (ys.all fun y => eqP 4 y x) = true ∧ Q (ys.any fun y => eqv y x)
  | .tup ys => (ys.all fun y => eqP 4 y x) = true ∧ Q (ys.any fun y => eqv y x)
  | .dct kvs => ∃ k, x.key? = some k ∧ Q (klook k kvs).isSome
  | _ => False
theorem inW_inv {x b : D} {Q : Bool → Prop} (h : inW x b Q) : (∃ ys, (b = .lst ys ∨ b = .tup ys) ∧ (ys.all fun y => eqP 4 y x) = true ∧ Q (ys.any fun y => eqv y x)) ∨ ∃ kvs k, b = .dct kvs ∧ x.key? = some k ∧ Q (klook k kvs).isSome := by
  cases b <;> first | exact h.elim | exact .inl ⟨_, .inl rfl, h⟩ | exact .inl ⟨_, .inr rfl, h⟩ | exact .inr ⟨_, h.1, rfl, h.2⟩ | exact .inr (h.elim fun k h => ⟨_, k, rfl, h⟩)
noncomputable def isNoneD : D → Bool
  | .none => true
  | _ => false
noncomputable def cmpW (op : Cop) (a b : D) (Q : Bool → Prop) : Prop :=
  match op with
  | .eq => eqP 4 a b = true ∧ Q (eqv a b)
  | .ne => eqOk a b = true ∧ Q (!eqv a b)
  | .lt => onI a fun a => onI b fun b => Q (decide (a < b))
  | .le => onI a fun a => onI b fun b => Q (decide (a ≤ b))
  | .gt => onI a fun a => onI b fun b => Q (decide (a > b))
  | .ge => onI a fun a => onI b fun b => Q (decide (a ≥ b))
  | .isin => inW a b Q
  | .notin => inW a b fun c => Q (!c)
  | .isnone => Q (isNoneD a)
noncomputable def idx (n : Nat) (i : Int) : Option Nat := if i.natAbs < 1152921504606846976 then (if 0 ≤ i then (if i.toNat < n then some i.toNat else none) else (if (-i).toNat ≤ n then some (n - (-i).toNat) else none)) else none
noncomputable def atL (xs : List D) (i : Int) (Q : D → Prop) : Prop := ∃ d, ((idx xs.length i).bind fun j => xs[j]?) = some d ∧ Q d
noncomputable def atK (kvs : List (K × D)) (k : D) (Q : D → Prop) : Prop := ∃ k' d, k.key? = some k' ∧ klook k' kvs = some d ∧ Q d
noncomputable def subW (o i : D) (Q : D → Prop) : Prop :=
  match o with
  | .lst xs => onI i fun i => atL xs i Q
  | .tup xs => onI i fun i => atL xs i Q
  | .dct kvs => atK kvs i Q
  | _ => False
theorem subW_inv {o i : D} {Q : D → Prop} (h : subW o i Q) : (∃ xs j, (o = .lst xs ∨ o = .tup xs) ∧ i = .int j ∧ atL xs j Q) ∨ ∃ kvs, o = .dct kvs ∧ atK kvs i Q := by
  cases o <;> first | exact h.elim | exact (onI_inv h).elim fun j h => .inl ⟨_, j, .inl rfl, h⟩ | exact (onI_inv h).elim fun j h => .inl ⟨_, j, .inr rfl, h⟩ | exact .inr ⟨_, rfl, h⟩
noncomputable def cutW (d : D) (Q : Option Int → Prop) : Prop := match d with
  | .none => Q none
  | .int i => Q (some i)
  | _ => False
theorem cutW_inv {d : D} {Q : Option Int → Prop} (h : cutW d Q) : (d = .none ∧ Q none) ∨ ∃ i, d = .int i ∧ Q (some i) := by
  cases d <;> first | exact h.elim | exact .inl ⟨rfl, h⟩ | exact .inr ⟨_, rfl, h⟩
noncomputable def cut2W (xs : List D) (lo hi : Option Int) (Q : D → Prop) : Prop := match lo with
  | none => match hi with
    | none => False
    | some b => (fits xs.length ∧ 0 ≤ b) ∧ Q (.lst (xs.take b.toNat))
  | some a => match hi with
    | none => (fits xs.length ∧ 0 ≤ a) ∧ Q (.lst (xs.drop a.toNat))
    | some b => (fits xs.length ∧ 0 ≤ a ∧ 0 ≤ b) ∧ Q (.lst ((xs.take b.toNat).drop a.toNat))
noncomputable def sliceW (o lo hi : D) (Q : D → Prop) : Prop := onL o fun xs => cutW lo fun lo => cutW hi fun hi => cut2W xs lo hi Q
theorem sliceW_to (xs : List D) (b : Int) (Q : D → Prop) : sliceW (.lst xs) .none (.int b) Q = ((fits xs.length ∧ 0 ≤ b) ∧ Q (.lst (xs.take b.toNat))) := rfl
theorem sliceW_cut (xs : List D) (a b : Int) (Q : D → Prop) : sliceW (.lst xs) (.int a) (.int b) Q = ((fits xs.length ∧ 0 ≤ a ∧ 0 ≤ b) ∧ Q (.lst ((xs.take b.toNat).drop a.toNat))) := rfl
noncomputable def ints? : List D → Option (List Int)
  | [] => some []
  | .int i :: r => (ints? r).map (i :: ·)
  | _ => none
noncomputable def minL : Int → List Int → Int
  | m, [] => m
  | m, x :: r => minL (if x < m then x else m) r
noncomputable def maxL : Int → List Int → Int
  | m, [] => m
  | m, x :: r => maxL (if x > m then x else m) r
noncomputable def on1 (ds : List D) (k : D → Prop) : Prop := match ds with
  | [d] => k d
  | _ => False
noncomputable def on12 (ds : List D) (k : D → Prop) (k2 : D → D → Prop) : Prop := match ds with
  | [d] => k d
  | [d, e] => k2 d e
  | _ => False
theorem on1_inv {ds : List D} {k : D → Prop} (h : on1 ds k) : ∃ d, ds = [d] ∧ k d := by
  cases ds with
  | nil => exact h.elim
  | cons a ds =>
    cases ds with
    | nil => exact ⟨a, rfl, h⟩
    | cons _ _ => exact h.elim
theorem on12_inv {ds : List D} {k : D → Prop} {k2 : D → D → Prop} (h : on12 ds k k2) : (∃ d, ds = [d] ∧ k d) ∨ ∃ d e, ds = [d, e] ∧ k2 d e := by
  cases ds with
  | nil => exact h.elim
  | cons a ds =>
    cases ds with
    | nil => exact .inl ⟨a, rfl, h⟩
    | cons b ds =>
      cases ds with
      | nil => exact .inr ⟨a, b, rfl, h⟩
      | cons _ _ => exact h.elim
noncomputable def lenW (d : D) (Q : D → Prop) : Prop := match d with
  | .lst xs => fits xs.length ∧ Q (.int xs.length)
  | .dct xs => fits xs.length ∧ Q (.int xs.length)
  | _ => False
noncomputable def isTupW (d : D) (Q : D → Prop) : Prop := match d with
  | .tup _ => Q (.bool true)
  | .int _ => Q (.bool false)
  | _ => False
noncomputable def biW (b : Bi) (ds : List D) (Q : D → Prop) : Prop :=
  match b with
  | .sum => on1 ds fun d => onL d fun xs => ∃ is, ints? xs = some is ∧ fits is.length ∧ Q (.int is.sum)
  | .len => on1 ds fun d => lenW d Q
  | .min => on12 ds (fun d => onL d fun xs => ∃ i is, ints? xs = some (i :: is) ∧ Q (.int (minL i is))) fun a b => onI a fun a => onI b fun b => Q (.int (if b < a then b else a))
  | .max => on12 ds (fun d => onL d fun xs => ∃ i is, ints? xs = some (i :: is) ∧ Q (.int (maxL i is))) fun a b => onI a fun a => onI b fun b => Q (.int (if b > a then b else a))
  | .abs => on1 ds fun d => onI d fun a => Q (.int (if a < 0 then -a else a))
  | .isTuple => on1 ds fun d => isTupW d Q
noncomputable def truthW (d : D) (Q : Bool → Prop) : Prop :=
  match d with
  | .bool b => Q b
  | _ => False
noncomputable def rangeL (a : Int) (c : Int) : Nat → List D
  | 0 => []
  | n + 1 => .int a :: rangeL (a + c) c n
noncomputable def range1 (b : Int) (Q : List D → Prop) : Prop := (-1048576 ≤ b ∧ b ≤ 1048576) ∧ Q (rangeL 0 1 b.toNat)
noncomputable def range2 (a b : Int) (Q : List D → Prop) : Prop := (-1048576 ≤ a ∧ a ≤ 1048576 ∧ -1048576 ≤ b ∧ b ≤ 1048576) ∧ Q (rangeL a 1 (b - a).toNat)
noncomputable def range3 (a b c : Int) (Q : List D → Prop) : Prop := (a = 0 ∧ 0 ≤ b ∧ b ≤ 1048576 ∧ 0 < c ∧ c ≤ 1048576) ∧ Q (rangeL 0 c ((b + c - 1) / c).toNat)
noncomputable def rangeW (ds : List D) (Q : List D → Prop) : Prop :=
  match ds with
  | [a] => onI a fun a => range1 a Q
  | [a, b] => onI a fun a => onI b fun b => range2 a b Q
  | [a, b, c] => onI a fun a => onI b fun b => onI c fun c => range3 a b c Q
  | _ => False
theorem rangeW_1 (b : Int) (Q : List D → Prop) : rangeW [.int b] Q = ((-1048576 ≤ b ∧ b ≤ 1048576) ∧ Q (rangeL 0 1 b.toNat)) := rfl
theorem rangeW_inv {ds : List D} {Q : List D → Prop} (h : rangeW ds Q) : (∃ b, ds = [.int b] ∧ range1 b Q) ∨ (∃ a b, ds = [.int a, .int b] ∧ range2 a b Q) ∨ ∃ a b c, ds = [.int a, .int b, .int c] ∧ range3 a b c Q := by
  cases ds with
  | nil => exact h.elim
  | cons a ds =>
    cases ds with
    | nil => exact (onI_inv h).elim fun a h => .inl ⟨a, h.1 ▸ rfl, h.2⟩
    | cons b ds =>
      cases ds with
      | nil => exact (onI_inv h).elim fun a h => (onI_inv h.2).elim fun b h2 => .inr (.inl ⟨a, b, h.1 ▸ h2.1 ▸ rfl, h2.2⟩)
      | cons c ds =>
        cases ds with
        | nil => exact (onI_inv h).elim fun a h => (onI_inv h.2).elim fun b h2 => (onI_inv h2.2).elim fun c h3 => .inr (.inr ⟨a, b, c, h.1 ▸ h2.1 ▸ h3.1 ▸ rfl, h3.2⟩)
        | cons _ _ => exact h.elim
noncomputable def enumL : Int → List D → List D
  | _, [] => []
  | i, d :: r => .tup [.int i, d] :: enumL (i + 1) r
noncomputable def seqOf : D → Option (List D)
  | .lst xs => some xs
  | .dct kvs => some (kvs.map fun p => p.1.d)
  | .str s => some (s.cps.toList.map fun c => .str ⟨#[c]⟩)
  | _ => none
noncomputable def zsrc : D → Option (List D)
  | .lst xs => some xs
  | .str s => some (s.cps.toList.map fun c => .str ⟨#[c]⟩)
  | _ => none
noncomputable def zsrcs : List D → Option (List (List D))
  | [] => some []
  | d :: ds => match zsrc d, zsrcs ds with
    | some x, some xs => some (x :: xs)
    | _, _ => none
noncomputable def zipN (n : Nat) (xss : List (List D)) : List D := (List.range n).map fun i => .tup (xss.map fun xs => xs.getD i .none)
noncomputable def zipW (ds : List D) (Q : List D → Prop) : Prop :=
  (2 ≤ ds.length ∧ ds.length ≤ 4) ∧ ∃ n xss, zsrcs ds = some xss ∧ (∀ xs ∈ xss, xs.length = n) ∧ Q (zipN n xss)
noncomputable def Rho.setAll (ρ : Rho) : List Nat → List D → Rho
  | i :: is, d :: ds => Rho.setAll (ρ.set i (some (.sh d))) is ds
  | _, _ => ρ
noncomputable def Rho.clr (ρ : Rho) : List Nat → Rho
  | [] => ρ
  | i :: is => Rho.clr (ρ.set i none) is
noncomputable def asgW (t : Tgt) (d : D) (ρ : Rho) (Q : Rho → Prop) : Prop :=
  match t, d with
  | .nm i, d => Q (ρ.set i (some (.sh d)))
  | .tp is, .tup ds => is.length = ds.length ∧ Q (ρ.setAll is ds)
  | _, _ => False
noncomputable def Tgt.names : Tgt → List Nat
  | .nm i => [i]
  | .tp is => is
noncomputable def pushW (acc d : D) (C : D → Prop) : Prop :=
  match acc with
  | .lst ds => fits (ds.length + 1) ∧ C (.lst (ds ++ [d]))
  | _ => False
noncomputable def putW (acc k v : D) (C : D → Prop) : Prop :=
  match acc with
  | .dct kvs => ∃ kk, k.key? = some kk ∧ fits (kvs.length + 1) ∧ C (.dct (kset kk v kvs))
  | _ => False
noncomputable def loopW (f : D → D → (D → Prop) → Prop) : List D → D → (D → Prop) → Prop
  | [], a, Q => Q a
  | d :: ds, a, Q => f d a (fun a' => loopW f ds a' Q)
noncomputable def capture (ρ : Rho) (cap : List (Option Nat)) : Rho := cap.map fun
  | none => none
  | some j => ρ.at j
mutual
noncomputable def noLst : D → Bool
  | .lst _ => false
  | .tup xs => noLsts xs
  | .dct kvs => noLstK kvs
  | _ => true
noncomputable def noLsts : List D → Bool
  | [] => true
  | d :: ds => noLst d && noLsts ds
noncomputable def noLstK : List (K × D) → Bool
  | [] => true
  | (_, d) :: ds => noLst d && noLstK ds
end
noncomputable abbrev Fns := Nat → List D → (D → Prop) → Prop
mutual
noncomputable def evE (X : Fns) : E → Rho → (D → Prop) → Prop
  | .int i, _, Q => Q (.int i)
  | .str s, _, Q => Q (.str s)
  | .bool b, _, Q => Q (.bool b)
  | .none, _, Q => Q .none
  | .var i, ρ, Q => match ρ.at i with
    | some (.sh d) => Q d
    | _ => False
  | .tup es, ρ, Q => evEs X es ρ fun ds => fits ds.length ∧ Q (.tup ds)
  | .lst es, ρ, Q => evEs X es ρ fun ds => fits ds.length ∧ Q (.lst ds)
  | .dct kvs, ρ, Q => evKV X kvs ρ [] fun kvs => Q (.dct kvs)
  | .bin op l r, ρ, Q => evE X l ρ fun a => evE X r ρ fun b => binW op a b Q
  | .cmp op l r, ρ, Q => evE X l ρ fun a => evE X r ρ fun b => cmpW op a b fun c => Q (.bool c)
  | .neg e, ρ, Q => evE X e ρ fun a => onI a fun i => Q (.int (-i))
  | .bop and es, ρ, Q => evB X and es ρ Q
  | .ite c a b, ρ, Q => evC X c ρ fun t => match t with
    | true => evE X a ρ Q
    | false => evE X b ρ Q
  | .sub o i, ρ, Q => evE X o ρ fun a => evE X i ρ fun b => subW a b Q
  | .slice o lo hi, ρ, Q => evE X o ρ fun a => evE X lo ρ fun b => evE X hi ρ fun c => sliceW a b c Q
  | .osub x i, ρ, Q => match ρ.at x with
    | some (.ol ds) => evE X i ρ fun b => subW (.lst ds) b Q
    | some (.od ds) => evE X i ρ fun b => subW (.dct ds) b Q
    | _ => False
  | .olen x, ρ, Q => match ρ.at x with
    | some (.ol ds) => fits ds.length ∧ Q (.int ds.length)
    | _ => False
  | .oin neg e x, ρ, Q => evE X e ρ fun a => match ρ.at x with
    | some (.ol ds) => cmpW (if neg then .notin else .isin) a (.lst ds) fun c => Q (.bool c)
    | some (.od ds) => cmpW (if neg then .notin else .isin) a (.dct ds) fun c => Q (.bool c)
    | _ => False
  | .call f es, ρ, Q => evEs X es ρ fun ds => X f ds Q
  | .callo f e x es₂, ρ, Q => evE X e ρ fun d => match ρ.at x with
    | some (.ol xs) => evEs X es₂ ρ fun ds₂ => X f (d :: .lst xs :: ds₂) fun d => noLst d = true ∧ Q d
    | _ => False
  | .bi b es, ρ, Q => evEs X es ρ fun ds => biW b ds Q
  | .lcomp elt t it ifs gs cap _, ρ, Q => evI X it ρ fun ds =>
      loopW (fun d acc C => asgW t d (capture ρ cap) fun ρ' => evIfs X ifs ρ' fun b => match b with
        | true => evGs X gs ρ' (fun ρ'' acc C => evE X elt ρ'' fun d => pushW acc d C) acc C
        | false => C acc) ds (.lst []) Q
  | .dcomp k v t it ifs gs cap _, ρ, Q => evI X it ρ fun ds =>
      loopW (fun d acc C => asgW t d (capture ρ cap) fun ρ' => evIfs X ifs ρ' fun b => match b with
        | true => evGs X gs ρ' (fun ρ'' acc C => evE X k ρ'' fun dk => evE X v ρ'' fun dv => putW acc dk dv C) acc C
        | false => C acc) ds (.dct []) Q
  | .strexc x, ρ, Q => match ρ.at x with
    | some (.exc m) => Q (.str m)
    | _ => False
noncomputable def evEs (X : Fns) : List E → Rho → (List D → Prop) → Prop
  | [], _, Q => Q []
  | e :: es, ρ, Q => evE X e ρ fun d => evEs X es ρ fun ds => Q (d :: ds)
noncomputable def evKV (X : Fns) : List KV → Rho → List (K × D) → (List (K × D) → Prop) → Prop
  | .mk k v :: r, ρ, acc, Q => evE X k ρ fun dk => evE X v ρ fun dv => ∃ kk, dk.key? = some kk ∧ evKV X r ρ (kset kk dv acc) Q
  | [], _, acc, Q => Q acc
noncomputable def evB (X : Fns) (and : Bool) : List E → Rho → (D → Prop) → Prop
  | [], _, _ => False
  | [e], ρ, Q => evE X e ρ Q
  | e :: es, ρ, Q => evE X e ρ fun a => truthW a fun b => match and, b with
    | true, false => Q a
    | false, true => Q a
    | _, _ => evB X and es ρ Q
noncomputable def evC (X : Fns) : E → Rho → (Bool → Prop) → Prop
  | .bop and es, ρ, Q => evA X and es ρ Q
  | .cmp op l r, ρ, Q => evE X l ρ fun a => evE X r ρ fun b => cmpW op a b Q
  | .oin neg e x, ρ, Q => evE X e ρ fun a => match ρ.at x with
    | some (.ol ds) => cmpW (if neg then .notin else .isin) a (.lst ds) Q
    | some (.od ds) => cmpW (if neg then .notin else .isin) a (.dct ds) Q
    | _ => False
  | .var i, ρ, Q => match ρ.at i with
    | some (.sh d) => truthW d Q
    | _ => False
  | .sub o i, ρ, Q => evE X o ρ fun a => evE X i ρ fun b => subW a b fun d => truthW d Q
  | .call f es, ρ, Q => evEs X es ρ fun ds => X f ds fun d => truthW d Q
  | .bi b es, ρ, Q => evEs X es ρ fun ds => biW b ds fun d => truthW d Q
  | _, _, _ => False
noncomputable def evA (X : Fns) (and : Bool) : List E → Rho → (Bool → Prop) → Prop
  | [], _, Q => Q and
  | e :: es, ρ, Q => evC X e ρ fun b => match and, b with
    | true, false => Q false
    | false, true => Q true
    | _, _ => evA X and es ρ Q
noncomputable def evI (X : Fns) : I → Rho → (List D → Prop) → Prop
  | .ex e, ρ, Q => evE X e ρ fun d => ∃ ds, seqOf d = some ds ∧ Q ds
  | .range es, ρ, Q => evEs X es ρ fun ds => rangeW ds Q
  | .enum e, ρ, Q => evE X e ρ fun d => onL d fun ds => fits ds.length ∧ Q (enumL 0 ds)
  | .zip es, ρ, Q => evEs X es ρ fun ds => zipW ds Q
  | .items e, ρ, Q => evE X e ρ fun d => onK d fun kvs => Q (kvs.map fun p => .tup [p.1.d, p.2])
  | .values e, ρ, Q => evE X e ρ fun d => onK d fun kvs => Q (kvs.map fun p => p.2)
noncomputable def evIfs (X : Fns) : List E → Rho → (Bool → Prop) → Prop
  | [], _, Q => Q true
  | e :: es, ρ, Q => evC X e ρ fun b => match b with
    | true => evIfs X es ρ Q
    | false => Q false
noncomputable def evGs (X : Fns) : List G → Rho → (Rho → D → (D → Prop) → Prop) → D → (D → Prop) → Prop
  | [], ρ, emit, acc, C => emit ρ acc C
  | .mk t it ifs :: gs, ρ, emit, acc, C => evI X it ρ fun ds =>
      loopW (fun d acc C => asgW t d ρ fun ρ' => evIfs X ifs ρ' fun b => match b with
        | true => evGs X gs ρ' emit acc C
        | false => C acc) ds acc C
end
inductive GS where
  | go (last : Option Int) (rest : List Int)
  | rep (last : Int)
noncomputable def GS.pull : GS → Option (Int × GS)
  | .rep l => some (l, .rep l)
  | .go _ [] => none
  | .go last (x :: xs) => if x = 127 then none else if x = 0 then (match last with | some l => some (l, .rep l) | none => none) else some (x, .go (some x) xs)
noncomputable def rowBad : List Int → Bool
  | 0 :: _ => true
  | _ => false
noncomputable def forW (t : Tgt) (kill : List Nat) (body : Rho → (Rho → Fl → Prop) → Prop) : List D → Rho → (Rho → Fl → Prop) → Prop
  | [], ρ, Q => Q (ρ.clr kill) .next
  | d :: ds, ρ, Q => asgW t d ρ fun ρ' => body ρ' fun ρ'' fl => match fl with
    | .next => forW t kill body ds (ρ''.clr kill) Q
    | .brk => Q (ρ''.clr kill) .next
    | .ret d => Q (ρ''.clr kill) (.ret d)
noncomputable def whileW (c : Rho → (Bool → Prop) → Prop) (kill : List Nat) (body : Rho → (Rho → Fl → Prop) → Prop) : Nat → Rho → (Rho → Fl → Prop) → Prop
  | 0, _, _ => False
  | n + 1, ρ, Q => c ρ fun b => match b with
    | false => Q ρ .next
    | true => body ρ fun ρ' fl => match fl with
      | .next => whileW c kill body n (ρ'.clr kill) Q
      | .brk => Q (ρ'.clr kill) .next
      | .ret d => Q (ρ'.clr kill) (.ret d)
noncomputable def genW (t : Nat) (kill : List Nat) (body : Rho → (Rho → Fl → Prop) → Prop) : Nat → GS → Rho → (Rho → Fl → Prop) → Prop
  | 0, _, _, _ => False
  | n + 1, st, ρ, Q => match st.pull with
    | none => Q (ρ.clr kill) .next
    | some (x, st') => body (ρ.set t (some (.sh (.int x)))) fun ρ' fl => match fl with
      | .next => genW t kill body n st' (ρ'.clr kill) Q
      | .brk => Q (ρ'.clr kill) .next
      | .ret d => Q (ρ'.clr kill) (.ret d)
noncomputable def toLV : D → Option LV
  | .lst ds => some (.ol ds)
  | .dct ds => some (.od ds)
  | _ => none
noncomputable def iopW (op : Bop) (a b : D) (Q : D → Prop) : Prop :=
  match op with
  | .add => onI a fun a => onI b fun b => Q (.int (a + b))
  | .sub => onI a fun a => onI b fun b => Q (.int (a - b))
  | .fdiv => onI a fun a => onI b fun b => (b ≠ 0 ∧ b.natAbs < 1073741824) ∧ Q (.int (a.fdiv b))
  | _ => False
noncomputable def setW (lv : LV) (k v : D) (Q : LV → Prop) : Prop :=
  match lv with
  | .ol ds => match k with
    | .int i => (0 ≤ i ∧ i < ds.length) ∧ fits ds.length ∧ Q (.ol (ds.set i.toNat v))
    | _ => False
  | .od kvs => ∃ kk, k.key? = some kk ∧ fits kvs.length ∧ Q (.od (kset kk v kvs))
  | _ => False
noncomputable def getW (lv : LV) (k : D) (Q : D → Prop) : Prop :=
  match lv with
  | .ol ds => subW (.lst ds) k Q
  | .od kvs => subW (.dct kvs) k Q
  | _ => False
mutual
noncomputable def exS (X : Fns) : S → Rho → (Rho → Fl → Prop) → Prop
  | .assign i e, ρ, Q => evE X e ρ fun d => Q (ρ.set i (some (.sh d))) .next
  | .assignO i e, ρ, Q => evE X e ρ fun d => ∃ lv, toLV d = some lv ∧ i < ρ.length ∧ Q (ρ.set i (some lv)) .next
  | .unpack is e, ρ, Q => evE X e ρ fun d => asgW (.tp is) d ρ fun ρ' => Q ρ' .next
  | .setitem x k v, ρ, Q => match ρ.at x with
    | some lv => evE X v ρ fun dv => evE X k ρ fun dk => setW lv dk dv fun lv' => Q (ρ.set x (some lv')) .next
    | none => False
  | .aug i op e, ρ, Q => match ρ.at i with
    | some (.sh a) => evE X e ρ fun b => iopW op a b fun d => Q (ρ.set i (some (.sh d))) .next
    | _ => False
  | .augitem x k op e, ρ, Q => match ρ.at x with
    | some lv => evE X k ρ fun dk => getW lv dk fun a => evE X e ρ fun b => iopW op a b fun d => setW lv dk d fun lv' => Q (ρ.set x (some lv')) .next
    | none => False
  | .append x e, ρ, Q => match ρ.at x with
    | some (.ol ds) => evE X e ρ fun d => fits (ds.length + 1) ∧ Q (ρ.set x (some (.ol (ds ++ [d])))) .next
    | _ => False
  | .ife c a b, ρ, Q => evC X c ρ fun t => match t with
    | true => exSs X a ρ Q
    | false => exSs X b ρ Q
  | .fore t it body kill, ρ, Q => evI X it ρ fun ds => forW t kill (exSs X body) ds ρ Q
  | .forgen t e body kill, ρ, Q => evE X e ρ fun d => match d with
    | .lst ds => ∃ is, ints? ds = some is ∧ match rowBad is with
      | false => ∃ n, genW t kill (exSs X body) n (.go none is) ρ Q
      | true => False
    | _ => False
  | .trygen t e body kill x hand, ρ, Q => evE X e ρ fun d => match d with
    | .lst ds => ∃ is, ints? ds = some is ∧ match rowBad is with
      | false => ∃ n, genW t kill (exSs X body) n (.go none is) ρ Q
      | true => x < ρ.length ∧ exSs X hand (ρ.set x (some (.exc "invalid grouping"))) fun ρ' fl => Q (ρ'.set x none) fl
    | _ => False
  | .while c body kill, ρ, Q => ∃ n, whileW (evC X c) kill (exSs X body) n ρ Q
  | .ret e, ρ, Q => evE X e ρ fun d => Q ρ (.ret d)
  | .brk, ρ, Q => Q ρ .brk
  | .freeze i, ρ, Q => match ρ.at i with
    | some lv => ∃ d, lv.froz = some d ∧ Q (ρ.set i (some (.sh d))) .next
    | none => False
  | .dead, _, _ => False
  | .zif c₁ c₂ f es body, ρ, Q => evC X c₁ ρ fun a => match a with
    | true => exSs X body ρ Q
    | false => evC X c₂ ρ fun b => match b with
      | true => exSs X body ρ Q
      | false => evEs X es ρ fun ds => X f ds fun d => truthW d fun t => match t with
        | true => Q ρ .next
        | false => exSs X body ρ Q
noncomputable def exSs (X : Fns) : List S → Rho → (Rho → Fl → Prop) → Prop
  | [], ρ, Q => Q ρ .next
  | st :: r, ρ, Q => exS X st ρ fun ρ' fl => match fl with
    | .next => exSs X r ρ' Q
    | fl => Q ρ' fl
end
end Mine
end
section
open PySem PySem.Calls PyProof.Rows
namespace Mine
theorem evE_int (X : Fns) (i) (u1) (Q) : evE X (.int i) u1 Q = (Q (.int i)) := (rfl)
theorem evE_bool (X : Fns) (b) (u1) (Q) : evE X (.bool b) u1 Q = (Q (.bool b)) := (rfl)
theorem evE_none (X : Fns) (u1) (Q) : evE X .none u1 Q = (Q .none) := (rfl)
theorem evE_var (X : Fns) (i) (ρ) (Q) : evE X (.var i) ρ Q = (match ρ.at i with
    | some (.sh d) => Q d
    | _ => False) := (rfl)
theorem evE_tup (X : Fns) (es) (ρ) (Q) : evE X (.tup es) ρ Q = (evEs X es ρ fun ds => fits ds.length ∧ Q (.tup ds)) := (rfl)
theorem evE_lst (X : Fns) (es) (ρ) (Q) : evE X (.lst es) ρ Q = (evEs X es ρ fun ds => fits ds.length ∧ Q (.lst ds)) := (rfl)
theorem evE_dct (X : Fns) (kvs) (ρ) (Q) : evE X (.dct kvs) ρ Q = (evKV X kvs ρ [] fun kvs => Q (.dct kvs)) := (rfl)
theorem evE_bin (X : Fns) (op) (l) (r) (ρ) (Q) : evE X (.bin op l r) ρ Q = (evE X l ρ fun a => evE X r ρ fun b => binW op a b Q) := (rfl)
theorem evE_cmp (X : Fns) (op) (l) (r) (ρ) (Q) : evE X (.cmp op l r) ρ Q = (evE X l ρ fun a => evE X r ρ fun b => cmpW op a b fun c => Q (.bool c)) := (rfl)
theorem evE_neg (X : Fns) (e) (ρ) (Q) : evE X (.neg e) ρ Q = (evE X e ρ fun a => onI a fun i => Q (.int (-i))) := (rfl)
theorem evE_bop (X : Fns) (and) (es) (ρ) (Q) : evE X (.bop and es) ρ Q = (evB X and es ρ Q) := (rfl)
theorem evE_ite (X : Fns) (c) (a) (b) (ρ) (Q) : evE X (.ite c a b) ρ Q = (evC X c ρ fun t => match t with
    | true => evE X a ρ Q
    | false => evE X b ρ Q) := (rfl)
theorem evE_sub (X : Fns) (o) (i) (ρ) (Q) : evE X (.sub o i) ρ Q = (evE X o ρ fun a => evE X i ρ fun b => subW a b Q) := (rfl)
theorem evE_slice (X : Fns) (o) (lo) (hi) (ρ) (Q) : evE X (.slice o lo hi) ρ Q = (evE X o ρ fun a => evE X lo ρ fun b => evE X hi ρ fun c => sliceW a b c Q) := (rfl)
theorem evE_call (X : Fns) (f) (es) (ρ) (Q) : evE X (.call f es) ρ Q = (evEs X es ρ fun ds => X f ds Q) := (rfl)
theorem evE_bi (X : Fns) (b) (es) (ρ) (Q) : evE X (.bi b es) ρ Q = (evEs X es ρ fun ds => biW b ds Q) := (rfl)
theorem evE_lcomp (X : Fns) (elt) (t) (it) (ifs) (gs) (cap) (u1) (ρ) (Q) : evE X (.lcomp elt t it ifs gs cap u1) ρ Q = (evI X it ρ fun ds =>
      loopW (fun d acc C => asgW t d (capture ρ cap) fun ρ' => evIfs X ifs ρ' fun b => match b with
        | true => evGs X gs ρ' (fun ρ'' acc C => evE X elt ρ'' fun d => pushW acc d C) acc C
        | false => C acc) ds (.lst []) Q) := (rfl)
theorem evE_dcomp (X : Fns) (k) (v) (t) (it) (ifs) (gs) (cap) (u1) (ρ) (Q) : evE X (.dcomp k v t it ifs gs cap u1) ρ Q = (evI X it ρ fun ds =>
      loopW (fun d acc C => asgW t d (capture ρ cap) fun ρ' => evIfs X ifs ρ' fun b => match b with
        | true => evGs X gs ρ' (fun ρ'' acc C => evE X k ρ'' fun dk => evE X v ρ'' fun dv => putW acc dk dv C) acc C
        | false => C acc) ds (.dct []) Q) := (rfl)
theorem evEs_nil (X : Fns) (u1) (Q) : evEs X [] u1 Q = (Q []) := (rfl)
theorem evEs_cons (X : Fns) (e) (es) (ρ) (Q) : evEs X (e :: es) ρ Q = (evE X e ρ fun d => evEs X es ρ fun ds => Q (d :: ds)) := (rfl)
theorem evKV_mk (X : Fns) (k) (v) (r) (ρ) (acc) (Q) : evKV X (.mk k v :: r) ρ acc Q = (evE X k ρ fun dk => evE X v ρ fun dv => ∃ kk, dk.key? = some kk ∧ evKV X r ρ (kset kk dv acc) Q) := (rfl)
theorem evKV_nil (X : Fns) (u1) (acc) (Q) : evKV X [] u1 acc Q = (Q acc) := (rfl)
theorem evB_one (X : Fns) (and : Bool) (e) (ρ) (Q) : evB X and [e] ρ Q = (evE X e ρ Q) := (rfl)
theorem evB_cons (X : Fns) (and : Bool) (e) (e₂) (es) (ρ) (Q) : evB X and (e :: e₂ :: es) ρ Q = (evE X e ρ fun a => truthW a fun b => match and, b with
    | true, false => Q a
    | false, true => Q a
    | _, _ => evB X and (e₂ :: es) ρ Q) := (rfl)
theorem evC_bop (X : Fns) (and) (es) (ρ) (Q) : evC X (.bop and es) ρ Q = (evA X and es ρ Q) := (rfl)
theorem evC_cmp (X : Fns) (op) (l) (r) (ρ) (Q) : evC X (.cmp op l r) ρ Q = (evE X l ρ fun a => evE X r ρ fun b => cmpW op a b Q) := (rfl)
theorem evC_call (X : Fns) (f) (es) (ρ) (Q) : evC X (.call f es) ρ Q = (evEs X es ρ fun ds => X f ds fun d => truthW d Q) := (rfl)
theorem evC_bi (X : Fns) (b) (es) (ρ) (Q) : evC X (.bi b es) ρ Q = (evEs X es ρ fun ds => biW b ds fun d => truthW d Q) := (rfl)
theorem evA_cons (X : Fns) (and : Bool) (e) (es) (ρ) (Q) : evA X and (e :: es) ρ Q = (evC X e ρ fun b => match and, b with
    | true, false => Q false
    | false, true => Q true
    | _, _ => evA X and es ρ Q) := (rfl)
theorem evI_ex (X : Fns) (e) (ρ) (Q) : evI X (.ex e) ρ Q = (evE X e ρ fun d => ∃ ds, seqOf d = some ds ∧ Q ds) := (rfl)
theorem evI_range (X : Fns) (es) (ρ) (Q) : evI X (.range es) ρ Q = (evEs X es ρ fun ds => rangeW ds Q) := (rfl)
theorem evI_enum (X : Fns) (e) (ρ) (Q) : evI X (.enum e) ρ Q = (evE X e ρ fun d => onL d fun ds => fits ds.length ∧ Q (enumL 0 ds)) := (rfl)
theorem evI_items (X : Fns) (e) (ρ) (Q) : evI X (.items e) ρ Q = (evE X e ρ fun d => onK d fun kvs => Q (kvs.map fun p => .tup [p.1.d, p.2])) := (rfl)
theorem evI_values (X : Fns) (e) (ρ) (Q) : evI X (.values e) ρ Q = (evE X e ρ fun d => onK d fun kvs => Q (kvs.map fun p => p.2)) := (rfl)
theorem evIfs_nil (X : Fns) (u1) (Q) : evIfs X [] u1 Q = (Q true) := (rfl)
theorem evIfs_cons (X : Fns) (e) (es) (ρ) (Q) : evIfs X (e :: es) ρ Q = (evC X e ρ fun b => match b with
    | true => evIfs X es ρ Q
    | false => Q false) := (rfl)
theorem evGs_nil (X : Fns) (ρ) (emit) (acc) : evGs X [] ρ emit acc C = (emit ρ acc C) := (rfl)
theorem evGs_mk (X : Fns) (t) (it) (ifs) (gs) (ρ) (emit) (acc) : evGs X (.mk t it ifs :: gs) ρ emit acc C = (evI X it ρ fun ds =>
      loopW (fun d acc C => asgW t d ρ fun ρ' => evIfs X ifs ρ' fun b => match b with
        | true => evGs X gs ρ' emit acc C
        | false => C acc) ds acc C) := (rfl)
theorem exS_unpack (X : Fns) (is) (e) (ρ) (Q) : exS X (.unpack is e) ρ Q = (evE X e ρ fun d => asgW (.tp is) d ρ fun ρ' => Q ρ' .next) := (rfl)
theorem exS_ife (X : Fns) (c) (a) (b) (ρ) (Q) : exS X (.ife c a b) ρ Q = (evC X c ρ fun t => match t with
    | true => exSs X a ρ Q
    | false => exSs X b ρ Q) := (rfl)
theorem exS_fore (X : Fns) (t) (it) (body) (kill) (ρ) (Q) : exS X (.fore t it body kill) ρ Q = (evI X it ρ fun ds => forW t kill (exSs X body) ds ρ Q) := (rfl)
theorem exS_forgen (X : Fns) (t) (e) (body) (kill) (ρ) (Q) : exS X (.forgen t e body kill) ρ Q = (evE X e ρ fun d => match d with
    | .lst ds => ∃ is, ints? ds = some is ∧ match rowBad is with
      | false => ∃ n, genW t kill (exSs X body) n (.go none is) ρ Q
      | true => False
    | _ => False) := (rfl)
theorem exS_while (X : Fns) (c) (body) (kill) (ρ) (Q) : exS X (.while c body kill) ρ Q = (∃ n, whileW (evC X c) kill (exSs X body) n ρ Q) := (rfl)
theorem exS_ret (X : Fns) (e) (ρ) (Q) : exS X (.ret e) ρ Q = (evE X e ρ fun d => Q ρ (.ret d)) := (rfl)
theorem exS_freeze (X : Fns) (i) (ρ) (Q) : exS X (.freeze i) ρ Q = (match ρ.at i with
    | some lv => ∃ d, lv.froz = some d ∧ Q (ρ.set i (some (.sh d))) .next
    | none => False) := (rfl)
theorem exS_zif (X : Fns) (c₁) (c₂) (f) (es) (body) (ρ) (Q) : exS X (.zif c₁ c₂ f es body) ρ Q = (evC X c₁ ρ fun a => match a with
    | true => exSs X body ρ Q
    | false => evC X c₂ ρ fun b => match b with
      | true => exSs X body ρ Q
      | false => evEs X es ρ fun ds => X f ds fun d => truthW d fun t => match t with
        | true => Q ρ .next
        | false => exSs X body ρ Q) := (rfl)
theorem exSs_nil (X : Fns) (ρ) (Q) : exSs X [] ρ Q = (Q ρ .next) := (rfl)
theorem exSs_cons (X : Fns) (st) (r) (ρ) (Q) : exSs X (st :: r) ρ Q = (exS X st ρ fun ρ' fl => match fl with
    | .next => exSs X r ρ' Q
    | fl => Q ρ' fl) := (rfl)
theorem binW_addI (a b : Int) (Q) : binW .add (.int a) (.int b) Q = Q (.int (a + b)) := (rfl)
theorem binW_addL (a b : List D) (Q) : binW .add (.lst a) (.lst b) Q = (fits (a.length + b.length) ∧ Q (.lst (a ++ b))) := (rfl)
theorem binW_sub (a b : Int) (Q) : binW .sub (.int a) (.int b) Q = Q (.int (a - b)) := (rfl)
theorem binW_mulI (a b : Int) (Q) : binW .mul (.int a) (.int b) Q = ((smallI a ∨ smallI b) ∧ Q (.int (a * b))) := (rfl)
theorem binW_fdiv (a b : Int) (Q) : binW .fdiv (.int a) (.int b) Q = ((b ≠ 0 ∧ b.natAbs < 1073741824) ∧ Q (.int (a.fdiv b))) := (rfl)
theorem binW_mod (a b : Int) (Q) : binW .mod (.int a) (.int b) Q = (b ≠ 0 ∧ Q (.int (a.fmod b))) := (rfl)
theorem binW_pow (a b : Int) (Q) : binW .pow (.int a) (.int b) Q = ((0 ≤ b ∧ b ≤ 1000000 ∧ smallI a) ∧ Q (.int (a ^ b.toNat))) := (rfl)
theorem iopW_add (a b : Int) (Q) : iopW .add (.int a) (.int b) Q = Q (.int (a + b)) := (rfl)
theorem biW_sum (xs : List D) (Q) : biW .sum [.lst xs] Q = ∃ is, ints? xs = some is ∧ fits is.length ∧ Q (.int is.sum) := (rfl)
theorem biW_lenL (xs : List D) (Q) : biW .len [.lst xs] Q = (fits xs.length ∧ Q (.int xs.length)) := (rfl)
theorem biW_max1 (xs : List D) (Q) : biW .max [.lst xs] Q = ∃ i is, ints? xs = some (i :: is) ∧ Q (.int (maxL i is)) := (rfl)
theorem biW_isI (i : Int) (Q) : biW .isTuple [.int i] Q = Q (.bool false) := (rfl)
theorem cmpW_eq (a b : D) (Q) : cmpW .eq a b Q = (eqP 4 a b = true ∧ Q (eqv a b)) := (rfl)
theorem cmpW_ne (a b : D) (Q) : cmpW .ne a b Q = (eqOk a b = true ∧ Q (!eqv a b)) := (rfl)
theorem cmpW_inD (x : D) (ys : List (K × D)) (Q) : cmpW .isin x (.dct ys) Q = ∃ k, x.key? = some k ∧ Q (klook k ys).isSome := (rfl)
theorem cmpW_niD (x : D) (ys : List (K × D)) (Q) : cmpW .notin x (.dct ys) Q = ∃ k, x.key? = some k ∧ Q (!(klook k ys).isSome) := (rfl)
theorem truthW_b (b : Bool) (Q) : truthW (.bool b) Q = Q b := (rfl)
theorem subW_l (xs : List D) (i : Int) (Q : D → Prop) : subW (.lst xs) (.int i) Q = ∃ d, ((idx xs.length i).bind fun j => xs[j]?) = some d ∧ Q d := (rfl)
theorem subW_t (xs : List D) (i : Int) (Q : D → Prop) : subW (.tup xs) (.int i) Q = ∃ d, ((idx xs.length i).bind fun j => xs[j]?) = some d ∧ Q d := (rfl)
theorem subW_d (kvs : List (K × D)) (k : D) (Q : D → Prop) : subW (.dct kvs) k Q = ∃ k' d, k.key? = some k' ∧ klook k' kvs = some d ∧ Q d := (rfl)
theorem setW_ol (ds : List D) (i : Int) (v : D) (Q) : setW (.ol ds) (.int i) v Q = ((0 ≤ i ∧ i < ds.length) ∧ fits ds.length ∧ Q (.ol (ds.set i.toNat v))) := (rfl)
theorem setW_od (kvs : List (K × D)) (k v : D) (Q) : setW (.od kvs) k v Q = ∃ kk, k.key? = some kk ∧ fits kvs.length ∧ Q (.od (kset kk v kvs)) := (rfl)
theorem getW_ol (ds : List D) (i : Int) (Q) : getW (.ol ds) (.int i) Q = ∃ d, ((idx ds.length i).bind fun j => ds[j]?) = some d ∧ Q d := (rfl)
theorem getW_od (kvs : List (K × D)) (k : D) (Q) : getW (.od kvs) k Q = ∃ k' d, k.key? = some k' ∧ klook k' kvs = some d ∧ Q d := (rfl)
theorem asgW_tp (is : List Nat) (ds : List D) (ρ : Rho) (Q) : asgW (.tp is) (.tup ds) ρ Q = (is.length = ds.length ∧ Q (ρ.setAll is ds)) := (rfl)
theorem setAll_nil (ρ : Rho) (ds : List D) : ρ.setAll [] ds = ρ := by cases ds <;> rfl
theorem clr_nil (ρ : Rho) : ρ.clr [] = ρ := (rfl)
theorem toLV_lst (ds : List D) : toLV (.lst ds) = some (.ol ds) := (rfl)
theorem toLV_dct (ds : List (K × D)) : toLV (.dct ds) = some (.od ds) := (rfl)
theorem froz_ol (ds : List D) : LV.froz (.ol ds) = some (.lst ds) := (rfl)
theorem froz_od (ds : List (K × D)) : LV.froz (.od ds) = some (.dct ds) := (rfl)
theorem pushW_l (ds : List D) (d : D) (C) : pushW (.lst ds) d C = (fits (ds.length + 1) ∧ C (.lst (ds ++ [d]))) := (rfl)
theorem putW_d (kvs : List (K × D)) (k v : D) (C) : putW (.dct kvs) k v C = ∃ kk, k.key? = some kk ∧ fits (kvs.length + 1) ∧ C (.dct (kset kk v kvs)) := (rfl)
theorem forW_nil (t kill body) (ρ : Rho) (Q) : forW t kill body [] ρ Q = Q (ρ.clr kill) .next := (rfl)
theorem forW_cons (t kill body) (d : D) (ds : List D) (ρ : Rho) (Q) : forW t kill body (d :: ds) ρ Q = asgW t d ρ fun ρ' => body ρ' fun ρ'' fl => match fl with
    | .next => forW t kill body ds (ρ''.clr kill) Q
    | .brk => Q (ρ''.clr kill) .next
    | .ret d => Q (ρ''.clr kill) (.ret d) := (rfl)
theorem loopW_nil (f : D → D → (D → Prop) → Prop) (a : D) (Q) : loopW f [] a Q = Q a := (rfl)
theorem loopW_cons (f : D → D → (D → Prop) → Prop) (d : D) (ds : List D) (a : D) (Q) : loopW f (d :: ds) a Q = f d a (fun a' => loopW f ds a' Q) := (rfl)
theorem onL_l (l : List D) (k : List D → Prop) : onL (.lst l) k = k l := (rfl)
theorem onI_i (i : Int) (k : Int → Prop) : onI (.int i) k = k i := (rfl)
theorem onK_d (l : List (K × D)) (k : List (K × D) → Prop) : onK (.dct l) k = k l := (rfl)
theorem enumL_cons (i : Int) (d : D) (r : List D) : enumL i (d :: r) = .tup [.int i, d] :: enumL (i + 1) r := (rfl)
end Mine
end
section
open PySem PySem.Calls PyProof.Rows
open PySem.SeqAt (EqAt RcAt RcNeAt)
namespace Mine
section
variable {w : World} {prog : Program} {F : Addr → Prop} {h : Heap}
theorem lst_uniq {a : Addr} {vs vs' : List Value} (x : h.IsList a vs.toArray) (y : h.IsList a vs'.toArray) : vs = vs' := by
  obtain ⟨o, e, _, n, q⟩ := x; obtain ⟨o', e', _, m, q'⟩ := y
  rw [e] at e'
  injection e' with e'
  subst e'
  rw [q] at q'
  injection q' with e' _
  simpa using congrArg Array.toList e'
theorem tup_uniq {a : Addr} {vs vs' : List Value} (x : h.IsTuple a vs.toArray) (y : h.IsTuple a vs'.toArray) : vs = vs' := by
  obtain ⟨o, e, _, n, q⟩ := x; obtain ⟨o', e', _, m, q'⟩ := y
  rw [e] at e'
  injection e' with e'
  subst e'
  rw [q] at q'
  injection q' with e' _
  simpa using congrArg Array.toList e'
theorem pairs_uniq {knd : KeyKind prog w K} {es : List DictEntry} {kvs : List (K × Value)} (x : Pairs knd es kvs) : ∀ {kvs' : List (K × Value)}, Pairs knd es kvs' → kvs = kvs' := by
  induction x with
  | nil => intro kvs' y; cases y; rfl
  | cons hk hv hr ih =>
    intro kvs' y
    cases y with
    | cons hk' hv' hr' => rw [ih hr', Prod.ext (knd.inj _ _ _ hk hk') (hv.symm.trans hv')]
theorem DictOf_uniq {knd : KeyKind prog w K} {a : Addr} {kvs kvs' : List (K × Value)} (x : h.DictOf knd a kvs) (y : h.DictOf knd a kvs') : kvs = kvs' := by
  obtain ⟨o, es, ep, e, _, hd, _, hp, _⟩ := x
  obtain ⟨o', es', ep', e', _, hd', _, hp', _⟩ := y
  rw [e] at e'; cases e'
  rw [hd] at hd'; cases hd'
  exact pairs_uniq hp hp'
theorem tup_lst {a : Addr} {vs vs' : Array Value} (x : h.IsTuple a vs) (y : h.IsList a vs') : False := by
  obtain ⟨o, e, hc, _⟩ := x; obtain ⟨o', e', hc', _⟩ := y
  rw [Option.some.inj (e.symm.trans e'), hc'] at hc
  exact absurd hc (by simp)
theorem tup_dct {a : Addr} {vs : Array Value} {knd : KeyKind prog w K} {kvs : List (K × Value)} (x : h.IsTuple a vs) (y : h.DictOf knd a kvs) : False := by
  obtain ⟨o, e, hc, _⟩ := x; obtain ⟨o', es, ep, e', hx, _⟩ := y
  rw [Option.some.inj (e.symm.trans e'), hx.1] at hc
  exact absurd hc (by simp)
theorem lst_dct {a : Addr} {vs : Array Value} {knd : KeyKind prog w K} {kvs : List (K × Value)} (x : h.IsList a vs) (y : h.DictOf knd a kvs) : False := by
  obtain ⟨o, e, hc, _⟩ := x; obtain ⟨o', es, ep, e', hx, _⟩ := y
  rw [Option.some.inj (e.symm.trans e'), hx.1] at hc
  exact absurd hc (by simp)
theorem Rep.tup_d {a : Addr} {vs : List Value} {d : D} (e : h.IsTuple a vs.toArray) (r : Rep w prog F h (.ref a) d) : ∃ ds, d = .tup ds ∧ Reps w prog F h vs ds := by
  rcases r.uview with ⟨vs', ds, rfl, e', r⟩ | ⟨_, _, _, e', _⟩ | ⟨_, _, _, e', _⟩
  · exact ⟨ds, rfl, tup_uniq e e' ▸ r⟩
  · exact (tup_lst e e').elim
  · exact (tup_dct e e').elim
theorem Rep.lst_d {a : Addr} {vs : List Value} {d : D} (e : h.IsList a vs.toArray) (r : Rep w prog F h (.ref a) d) : ∃ ds, d = .lst ds ∧ Reps w prog F h vs ds := by
  rcases r.uview with ⟨_, _, _, e', _⟩ | ⟨vs', ds, rfl, e', r⟩ | ⟨_, _, _, e', _⟩
  · exact (tup_lst e' e).elim
  · exact ⟨ds, rfl, lst_uniq e e' ▸ r⟩
  · exact (lst_dct e e').elim
theorem Rep.dct_d {a : Addr} {kvs : List (K × Value)} {d : D} (e : h.DictOf (kind prog w) a kvs) (r : Rep w prog F h (.ref a) d) : ∃ ds, d = .dct ds ∧ RepKs w prog F h kvs ds := by
  rcases r.uview with ⟨_, _, _, e', _⟩ | ⟨_, _, _, e', _⟩ | ⟨vs', ds, rfl, e', r⟩
  · exact (tup_dct e' e).elim
  · exact (lst_dct e' e).elim
  · exact ⟨ds, rfl, DictOf_uniq e e' ▸ r⟩
theorem Reps.nil_d {ds : List D} (r : Reps w prog F h [] ds) : [] = ds := by
  cases ds with
  | nil => rfl
  | cons _ _ => obtain ⟨_, _, e, _⟩ := r.view; cases e
theorem Reps.cons_d {v : Value} {vs : List Value} {ds : List D} (r : Reps w prog F h (v :: vs) ds) : ∃ d ds', ds = d :: ds' ∧ Rep w prog F h v d ∧ Reps w prog F h vs ds' := by
  cases ds with
  | nil => exact nomatch r.view
  | cons d ds => obtain ⟨_, _, e, a, b⟩ := r.view; cases e; exact ⟨d, ds, rfl, a, b⟩
theorem RepKs.nil_d {ds : List (K × D)} (r : RepKs w prog F h [] ds) : [] = ds := by
  cases ds with
  | nil => rfl
  | cons _ _ => obtain ⟨_, _, e, _⟩ := r.view; cases e
theorem RepKs.cons_d {k : K} {v : Value} {vs : List (K × Value)} {ds : List (K × D)} (r : RepKs w prog F h ((k, v) :: vs) ds) : ∃ d ds', ds = (k, d) :: ds' ∧ Rep w prog F h v d ∧ RepKs w prog F h vs ds' := by
  cases ds with
  | nil => exact nomatch r.view
  | cons d ds => obtain ⟨_, _, e, a, b⟩ := r.view; cases e; exact ⟨d.2, ds, rfl, a, b⟩
theorem Rep.uniq {v : Value} {d : D} (r : Rep w prog F h v d) : ∀ {d' : D}, Rep w prog F h v d' → d = d' :=
  @Rep.rec w prog F h (fun v d _ => ∀ {d' : D}, Rep w prog F h v d' → d = d') (fun v d _ => ∀ {d' : List D}, Reps w prog F h v d' → d = d') (fun v d _ => ∀ {d' : List (K × D)}, RepKs w prog F h v d' → d = d')
    (fun r => Eq.symm r.uview) (fun _ _ r => Eq.symm r.uview) (fun _ _ _ r => Eq.symm r.uview) (fun _ _ _ r => Eq.symm r.uview)
    (fun _ e _ ih _ r => (r.tup_d e).elim fun _ q => q.1 ▸ congrArg D.tup (ih q.2)) (fun _ e _ ih _ r => (r.lst_d e).elim fun _ q => q.1 ▸ congrArg D.lst (ih q.2)) (fun _ e _ ih _ r => (r.dct_d e).elim fun _ q => q.1 ▸ congrArg D.dct (ih q.2))
    (fun r => r.nil_d) (fun _ _ ia ib _ r => r.cons_d.elim fun _ q => q.elim fun _ q => q.1 ▸ congr (congrArg List.cons (ia q.2.1)) (ib q.2.2))
    (fun r => r.nil_d) (fun {k _ _ _ _} _ _ ia ib _ r => r.cons_d.elim fun _ q => q.elim fun _ q => q.1 ▸ congr (congrArg List.cons (congrArg (Prod.mk k) (ia q.2.1))) (ib q.2.2)) v d r
theorem Reps.uniq {v : List Value} {d d' : List D} (r : Reps w prog F h v d) (r' : Reps w prog F h v d') : d = d' := by
  induction d generalizing v d' with
  | nil => rw [show v = [] from r.view] at r'; exact r'.nil_d
  | cons x d ih =>
    obtain ⟨v, vs, rfl, a, r⟩ := r.view
    obtain ⟨y, d', rfl, a', r'⟩ := r'.cons_d
    rw [a.uniq a', ih r r']
theorem RepKs.uniq {v : List (K × Value)} {d d' : List (K × D)} (r : RepKs w prog F h v d) (r' : RepKs w prog F h v d') : d = d' := by
  induction d generalizing v d' with
  | nil => rw [show v = [] from r.view] at r'; exact r'.nil_d
  | cons x d ih =>
    obtain ⟨v, vs, rfl, a, r⟩ := r.view
    obtain ⟨y, d', rfl, a', r'⟩ := r'.cons_d
    rw [← a.uniq a', ih r r']
theorem eqv_scal (d : D) (h : scal d = true) : eqv d d = true := by
  cases d with
  | none => rfl
  | bool b => rw [eqv_bool]; exact beq_self_eq_true b
  | int b => rw [eqv_int]; exact beq_self_eq_true b
  | str b => rw [eqv_str]; exact beq_self_eq_true b
  | tup _ => exact nomatch h
  | lst _ => exact nomatch h
  | dct _ => exact nomatch h
theorem all2_and {f : D → D → Bool} {x y : D} {xs ys : List D} (h : all2 f (x :: xs) (y :: ys) = true) : f x y = true ∧ all2 f xs ys = true := by
  rw [all2_cons, Bool.and_eq_true] at h; exact h
theorem eqvs_of_all {n : Nat} (ih : ∀ d, eqP n d d = true → eqv d d = true) (l : List D) (h : all2 (eqP n) l l = true) : eqvs l l = true := by
  induction l with
  | nil => rfl
  | cons x xs ih2 => rw [eqvs_cons, ih x (all2_and h).1, ih2 (all2_and h).2]; rfl
theorem eqv_refl (n : Nat) : ∀ d : D, eqP n d d = true → eqv d d = true := by
  induction n with
  | zero => exact fun d h => eqv_scal d (Bool.and_eq_true _ _ ▸ h : scal d = true ∧ scal d = true).1
  | succ n ih =>
    intro d h
    cases d with
    | lst a => exact eqvs_of_all ih a h
    | tup a => exact eqvs_of_all ih a h
    | none => rfl
    | bool b => rw [eqv_bool]; exact beq_self_eq_true b
    | int b => rw [eqv_int]; exact beq_self_eq_true b
    | str b => rw [eqv_str]; exact beq_self_eq_true b
    | dct a => exact nomatch h
noncomputable def pe (xs ys : List D) (j : Nat) : Bool := eqv (xs.getD j .none) (ys.getD j .none)
theorem range_all_succ (f : Nat → Bool) (n : Nat) : (List.range (n + 1)).all f = (f 0 && (List.range n).all fun j => f (j + 1)) := by
  rw [List.range_succ_eq_map, List.all_cons, List.all_map]; rfl
theorem eqvs_range (xs : List D) : ∀ ys : List D, ((List.range (min xs.length ys.length)).all (pe xs ys) && xs.length == ys.length) = eqvs xs ys := by
  induction xs with
  | nil => intro ys; cases ys <;> rfl
  | cons x xs ih =>
    intro ys
    cases ys with
    | nil => rfl
    | cons y ys =>
      rw [List.length_cons, List.length_cons, Nat.succ_min_succ, range_all_succ, eqvs_cons, ← ih, ← Bool.and_assoc]
      congr 1
      exact Bool.eq_iff_iff.mpr (by rw [beq_iff_eq, beq_iff_eq, Nat.add_right_cancel_iff])
theorem eqvs_same {xs ys : List D} (hl : xs.length = ys.length) : (List.range xs.length).all (pe xs ys) = eqvs xs ys := by
  have := eqvs_range xs ys
  rw [← hl] at this
  simpa using this
theorem eqvs_diff {xs ys : List D} (hl : xs.length ≠ ys.length) : eqvs xs ys = false := by
  have := eqvs_range xs ys
  rw [← this]
  simp [hl]
theorem all2_get {f : D → D → Bool} : ∀ {xs ys : List D}, all2 f xs ys = true → ∀ {j : Nat} {x y : D}, xs[j]? = some x → ys[j]? = some y → f x y = true := by
  intro xs
  induction xs with
  | nil => intro ys _ j x y hx; exact nomatch hx
  | cons a xs ih =>
    intro ys h j x y hx hy
    cases ys with
    | nil => exact nomatch hy
    | cons b ys =>
      cases j with
      | zero => exact Option.some.inj hx ▸ Option.some.inj hy ▸ (all2_and h).1
      | succ j => exact ih (all2_and h).2 hx hy
theorem Rep.scal_view {v : Value} {d : D} (r : Rep w prog F h v d) (hs : scal d = true) : (v = .none ∧ d = .none) ∨ (∃ b, v = .bool b ∧ d = .bool b) ∨ (∃ i t, v = .int i t ∧ d = .int i) ∨ ∃ s t, v = .str s t ∧ d = .str s := by
  cases r with
  | none => exact .inl ⟨rfl, rfl⟩
  | bool b => exact .inr (.inl ⟨b, rfl, rfl⟩)
  | int i t => exact .inr (.inr (.inl ⟨i, t, rfl, rfl⟩))
  | str s t => exact .inr (.inr (.inr ⟨s, t, rfl, rfl⟩))
  | tup _ _ _ => exact nomatch hs
  | lst _ _ _ => exact nomatch hs
  | dct _ _ _ => exact nomatch hs
theorem scal_pairs {P : Value → Value → Bool → Prop} (nn : P .none .none true) (nb : ∀ b, P .none (.bool b) false) (ni : ∀ i t, P .none (.int i t) false) (ns : ∀ i t, P .none (.str i t) false)
    (bn : ∀ b, P (.bool b) .none false) (bb : ∀ a b, P (.bool a) (.bool b) (a == b)) (bi : ∀ a b t, P (.bool a) (.int b t) ((if a then 1 else 0) == b)) (bs : ∀ a b t, P (.bool a) (.str b t) false)
    (n1 : ∀ i t, P (.int i t) .none false) (b1 : ∀ i t b, P (.int i t) (.bool b) (i == (if b then 1 else 0))) (ii : ∀ i t j u, P (.int i t) (.int j u) (i == j)) (is : ∀ i t j u, P (.int i t) (.str j u) false)
    (n2 : ∀ i t, P (.str i t) .none false) (b2 : ∀ i t b, P (.str i t) (.bool b) false) (i2 : ∀ i t j u, P (.str i t) (.int j u) false) (ss : ∀ i t j u, P (.str i t) (.str j u) (i == j))
    {v v' : Value} {d d' : D} (r : Rep w prog F h v d) (r' : Rep w prog F h v' d') (hs : scal d = true) (hs' : scal d' = true) : P v v' (eqv d d') := by
  rcases r.scal_view hs with ⟨rfl, rfl⟩ | ⟨b, rfl, rfl⟩ | ⟨i, t, rfl, rfl⟩ | ⟨i, t, rfl, rfl⟩
  · rcases r'.scal_view hs' with ⟨rfl, rfl⟩ | ⟨b', rfl, rfl⟩ | ⟨i', t', rfl, rfl⟩ | ⟨i', t', rfl, rfl⟩
    · exact nn
    · exact nb _
    · exact ni _ _
    · exact ns _ _
  · rcases r'.scal_view hs' with ⟨rfl, rfl⟩ | ⟨b', rfl, rfl⟩ | ⟨i', t', rfl, rfl⟩ | ⟨i', t', rfl, rfl⟩
    · exact bn _
    · exact bb _ _
    · exact bi _ _ _
    · exact bs _ _ _
  · rcases r'.scal_view hs' with ⟨rfl, rfl⟩ | ⟨b', rfl, rfl⟩ | ⟨i', t', rfl, rfl⟩ | ⟨i', t', rfl, rfl⟩
    · exact n1 _ _
    · exact b1 _ _ _
    · exact ii _ _ _ _
    · exact is _ _ _ _
  · rcases r'.scal_view hs' with ⟨rfl, rfl⟩ | ⟨b', rfl, rfl⟩ | ⟨i', t', rfl, rfl⟩ | ⟨i', t', rfl, rfl⟩
    · exact n2 _ _
    · exact b2 _ _ _
    · exact i2 _ _ _ _
    · exact ss _ _ _ _
theorem eqAt_scal {A : Around} {s : Shared} {v v' : Value} {d d' : D} (r : Rep w prog F s.heap v d) (r' : Rep w prog F s.heap v' d') (hs : scal d = true) (hs' : scal d' = true) : EqAt A s v v' (eqv d d') :=
  scal_pairs (P := EqAt A s) (EqAt.same _) EqAt.none_bool EqAt.none_int EqAt.none_str EqAt.bool_none EqAt.bool_bool EqAt.bool_int EqAt.bool_str EqAt.int_none EqAt.int_bool EqAt.int_int EqAt.int_str EqAt.str_none EqAt.str_bool EqAt.str_int EqAt.str_str r r' hs hs'
theorem eqP_cases {n : Nat} {d d' : D} (h : eqP n d d' = true) : (scal d = true ∧ scal d' = true) ∨ ∃ m a b, n = m + 1 ∧ all2 (eqP m) a b = true ∧ ((d = .lst a ∧ d' = .lst b) ∨ (d = .tup a ∧ d' = .tup b)) := by
  have two : ∀ {a b : D}, (scal a && scal b) = true → scal a = true ∧ scal b = true := fun h => by rw [Bool.and_eq_true] at h; exact h
  cases n with
  | zero => exact .inl (two h)
  | succ n =>
    cases d with
    | lst a => cases d' <;> first | exact absurd (h : false = true) Bool.false_ne_true | exact .inr ⟨n, _, _, rfl, h, .inl ⟨rfl, rfl⟩⟩
    | tup a => cases d' <;> first | exact absurd (h : false = true) Bool.false_ne_true | exact .inr ⟨n, _, _, rfl, h, .inr ⟨rfl, rfl⟩⟩
    | _ => exact .inl (two h)
theorem items_at {s : Shared} {A : Around} {n : Nat} (ih : ∀ {v v' : Value} {d d' : D}, Rep w prog F s.heap v d → Rep w prog F s.heap v' d' → eqP n d d' = true → EqAt A s v v' (eqv d d'))
    {vs vs' : List Value} {ds ds' : List D} (r : Reps w prog F s.heap vs ds) (r' : Reps w prog F s.heap vs' ds') (ha : all2 (eqP n) ds ds' = true) :
    ∀ j (h1 : j < vs.toArray.size) (h2 : j < vs'.toArray.size), EqAt A s vs.toArray[j] vs'.toArray[j] (pe ds ds' j) := by
  intro j h1 h2
  have h1' : j < vs.length := by simpa using h1
  have h2' : j < vs'.length := by simpa using h2
  obtain ⟨d, hd, q⟩ := r.get' (i := j) (v := vs[j]) (by simp [h1'])
  obtain ⟨d', hd', q'⟩ := r'.get' (i := j) (v := vs'[j]) (by simp [h2'])
  have e : pe ds ds' j = eqv d d' := by simp [pe, List.getD, hd, hd']
  rw [e]
  simpa using ih q q' (all2_get ha hd hd')
theorem eqAt_plain {s : Shared} (n : Nat) : ∀ (A : Around) {v v' : Value} {d d' : D}, Rep w prog F s.heap v d → Rep w prog F s.heap v' d' → eqP n d d' = true → A.units + n < cLine → EqAt A s v v' (eqv d d') := by
  induction n with
  | zero =>
    intro A v v' d d' r r' h _
    rcases eqP_cases h with ⟨h1, h2⟩ | ⟨m, _, _, e, _⟩
    · exact eqAt_scal r r' h1 h2
    · cases e
  | succ n ih =>
    intro A v v' d d' r r' h hu
    have hu1 : A.in1.units + n < cLine := by simp; (first | lia | omega)
    have hu2 : A.units < cLine := by (first | lia | omega)
    rcases eqP_cases h with ⟨h1, h2⟩ | ⟨m, a, b, e, ha, ⟨rfl, rfl⟩ | ⟨rfl, rfl⟩⟩
    · exact eqAt_scal r r' h1 h2
    · cases e
      obtain ⟨l, vs, rfl, _, el, rs⟩ := r.view
      obtain ⟨l', vs', rfl, _, el', rs'⟩ := r'.view
      by_cases hll : l = l'
      · subst hll
        have q : Reps w prog F s.heap vs b := lst_uniq el' el ▸ rs'
        have q := rs.uniq q
        subst q
        rw [eqv_refl (n + 1) _ h]
        exact EqAt.same _
      · have hi := items_at (fun q q' e => ih A.in1 q q' e hu1) rs rs' ha
        rw [eqv_lst]
        by_cases hsz : vs.length = vs'.length
        · rw [← eqvs_same (by rw [← rs.length, ← rs'.length]; exact hsz), ← rs.length]
          have := RcAt.lists el el' (by simpa using hsz) hu2 hi
          exact EqAt.of_refs hll (by simpa using this)
        · rw [eqvs_diff (by rw [← rs.length, ← rs'.length]; exact hsz)]
          exact EqAt.of_refs hll (RcAt.lists_lengths el el' (by simpa using hsz) hu2)
    · cases e
      obtain ⟨l, vs, rfl, _, el, rs⟩ := r.view
      obtain ⟨l', vs', rfl, _, el', rs'⟩ := r'.view
      by_cases hll : l = l'
      · subst hll
        have q : Reps w prog F s.heap vs b := tup_uniq el' el ▸ rs'
        have q := rs.uniq q
        subst q
        rw [eqv_refl (n + 1) _ h]
        exact EqAt.same _
      · have hi := items_at (fun q q' e => ih A.in1 q q' e hu1) rs rs' ha
        rw [eqv_tup, ← eqvs_range, ← rs.length, ← rs'.length]
        have := RcAt.tuples el el' hu2 hi
        exact EqAt.of_refs hll (by simpa using this)
end
end Mine
end
section
open PySem PySem.Calls PyProof.Rows
open PySem.SeqAt (EqAt RcAt RcNeAt)
namespace Mine
open AutoSeq1 (wpAny_loadPart')
open MeetsSeq MeetsSeq2 MeetsSeq3
noncomputable def EqIn (prog : Program) (w : World) (A : Around) (s : Shared) (y x : Value) (b : Bool) : Prop :=
  ∀ (E : Value → Shared → Prop) (Q : Bool → Shared → Prop), Q b s → wpAny (model prog w) A (eqBool y x) Q E s
theorem EqIn.of {prog : Program} {w : World} {A : Around} {s : Shared} {y x : Value} {b : Bool} (h : EqAt A s y x b) : EqIn prog w A s y x b := fun E Q hq => h prog w E Q hq
section
variable {w : World} {prog : Program} {F : Addr → Prop} {h : Heap}
theorem RepKs.find {kvs : List (K × Value)} {ds : List (K × D)} (r : RepKs w prog F h kvs ds) (k : K) :
    (klook k ds = none ∧ valueAt kvs k = none) ∨ ∃ d v, klook k ds = some d ∧ valueAt kvs k = some v ∧ Rep w prog F h v d := by
  induction ds generalizing kvs with
  | nil => rw [show kvs = [] from r.view]; exact .inl ⟨rfl, rfl⟩
  | cons p ds ih =>
    obtain ⟨v, vs, rfl, q, r⟩ := r.view
    rw [show klook k (p :: ds) = if p.1 = k then some p.2 else klook k ds from rfl]
    by_cases hk : p.1 = k
    · rw [if_pos hk]; exact .inr ⟨p.2, v, rfl, by simp [valueAt, hk], q⟩
    · rw [if_neg hk, show valueAt ((p.1, v) :: vs) k = valueAt vs k by simp [valueAt, hk]]; exact ih r
theorem hits_of {A : Around} {s : Shared} {kb : List (K × Value)} {db : List (K × D)} (rb : RepKs w prog F s.heap kb db) (hu : A.units + 4 < cLine) :
    ∀ {ka : List (K × Value)} {da : List (K × D)}, RepKs w prog F s.heap ka da → eqK da db = true → PySem.W.KeqHits A s kb ka (eqvk da db) := by
  intro ka da
  induction da generalizing ka with
  | nil => intro r _; rw [show ka = [] from r.view]; exact .nil
  | cons p da ih =>
    intro r he
    obtain ⟨v, vs, rfl, q, r⟩ := r.view
    have he' := he
    rw [eqK_cons, Bool.and_eq_true] at he'
    rw [eqvk_cons]
    rcases rb.find p.1 with ⟨h1, h2⟩ | ⟨d', v', h1, h2, h3⟩
    · rw [h1]; exact .miss h2
    · rw [h1] at he' ⊢
      exact .hit h2 (eqAt_plain 4 A q h3 he'.1 hu) (ih r he'.2)
theorem klook_self {ds : List (K × D)} (hn : (ds.map (·.1)).Nodup) {k : K} {d : D} (hm : (k, d) ∈ ds) : klook k ds = some d := by
  induction ds with
  | nil => exact nomatch hm
  | cons p ds ih =>
    rw [List.map_cons, List.nodup_cons] at hn
    rw [show klook k (p :: ds) = if p.1 = k then some p.2 else klook k ds from rfl]
    rcases List.mem_cons.mp hm with e | hm
    · rw [← e, if_pos rfl]
    · rw [if_neg fun e => hn.1 (List.mem_map.mpr ⟨(k, d), hm, e.symm⟩), ih hn.2 hm]
theorem eqvk_refl {ds : List (K × D)} (l : List (K × D)) : (∀ p ∈ l, p ∈ ds) → (ds.map (·.1)).Nodup → eqK l ds = true → eqvk l ds = true := by
  induction l with
  | nil => exact fun _ _ _ => rfl
  | cons p l ih =>
    intro hl hn he
    have e1 := klook_self hn (hl p (.head _))
    rw [eqK_cons, Bool.and_eq_true, e1] at he
    rw [eqvk_cons, e1, ih (fun p hp => hl p (.tail _ hp)) hn he.2, Bool.and_true]
    exact eqv_refl 4 p.2 he.1
theorem eqC_cases {d d' : D} (h : eqC d d' = true) : eqP 4 d d' = true ∨ ∃ x y, d = .dct x ∧ d' = .dct y ∧ eqK x y = true := by
  cases d with
  | dct x => cases d' <;> first | exact absurd (h : false = true) Bool.false_ne_true | exact .inr ⟨x, _, rfl, rfl, h⟩
  | _ => exact .inl h
theorem eqIn_dct {s : Shared} {A : Around} (hS : F sysModules) {a a' : Addr} {kvs kvs' : List (K × Value)} {ds ds' : List (K × D)} (hF : ¬ F a) (hF' : ¬ F a') (e : s.heap.DictOf (kind prog w) a kvs) (e' : s.heap.DictOf (kind prog w) a' kvs') (rk : RepKs w prog F s.heap kvs ds) (rk' : RepKs w prog F s.heap kvs' ds')
    (he' : eqK ds ds' = true) (hu : A.units + 10 < cLine) : EqIn prog w A s (.ref a) (.ref a') (eqv (.dct ds) (.dct ds')) := by
  have na : (a == sysModules) = false := beq_eq_false_iff_ne.mpr fun q => hF (q ▸ hS)
  have na' : (a' == sysModules) = false := beq_eq_false_iff_ne.mpr fun q => hF' (q ▸ hS)
  intro E Q hq
  unfold eqBool
  refine wpAny_holding ?_
  rw [eqv_dct] at hq
  by_cases haa : a = a'
  · subst haa
    have q : RepKs w prog F s.heap kvs ds' := DictOf_uniq e' e ▸ rk'
    have q := rk.uniq q
    subst q
    have hn : (ds.map (·.1)).Nodup := by
      obtain ⟨_, _, _, _, _, _, _, _, hn⟩ := e
      rw [← rk.keys]; exact hn
    rw [eqvk_refl ds (fun _ h => h) hn he', beq_self_eq_true] at hq
    rw [if_pos (by simp)]
    exact wpAny_bind (wpAny_rule (wpAny_pure hq))
  · rw [if_neg (by simpa using haa)]
    rw [← rk.length, ← rk'.length] at hq
    exact wpAny_bind (PySem.W.keq_eq na na' e e' (by (first | lia | omega)) (fun _ => hits_of rk' (by simp; (first | lia | omega)) rk he') (wpAny_truthy_bool hq))
theorem eqIn_C {s : Shared} {A : Around} (hS : F sysModules) {v v' : Value} {d d' : D} (r : Rep w prog F s.heap v d) (r' : Rep w prog F s.heap v' d') (he : eqC d d' = true) (hu : A.units + 10 < cLine) : EqIn prog w A s v v' (eqv d d') := by
  rcases eqC_cases he with e | ⟨x, y, rfl, rfl, e⟩
  · exact .of (eqAt_plain 4 A r r' e (by (first | lia | omega)))
  · obtain ⟨a, kvs, rfl, hF, ea, rk⟩ := r.view
    obtain ⟨a', kvs', rfl, hF', ea', rk'⟩ := r'.view
    exact eqIn_dct hS hF hF' ea ea' rk rk' e hu
inductive Ps (prog : Program) (w : World) (A : Around) (s : Shared) : List (Value × Value) → Bool → Prop
  | nil : Ps prog w A s [] true
  | cons {y x : Value} {e b : Bool} {r : List (Value × Value)} : EqIn prog w A s y x e → Ps prog w A s r b → Ps prog w A s ((y, x) :: r) (e && b)
theorem tuple_ne_in (l b : Addr) (xs ys : List Value) (n n2 : Nat) (dd dd2 : Option Addr) (sl sl2 : Array (Option Value)) (r : Bool) :
    MeetsIn prog w (Builtin.«tuple.__ne__» ⟨[.ref l, .ref b], []⟩)
      (fun A R s => s.heap.get? l = some { cls := .type "tuple", dict := dd, data := .seq xs.toArray n, slots := sl } ∧ s.heap.get? b = some { cls := .type "tuple", dict := dd2, data := .seq ys.toArray n2, slots := sl2 } ∧
        Ps prog w A.in1 s (xs.zip ys) r ∧ R (.ok (.ret (.bool (!(r && xs.length == ys.length))))) s) :=
  .of_wp fun A R s h => by
    obtain ⟨hp, g, d, tk, os⟩ := s; obtain ⟨hl, hb, he, h⟩ := h
    have f2 := AutoSeq1.sub_tuple_tuple
    wp_walk using wpAny_loadPart' hl, wpAny_loadPart' hb, wpAny_forIn_list _ (fun rest q s' => q.1 = none ∧ s' = ⟨hp, g, d, tk, os⟩ ∧ ∃ r', Ps prog w A.in1 ⟨hp, g, d, tk, os⟩ rest r' ∧
      R (.ok (.ret (.bool (!(r' && xs.length == ys.length))))) ⟨hp, g, d, tk, os⟩) _
    case turn =>
      rintro ⟨y, x⟩ rest q s' ⟨hq, rfl, r', hz, hR⟩
      cases hz with
      | @cons _ _ e r'' _ hy hr =>
        refine wpAny_bind (hy _ _ ?_)
        cases e with
        | true =>
          wp_walk
          exact ⟨rfl, rfl, r'', hr, by simpa using hR⟩
        | false =>
          wp_walk
          exact ⟨_, rfl, by simpa using hR⟩
    case fin =>
      rintro ⟨b1, b2⟩ s' ⟨hb', rfl, r', hz, hR⟩
      simp only at hb'
      subst hb'
      cases hz
      wp_walk
      exact ⟨_, rfl, by simpa [Builtin.Tuple.tupleCompareSizes, bne] using hR⟩
    case h =>
      exact ⟨rfl, rfl, r, by simpa using he, by simpa using h⟩
theorem ps_of {s : Shared} {A : Around} (hS : F sysModules) (hu : A.units + 10 < cLine) {vs : List Value} : ∀ {vs' : List Value} {ds ds' : List D}, Reps w prog F s.heap vs ds → Reps w prog F s.heap vs' ds' → all2 eqC ds ds' = true →
    ∃ r, Ps prog w A s (vs.zip vs') r ∧ (r && vs.length == vs'.length) = eqvs ds ds' := by
  induction vs with
  | nil =>
    intro vs' ds ds' r r' _
    rw [← r.nil_d]
    cases vs' with
    | nil => rw [← r'.nil_d]; exact ⟨true, .nil, rfl⟩
    | cons v' vs' => obtain ⟨d', ds', rfl, _⟩ := r'.cons_d; exact ⟨true, .nil, rfl⟩
  | cons v vs ih =>
    intro vs' ds ds' r r' h
    obtain ⟨d, ds, rfl, a, r⟩ := r.cons_d
    cases vs' with
    | nil => rw [← r'.nil_d]; exact ⟨true, .nil, rfl⟩
    | cons v' vs' =>
      obtain ⟨d', ds', rfl, a', r'⟩ := r'.cons_d
      obtain ⟨q, hq, e⟩ := ih r r' (all2_and h).2
      refine ⟨_, .cons (eqIn_C hS a a' (all2_and h).1 hu) hq, ?_⟩
      rw [eqvs_cons, ← e, Bool.and_assoc]
      congr 2
      exact Bool.eq_iff_iff.mpr (by rw [beq_iff_eq, beq_iff_eq, List.length_cons, List.length_cons, Nat.add_right_cancel_iff])
theorem ne_tup {s : Shared} {A : Around} {E : Value → Shared → Prop} {Q : Value → Shared → Prop} (hS : F sysModules) {v v' : Value} {ds ds' : List D} (r : Rep w prog F s.heap v (.tup ds)) (r' : Rep w prog F s.heap v' (.tup ds')) (he : all2 eqC ds ds' = true) (hu : A.units + 12 < cLine)
    (hq : Q (.bool (!eqv (.tup ds) (.tup ds'))) s) : wpAny (model prog w) A (compareOp .NotEq v v') Q E s := by
  obtain ⟨l, vs, rfl, hF, el, rs⟩ := r.view
  obtain ⟨l', vs', rfl, hF', el', rs'⟩ := r'.view
  obtain ⟨q, hp, e⟩ := ps_of (A := A.in1) hS (by simp; (first | lia | omega)) rs rs' he
  obtain ⟨⟨c, dd, da, sl⟩, el, hc, n, hd⟩ := el
  obtain ⟨⟨c', dd', da', sl'⟩, el', hc', n', hd'⟩ := el'
  simp only at hc hd hc' hd'
  subst hc hd hc' hd'
  rw [eqv_tup, ← e] at hq
  show wpAny _ _ (richCompare .NotEq _ _) _ _ _
  exact wpAny_richCompare_same_room (op := .NotEq) ⟨_, el, rfl⟩ ⟨_, el', rfl⟩ PySem.F.slot_tuple_ne
    (call_meetsIn PySem.F.slot_tuple_ne ⟨_, el, rfl⟩ PySem.F.entry_tuple_ne (PySem.F.args_tuple_ne_2 _ _) (tuple_ne_in l l' vs vs' n n' dd dd' sl sl' q)
      ⟨el, el', hp, show Value.bool _ ≠ Value.notImplemented ∧ Q (.bool _) s from ⟨(fun x => nomatch x), hq⟩⟩) (by (first | lia | omega))
end
end Mine
end
section
open PySem PySem.Calls PyProof.Rows
open PySem.SeqAt (EqAt RcAt RcNeAt)
namespace Mine
inductive Po (w : World) (prog : Program) (F : Addr → Prop) (s : Shared) (Q : D → Prop) (v : Value) (s' : Shared) : Prop
  | mk (d : D) (q : Q d) (ev : Evl s s') (r : Rep w prog F s'.heap v d) : Po w prog F s Q v s'
noncomputable abbrev PoB (s : Shared) (Q : Bool → Prop) : Bool → Shared → Prop := fun b s' => Q b ∧ Evl s s'
noncomputable abbrev PoV (s : Shared) (Q : Bool → Prop) : Value → Shared → Prop := fun v s' => ∃ b, v = .bool b ∧ Q b ∧ Evl s s'
noncomputable def Live (F : Addr → Prop) (s : Shared) : Prop := ∀ a, F a → ∃ o, s.heap.get? a = some o
section
variable {w : World} {prog : Program} {A : Around} {E : Value → Shared → Prop} {s : Shared} {F : Addr → Prop}
theorem Live.step {s' : Shared} (l : Live F s) (x : Evl s s') : Live F s' := fun a h => let ⟨o, e⟩ := l a h; ⟨o, x.heap a o id e⟩
theorem Live.new (l : Live F s) : ¬ F s.heap.objs.size := fun h => by
  obtain ⟨o, e⟩ := l _ h
  exact absurd (Heap.lt_size e) (Nat.lt_irrefl _)
theorem Evl.push (s : Shared) (o : Obj) : Evl s { s with heap := s.heap.push o } := Evl.of (tk := s.toks) (Ext.push _ _)
theorem LstAt.new (h : Heap) (vs : List Value) : LstAt (h.push { cls := .type "list", data := .seq vs.toArray }) h.objs.size vs := ⟨0, Heap.get?_push_size _ rfl⟩
theorem TupAt.new (h : Heap) (vs : List Value) : TupAt (h.push { cls := .type "tuple", data := .seq vs.toArray }) h.objs.size vs := ⟨0, Heap.get?_push_size _ rfl⟩
noncomputable def Bop.op : Bop → Operator
  | .add => .Add | .sub => .Sub | .mul => .Mult | .fdiv => .FloorDiv | .mod => .Mod | .pow => .Pow | .band => .BitAnd
theorem po_int {Q : D → Prop} {i : Int} {t : Tok} {s' : Shared} (h : Q (.int i)) (x : Evl s s') : Po w prog F s Q (.int i t) s' := ⟨_, h, x, .int _ _⟩
theorem po_lst {Q : D → Prop} {vs : List Value} {ds : List D} (l : Live F s) (r : Reps w prog F s.heap vs ds) (h : Q (.lst ds)) :
    Po w prog F s Q (.ref s.heap.objs.size) { s with heap := s.heap.push { cls := .type "list", data := .seq vs.toArray } } :=
  ⟨_, h, Evl.push _ _, .lst l.new (LstAt.new _ _).list (r.ext (Ext.push _ _))⟩
theorem smallI_bits {i : Int} (h : smallI i) : Builtin.Int.intBits i ≤ 64 := by
  unfold smallI at h
  unfold Builtin.Int.intBits
  by_cases h0 : i = 0
  · subst h0; decide
  · have hb : (i == 0) = false := by simpa using h0
    rw [hb]
    simp only [Bool.false_eq_true, if_false]
    have : i.natAbs.log2 < 64 := (Nat.log2_lt (by (first | lia | omega))).mpr h
    (first | lia | omega)
theorem foldl_append_flatten {α : Type} : ∀ (xs : List (List α)) (acc : Array α), List.foldl (fun x1 x2 => x1 ++ x2) acc (xs.map List.toArray) = acc ++ xs.flatten.toArray
  | [], acc => by simp
  | x :: xs, acc => by simp [foldl_append_flatten xs, Array.append_assoc]
theorem mul_list0 {l : Addr} {vs : List Value} {x : Int} {u : Tok} {Q : Value → Shared → Prop}
    (hl : s.heap.IsList l vs.toArray)
    (hlo : 0 ≤ x) (hhi : x < 2 ^ 63) (hsz : vs.length * x.toNat ≤ 2 ^ 24)
    (h : Q (.ref s.heap.objs.size) { s with heap := s.heap.push { cls := .type "list", data := .seq (List.replicate x.toNat vs).flatten.toArray } }) :
    wpAny (model prog w) A (binaryOp .Mult (.ref l) (.int x u)) Q E s := by
  obtain ⟨⟨cls, d, data, sl⟩, hl, hcl, k, hd⟩ := hl
  simp only at hcl hd
  subst hcl hd
  refine wpAny_binaryOp_repeat_ref (T := "list") (U := "int") (by decide) ⟨_, hl, rfl⟩ (fun s' => typeIs_int s' x u) noFill_list_mul PySem.F.fills_int_mul PySem.F.slot_int_rmul repeat_list PySem.F.slot_int_index.lookup
    (call_meets PySem.F.slot_int_rmul (typeIs_int s x u) PySem.F.entry_int_rmul (PySem.F.args_int_rmul_2 _ _) (lm_int_rmul_list_any x u l vs.toArray k d sl)
      ⟨hl, rfl, ⟨_, hl, rfl⟩, call_meets PySem.F.slot_list_mul ⟨_, hl, rfl⟩ PySem.F.entry_list_mul (PySem.F.args_list_mul_2 _ _)
        (lm_list_mul_any l vs.toArray k d sl x u (by simp [Builtin.List.listFitsIndex]; (first | lia | omega)) (by simp; (first | lia | omega)) (by simp [Builtin.List.listTooLong, sizeLine]; (first | lia | omega)))
        ⟨hl, ?_⟩⟩)
  have e : (List.foldl (fun x1 x2 => x1 ++ x2) #[] (List.replicate (if vs.toArray.isEmpty = true then 0 else x.toNat) vs.toArray)) = (List.replicate x.toNat vs).flatten.toArray := by
    by_cases hv : vs = []
    · subst hv; simp
    · have : vs.toArray.isEmpty = false := by cases vs <;> simp_all
      rw [this]
      simp only [Bool.false_eq_true, if_false]
      have := foldl_append_flatten (List.replicate x.toNat vs) #[]
      rw [List.map_replicate] at this
      simpa using this
  rw [e]
  exact h
theorem add_list0 {l b : Addr} {vs vs' : List Value} {Q : Value → Shared → Prop} (hl : s.heap.IsList l vs.toArray) (hb : s.heap.IsList b vs'.toArray) (hsz : vs.length + vs'.length ≤ sizeLine)
    (h : Q (.ref s.heap.objs.size) { s with heap := s.heap.push { cls := .type "list", data := .seq (vs ++ vs').toArray } }) : wpAny (model prog w) A (binaryOp .Add (.ref l) (.ref b)) Q E s := by
  obtain ⟨⟨cls, dd, data, sl⟩, ho, hc, n, hd⟩ := hl
  obtain ⟨⟨cls2, dd2, data2, sl2⟩, ho2, hc2, n2, hd2⟩ := hb
  simp only at hc hd hc2 hd2
  subst hc hd hc2 hd2
  have e : vs.toArray ++ vs'.toArray = (vs ++ vs').toArray := by simp
  refine concat_meets ⟨_, ho, rfl⟩ ⟨_, ho2, rfl⟩ noFill_list_add seq_list_add PySem.F.slot_list_add PySem.F.entry_list_add (PySem.F.args_list_add_2 _ _) (list_addW l b vs.toArray vs'.toArray n n2 dd dd2 sl sl2 (by simpa using hsz)) ⟨ho, ho2, ?_⟩
  rw [e]
  exact h
theorem Reps.repl {vs : List Value} {ds : List D} (r : Reps w prog F s.heap vs ds) (k : Nat) : Reps w prog F s.heap (List.replicate k vs).flatten (List.replicate k ds).flatten := by
  induction k with
  | zero => exact .nil
  | succ k ih => rw [List.replicate_succ, List.replicate_succ, List.flatten_cons, List.flatten_cons]; exact r.append ih
theorem onI2 {a b : Value} {da db : D} {k : Int → Int → Prop} (ra : Rep w prog F s.heap a da) (rb : Rep w prog F s.heap b db) (hq : onI da fun x => onI db fun y => k x y) : ∃ x t y u, a = .int x t ∧ b = .int y u ∧ k x y := by
  obtain ⟨x, rfl, h1⟩ := onI_inv hq
  obtain ⟨y, rfl, h2⟩ := onI_inv h1
  obtain ⟨t, rfl⟩ := ra.view
  obtain ⟨u, rfl⟩ := rb.view
  exact ⟨x, t, y, u, rfl, rfl, h2⟩
theorem bin_add {a b : Value} {da db : D} {Q : D → Prop} (l : Live F s) (ra : Rep w prog F s.heap a da) (rb : Rep w prog F s.heap b db) (hq : binW .add da db Q) :
    wpAny (model prog w) A (binaryOp .Add a b) (Po w prog F s Q) E s := by
  rcases onIL_inv hq with ⟨x, rfl, h1⟩ | ⟨xs, rfl, h1⟩
  · obtain ⟨x, t, y, u, rfl, rfl, hq⟩ := onI2 (k := fun x y => Q (.int (x + y))) ra rb h1
    exact PyProof.Rows.add_int (po_int hq Evl.toks)
  · obtain ⟨ys, rfl, h, hq⟩ := onL_inv h1
    obtain ⟨p, vs, rfl, _, e, r⟩ := ra.view
    obtain ⟨p', vs', rfl, _, e', r'⟩ := rb.view
    refine add_list0 e e' ?_ (po_lst l (r.append r') hq)
    unfold fits at h
    rw [sizeLine_eq, r.length, r'.length]; (first | lia | omega)
theorem bin_mul {a b : Value} {da db : D} {Q : D → Prop} (l : Live F s) (ra : Rep w prog F s.heap a da) (rb : Rep w prog F s.heap b db) (hq : binW .mul da db Q) :
    wpAny (model prog w) A (binaryOp .Mult a b) (Po w prog F s Q) E s := by
  rcases onIL_inv hq with ⟨x, rfl, h1⟩ | ⟨xs, rfl, h1⟩
  · obtain ⟨x, t, y, u, rfl, rfl, h, hq⟩ := onI2 (k := fun x y => (smallI x ∨ smallI y) ∧ Q (.int (x * y))) ra rb h1
    exact PyProof.Rows.mul_int (po_int hq Evl.toks) (h.elim (fun h => .of_left (smallI_bits h)) fun h => .of_right (smallI_bits h))
  · obtain ⟨y, rfl, ⟨h0, h1, h2⟩, hq⟩ := onI_inv h1
    obtain ⟨p, vs, rfl, _, e, r⟩ := ra.view
    obtain ⟨u, rfl⟩ := rb.view
    exact mul_list0 e h0 (by (first | lia | omega)) (by rw [r.length]; unfold fits at h2; (first | lia | omega)) (po_lst l (r.repl _) hq)
theorem bin_sound {op : Bop} {a b : Value} {da db : D} {Q : D → Prop} (l : Live F s) (ra : Rep w prog F s.heap a da) (rb : Rep w prog F s.heap b db) (hq : binW op da db Q) :
    wpAny (model prog w) A (binaryOp op.op a b) (Po w prog F s Q) E s := by
  cases op with
  | add => exact bin_add l ra rb hq
  | mul => exact bin_mul l ra rb hq
  | sub =>
    obtain ⟨x, t, y, u, rfl, rfl, hq⟩ := onI2 (k := fun x y => Q (.int (x - y))) ra rb hq
    exact PyProof.Rows.sub_int (po_int hq Evl.toks)
  | fdiv =>
    obtain ⟨x, t, y, u, rfl, rfl, hq⟩ := onI2 ra rb hq
    exact PyProof.Rows.floordiv_int hq.1.1 (po_int hq.2 Evl.toks) (.inl (PyProof.noPylong_small hq.1.2))
  | mod =>
    obtain ⟨x, t, y, u, rfl, rfl, hq⟩ := onI2 ra rb hq
    exact PyProof.Rows.mod_int hq.1 (po_int hq.2 Evl.toks)
  | pow =>
    obtain ⟨x, t, y, u, rfl, rfl, hq⟩ := onI2 ra rb hq
    exact PyProof.Rows.pow_int_small hq.1.1 hq.1.2.1 hq.1.2.2 (po_int hq.2 Evl.toks)
  | band =>
    obtain ⟨x, t, y, u, rfl, rfl, hq⟩ := onI2 ra rb hq
    exact PyProof.Rows.and_int (po_int hq Evl.toks)
theorem iop_sound {op : Bop} {a b : Value} {da db : D} {Q : D → Prop} (ra : Rep w prog F s.heap a da) (rb : Rep w prog F s.heap b db) (hq : iopW op da db Q) :
    wpAny (model prog w) A (inplaceOp op.op a b) (Po w prog F s Q) E s := by
  cases op with
  | add =>
    obtain ⟨x, t, y, u, rfl, rfl, hq⟩ := onI2 ra rb hq
    exact PyProof.Rows.iadd_int (po_int hq Evl.toks)
  | sub =>
    obtain ⟨x, t, y, u, rfl, rfl, hq⟩ := onI2 ra rb hq
    exact PyProof.Rows.isub_int (po_int hq Evl.toks)
  | fdiv =>
    obtain ⟨x, t, y, u, rfl, rfl, hq⟩ := onI2 ra rb hq
    exact PyProof.Rows.ifloordiv_int hq.1.1 (po_int hq.2 Evl.toks) (.inl (PyProof.noPylong_small hq.1.2))
  | mul => exact hq.elim
  | mod => exact hq.elim
  | pow => exact hq.elim
  | band => exact hq.elim
theorem truthW_inv {d : D} {Q : Bool → Prop} (hq : truthW d Q) : ∃ b, d = .bool b ∧ Q b := by
  cases d <;> first | exact ⟨_, rfl, hq⟩ | exact hq.elim
theorem truth_sound {v : Value} {d : D} {Q : Bool → Prop} (r : Rep w prog F s.heap v d) (hq : truthW d Q) : wpAny (model prog w) A (truthy v) (PoB s Q) E s := by
  obtain ⟨b, rfl, h1⟩ := truthW_inv hq
  rw [show v = .bool b from r.view]
  exact wpAny_truthy_bool ⟨h1, .refl _ _⟩
end
end Mine
end
section
open PySem PySem.Calls PyProof.Rows
open PySem.SeqAt (EqAt RcAt RcNeAt)
namespace Mine
section
variable {w : World} {prog : Program} {A : Around} {E : Value → Shared → Prop} {s : Shared} {F : Addr → Prop}
noncomputable def Cop.op : Cop → CmpOp
  | .eq => .Eq | .ne => .NotEq | .lt => .Lt | .le => .LtE | .gt => .Gt | .ge => .GtE | .isin => .In | .notin => .NotIn | .isnone => .Is
theorem pov {Q : Bool → Prop} {b : Bool} {s' : Shared} (h : Q b) (x : Evl s s') : PoV s Q (.bool b) s' := ⟨b, rfl, h, x⟩
theorem rcAt_scal {v v' : Value} {d d' : D} (r : Rep w prog F s.heap v d) (r' : Rep w prog F s.heap v' d') (hs : scal d = true) (hs' : scal d' = true) : RcAt A s v v' (eqv d d') :=
  scal_pairs (P := RcAt A s) RcAt.none_none RcAt.none_bool RcAt.none_int RcAt.none_str RcAt.bool_none RcAt.bool_bool RcAt.bool_int RcAt.bool_str RcAt.int_none RcAt.int_bool RcAt.int_int RcAt.int_str RcAt.str_none RcAt.str_bool RcAt.str_int RcAt.str_str r r' hs hs'
theorem rcNeAt_scal {v v' : Value} {d d' : D} (r : Rep w prog F s.heap v d) (r' : Rep w prog F s.heap v' d') (hs : scal d = true) (hs' : scal d' = true) : RcNeAt A s v v' (!eqv d d') :=
  scal_pairs (P := fun a b c => RcNeAt A s a b (!c)) RcNeAt.none_none RcNeAt.none_bool RcNeAt.none_int RcNeAt.none_str RcNeAt.bool_none RcNeAt.bool_bool RcNeAt.bool_int RcNeAt.bool_str RcNeAt.int_none RcNeAt.int_bool RcNeAt.int_int RcNeAt.int_str RcNeAt.str_none RcNeAt.str_bool RcNeAt.str_int RcNeAt.str_str r r' hs hs'
theorem rcAt_plain {n : Nat} {v v' : Value} {d d' : D} (r : Rep w prog F s.heap v d) (r' : Rep w prog F s.heap v' d') (h : eqP n d d' = true) (hu : A.units + n < cLine) : RcAt A s v v' (eqv d d') := by
  rcases eqP_cases h with ⟨h1, h2⟩ | ⟨m, a, b, rfl, ha, ⟨rfl, rfl⟩ | ⟨rfl, rfl⟩⟩
  · exact rcAt_scal r r' h1 h2
  · obtain ⟨l, vs, rfl, _, el, rs⟩ := r.view
    obtain ⟨l', vs', rfl, _, el', rs'⟩ := r'.view
    have hi := items_at (A := A.in1) (fun q q' e => eqAt_plain m A.in1 q q' e (by simp; (first | lia | omega))) rs rs' ha
    rw [eqv_lst]
    by_cases hsz : vs.length = vs'.length
    · rw [← eqvs_same (by rw [← rs.length, ← rs'.length]; exact hsz), ← rs.length]
      have := RcAt.lists el el' (by simpa using hsz) (by (first | lia | omega)) hi
      simpa using this
    · rw [eqvs_diff (by rw [← rs.length, ← rs'.length]; exact hsz)]
      exact RcAt.lists_lengths el el' (by simpa using hsz) (by (first | lia | omega))
  · obtain ⟨l, vs, rfl, _, el, rs⟩ := r.view
    obtain ⟨l', vs', rfl, _, el', rs'⟩ := r'.view
    have hi := items_at (A := A.in1) (fun q q' e => eqAt_plain m A.in1 q q' e (by simp; (first | lia | omega))) rs rs' ha
    rw [eqv_tup, ← eqvs_range, ← rs.length, ← rs'.length]
    have := RcAt.tuples el el' (by (first | lia | omega)) hi
    simpa using this
theorem rcNeAt_plain {n : Nat} {v v' : Value} {d d' : D} (r : Rep w prog F s.heap v d) (r' : Rep w prog F s.heap v' d') (h : eqP n d d' = true) (hu : A.units + n < cLine) : RcNeAt A s v v' (!eqv d d') := by
  rcases eqP_cases h with ⟨h1, h2⟩ | ⟨m, a, b, rfl, ha, ⟨rfl, rfl⟩ | ⟨rfl, rfl⟩⟩
  · exact rcNeAt_scal r r' h1 h2
  · obtain ⟨l, vs, rfl, _, el, rs⟩ := r.view
    obtain ⟨l', vs', rfl, _, el', rs'⟩ := r'.view
    have hi := items_at (A := A.in1) (fun q q' e => eqAt_plain m A.in1 q q' e (by simp; (first | lia | omega))) rs rs' ha
    rw [eqv_lst]
    by_cases hsz : vs.length = vs'.length
    · rw [← eqvs_same (by rw [← rs.length, ← rs'.length]; exact hsz), ← rs.length]
      have := RcNeAt.lists el el' (by simpa using hsz) (by (first | lia | omega)) hi
      simpa using this
    · rw [eqvs_diff (by rw [← rs.length, ← rs'.length]; exact hsz)]
      exact RcNeAt.lists_lengths el el' (by simpa using hsz) (by (first | lia | omega))
  · obtain ⟨l, vs, rfl, _, el, rs⟩ := r.view
    obtain ⟨l', vs', rfl, _, el', rs'⟩ := r'.view
    have hi := items_at (A := A.in1) (fun q q' e => eqAt_plain m A.in1 q q' e (by simp; (first | lia | omega))) rs rs' ha
    rw [eqv_tup, ← eqvs_range, ← rs.length, ← rs'.length]
    have := RcNeAt.tuples el el' (by (first | lia | omega)) hi
    simpa using this
theorem key_is {v : Value} {d : D} {k : K} (r : Rep w prog F s.heap v d) (hk : d.key? = some k) : (kind prog w).is k v = true := by
  cases d with
  | int i => obtain ⟨t, rfl⟩ := r.view; cases hk; exact beq_self_eq_true i
  | str x => obtain ⟨t, rfl⟩ := r.view; cases hk; exact beq_self_eq_true x
  | _ => exact nomatch hk
theorem look_isSome {h : Heap} {kvs : List (K × Value)} {ds : List (K × D)} (r : RepKs w prog F h kvs ds) (k : K) : (valueAt kvs k).isSome = (klook k ds).isSome := by
  rcases r.find k with ⟨h1, h2⟩ | ⟨d, v, h1, h2, _⟩ <;> rw [h1, h2] <;> rfl
noncomputable def eqTo (w : World) (prog : Program) (F : Addr → Prop) (h : Heap) (dx : D) (y : Value) : Bool :=
  @decide (∃ d, Rep w prog F h y d ∧ eqv d dx = true) (Classical.propDecidable _)
theorem eqTo_is {h : Heap} {dx d : D} {y : Value} (r : Rep w prog F h y d) : eqTo w prog F h dx y = eqv d dx := by
  unfold eqTo
  cases e : eqv d dx with
  | true => exact @decide_eq_true _ (Classical.propDecidable _) ⟨d, r, e⟩
  | false => exact @decide_eq_false _ (Classical.propDecidable _) fun ⟨d', r', e'⟩ => by rw [r.uniq r', e'] at e; cases e
theorem any_eqTo {h : Heap} {dx : D} {vs : List Value} : ∀ {ds : List D}, Reps w prog F h vs ds → vs.any (eqTo w prog F h dx) = ds.any fun y => eqv y dx := by
  induction vs with
  | nil => intro ds r; rw [← r.nil_d]; rfl
  | cons v vs ih => intro ds r; obtain ⟨d, ds, rfl, a, r⟩ := r.cons_d; rw [List.any_cons, List.any_cons, eqTo_is a, ih r]
theorem mem_rep {h : Heap} {vs : List Value} {ds : List D} (r : Reps w prog F h vs ds) {y : Value} (hy : y ∈ vs) : ∃ d ∈ ds, Rep w prog F h y d := by
  obtain ⟨i, hi⟩ := List.getElem?_of_mem hy
  obtain ⟨d, hd, q⟩ := r.get' hi
  exact ⟨d, List.mem_of_getElem? hd, q⟩
theorem eqOk_cases {a b : D} (h : eqOk a b = true) : eqP 4 a b = true ∨ ∃ x y, a = .tup x ∧ b = .tup y ∧ all2 eqC x y = true := by
  cases a with
  | tup x => cases b <;> first | exact absurd (h : false = true) Bool.false_ne_true | exact .inr ⟨x, _, rfl, rfl, h⟩
  | _ => exact .inl h
theorem is_none_sound {a : Value} {da : D} {Q : Bool → Prop} (ra : Rep w prog F s.heap a da) (hq : Q (isNoneD da)) : wpAny (model prog w) A (compareOp .Is a .none) (PoV s Q) E s := by
  refine PySem.is_none (pov ?_ (.refl _ _))
  cases ra <;> exact hq
theorem in_items (hu : A.units + 20 < cLine) {a : Value} {da : D} (ra : Rep w prog F s.heap a da) {vs : List Value} {ds : List D} (r : Reps w prog F s.heap vs ds) (he : (ds.all fun y => eqP 4 y da) = true) : ∀ y ∈ vs.toArray, EqAt A.in1 s y a (eqTo w prog F s.heap da y) := by
  intro y hy
  obtain ⟨d, hd, q⟩ := mem_rep r (List.mem_toArray.mp hy)
  rw [eqTo_is q]
  exact eqAt_plain 4 A.in1 q ra (List.all_eq_true.mp he d hd) (by simp; (first | lia | omega))
theorem in_sound {a b : Value} {da db : D} {Q : Bool → Prop} (hS : F sysModules) (hu : A.units + 20 < cLine) (ra : Rep w prog F s.heap a da) (rb : Rep w prog F s.heap b db) (hq : inW da db Q) : wpAny (model prog w) A (compareOp .In a b) (PoV s Q) E s := by
  rcases inW_inv hq with ⟨ys, rfl | rfl, h1, h2⟩ | ⟨kvs, k, rfl, h1, h2⟩
  · obtain ⟨l, vs, rfl, _, e, r⟩ := rb.view
    refine SeqAt.in_listAt (eqTo w prog F s.heap da) e (in_items hu ra r h1) (pov ?_ (.refl _ _))
    rw [List.any_toArray, any_eqTo r]; exact h2
  · obtain ⟨l, vs, rfl, _, e, r⟩ := rb.view
    refine SeqAt.in_tupleAt (eqTo w prog F s.heap da) e (in_items hu ra r h1) (pov ?_ (.refl _ _))
    rw [List.any_toArray, any_eqTo r]; exact h2
  · obtain ⟨l, vs, rfl, hF, e, r⟩ := rb.view
    exact wpAny_in_of (key_is ra h1) (beq_eq_false_iff_ne.mpr fun q => hF (q ▸ hS)) e.mapOf (pov (by rw [look_isSome r]; exact h2) Evl.toks)
theorem notin_sound {a b : Value} {da db : D} {Q : Bool → Prop} (hS : F sysModules) (hu : A.units + 20 < cLine) (ra : Rep w prog F s.heap a da) (rb : Rep w prog F s.heap b db) (hq : inW da db fun c => Q (!c)) : wpAny (model prog w) A (compareOp .NotIn a b) (PoV s Q) E s := by
  rcases inW_inv hq with ⟨ys, rfl | rfl, h1, h2⟩ | ⟨kvs, k, rfl, h1, h2⟩
  · obtain ⟨l, vs, rfl, _, e, r⟩ := rb.view
    refine SeqAt.notIn_listAt (eqTo w prog F s.heap da) e (in_items hu ra r h1) (pov ?_ (.refl _ _))
    rw [List.any_toArray, any_eqTo r]; exact h2
  · obtain ⟨l, vs, rfl, _, e, r⟩ := rb.view
    refine SeqAt.notIn_tupleAt (eqTo w prog F s.heap da) e (in_items hu ra r h1) (pov ?_ (.refl _ _))
    rw [List.any_toArray, any_eqTo r]; exact h2
  · obtain ⟨l, vs, rfl, hF, e, r⟩ := rb.view
    exact wpAny_notIn_of (key_is ra h1) (beq_eq_false_iff_ne.mpr fun q => hF (q ▸ hS)) e.mapOf (pov (by rw [look_isSome r]; exact h2) Evl.toks)
theorem cmp_sound {op : Cop} {a b : Value} {da db : D} {Q : Bool → Prop} (hS : F sysModules) (hu : A.units + 20 < cLine) (ra : Rep w prog F s.heap a da) (rb : Rep w prog F s.heap b db) (hi : op = .isnone → b = .none) (hq : cmpW op da db Q) :
    wpAny (model prog w) A (compareOp op.op a b) (PoV s Q) E s := by
  cases op with
  | eq => exact rcAt_plain ra rb hq.1 (by (first | lia | omega)) prog w E _ (pov hq.2 (.refl _ _))
  | ne =>
    rcases eqOk_cases hq.1 with h | ⟨x, y, rfl, rfl, h⟩
    · exact rcNeAt_plain ra rb h (by (first | lia | omega)) prog w E _ (pov hq.2 (.refl _ _))
    · exact ne_tup hS ra rb h (by (first | lia | omega)) (pov hq.2 (.refl _ _))
  | lt =>
    obtain ⟨x, t, y, u, rfl, rfl, h⟩ := onI2 (k := fun x y => Q (decide (x < y))) ra rb hq
    exact PyProof.Rows.lt_int (pov h (.refl _ _))
  | le =>
    obtain ⟨x, t, y, u, rfl, rfl, h⟩ := onI2 (k := fun x y => Q (decide (x ≤ y))) ra rb hq
    exact PyProof.Rows.le_int (pov h (.refl _ _))
  | gt =>
    obtain ⟨x, t, y, u, rfl, rfl, h⟩ := onI2 (k := fun x y => Q (decide (x > y))) ra rb hq
    exact PyProof.Rows.gt_int (pov h (.refl _ _))
  | ge =>
    obtain ⟨x, t, y, u, rfl, rfl, h⟩ := onI2 (k := fun x y => Q (decide (x ≥ y))) ra rb hq
    exact PyProof.Rows.ge_int (pov h (.refl _ _))
  | isnone => rw [hi rfl]; exact is_none_sound ra hq
  | isin => exact in_sound hS hu ra rb hq
  | notin => exact notin_sound hS hu ra rb hq
theorem idx_inv {n : Nat} {i : Int} {j : Nat} (h : idx n i = some j) : i.natAbs < 1152921504606846976 ∧ ((0 ≤ i ∧ i.toNat < n ∧ j = i.toNat) ∨ (i < 0 ∧ (-i).toNat ≤ n ∧ j = n - (-i).toNat)) := by
  unfold idx at h
  by_cases hs : i.natAbs < 1152921504606846976
  · rw [if_pos hs] at h
    refine ⟨hs, ?_⟩
    by_cases h0 : 0 ≤ i
    · rw [if_pos h0] at h
      by_cases h1 : i.toNat < n
      · rw [if_pos h1] at h; exact .inl ⟨h0, h1, (Option.some.inj h).symm⟩
      · rw [if_neg h1] at h; exact nomatch h
    · rw [if_neg h0] at h
      by_cases h1 : (-i).toNat ≤ n
      · rw [if_pos h1] at h; exact .inr ⟨Int.not_le.mp h0, h1, (Option.some.inj h).symm⟩
      · rw [if_neg h1] at h; exact nomatch h
  · rw [if_neg hs] at h; exact nomatch h
theorem neg_arith {n : Nat} {i : Int} (h0 : i < 0) (h1 : (-i).toNat ≤ n) : 0 ≤ i + n ∧ i + n < n ∧ (i + (n : Int)).toNat = n - (-i).toNat := by (first | lia | omega)
theorem idx_seqIndex {n : Nat} {i : Int} {j : Nat} (h : idx n i = some j) : seqIndex? i n = some j ∧ i.natAbs < 1152921504606846976 := by
  obtain ⟨hs, ⟨h0, h1, rfl⟩ | ⟨h0, h1, rfl⟩⟩ := idx_inv h
  · exact ⟨seqIndex_of h0 (by (first | lia | omega)), hs⟩
  · have q := neg_arith h0 h1
    rw [PySem.seqIndex_neg (k := i) (n := n) (by (first | lia | omega)) (by (first | lia | omega)), q.2.2]; exact ⟨rfl, hs⟩
theorem item_list {l : Addr} {vs : List Value} {i : Int} {u : Tok} {j : Nat} {x : Value} {Q : Value → Shared → Prop} (hl : s.heap.IsList l vs.toArray) (h : idx vs.length i = some j) (hx : vs[j]? = some x) (hq : Q x s) :
    wpAny (model prog w) A (getItem (.ref l) (.int i u)) Q E s := by
  obtain ⟨hs, ⟨h0, h1, rfl⟩ | ⟨h0, h1, rfl⟩⟩ := idx_inv h
  · exact wpAny_getItem_list hl h0 (by (first | lia | omega)) (by simpa using hx) hq
  · have q := neg_arith h0 h1
    refine wpAny_getItem_list_neg hl h0 (by rw [List.size_toArray]; (first | lia | omega)) (by (first | lia | omega)) ?_ hq
    rw [List.size_toArray, q.2.2]
    simpa using hx
theorem sub_sound {a b : Value} {da db : D} {Q : D → Prop} (ra : Rep w prog F s.heap a da) (rb : Rep w prog F s.heap b db) (hq : subW da db Q) :
    wpAny (model prog w) A (getItem a b) (Po w prog F s Q) E s := by
  rcases subW_inv hq with ⟨xs, i, hx, rfl, d, hd, h⟩ | ⟨kvs, rfl, k, d, hk, hl, h⟩
  · obtain ⟨j, hj, hd⟩ := Option.bind_eq_some_iff.mp hd
    obtain ⟨u, rfl⟩ := rb.view
    rcases hx with rfl | rfl
    · obtain ⟨l, vs, rfl, _, e, r⟩ := ra.view
      rw [← r.length] at hj
      obtain ⟨v, hv, q⟩ := r.get hd
      exact item_list e hj hv ⟨d, h, .refl _ _, q⟩
    · obtain ⟨l, vs, rfl, _, e, r⟩ := ra.view
      rw [← r.length] at hj
      obtain ⟨v, hv, q⟩ := r.get hd
      have := idx_seqIndex hj
      exact PyProof.Rows.getItem_tuple e (by (first | lia | omega)) (by (first | lia | omega)) (by simpa using this.1) (by simpa using hv) ⟨d, h, .refl _ _, q⟩
  · obtain ⟨l, vs, rfl, _, e, r⟩ := ra.view
    rcases r.find k with ⟨h1, _⟩ | ⟨d', v, h1, h2, q⟩
    · rw [h1] at hl; exact nomatch hl
    · rw [h1] at hl; exact wpAny_getItem_of (key_is rb hk) e.mapOf h2 ⟨d, h, Evl.toks, Option.some.inj hl ▸ q⟩
theorem fits_line {vs : List Value} {ds : List D} (r : Reps w prog F s.heap vs ds) (h : fits ds.length) : vs.toArray.size ≤ sizeLine := by
  unfold fits at h
  rw [sizeLine_eq, List.size_toArray, r.length]; (first | lia | omega)
theorem cut_take {α : Type} (vs : List α) (k m : Nat) : List.take (min m vs.length - min k vs.length) (List.drop (min k vs.length) vs) = (vs.take m).drop k := by
  apply List.ext_getElem?
  intro i
  simp only [List.getElem?_take, List.getElem?_drop]
  by_cases h1 : i < min m vs.length - min k vs.length
  · rw [if_pos h1, if_pos (by (first | lia | omega))]
    congr 1; (first | lia | omega)
  · rw [if_neg h1]
    by_cases h2 : k + i < m
    · rw [if_pos h2, List.getElem?_eq_none (by (first | lia | omega))]
    · rw [if_neg h2]
theorem slice_sound {a lo hi : Value} {sl : Addr} {da dl dh : D} {Q : D → Prop} (l : Live F s) (ra : Rep w prog F s.heap a da) (rl : Rep w prog F s.heap lo dl) (rh : Rep w prog F s.heap hi dh) (hs : s.heap.IsSliceOf sl lo hi .none) (hq : sliceW da dl dh Q) :
    wpAny (model prog w) A (getItem a (.ref sl)) (Po w prog F s Q) E s := by
  obtain ⟨xs, rfl, h4⟩ := onL_inv hq
  obtain ⟨p, vs, rfl, _, e, r⟩ := ra.view
  rcases cutW_inv h4 with ⟨rfl, h1⟩ | ⟨i, rfl, h1⟩
  · rw [show lo = .none from rl.view] at hs
    rcases cutW_inv h1 with ⟨rfl, h2⟩ | ⟨j, rfl, ⟨h, h0⟩, h2⟩
    · exact h2.elim
    · obtain ⟨u, rfl⟩ := rh.view
      obtain ⟨k, rfl⟩ := Int.eq_ofNat_of_zero_le h0
      refine wpAny_getItem_list_slice e hs IsPart.none (IsPart.int _ _) IsPart.none (by simp) ?_ (hsz := fits_line r h)
      rw [slicePick_upto' vs.toArray k]
      exact po_lst l (r.take k) h2
  · obtain ⟨t, rfl⟩ := rl.view
    rcases cutW_inv h1 with ⟨rfl, ⟨h, h0⟩, h2⟩ | ⟨j, rfl, ⟨h, h0, h3⟩, h2⟩
    · rw [show hi = .none from rh.view] at hs
      obtain ⟨k, rfl⟩ := Int.eq_ofNat_of_zero_le h0
      refine wpAny_getItem_list_slice e hs (IsPart.int _ _) IsPart.none IsPart.none (by simp) ?_ (hsz := fits_line r h)
      rw [slicePick_from' vs.toArray k]
      exact po_lst l (r.drop k) h2
    · obtain ⟨u, rfl⟩ := rh.view
      obtain ⟨k, rfl⟩ := Int.eq_ofNat_of_zero_le h0
      obtain ⟨m, rfl⟩ := Int.eq_ofNat_of_zero_le h3
      refine wpAny_getItem_list_slice e hs (IsPart.int _ _) (IsPart.int _ _) IsPart.none (by simp) ?_ (hsz := fits_line r h)
      rw [slicePick_plain]
      simp only [Option.elim, clipAt_nat, List.size_toArray]
      rw [cut_take]
      exact po_lst l ((r.take m).drop k) h2
end
end Mine
end
section
open PySem PySem.Calls PyProof.Rows
namespace Mine
structure Itr (prog : Program) (w : World) (A : Around) (it : Value) (tp sf : Bool) (h₀ : Heap) (F X : Addr → Prop) (P : List D → Heap → Prop) : Prop where
  fresh : ∀ a, X a → h₀.get? a = none
  live : ∀ ds h, P ds h → ∀ a, X a → ∃ o, h.get? a = some o
  frame : ∀ ds h h', P ds h → (∀ a o, (X a ∨ (¬ F a ∧ ∃ o', h₀.get? a = some o')) → h.get? a = some o → h'.get? a = some o) → P ds h'
  next : ∀ (target : Expr) (d : D) (ds : List D) (s : Shared) (E E' : Value → Shared → Prop) (Q : Value → Shared → Prop), (tp = true → ∃ es k p, target = .Tuple es k p) → P (d :: ds) s.heap →
    (∀ v s', P ds s'.heap → Aft X s s' → Rep w prog (fun a => F a ∨ X a ∨ (h₀.get? a = none ∧ ∃ o, s.heap.get? a = some o)) s'.heap v d → Q v s') →
    wpAny (model prog w) A (pyNext it) (fun r s₁ => ∃ v, r = some v ∧ wpAny (model prog w) A (letOwnedTupleGo target it v) (fun _ s' => Q v s') E s₁) E' s
  done : ∀ (s : Shared) (E : Value → Shared → Prop) (Q : Option Value → Shared → Prop), P [] s.heap → (∀ s', Aft X s s' → Q none s') → wpAny (model prog w) A (pyNext it) Q E s
  self : sf = true → ∀ (ds : List D) (s : Shared) (E : Value → Shared → Prop) (Q : Value → Shared → Prop), P ds s.heap → Q it s → wpAny (model prog w) A (pyIter it) Q E s
noncomputable def owners : List String := ["enumerate", "zip", "dict_itemiterator", "dict_reverseitemiterator", "odict_iterator", "itertools.zip_longest", "itertools.pairwise"]
section
variable {prog : Program} {w : World} {A : Around} {E : Value → Shared → Prop} {s : Shared} {F : Addr → Prop}
theorem letOwned_other {target : Expr} {r : Addr} {o : Obj} {n : String} {v : Value} {Q : Unit → Shared → Prop} (ho : s.heap.get? r = some o) (hc : o.cls = .type n) (hn : owners.contains n = false) (h : Q () s) :
    wpAny (model prog w) A (letOwnedTupleGo target (.ref r) v) Q E s := by
  have main : wpAny (model prog w) A (do
      let (.ref r, .ref a) := (Value.ref r, v) | return
      let o ← load r
      match o.cls, o.data with
      | .type n, .fields vs =>
        if ["enumerate", "zip", "dict_itemiterator", "dict_reverseitemiterator", "odict_iterator", "itertools.zip_longest", "itertools.pairwise"].contains n && vs[0]? == some (rawInt a) then
          rule "for.unpacks-the-owned-tuple"
          updateField r 0 .none
      | _, _ => pure () : Sem Unit) Q E s := by
    cases v with
    | ref a =>
      refine wpAny_bind (wpAny_load ho ?_)
      rw [hc]
      split
      · rename_i n' vs e _
        cases e
        rw [show (["enumerate", "zip", "dict_itemiterator", "dict_reverseitemiterator", "odict_iterator", "itertools.zip_longest", "itertools.pairwise"].contains n) = false from hn]
        exact wpAny_pure h
      · exact wpAny_pure h
    | _ => exact wpAny_pure h
  cases target <;> first | exact wpAny_pure h | exact main
theorem Rep.fresh {h₀ h' : Heap} {X : Addr → Prop} {v : Value} {d : D} {h : Heap} (r : Rep w prog F h₀ v d) (hX : ∀ a, X a → h₀.get? a = Option.none) (k : ∀ a o, ¬ F a → h₀.get? a = some o → h'.get? a = some o) :
    Rep w prog (fun a => F a ∨ X a ∨ (h₀.get? a = Option.none ∧ ∃ o, h.get? a = some o)) h' v d :=
  r.go fun a o hF e => ⟨fun q => q.elim hF fun q => q.elim (fun q => by rw [hX a q] at e; cases e) (fun q => by rw [q.1] at e; cases e), k a o hF e⟩
theorem Itr.walks {I : Addr} {fp wr : List Addr} {n : Nat} {Pv : Nat → Value → Prop} {St : Nat → Heap → Prop} {h₀ : Heap} {ds : List D} {sf : Bool} (W : Walks prog w A I fp wr n Pv St) (hn : ds.length = n)
    (hP : ∀ i v, Pv i v → ∃ d, ds[i]? = some d ∧ Rep w prog F h₀ v d) (hfp : ∀ b ∈ fp, b ∈ wr ∨ (¬ F b ∧ ∃ o, h₀.get? b = some o)) (hwr : ∀ b ∈ wr, h₀.get? b = none)
    (hlive : ∀ i h, St i h → ∀ b ∈ wr, ∃ o, h.get? b = some o) (hcls : ∀ i h, St i h → ∃ o m, h.get? I = some o ∧ o.cls = .type m ∧ owners.contains m = false) :
    Itr prog w A (.ref I) false sf h₀ F (· ∈ wr) (fun xs h => ∃ i, xs = ds.drop i ∧ i ≤ n ∧ St i h ∧ ∀ a o, ¬ F a → h₀.get? a = some o → h.get? a = some o) where
  fresh := hwr
  live := fun xs h ⟨i, _, _, st, _⟩ a ha => hlive i h st a ha
  frame := fun xs h h' ⟨i, e1, e2, st, k⟩ hk => ⟨i, e1, e2, W.frame i h h' st fun b hb o e => hk b o (hfp b hb) e, fun a o hF e => hk a o (.inr ⟨hF, o, e⟩) (k a o hF e)⟩
  next := fun target d xs s E E' Q _ ⟨i, e1, e2, st, k⟩ hQ => by
    have hi : i < n := by
      apply Decidable.byContradiction; intro hc
      rw [List.drop_of_length_le (by (first | lia | omega))] at e1; cases e1
    refine W.item i s _ _ hi st fun v h' tk hv st' hk => ⟨v, rfl, ?_⟩
    refine cps fun gZ hZ => ?_
    obtain ⟨o, m, ho, hc, hm⟩ := hcls _ _ st'
    refine hZ ?_
    clear hZ gZ
    refine letOwned_other ho hc hm (hQ _ _ ?_ (Aft.of hk) ?_)
    · refine ⟨i + 1, ?_, hi, st', fun a o hF e => hk a o (fun q => ?_) (k a o hF e)⟩
      · rw [← List.tail_drop, ← e1]; rfl
      · rw [hwr a q] at e; cases e
    · refine cps fun gZ hZ => ?_
      obtain ⟨d', hd', r⟩ := hP i v hv
      refine hZ ?_
      clear hZ gZ
      have : d' = d := by
        have : (ds.drop i)[0]? = some d := by rw [← e1]; rfl
        rw [List.getElem?_drop] at this
        rw [Nat.add_zero, hd'] at this; cases this; rfl
      subst this
      exact r.fresh hwr fun a o hF e => hk a o (fun q => by rw [hwr a q] at e; cases e) (k a o hF e)
  done := fun s E Q ⟨i, e1, e2, st, k⟩ hQ => by
    have : n ≤ i := by
      have := congrArg List.length e1
      rw [List.length_drop] at this; simp at this; (first | lia | omega)
    have hi : i = n := by (first | lia | omega)
    subst hi
    exact W.done s Q E st fun h' tk hk => hQ _ (Aft.of hk)
  self := fun _ xs s E Q ⟨i, _, _, st, _⟩ h => W.self i s Q E st h
noncomputable def Made (prog : Program) (w : World) (A : Around) (F : Addr → Prop) (tp sf : Bool) (ds : List D) (h₀ : Heap) (it : Value) (s' : Shared) : Prop :=
  Ext h₀ s'.heap ∧ ∃ X P, Itr prog w A it tp sf h₀ F X P ∧ P ds s'.heap
theorem fresh_size {h : Heap} : h.get? h.objs.size = none := by
  cases e : h.get? h.objs.size with
  | none => rfl
  | some o => exact absurd (Heap.lt_size e) (Nat.lt_irrefl _)
theorem made_list (hh : A.handled = none) {l : Addr} {vs : List Value} {ds : List D} {Q : Value → Shared → Prop} (hF : ¬ F l) (hl : s.heap.IsList l vs.toArray) (r : Reps w prog F s.heap vs ds)
    (h : ∀ it s', Evl s s' → Made prog w A F false true ds s.heap it s' → Q it s') : wpAny (model prog w) A (pyIter (.ref l)) Q E s := by
  refine wpAny_pyIter_list hl (h _ _ (Evl.push _ _) ⟨Ext.push _ _, _, _, Itr.walks (ds := ds) (Walks.list hh s.heap.objs.size l ?_ vs.toArray) (by simp [r.length]) (fun i v hv => ?_) ?_ ?_ ?_ ?_, 0, ?_, Nat.zero_le _, ⟨?_, ?_⟩, ?_⟩)
  · obtain ⟨o, e, _⟩ := hl; exact Nat.ne_of_lt (Heap.lt_size e)
  · exact r.get' (by simpa using hv)
  · intro b hb
    simp at hb
    rcases hb with rfl | rfl
    · exact .inl (by simp)
    · obtain ⟨o, e, _⟩ := hl; exact .inr ⟨hF, o, e⟩
  · intro b hb; simp at hb; subst hb; exact fresh_size
  · intro i h st b hb; simp at hb; subst hb
    obtain ⟨⟨o, e, _⟩, _⟩ := st; exact ⟨o, e⟩
  · intro i h st
    refine cps fun gZ hZ => ?_
    obtain ⟨⟨o, e, hc, _⟩, _⟩ := st
    refine hZ ?_
    clear hZ gZ
    exact ⟨o, "list_iterator", e, hc, by decide⟩
  · rfl
  · exact ⟨_, Heap.get?_push_size _ rfl, rfl, rfl⟩
  · obtain ⟨o, e, x⟩ := hl; exact ⟨o, Heap.get?_push_of_some _ e, x⟩
  · exact fun a o _ e => Heap.get?_push_of_some _ e
theorem rangeL_length (c : Int) : ∀ (n : Nat) (a : Int), (rangeL a c n).length = n
  | 0, _ => rfl
  | n + 1, a => by rw [rangeL, List.length_cons, rangeL_length c n]
theorem rangeL_get (c : Int) : ∀ (n : Nat) (a : Int) (i : Nat), i < n → (rangeL a c n)[i]? = some (.int (a + i * c))
  | 0, _, _, h => absurd h (Nat.not_lt_zero _)
  | n + 1, a, 0, _ => by simp [rangeL]
  | n + 1, a, i + 1, h => by
    rw [rangeL, List.getElem?_cons_succ, rangeL_get c n (a + c) i (by (first | lia | omega))]
    congr 2
    rw [show ((i + 1 : Nat) : Int) = (i : Int) + 1 by (first | lia | omega), Int.add_mul]; (first | lia | omega)
theorem made_range (hh : A.handled = none) {r : Addr} {a b c : Int} {t u v : Tok} {n : Nat} {Q : Value → Shared → Prop} (hr : IsRange s.heap r a b c t u v) (hs : Builtin.Range.small a b c = true) (hn : Builtin.Range.rangeSize a b c = (n : Int))
    (h : ∀ it s', Evl s s' → Made prog w A F false true (rangeL a c n) s.heap it s' → Q it s') : wpAny (model prog w) A (pyIter (.ref r)) Q E s := by
  refine wpAny_pyIter_range hr hs (h _ _ (Evl.push _ _) ⟨Ext.push _ _, _, _, Itr.walks (ds := rangeL a c n) ((Walks.range hh s.heap.objs.size a c n).bound) (rangeL_length _ _ _) (fun i v hv => ?_) ?_ ?_ ?_ ?_, 0, ?_, Nat.zero_le _, ?_, ?_⟩)
  · refine cps fun gZ hZ => ?_
    obtain ⟨hi, t, rfl⟩ := hv
    refine hZ ?_
    clear hZ gZ
    exact ⟨_, rangeL_get c n a i hi, .int _ _⟩
  · intro b hb; exact .inl hb
  · intro b hb; simp at hb; subst hb; exact fresh_size
  · intro i h st b hb; simp at hb; subst hb; exact ⟨_, st⟩
  · intro i h st; exact ⟨_, "range_iterator", st, rfl, by decide⟩
  · rfl
  · rw [hn]; simpa using (Heap.get?_push_size _ rfl)
  · exact fun a o _ e => Heap.get?_push_of_some _ e
end
end Mine
end
section
open PySem PySem.Calls PyProof.Rows
namespace Mine
section
variable {prog : Program} {w : World} {A : Around} {E : Value → Shared → Prop} {s : Shared} {F : Addr → Prop}
theorem repKs_get {h : Heap} {kvs : List (K × Value)} {ds : List (K × D)} (r : RepKs w prog F h kvs ds) {i : Nat} {k : K} {v : Value} (hx : kvs[i]? = some (k, v)) : ∃ d, ds[i]? = some (k, d) ∧ Rep w prog F h v d := by
  induction ds generalizing kvs i with
  | nil => cases r; simp at hx
  | cons p ds ih =>
    cases r with
    | cons q r =>
      cases i with
      | zero => simp at hx; obtain ⟨rfl, rfl⟩ := hx; exact ⟨_, rfl, q⟩
      | succ i => simp at hx; obtain ⟨d, e1, e2⟩ := ih r hx; exact ⟨d, by simpa using e1, e2⟩
theorem made_keys (hS : F sysModules) (hh : A.handled = none) {a : Addr} {kvs : List (K × Value)} {ds : List (K × D)} {Q : Value → Shared → Prop} (hF : ¬ F a) (hd : s.heap.DictOf (kind prog w) a kvs) (r : RepKs w prog F s.heap kvs ds)
    (h : ∀ it s', Evl s s' → Made prog w A F false true (ds.map fun p => p.1.d) s.heap it s' → Q it s') : wpAny (model prog w) A (pyIter (.ref a)) Q E s := by
  have ha : (a == sysModules) = false := by rw [beq_eq_false_iff_ne]; intro q; exact hF (q ▸ hS)
  obtain ⟨ep, hm⟩ := hd.dictAt
  refine wpAny_pyIter_dict ha hm (h _ _ (Evl.push _ _) ⟨Ext.push _ _, _, _, Itr.walks (ds := ds.map fun p => p.1.d) (Walks.dictKeys (knd := kind prog w) hh s.heap.objs.size a ?_ kvs ep) (by simp [r.length]) (fun i v hv => ?_) ?_ ?_ ?_ ?_, 0, ?_, Nat.zero_le _, ⟨?_, ?_⟩, ?_⟩)
  · exact Nat.ne_of_lt hm.lt_size
  · refine cps fun gZ hZ => ?_
    obtain ⟨k, x, hx, hk⟩ := hv
    refine hZ ?_
    clear hZ gZ
    have e : (kvs.map (·.1))[i]? = some k := by rw [List.getElem?_map, hx]; rfl
    rw [r.keys, List.getElem?_map] at e
    refine cps fun gZ hZ => ?_
    obtain ⟨p, hp, e⟩ := Option.map_eq_some_iff.mp e
    refine hZ ?_
    clear hZ gZ
    refine ⟨k.d, by rw [List.getElem?_map, hp]; simp [e], ?_⟩
    cases k with
    | int j => obtain ⟨t, rfl⟩ := K.is_int hk; exact .int _ _
    | str j => obtain ⟨t, rfl⟩ := K.is_str hk; exact .str _ _
  · intro b hb
    simp at hb
    rcases hb with rfl | rfl
    · exact .inl (by simp)
    · obtain ⟨o, es, e, _⟩ := hm; exact .inr ⟨hF, o, e⟩
  · intro b hb; simp at hb; subst hb; exact fresh_size
  · intro i h st b hb; simp at hb; subst hb
    obtain ⟨⟨o, e, _⟩, _⟩ := st; exact ⟨o, e⟩
  · intro i h st
    refine cps fun gZ hZ => ?_
    obtain ⟨⟨o, e, hc, _⟩, _⟩ := st
    refine hZ ?_
    clear hZ gZ
    exact ⟨o, "dict_keyiterator", e, hc, by decide⟩
  · rfl
  · exact ⟨_, Heap.get?_push_size _ rfl, rfl, rfl⟩
  · exact hm.push _
  · exact fun a o _ e => Heap.get?_push_of_some _ e
theorem made_values (hh : A.handled = none) {a v : Addr} {kvs : List (K × Value)} {ds : List (K × D)} {Q : Value → Shared → Prop} (hF : ¬ F a) (hv : s.heap.IsValuesView v a) (hd : s.heap.DictOf (kind prog w) a kvs) (r : RepKs w prog F s.heap kvs ds)
    (h : ∀ it s', Evl s s' → Made prog w A F false true (ds.map fun p => p.2) s.heap it s' → Q it s') : wpAny (model prog w) A (pyIter (.ref v)) Q E s := by
  obtain ⟨ep, hm⟩ := hd.dictAt
  refine wpAny_pyIter_values hv hm (h _ _ (Evl.push _ _) ⟨Ext.push _ _, _, _, Itr.walks (ds := ds.map fun p => p.2) (Walks.dictValues (knd := kind prog w) hh s.heap.objs.size a ?_ kvs ep) (by simp [r.length]) (fun i v hv => ?_) ?_ ?_ ?_ ?_, 0, ?_, Nat.zero_le _, ⟨?_, ?_⟩, ?_⟩)
  · exact Nat.ne_of_lt hm.lt_size
  · obtain ⟨k, hx⟩ := hv
    refine cps fun gZ hZ => ?_
    obtain ⟨d, h1, h2⟩ := repKs_get r hx
    refine hZ ?_
    clear hZ gZ
    exact ⟨d, by rw [List.getElem?_map, h1]; rfl, h2⟩
  · intro b hb
    simp at hb
    rcases hb with rfl | rfl
    · exact .inl (by simp)
    · obtain ⟨o, es, e, _⟩ := hm; exact .inr ⟨hF, o, e⟩
  · intro b hb; simp at hb; subst hb; exact fresh_size
  · intro i h st b hb; simp at hb; subst hb
    obtain ⟨⟨o, e, _⟩, _⟩ := st; exact ⟨o, e⟩
  · intro i h st
    refine cps fun gZ hZ => ?_
    obtain ⟨⟨o, e, hc, _⟩, _⟩ := st
    refine hZ ?_
    clear hZ gZ
    exact ⟨o, "dict_valueiterator", e, hc, by decide⟩
  · rfl
  · exact ⟨_, Heap.get?_push_size _ rfl, rfl, rfl⟩
  · exact hm.push _
  · exact fun a o _ e => Heap.get?_push_of_some _ e
theorem made_items (lf : Live F s) (hh : A.handled = none) {a v : Addr} {kvs : List (K × Value)} {ds : List (K × D)} {Q : Value → Shared → Prop} (hF : ¬ F a) (hv : s.heap.IsItemsView v a) (hd : s.heap.DictOf (kind prog w) a kvs) (r : RepKs w prog F s.heap kvs ds)
    (h : ∀ it s', Evl s s' → Made prog w A F true false (ds.map fun p => .tup [p.1.d, p.2]) s.heap it s' → Q it s') : wpAny (model prog w) A (pyIter (.ref v)) Q E s := by
  obtain ⟨ep, hm⟩ := hd.dictAt
  have hne : a ≠ s.heap.objs.size := Nat.ne_of_lt hm.lt_size
  have old : ∀ {h' : Heap}, (∀ a o, ¬ F a → s.heap.get? a = some o → h'.get? a = some o) → h'.DictAt (kind prog w) a kvs ep := fun k => hm.at' fun o e => k a o hF e
  refine wpAny_pyIter_items hv hm (h _ _ (Evl.push _ _) ⟨Ext.push _ _, (fun b => b = s.heap.objs.size),
    (fun xs h => ∃ i ok ov, xs = (ds.map fun p => D.tup [p.1.d, p.2]).drop i ∧ i ≤ ds.length ∧ IsItemIter h s.heap.objs.size a i kvs.length ep ok ov ∧ ∀ a o, ¬ F a → s.heap.get? a = some o → h.get? a = some o),
    ⟨fun b hb => hb ▸ fresh_size, fun xs h ⟨i, ok, ov, _, _, st, _⟩ b hb => hb ▸ ⟨_, st⟩,
      fun xs h h' ⟨i, ok, ov, e1, e2, st, k⟩ hk => ⟨i, ok, ov, e1, e2, hk _ _ (.inl rfl) st, fun a o hF e => hk a o (.inr ⟨hF, o, e⟩) (k a o hF e)⟩,
      fun target d xs s₁ E E' Q htp ⟨i, ok, ov, e1, e2, st, k⟩ hQ => ?_, fun s₁ E Q ⟨i, ok, ov, e1, e2, st, k⟩ hQ => ?_, fun q => by cases q⟩,
    0, .none, .none, rfl, Nat.zero_le _, Heap.get?_push_size _ rfl, fun a o _ e => Heap.get?_push_of_some _ e⟩)
  · have hi : i < ds.length := by
      apply Decidable.byContradiction; intro hc
      rw [List.drop_of_length_le (by simpa using hc)] at e1; cases e1
    refine cps fun gZ hZ => ?_
    obtain ⟨es, kk, p, rfl⟩ := htp rfl
    refine hZ ?_
    clear hZ gZ
    have hlt : i < kvs.length := by rw [r.length]; exact hi
    obtain ⟨⟨k', x⟩, hx⟩ : ∃ p, kvs[i]? = some p := ⟨kvs[i], by simp [hlt]⟩
    refine wpAny_pyNext_items_item st (old k) hx fun key h₁ hkey it₁ ht₁ hsz₁ hk₁ => ⟨_, rfl, ?_⟩
    have hTne : s₁.heap.objs.size ≠ s.heap.objs.size := Nat.ne_of_gt (Heap.lt_size st)
    refine wpAny_letOwnedTupleGo_items it₁ fun h₂ it₂ hs₂ => hQ _ _ ⟨i + 1, _, _, ?_, hi, it₂, ?_⟩ (Aft.of fun b o hb e => hs₂.extBut b o hb (hk₁ b o hb e)) ?_
    · rw [← List.tail_drop, ← e1]; rfl
    · intro a o hF e
      have hb : a ≠ s.heap.objs.size := Nat.ne_of_lt (Heap.lt_size e)
      exact hs₂.extBut a o hb (hk₁ a o hb (k a o hF e))
    · refine cps fun gZ hZ => ?_
      obtain ⟨d', hd', rx⟩ := repKs_get r hx
      refine hZ ?_
      clear hZ gZ
      have ed : d = .tup [k'.d, d'] := by
        have : ((ds.map fun p => D.tup [p.1.d, p.2]).drop i)[0]? = some d := by rw [← e1]; rfl
        rw [List.getElem?_drop, Nat.add_zero, List.getElem?_map, hd'] at this
        simpa using this.symm
      subst ed
      have hk₂ : ∀ a o, ¬ F a → s.heap.get? a = some o → h₂.get? a = some o := fun a o hF e => by
        have hb : a ≠ s.heap.objs.size := Nat.ne_of_lt (Heap.lt_size e)
        exact hs₂.extBut a o hb (hk₁ a o hb (k a o hF e))
      have rx' := rx.fresh (X := fun b => b = s.heap.objs.size) (h := s₁.heap) (fun b hb => hb ▸ fresh_size) hk₂
      refine .tup (fun q => ?_) (vs := [key, x]) ⟨_, hs₂.extBut _ _ hTne ht₁, rfl, _, rfl⟩ (.cons ?_ (.cons rx' .nil))
      · rcases q with q | q | ⟨_, o, q⟩
        · obtain ⟨o, e⟩ := lf _ q
          exact absurd (Nat.lt_trans (Heap.lt_size e) (Heap.lt_size st)) (Nat.lt_irrefl _)
        · exact hTne q
        · exact absurd (Heap.lt_size q) (Nat.lt_irrefl _)
      · cases k' with
        | int j => obtain ⟨t, rfl⟩ := K.is_int hkey; exact .int _ _
        | str j => obtain ⟨t, rfl⟩ := K.is_str hkey; exact .str _ _
  · have hi : ds.length ≤ i := by
      have := congrArg List.length e1
      rw [List.length_drop] at this; simp at this; (first | lia | omega)
    exact wpAny_pyNext_items_end hh st (old k) (List.getElem?_eq_none (by rw [r.length]; exact hi)) fun h' he => hQ _ (Aft.of (tk := s₁.toks) fun b o hb e => he b o hb e)
end
end Mine
end
section
open PySem PySem.Calls PyProof.Rows
namespace Mine
section
variable {prog : Program} {w : World} {A : Around} {E : Value → Shared → Prop} {s : Shared} {F : Addr → Prop}
theorem Itr.walksT {I : Addr} {fp wr : List Addr} {n : Nat} {Pt : Nat → Array Value → Prop} {St : Nat → Heap → Prop} {Mid : Nat → Addr → Heap → Prop} {h₀ : Heap} {ds : List D} {sf : Bool} (W : WalksT prog w A I fp wr n Pt St Mid) (hn : ds.length = n)
    (lf : ∀ a, F a → ∃ o, h₀.get? a = some o)
    (hP : ∀ i vals, i < n → Pt i vals → ∃ xs, ds[i]? = some (.tup xs) ∧ Reps w prog F h₀ vals.toList xs) (hfp : ∀ b ∈ fp, b ∈ wr ∨ (¬ F b ∧ ∃ o, h₀.get? b = some o)) (hwr : ∀ b ∈ wr, h₀.get? b = none)
    (hlive : ∀ i h, St i h → ∀ b ∈ wr, ∃ o, h.get? b = some o) (hI : I ∈ wr) (hIs : h₀.objs.size ≤ I) :
    Itr prog w A (.ref I) true sf h₀ F (· ∈ wr) (fun xs h => ∃ i, xs = ds.drop i ∧ i ≤ n ∧ St i h ∧ ∀ a o, ¬ F a → h₀.get? a = some o → h.get? a = some o) where
  fresh := hwr
  live := fun xs h ⟨i, _, _, st, _⟩ a ha => hlive i h st a ha
  frame := fun xs h h' ⟨i, e1, e2, st, k⟩ hk => ⟨i, e1, e2, W.frame i h h' st fun b hb o e => hk b o (hfp b hb) e, fun a o hF e => hk a o (.inr ⟨hF, o, e⟩) (k a o hF e)⟩
  next := fun target d xs s E E' Q htp ⟨i, e1, e2, st, k⟩ hQ => by
    have hi : i < n := by
      apply Decidable.byContradiction; intro hc
      rw [List.drop_of_length_le (by (first | lia | omega))] at e1; cases e1
    refine cps fun gZ hZ => ?_
    obtain ⟨es, kk, p, rfl⟩ := htp rfl
    refine hZ ?_
    clear hZ gZ
    refine W.item i s _ _ hi st fun T vals h' tk hv hT hTt hM hk => ⟨_, rfl, ?_⟩
    refine W.go es kk p i T _ _ _ hM fun h₂ st₂ hk₂ => ?_
    have hkk : ∀ b o, b ∉ wr → s.heap.get? b = some o → h₂.get? b = some o := fun b o hb e => hk₂ b o hb (hk b o hb e)
    have k2 : ∀ a o, ¬ F a → h₀.get? a = some o → h₂.get? a = some o := fun a o hF e => hkk a o (fun q => by rw [hwr a q] at e; cases e) (k a o hF e)
    refine hQ _ _ ⟨i + 1, ?_, hi, st₂, k2⟩ (Aft.of hkk) ?_
    · rw [← List.tail_drop, ← e1]; rfl
    · refine cps fun gZ hZ => ?_
      obtain ⟨ys, hd', r⟩ := hP i vals hi hv
      refine hZ ?_
      clear hZ gZ
      have : d = .tup ys := by
        have : (ds.drop i)[0]? = some d := by rw [← e1]; rfl
        rw [List.getElem?_drop] at this
        rw [Nat.add_zero, hd'] at this; cases this; rfl
      subst this
      have hTn : T ∉ wr := W.apart i T h' hM
      have hTt₂ : h₂.IsTuple T vals := let ⟨o, e, x⟩ := hTt; ⟨o, hk₂ _ _ hTn e, x⟩
      have rr : Reps w prog (fun a => F a ∨ a ∈ wr ∨ (h₀.get? a = none ∧ ∃ o, s.heap.get? a = some o)) h₂ vals.toList ys :=
        r.go fun a o hF e => ⟨fun q => q.elim hF fun q => q.elim (fun q => by rw [hwr a q] at e; cases e) (fun q => by rw [q.1] at e; cases e), k2 a o hF e⟩
      have hIlt : I < s.heap.objs.size := by obtain ⟨o, e⟩ := hlive i _ st I hI; exact Heap.lt_size e
      refine .tup (fun q => ?_) (by rw [Array.toArray_toList]; exact hTt₂) rr
      rcases q with q | q | ⟨_, o, q⟩
      · obtain ⟨o, e⟩ := lf _ q
        have h1 : T < h₀.objs.size := Heap.lt_size e
        exact absurd (Nat.lt_of_lt_of_le h1 (Nat.le_trans hIs (Nat.le_trans (Nat.le_of_lt hIlt) hT))) (Nat.lt_irrefl _)
      · exact hTn q
      · exact absurd (Heap.lt_size q) (Nat.not_lt.mpr hT)
  done := fun s E Q ⟨i, e1, e2, st, k⟩ hQ => by
    have : n ≤ i := by
      have := congrArg List.length e1
      rw [List.length_drop] at this; simp at this; (first | lia | omega)
    have hi : i = n := by (first | lia | omega)
    subst hi
    exact W.done s Q E st fun h' tk hk => hQ _ (Aft.of hk)
  self := fun _ xs s E Q ⟨i, _, _, st, _⟩ h => W.self i s Q E st h
theorem enumL_length : ∀ (ds : List D) (i : Int), (enumL i ds).length = ds.length
  | [], _ => rfl
  | d :: ds, i => by rw [enumL, List.length_cons, List.length_cons, enumL_length ds]
theorem enumL_get : ∀ (ds : List D) (i : Int) (j : Nat) (d : D), ds[j]? = some d → (enumL i ds)[j]? = some (.tup [.int (i + j), d])
  | [], _, _, _, h => by simp at h
  | x :: ds, i, 0, d, h => by simp at h; subst h; simp [enumL]
  | x :: ds, i, j + 1, d, h => by
    rw [List.getElem?_cons_succ] at h
    rw [enumL, List.getElem?_cons_succ, enumL_get ds (i + 1) j d h]
    congr 3
    simp; (first | lia | omega)
theorem call_enum {l : Addr} {vs : List Value} {ds : List D} {Q : Value → Shared → Prop} (lf : Live F s) (hh : A.handled = none) (hF : ¬ F l) (hl : s.heap.IsList l vs.toArray) (r : Reps w prog F s.heap vs ds)
    (h : ∀ e s', Evl s s' → (∀ (E' : Value → Shared → Prop) (Q' : Value → Shared → Prop), (Made prog w A F true true (enumL 0 ds) s.heap (.ref e) s' → Q' (.ref e) s') → wpAny (model prog w) A (pyIter (.ref e)) Q' E' s') → Q (.ref e) s') :
    wpAny (model prog w) A (call (.type "enumerate") [.ref l]) Q E s := by
  refine call_enumerate_list hl fun h' he hit hsz hk => h _ _ (Evl.of hk) fun E' Q' hQ' => wpAny_pyIter_enum he (hQ' ⟨hk, ?_⟩)
  have hlt : l < s.heap.objs.size := let ⟨o, e, _⟩ := hl; Heap.lt_size e
  have nz : ∀ k : Nat, s.heap.get? (s.heap.objs.size + k) = none := fun k => by
    cases e : s.heap.get? (s.heap.objs.size + k) with
    | none => rfl
    | some o => exact absurd (Heap.lt_size e) (Nat.not_lt.mpr (Nat.le_add_right _ _))
  refine ⟨_, _, Itr.walksT (ds := enumL 0 ds) (WalksT.enumerate hh (s.heap.objs.size + 1) s.heap.objs.size l (Nat.succ_ne_self _) (Nat.ne_of_lt (Nat.lt_succ_of_lt hlt)) (Nat.ne_of_lt hlt) vs.toArray) (by rw [enumL_length, ← r.length]; simp) lf (fun i vals hi hv => ?_) ?_ ?_ ?_ (by simp) (Nat.le_succ _), 0, ?_, Nat.zero_le _, ⟨⟨_, he⟩, hit, ?_⟩, fun a o _ e => hk a o e⟩
  · refine cps fun gZ hZ => ?_
    obtain ⟨t, x, hx, rfl⟩ := hv
    refine hZ ?_
    clear hZ gZ
    refine cps fun gZ hZ => ?_
    obtain ⟨d, hd, q⟩ := r.get' (i := i) (v := x) (by simpa using hx)
    refine hZ ?_
    clear hZ gZ
    refine ⟨_, enumL_get ds 0 i d hd, .cons ?_ (.cons q .nil)⟩
    rw [Int.zero_add]; exact .int _ _
  · intro b hb
    simp at hb
    rcases hb with rfl | rfl | rfl
    · exact .inl (by simp)
    · exact .inl (by simp)
    · obtain ⟨o, e, _⟩ := hl; exact .inr ⟨hF, o, e⟩
  · intro b hb; simp at hb
    rcases hb with rfl | rfl
    · exact nz 1
    · exact nz 0
  · intro i h st b hb; simp at hb
    refine cps fun gZ hZ => ?_
    obtain ⟨⟨old, h1⟩, ⟨o, h2, _⟩, _⟩ := st
    refine hZ ?_
    clear hZ gZ
    rcases hb with rfl | rfl
    · exact ⟨_, h1⟩
    · exact ⟨_, h2⟩
  · rfl
  · obtain ⟨o, e, x⟩ := hl; exact ⟨o, hk _ _ e, x⟩
end
end Mine
end
section
open PySem PySem.Calls PyProof.Rows
namespace Mine
structure Sb where
  it : Addr
  ds : List D
  St : Nat → Heap → Prop
structure Dr (prog : Program) (w : World) (A : Around) (F : Addr → Prop) (h₀ : Heap) (b : Sb) : Prop where
  frame : ∀ i h h', b.St i h → (∀ a o, (a = b.it ∨ (¬ F a ∧ ∃ o', h₀.get? a = some o')) → h.get? a = some o → h'.get? a = some o) → b.St i h'
  live : ∀ i h, b.St i h → ∃ o, h.get? b.it = some o
  item : ∀ i (s : Shared) (Q : Value → Shared → Prop) (E : Value → Shared → Prop), i < b.ds.length → b.St i s.heap →
    (∀ x h' tk, (∃ d, b.ds[i]? = some d ∧ Rep w prog F h₀ x d) → b.St (i + 1) h' → Heap.SameBut b.it s.heap h' → Q x { s with heap := h', toks := tk }) → wpAny (model prog w) A (Builtin.SmallTypes.nextOf (.ref b.it)) Q E s
  done : ∀ (s : Shared) (Q : Value → Shared → Prop) (E : Value → Shared → Prop), b.St b.ds.length s.heap →
    (∀ h' e, Heap.ExtBut b.it s.heap h' → (∃ o, h'.get? e = some o ∧ o.cls = .type "StopIteration") → E (.ref e) { s with heap := h' }) → wpAny (model prog w) A (Builtin.SmallTypes.nextOf (.ref b.it)) Q E s
structure Zp (prog : Program) (w : World) (A : Around) (F : Addr → Prop) (h₀ : Heap) (z TI TO : Addr) (bs : List Sb) : Prop where
  dr : ∀ b ∈ bs, Dr prog w A.in1 F h₀ b
  nodup : (bs.map (·.it)).Nodup
  zTI : TI ≠ z
  zTO : TO ≠ z
  TITO : TI ≠ TO
  zi : ∀ b ∈ bs, b.it ≠ z
  TIi : ∀ b ∈ bs, b.it ≠ TI
  TOi : ∀ b ∈ bs, b.it ≠ TO
  new : ∀ a, (a = z ∨ a = TI ∨ a = TO ∨ ∃ b ∈ bs, a = b.it) → h₀.get? a = none
  ne : 2 ≤ bs.length ∧ bs.length ≤ 4
noncomputable def Zp.X (z TI TO : Addr) (bs : List Sb) : Addr → Prop := fun a => a = z ∨ a = TI ∨ a = TO ∨ ∃ b ∈ bs, a = b.it
noncomputable abbrev ItsAt (h : Heap) (T : Addr) (vs : List Value) : Prop := h.get? T = some { cls := .type "tuple", data := .seq vs.toArray }
noncomputable def Zp.St (h₀ : Heap) (F : Addr → Prop) (z TI TO : Addr) (bs : List Sb) (i : Nat) (h : Heap) : Prop :=
  IsZip h z TI TO .none ∧ ItsAt h TI (bs.map fun b => .ref b.it) ∧ (∃ old, old.length = bs.length ∧ ItsAt h TO old) ∧ (∀ b ∈ bs, b.St i h) ∧ ∀ a o, ¬ F a → h₀.get? a = some o → h.get? a = some o
section
variable {prog : Program} {w : World} {A : Around} {E : Value → Shared → Prop} {s : Shared} {F : Addr → Prop} {h₀ : Heap} {z TI TO : Addr} {bs : List Sb}
theorem set_mid (vs old : List Value) (o x : Value) : ((vs ++ o :: old).toArray.setIfInBounds vs.length x) = (vs ++ [x] ++ old).toArray := by
  simp [List.set_append]
theorem wpAny_updateSeq_its {T : Addr} {vs : List Value} {k : Nat} {x : Value} {Q : Unit → Shared → Prop} (hT : ItsAt s.heap T vs) (hsz : vs.length ≤ 4)
    (h : ∀ h', h'.get? T = some { cls := .type "tuple", data := .seq (vs.toArray.setIfInBounds k x) } → Heap.SameBut T s.heap h' → Q () { s with heap := h' }) :
    wpAny (model prog w) A (updateSeq T (·.setIfInBounds k x)) Q E s := by
  refine wpAny_updateSeq hT rfl (h _ ?_ (Heap.SameBut.update ..)) (by rw [sizeLine_eq]; simp; (first | lia | omega)) (by rw [sizeLine_eq]; simp; (first | lia | omega))
  rw [Heap.get?_update_self _ hT rfl]
  simp [Obj.mapSeq]
inductive ZIv (prog : Program) (w : World) (F : Addr → Prop) (h₀ : Heap) (z TI TO : Addr) (bs : List Sb) (i : Nat) (s : Shared) (rest : List (Value × Nat)) (qn : Prop) (s' : Shared) : Prop
  | mk (b1 b2 : List Sb) (vs old : List Value) (hb : bs = b1 ++ b2) (hr : rest = (b2.map fun b => Value.ref b.it).zipIdx b1.length) (hq : qn) (hsz : s'.heap.objs.size = s.heap.objs.size)
    (hz : IsZip s'.heap z TI TO .ellipsis) (hT : ItsAt s'.heap TO (vs ++ old)) (ho : old.length = b2.length) (rr : Reps w prog F h₀ vs (b1.map fun b => b.ds.getD i .none)) (st1 : ∀ b ∈ b1, b.St (i + 1) s'.heap) (st2 : ∀ b ∈ b2, b.St i s'.heap)
    (af : Aft (fun a => a = z ∨ a = TO ∨ ∃ b ∈ bs, a = b.it) s s') : ZIv prog w F h₀ z TI TO bs i s rest qn s'
theorem zip_item (Z : Zp prog w A F h₀ z TI TO bs) {i n : Nat} (hn : ∀ b ∈ bs, b.ds.length = n) (hi : i < n) (st : Zp.St h₀ F z TI TO bs i s.heap) {Q : Value → Shared → Prop}
    (hQ : ∀ s' vs, IsZip s'.heap z TI TO (rawInt s.heap.objs.size) → ItsAt s'.heap TI (bs.map fun b => .ref b.it) → (∃ old, old.length = bs.length ∧ ItsAt s'.heap TO old) → (∀ b ∈ bs, b.St (i + 1) s'.heap) →
      ItsAt s'.heap s.heap.objs.size vs → Reps w prog F h₀ vs (bs.map fun b => b.ds.getD i .none) → Aft (Zp.X z TI TO bs) s s' → (∀ a o, ¬ F a → h₀.get? a = some o → s'.heap.get? a = some o) → Q (.ref s.heap.objs.size) s') :
    wpAny (model prog w) A.in1 (Builtin.«zip.__next__» ⟨[.ref z], []⟩) (fun fin s' => ∃ v, fin = .done (.ret v) ∧ Q v s') E s := by
  refine cps fun gZ hZ => ?_
  obtain ⟨hz, hTI, ⟨old, hold, hTO⟩, hst, hk⟩ := st
  refine hZ ?_
  clear hZ gZ
  show wpAny _ _ (field (.ref z) 2 >>= _) _ _ _
  refine wpAny_bind (wpAny_field hz rfl (x := .bool false) rfl ?_)
  show wpAny _ _ (field (.ref z) 3 >>= _) _ _ _
  refine wpAny_bind (wpAny_field hz rfl (x := .ref TI) rfl ?_)
  refine wpAny_bind (wpAny_seqItems hTI rfl ?_)
  have hne : ((bs.map fun b => Value.ref b.it).toArray.isEmpty) = false := by
    have := Z.ne.1
    cases bs with
    | nil => simp at this
    | cons _ _ => simp
  simp only [hne, Bool.false_eq_true, if_false]
  show wpAny _ _ (Builtin.SmallTypes.ownedTupleIsFree (.ref z) >>= _) _ _ _
  refine wpAny_bind ?_
  unfold Builtin.SmallTypes.ownedTupleIsFree
  refine wpAny_bind (wpAny_field hz rfl (x := .none) rfl (wpAny_pure ?_))
  simp only [if_true]
  refine wpAny_bind (wpAny_rule ?_)
  refine wpAny_bind (wpAny_field hz rfl (x := .ref TO) rfl ?_)
  refine wpAny_bind (wpAny_setField_rec hz (by simp) fun h₁ hz₁ hs₁ => ?_)
  replace hz₁ : IsZip h₁ z TI TO .ellipsis := hz₁
  refine wpAny_bind ?_
  have old₀ : ∀ {a o}, h₀.get? a = some o → ¬ Zp.X z TI TO bs a := fun {a o} e q => by rw [Z.new a q] at e; cases e
  have zX : Zp.X z TI TO bs z := .inl rfl
  have TOX : Zp.X z TI TO bs TO := .inr (.inr (.inl rfl))
  have bX : ∀ b ∈ bs, Zp.X z TI TO bs b.it := fun b hb => .inr (.inr (.inr ⟨b, hb, rfl⟩))
  have fr : ∀ (c : Addr) (h h' : Heap) (b : Sb) (k : Nat), b ∈ bs → Zp.X z TI TO bs c → b.it ≠ c → Heap.SameBut c h h' → b.St k h → b.St k h' := fun c h h' b k hb hc hbc hs x =>
    (Z.dr b hb).frame k h h' x fun a o ha e => hs.extBut a o (fun q => by
      rcases ha with ha | ⟨_, o', ha⟩
      · exact hbc (ha ▸ q)
      · exact old₀ ha (q ▸ hc)) e
  refine wpAny_forIn_list _ (fun rest q s' => ZIv prog w F h₀ z TI TO bs i s rest (q.1 = none) s') _ ?_ ?_ _ _ ?_
  · intro hM1 rest q s' hM2
    refine cps fun gZ hZ => ?_
    obtain ⟨x, k⟩ := hM1
    obtain ⟨b1, b2, vs, old, hb, hr, hq, hsz, hz', hTO', ho, rr, st1, st2, af⟩ := hM2
    refine hZ ?_
    clear hZ gZ
    cases b2 with
    | nil => simp at hr
    | cons b b2 =>
      have hbm : b ∈ bs := by rw [hb]; simp
      cases old with
      | nil => simp at ho
      | cons o old =>
        rw [List.map_cons, List.zipIdx_cons] at hr
        obtain ⟨hr1, hr2⟩ := List.cons.inj hr
        cases hr1
        have hvl : vs.length = b1.length := by rw [rr.length, List.length_map]
        have hlen : (vs ++ o :: old).length ≤ 4 := by
          have := Z.ne.2
          rw [hb] at this
          simp only [List.length_append, List.length_cons] at this ho ⊢
          (first | lia | omega)
        refine wpAny_bind (wpAny_onRaise ?_)
        show wpAny _ _ (Builtin.SmallTypes.nextOf (.ref b.it) >>= _) _ _ _
        refine wpAny_bind ((Z.dr b hbm).item i s' _ _ (by rw [hn b hbm]; exact hi) (st2 b (.head _)) fun x h₂ tk₂ ⟨d, hd, rx⟩ st₂ hs₂ => wpAny_pure ?_)
        have hTO₂ : ItsAt h₂ TO (vs ++ o :: old) := hs₂.extBut _ _ (Ne.symm (Z.TOi b hbm)) hTO'
        refine wpAny_bind (wpAny_seqItems hTO₂ rfl ?_)
        refine wpAny_bind (wpAny_updateSeq_its hTO₂ hlen fun h₃ hTO₃ hs₃ => ?_)
        rw [← hvl, set_mid] at hTO₃
        refine wpAny_bind (wpAny_letGo (wpAny_pure ?_))
        have nd := Z.nodup
        rw [hb, List.map_append, List.map_cons] at nd
        refine cps fun gZ hZ => ?_
        obtain ⟨nd1, nd2, nd3⟩ := List.nodup_append.mp nd
        refine hZ ?_
        clear hZ gZ
        rw [List.nodup_cons] at nd2
        refine ⟨b1 ++ [b], b2, vs ++ [x], old, by rw [hb]; simp, by rw [hr2]; simp, rfl, ?_, ?_, hTO₃, by simpa using ho, ?_, ?_, ?_, ?_⟩
        · rw [hs₃.1, hs₂.1, hsz]
        · exact hs₃.extBut _ _ (Ne.symm Z.zTO) (hs₂.extBut _ _ (Ne.symm (Z.zi b hbm)) hz')
        · rw [List.map_append]
          refine rr.append (.cons ?_ .nil)
          show Rep w prog F h₀ x (b.ds.getD i .none)
          rw [List.getD_eq_getElem?_getD, hd]; exact rx
        · intro b' hb'
          rcases List.mem_append.mp hb' with hb' | hb'
          · have hm : b' ∈ bs := by rw [hb]; exact List.mem_append_left _ hb'
            have hne' : b'.it ≠ b.it := fun e => nd3 _ (List.mem_map.mpr ⟨b', hb', rfl⟩) _ (.head _) e
            exact fr TO _ _ b' _ hm TOX (Z.TOi b' hm) hs₃ (fr b.it _ _ b' _ hm (bX b hbm) hne' hs₂ (st1 b' hb'))
          · simp at hb'; subst hb'
            exact fr TO _ _ _ _ hbm TOX (Z.TOi _ hbm) hs₃ st₂
        · intro b' hb'
          have hm : b' ∈ bs := by rw [hb]; exact List.mem_append_right _ (.tail _ hb')
          have hne' : b'.it ≠ b.it := fun e => nd2.1 (e ▸ List.mem_map.mpr ⟨b', hb', rfl⟩)
          exact fr TO _ _ b' _ hm TOX (Z.TOi b' hm) hs₃ (fr b.it _ _ b' _ hm (bX b hbm) hne' hs₂ (st2 b' (.tail _ hb')))
        · exact af.trans (Aft.of fun a o ha e => hs₃.extBut a o (fun q => ha (.inr (.inl q))) (hs₂.extBut a o (fun q => ha (.inr (.inr ⟨b, hbm, q⟩))) e))
  · intro hM1 s' hM2
    refine cps fun gZ hZ => ?_
    obtain ⟨q1, q2⟩ := hM1
    obtain ⟨b1, b2, vs, old, hb, hr, hq, hsz, hz', hTO', ho, rr, st1, st2, af⟩ := hM2
    refine hZ ?_
    clear hZ gZ
    simp only at hq
    subst hq
    have hb2 : b2 = [] := by
      cases b2 with
      | nil => rfl
      | cons _ _ => simp [List.zipIdx_cons] at hr
    subst hb2
    have : old = [] := by simpa using ho
    subst this
    rw [List.append_nil] at hb hTO'
    obtain rfl := hb
    refine wpAny_bind (wpAny_seqItems hTO' rfl ?_)
    have hvl : vs.toArray.toList.length ≤ sizeLine := by
      have := Z.ne.2
      rw [sizeLine_eq]; simp [rr.length]; (first | lia | omega)
    refine wpAny_bind (wpAny_newTuple ?_ (hsz := hvl))
    have hzlt : z < s'.heap.objs.size := Heap.lt_size hz'
    have hTOlt : TO < s'.heap.objs.size := Heap.lt_size hTO'
    show wpAny _ _ (Builtin.SmallTypes.ownedTupleHandOut (.ref z) (.ref s'.heap.objs.size) >>= _) _ _ _
    refine wpAny_bind ?_
    unfold Builtin.SmallTypes.ownedTupleHandOut
    have hz₆ : IsZip (s'.heap.push { cls := .type "tuple", data := .seq vs.toArray }) z TI TO .ellipsis := Heap.get?_push_of_some _ hz'
    refine wpAny_bind (wpAny_setField_rec hz₆ (by simp) fun h₇ hz₇ hs₇ => ?_)
    replace hz₇ : IsZip h₇ z TI TO (rawInt s'.heap.objs.size) := hz₇
    refine wpAny_setField_rec hz₇ (by simp) fun h₈ hz₈ hs₈ => ?_
    replace hz₈ : IsZip h₈ z TI TO (rawInt s'.heap.objs.size) := hz₈
    have up : ∀ c o, c ≠ z → s'.heap.get? c = some o → h₈.get? c = some o := fun c o c1 e => hs₈.extBut _ _ c1 (hs₇.extBut _ _ c1 (Heap.get?_push_of_some _ e))
    have hT₈ : ItsAt h₈ s'.heap.objs.size vs := hs₈.extBut _ _ (Nat.ne_of_gt hzlt) (hs₇.extBut _ _ (Nat.ne_of_gt hzlt) (Heap.get?_push_size _ rfl))
    refine wpAny_pure ⟨_, rfl, ?_⟩
    have af' : ∀ a o, ¬ (a = z ∨ a = TO ∨ ∃ b ∈ bs, a = b.it) → s.heap.get? a = some o → h₈.get? a = some o := fun a o ha e => up a o (fun q => ha (.inl q)) (af.heap a o ha e)
    rw [hsz]
    refine hQ { s' with heap := h₈ } vs (hsz ▸ hz₈) ?_ ⟨vs, by rw [rr.length, List.length_map], up _ _ Z.zTO hTO'⟩ ?_ (hsz ▸ hT₈) rr ?_ ?_
    · exact af' _ _ (fun q => by
        rcases q with q | q | ⟨b, hb, q⟩
        · exact Z.zTI q
        · exact Z.TITO q
        · exact Z.TIi b hb q.symm) hTI
    · intro b hb
      exact (Z.dr b hb).frame _ _ _ (st1 b hb) fun a o ha e => up a o (fun q => by
        rcases ha with ha | ⟨_, o', ha⟩
        · exact Z.zi b hb (ha ▸ q)
        · exact old₀ ha (q ▸ zX)) e
    · refine ⟨fun a o ha e => af' a o (fun q => ha ?_) e, af.gens, af.bare, af.os⟩
      rcases q with q | q | q
      · exact .inl q
      · exact .inr (.inr (.inl q))
      · exact .inr (.inr (.inr q))
    · intro a o hF e
      exact af' a o (fun q => old₀ e (by
        rcases q with q | q | q
        · exact .inl q
        · exact .inr (.inr (.inl q))
        · exact .inr (.inr (.inr q)))) (hk a o hF e)
  · refine ⟨[], bs, [], old, rfl, rfl, rfl, ?_, hz₁, hs₁.extBut _ _ Z.zTO hTO, hold, .nil, (fun _ h => by cases h), fun b hb => fr z _ _ b i hb zX (Z.zi b hb) hs₁ (hst b hb), Aft.of (tk := s.toks) fun a o ha e => hs₁.extBut a o (fun q => ha (.inl q)) e⟩
    exact hs₁.1
end
end Mine
end
section
open PySem PySem.Calls PyProof.Rows
namespace Mine
section
variable {prog : Program} {w : World} {A : Around} {E : Value → Shared → Prop} {s : Shared} {F : Addr → Prop} {h₀ : Heap} {z TI TO : Addr} {bs : List Sb}
theorem zip_end (Z : Zp prog w A F h₀ z TI TO bs) {n : Nat} (hn : ∀ b ∈ bs, b.ds.length = n) (st : Zp.St h₀ F z TI TO bs n s.heap) {Q : Fin → Shared → Prop}
    (hE : ∀ h' e, (∀ a o, ¬ Zp.X z TI TO bs a → s.heap.get? a = some o → h'.get? a = some o) → (∃ o, h'.get? e = some o ∧ o.cls = .type "StopIteration") → E (.ref e) { s with heap := h' }) :
    wpAny (model prog w) A.in1 (Builtin.«zip.__next__» ⟨[.ref z], []⟩) Q E s := by
  refine cps fun gZ hZ => ?_
  obtain ⟨hz, hTI, ⟨old, hold, hTO⟩, hst, hk⟩ := st
  refine hZ ?_
  clear hZ gZ
  obtain ⟨b, bs', rfl⟩ : ∃ b bs', bs = b :: bs' := by
    have := Z.ne.1
    cases bs with
    | nil => simp at this
    | cons b bs' => exact ⟨b, bs', rfl⟩
  have hbm : b ∈ b :: bs' := .head _
  show wpAny _ _ (field (.ref z) 2 >>= _) _ _ _
  refine wpAny_bind (wpAny_field hz rfl (x := .bool false) rfl ?_)
  show wpAny _ _ (field (.ref z) 3 >>= _) _ _ _
  refine wpAny_bind (wpAny_field hz rfl (x := .ref TI) rfl ?_)
  refine wpAny_bind (wpAny_seqItems hTI rfl ?_)
  have hne : (((b :: bs').map fun b => Value.ref b.it).toArray.isEmpty) = false := by simp
  simp only [hne, Bool.false_eq_true, if_false]
  show wpAny _ _ (Builtin.SmallTypes.ownedTupleIsFree (.ref z) >>= _) _ _ _
  refine wpAny_bind ?_
  unfold Builtin.SmallTypes.ownedTupleIsFree
  refine wpAny_bind (wpAny_field hz rfl (x := .none) rfl (wpAny_pure ?_))
  simp only [if_true]
  refine wpAny_bind (wpAny_rule ?_)
  refine wpAny_bind (wpAny_field hz rfl (x := .ref TO) rfl ?_)
  refine wpAny_bind (wpAny_setField_rec hz (by simp) fun h₁ hz₁ hs₁ => ?_)
  replace hz₁ : IsZip h₁ z TI TO .ellipsis := hz₁
  refine wpAny_bind ?_
  simp only [List.map_cons, List.zipIdx_cons, List.forIn_cons]
  refine wpAny_bind (wpAny_bind (wpAny_onRaise ?_))
  show wpAny _ _ (Builtin.SmallTypes.nextOf (.ref b.it) >>= _) _ _ _
  have st₁ : b.St b.ds.length h₁ := by
    rw [hn b hbm]
    refine (Z.dr b hbm).frame _ _ _ (hst b hbm) fun a o ha e => hs₁.extBut a o (fun q => ?_) e
    rcases ha with ha | ⟨_, o', ha⟩
    · exact Z.zi b hbm (ha ▸ q)
    · rw [q, Z.new z (.inl rfl)] at ha; cases ha
  refine wpAny_bind ((Z.dr b hbm).done _ _ _ st₁ fun h₂ e hs₂ he => ?_)
  refine cps fun gZ hZ => ?_
  obtain ⟨oe, hoe, hce⟩ := he
  refine hZ ?_
  clear hZ gZ
  have hz₂ : IsZip h₂ z TI TO .ellipsis := hs₂ _ _ (Ne.symm (Z.zi b hbm)) hz₁
  have hez : e ≠ z := fun x => by subst x; rw [hz₂] at hoe; cases hoe; simp at hce
  refine wpAny_setField_rec hz₂ (by simp) fun h₃ _ hs₃ => hE h₃ e (fun a o ha x => hs₃.extBut _ _ (fun q => ha (.inl q)) (hs₂ _ _ (fun q => ha (.inr (.inr (.inr ⟨b, hbm, q⟩)))) (hs₁.extBut _ _ (fun q => ha (.inl q)) x))) ⟨oe, hs₃.extBut _ _ hez hoe, hce⟩
theorem Itr.zip (Z : Zp prog w A F h₀ z TI TO bs) {n : Nat} (hn : ∀ b ∈ bs, b.ds.length = n) (lf : ∀ a, F a → ∃ o, h₀.get? a = some o) (hzs : h₀.objs.size ≤ z) :
    Itr prog w A (.ref z) true true h₀ F (Zp.X z TI TO bs) (fun xs h => ∃ i, xs = (zipN n (bs.map (·.ds))).drop i ∧ i ≤ n ∧ Zp.St h₀ F z TI TO bs i h) where
  fresh := Z.new
  live := fun xs h ⟨i, _, _, hz, hTI, ⟨old, _, hTO⟩, hst, _⟩ a ha => by
    rcases ha with rfl | rfl | rfl | ⟨b, hb, rfl⟩
    · exact ⟨_, hz⟩
    · exact ⟨_, hTI⟩
    · exact ⟨_, hTO⟩
    · exact (Z.dr b hb).live _ _ (hst b hb)
  frame := fun xs h h' ⟨i, e1, e2, hz, hTI, ⟨old, hold, hTO⟩, hst, hk⟩ k =>
    ⟨i, e1, e2, k _ _ (.inl (.inl rfl)) hz, k _ _ (.inl (.inr (.inl rfl))) hTI, ⟨old, hold, k _ _ (.inl (.inr (.inr (.inl rfl)))) hTO⟩,
      fun b hb => (Z.dr b hb).frame _ _ _ (hst b hb) fun a o ha e => k a o (ha.imp (fun q => .inr (.inr (.inr ⟨b, hb, q⟩))) id) e, fun a o hF e => k a o (.inr ⟨hF, o, e⟩) (hk a o hF e)⟩
  next := fun target d xs s E E' Q htp ⟨i, e1, e2, st⟩ hQ => by
    have hzl : (zipN n (bs.map (·.ds))).length = n := by simp [zipN]
    have hi : i < n := by
      apply Decidable.byContradiction; intro hc
      rw [List.drop_of_length_le (by (first | lia | omega))] at e1; cases e1
    refine cps fun gZ hZ => ?_
    obtain ⟨es, kk, p, rfl⟩ := htp rfl
    refine hZ ?_
    clear hZ gZ
    have hT : s.TypeIs (.ref z) "zip" := ⟨_, st.1, rfl⟩
    have hzlt : z < s.heap.objs.size := Heap.lt_size st.1
    unfold pyNext
    refine wpAny_bind (wpAny_attempt (wpAny_callSpecial?_slot (name := Str.ofString "__next__") hT PySem.F.slot_zip_next
      (wpAny_call_entry PySem.F.slot_zip_next hT PySem.F.entry_zip_next (zip_item Z hn hi st fun s' vs a1 a2 a3 a4 a5 a6 a7 a8 => wpAny_pure ?_) (PySem.F.args_zip_next_1 _))))
    refine ⟨_, rfl, ?_⟩
    have hTz : s.heap.objs.size ≠ z := Nat.ne_of_gt hzlt
    have zX : Zp.X z TI TO bs z := .inl rfl
    have TX : ¬ Zp.X z TI TO bs s.heap.objs.size := fun q => by
      have : ∃ o, s.heap.get? s.heap.objs.size = some o := by
        generalize hg : s.heap.objs.size = T at q ⊢
        rcases q with rfl | rfl | rfl | ⟨b, hb, rfl⟩
        · exact ⟨_, st.1⟩
        · exact ⟨_, st.2.1⟩
        · obtain ⟨old, _, h⟩ := st.2.2.1; exact ⟨_, h⟩
        · exact (Z.dr b hb).live _ _ (st.2.2.2.1 b hb)
      obtain ⟨o, e⟩ := this
      exact absurd (Heap.lt_size e) (Nat.lt_irrefl _)
    refine wpAny_letOwnedTupleGo_zip a1 fun h' hz' hs' => ?_
    have k8 : ∀ a o, ¬ F a → h₀.get? a = some o → h'.get? a = some o := fun a o hF e => hs'.extBut a o (fun q => by rw [q, Z.new z zX] at e; cases e) (a8 a o hF e)
    refine hQ _ _ ⟨i + 1, ?_, hi, hz', hs'.extBut _ _ Z.zTI a2, ?_, fun b hb => ?_, k8⟩ (a7.trans (Aft.of (tk := s'.toks) fun b o hb e => hs'.extBut b o (fun q => hb (q ▸ zX)) e)) ?_
    · rw [← List.tail_drop, ← e1]; rfl
    · obtain ⟨old, h1, h2⟩ := a3; exact ⟨old, h1, hs'.extBut _ _ Z.zTO h2⟩
    · refine (Z.dr b hb).frame _ _ _ (a4 b hb) fun a o ha e => hs'.extBut a o (fun q => ?_) e
      rcases ha with ha | ⟨_, o', ha⟩
      · exact Z.zi b hb (ha ▸ q)
      · rw [q, Z.new z zX] at ha; cases ha
    · have ed : d = .tup (bs.map fun b => b.ds.getD i .none) := by
        have : ((zipN n (bs.map (·.ds))).drop i)[0]? = some d := by rw [← e1]; rfl
        rw [List.getElem?_drop, Nat.add_zero] at this
        unfold zipN at this
        rw [List.getElem?_map, List.getElem?_range hi] at this
        simp only [Option.map_some, Option.some.injEq, List.map_map] at this
        rw [← this]; rfl
      subst ed
      refine .tup (fun q => ?_) ⟨_, hs'.extBut _ _ hTz a5, rfl, _, rfl⟩ (a6.go fun a o hF e => ⟨fun q => q.elim hF fun q => q.elim (fun q => by rw [Z.new a q] at e; cases e) (fun q => by rw [q.1] at e; cases e), k8 a o hF e⟩)
      rcases q with q | q | ⟨_, o, q⟩
      · obtain ⟨o, e⟩ := lf _ q
        exact absurd (Nat.lt_of_lt_of_le (Heap.lt_size e) (Nat.le_trans hzs (Nat.le_of_lt hzlt))) (Nat.lt_irrefl _)
      · exact TX q
      · exact absurd (Heap.lt_size q) (Nat.lt_irrefl _)
  done := fun s E Q ⟨i, e1, e2, st⟩ hQ => by
    have : n ≤ i := by
      have := congrArg List.length e1
      rw [List.length_drop] at this; simp [zipN] at this; (first | lia | omega)
    have hi : i = n := by (first | lia | omega)
    subst hi
    have hT : s.TypeIs (.ref z) "zip" := ⟨_, st.1, rfl⟩
    unfold pyNext
    refine wpAny_bind (wpAny_attempt (wpAny_callSpecial?_slot (name := Str.ofString "__next__") hT PySem.F.slot_zip_next
      (wpAny_call_entry PySem.F.slot_zip_next hT PySem.F.entry_zip_next (zip_end Z hn st fun h' e hk he => ?_) (PySem.F.args_zip_next_1 _))))
    refine cps fun gZ hZ => ?_
    obtain ⟨o, ho, hc⟩ := he
    refine hZ ?_
    clear hZ gZ
    refine wpAny_bind (wpAny_isInstance (T := "StopIteration") (b := true) ⟨o, ho, hc⟩ isSubtype_stop ?_)
    exact wpAny_pure (hQ _ (Aft.of (tk := s.toks) hk))
  self := fun _ xs s E Q ⟨i, _, _, st⟩ h => wpAny_pyIter_zip st.1 h
end
end Mine
end
section
open PySem PySem.Calls PyProof.Rows
namespace Mine
inductive Zs (prog : Program) (w : World) (F : Addr → Prop) (h₀ : Heap) : Value → List D → Prop
  | lst {l : Addr} {vs : List Value} {ds : List D} : ¬ F l → h₀.IsList l vs.toArray → Reps w prog F h₀ vs ds → Zs prog w F h₀ (.ref l) ds
  | str (x : Str) (t : Tok) : Zs prog w F h₀ (.str x t) (x.cps.toList.map fun c => .str ⟨#[c]⟩)
inductive Zss (prog : Program) (w : World) (F : Addr → Prop) (h₀ : Heap) : List Value → List (List D) → Prop
  | nil : Zss prog w F h₀ [] []
  | cons {v : Value} {ds : List D} {vs : List Value} {dss : List (List D)} : Zs prog w F h₀ v ds → Zss prog w F h₀ vs dss → Zss prog w F h₀ (v :: vs) (ds :: dss)
section
variable {prog : Program} {w : World} {A : Around} {E : Value → Shared → Prop} {s : Shared} {F : Addr → Prop} {h₀ : Heap}
structure Zits (prog : Program) (w : World) (A₀ : Around) (F : Addr → Prop) (h₀ : Heap) (dss : List (List D)) (bs : List Sb) (s : Shared) : Prop where
  ds : bs.map (·.ds) = dss
  dr : ∀ b ∈ bs, Dr prog w A₀ F h₀ b
  st : ∀ b ∈ bs, b.St 0 s.heap
  nodup : (bs.map (·.it)).Nodup
  lo : ∀ b ∈ bs, h₀.objs.size ≤ b.it
  hi : ∀ b ∈ bs, b.it < s.heap.objs.size
  ext : Ext h₀ s.heap
  sz : h₀.objs.size ≤ s.heap.objs.size
theorem Zits.push {A₀ : Around} {dss : List (List D)} {bs : List Sb} (Z : Zits prog w A₀ F h₀ dss bs s) (o : Obj) : Zits prog w A₀ F h₀ dss bs { s with heap := s.heap.push o } where
  ds := Z.ds
  dr := Z.dr
  st := fun b hb => (Z.dr b hb).frame _ _ _ (Z.st b hb) fun a o' _ e => Heap.get?_push_of_some _ e
  nodup := Z.nodup
  lo := Z.lo
  hi := fun b hb => by show b.it < (s.heap.push o).objs.size; rw [Heap.size_push]; exact Nat.lt_succ_of_lt (Z.hi b hb)
  ext := fun a o' e => Heap.get?_push_of_some _ (Z.ext a o' e)
  sz := by show _ ≤ (s.heap.push o).objs.size; rw [Heap.size_push]; exact Nat.le_succ_of_le Z.sz
theorem Zss.length : ∀ {vs : List Value} {dss : List (List D)}, Zss prog w F h₀ vs dss → vs.length = dss.length
  | _, _, .nil => rfl
  | _, _, .cons _ r => by simp [r.length]
end
end Mine
end
section
open PySem PySem.Calls PyProof.Rows
namespace Mine
section
variable {prog : Program} {w : World} {A : Around} {E : Value → Shared → Prop} {s : Shared} {F : Addr → Prop}
theorem ints_cons {i : Int} {r : List D} : ints? (.int i :: r) = (ints? r).map (i :: ·) := rfl
theorem ints_inv {d : D} {ds : List D} {is : List Int} (e : ints? (d :: ds) = some is) : ∃ i is', d = .int i ∧ is = i :: is' ∧ ints? ds = some is' := by
  cases d with
  | int i =>
    rw [ints_cons] at e
    obtain ⟨is', h1, rfl⟩ := Option.map_eq_some_iff.mp e
    exact ⟨i, is', rfl, rfl, h1⟩
  | _ => exact nomatch e
theorem ints_are {h : Heap} {vs : List Value} {ds : List D} : ∀ {is : List Int}, Reps w prog F h vs ds → ints? ds = some is → IntsAre vs is := by
  induction ds generalizing vs with
  | nil => intro is r e; cases e; rw [show vs = [] from r.view]; exact .nil
  | cons d ds ih =>
    intro is r e
    obtain ⟨i, is', rfl, rfl, e2⟩ := ints_inv e
    obtain ⟨v, vs, rfl, a, r2⟩ := r.view
    obtain ⟨t, rfl⟩ := a.view
    exact .cons _ _ (ih r2 e2)
theorem minL_mem : ∀ (is : List Int) (i : Int), minL i is ∈ i :: is
  | [], _ => .head _
  | x :: is, i => by
    rw [minL]
    rcases List.mem_cons.mp (minL_mem is (if x < i then x else i)) with h | h
    · rw [h]; split
      · exact .tail _ (.head _)
      · exact .head _
    · exact .tail _ (.tail _ h)
theorem minL_le : ∀ (is : List Int) (i : Int), ∀ a ∈ i :: is, minL i is ≤ a
  | [], i, a, ha => by simp at ha; subst ha; exact Int.le_refl _
  | x :: is, i, a, ha => by
    rw [minL]
    have h0 := minL_le is (if x < i then x else i) _ (.head _)
    rcases List.mem_cons.mp ha with rfl | ha
    · refine Int.le_trans h0 ?_; split <;> (first | lia | omega)
    · rcases List.mem_cons.mp ha with rfl | ha
      · refine Int.le_trans h0 ?_; split <;> (first | lia | omega)
      · exact minL_le is _ a (.tail _ ha)
theorem maxL_mem : ∀ (is : List Int) (i : Int), maxL i is ∈ i :: is
  | [], _ => .head _
  | x :: is, i => by
    rw [maxL]
    rcases List.mem_cons.mp (maxL_mem is (if x > i then x else i)) with h | h
    · rw [h]; split
      · exact .tail _ (.head _)
      · exact .head _
    · exact .tail _ (.tail _ h)
theorem maxL_ge : ∀ (is : List Int) (i : Int), ∀ a ∈ i :: is, a ≤ maxL i is
  | [], i, a, ha => by simp at ha; subst ha; exact Int.le_refl _
  | x :: is, i, a, ha => by
    rw [maxL]
    have h0 := maxL_ge is (if x > i then x else i) _ (.head _)
    rcases List.mem_cons.mp ha with rfl | ha
    · refine Int.le_trans ?_ h0; split <;> (first | lia | omega)
    · rcases List.mem_cons.mp ha with rfl | ha
      · refine Int.le_trans ?_ h0; split <;> (first | lia | omega)
      · exact maxL_ge is _ a (.tail _ ha)
theorem sum_ints0 (hh : A.handled = none) {l : Addr} {vs : List Value} {ns : List Int} {Q : Value → Shared → Prop} (hl : s.heap.IsList l vs.toArray) (hi : IntsAre vs ns)
    (h : ∀ h' tk t', Ext s.heap h' → Q (.int ns.sum t') { s with heap := h', toks := tk }) : wpAny (model prog w) A (call (.builtin "sum") [.ref l]) Q E s := by
  obtain ⟨xs, hx⟩ := hi.allInts.items
  have hl' : s.heap.IsList l (intItems xs) := hx ▸ hl
  refine sum_intListG hh hl' fun h' tk t' hk => ?_
  have e1 : ns = xs.toList.map (·.1) := by
    rw [← nums_intItems, ← hx]
    exact (show numsOf vs.toArray.toList = ns from hi.numsOf).symm
  have e2 : preSum (numAt xs) xs.size = ns.sum := by
    rw [preSum_eq, e1, List.take_of_length_le (by simp)]
  rw [e2]
  exact h h' tk t' hk
theorem min_ints0 (hh : A.handled = none) {l : Addr} {vs : List Value} {ns : List Int} {Q : Value → Shared → Prop} (hl : s.heap.IsList l vs.toArray) (hi : IntsAre vs ns) (hne : 0 < ns.length)
    (h : ∀ h' M (t : Tok) tk, Ext s.heap h' → M ∈ ns → (∀ a, a ∈ ns → M ≤ a) → Q (.int M t) { s with heap := h', toks := tk }) : wpAny (model prog w) A (call (.builtin "min") [.ref l]) Q E s := by
  obtain ⟨xs, e⟩ := hi.allInts.items
  have hns : ns = xs.toList.map (·.1) := by rw [← hi.numsOf, ← nums_intItems, ← e]
  have hsz : 0 < xs.size := by
    have h3 := hne; rw [hns, List.length_map, Array.length_toList] at h3; exact h3
  rw [e] at hl
  refine min_intList hh hl hsz fun v h' tk hv hk => ?_
  obtain ⟨t, rfl⟩ := intItems_at hv
  obtain ⟨h1, h2⟩ := argBest_lt (numAt xs) (xs.size - 1)
  refine h _ _ t tk hk ?_ fun a ha => ?_
  · rw [hns, numAt_eq]; exact getD_mem (by rw [List.length_map, Array.length_toList]; (first | lia | omega))
  · rw [hns] at ha
    obtain ⟨j, hj, rfl⟩ := mem_getD ha
    rw [List.length_map, Array.length_toList] at hj
    rw [← numAt_eq]; exact h2 j (by (first | lia | omega))
theorem max_ints0 (hh : A.handled = none) {l : Addr} {vs : List Value} {ns : List Int} {Q : Value → Shared → Prop} (hl : s.heap.IsList l vs.toArray) (hi : IntsAre vs ns) (hne : 0 < ns.length)
    (h : ∀ h' M (t : Tok) tk, Ext s.heap h' → M ∈ ns → (∀ a, a ∈ ns → a ≤ M) → Q (.int M t) { s with heap := h', toks := tk }) : wpAny (model prog w) A (call (.builtin "max") [.ref l]) Q E s := by
  obtain ⟨xs, e⟩ := hi.allInts.items
  have hns : ns = xs.toList.map (·.1) := by rw [← hi.numsOf, ← nums_intItems, ← e]
  have hsz : 0 < xs.size := by
    have h3 := hne; rw [hns, List.length_map, Array.length_toList] at h3; exact h3
  rw [e] at hl
  refine max_intList hh hl hsz fun v h' tk hv hk => ?_
  obtain ⟨t, rfl⟩ := intItems_at hv
  obtain ⟨h1, h2⟩ := argBest_gt (numAt xs) (xs.size - 1)
  refine h _ _ t tk hk ?_ fun a ha => ?_
  · rw [hns, numAt_eq]; exact getD_mem (by rw [List.length_map, Array.length_toList]; (first | lia | omega))
  · rw [hns] at ha
    obtain ⟨j, hj, rfl⟩ := mem_getD ha
    rw [List.length_map, Array.length_toList] at hj
    rw [← numAt_eq]; exact h2 j (by (first | lia | omega))
noncomputable def Bi.name : Bi → String
  | .sum => "sum" | .len => "len" | .min => "min" | .max => "max" | .abs => "abs" | .isTuple => "isinstance"
noncomputable def Bi.more : Bi → List Value
  | .isTuple => [.type "tuple"]
  | _ => []
theorem one_view {d : D} {vs : List Value} (r : Reps w prog F s.heap vs [d]) : ∃ v, vs = [v] ∧ Rep w prog F s.heap v d := by
  obtain ⟨v, vs, rfl, a, r⟩ := r.view
  rw [show vs = [] from r.view]; exact ⟨v, rfl, a⟩
theorem two_view {d e : D} {vs : List Value} (r : Reps w prog F s.heap vs [d, e]) : ∃ v v', vs = [v, v'] ∧ Rep w prog F s.heap v d ∧ Rep w prog F s.heap v' e := by
  obtain ⟨v, vs, rfl, a, r⟩ := r.view
  obtain ⟨v', rfl, b⟩ := one_view r
  exact ⟨v, v', rfl, a, b⟩
theorem sum_sound (hh : A.handled = none) {vs : List Value} {ds : List D} {Q : D → Prop} (r : Reps w prog F s.heap vs ds) (hq : biW .sum ds Q) : wpAny (model prog w) A (call (.builtin "sum") vs) (Po w prog F s Q) E s := by
  obtain ⟨d, rfl, h1⟩ := on1_inv hq
  obtain ⟨xs, rfl, is, hi, _, h2⟩ := onL_inv h1
  obtain ⟨v, rfl, a⟩ := one_view r
  obtain ⟨l, vs, rfl, _, e, r⟩ := a.view
  exact sum_ints0 hh e (ints_are r hi) fun h' tk t' x => po_int h2 (Evl.of x)
theorem lenW_inv {d : D} {Q : D → Prop} (h : lenW d Q) : (∃ xs, d = .lst xs ∧ fits xs.length ∧ Q (.int xs.length)) ∨ ∃ xs, d = .dct xs ∧ fits xs.length ∧ Q (.int xs.length) := by
  cases d <;> first | exact .inl ⟨_, rfl, h⟩ | exact .inr ⟨_, rfl, h⟩ | exact h.elim
theorem len_sound (hS : F sysModules) {vs : List Value} {ds : List D} {Q : D → Prop} (r : Reps w prog F s.heap vs ds) (hq : biW .len ds Q) : wpAny (model prog w) A (call (.builtin "len") vs) (Po w prog F s Q) E s := by
  obtain ⟨d, rfl, h1⟩ := on1_inv hq
  obtain ⟨v, rfl, a⟩ := one_view r
  rcases lenW_inv h1 with ⟨xs, rfl, hf, h2⟩ | ⟨xs, rfl, hf, h2⟩
  · obtain ⟨l, vs, rfl, _, e, r⟩ := a.view
    unfold fits at hf
    refine call_len_list e (by rw [List.size_toArray, r.length]; (first | lia | omega)) (po_int ?_ Evl.toks)
    rw [List.size_toArray, r.length]; exact h2
  · obtain ⟨l, vs, rfl, hF, e, r⟩ := a.view
    unfold fits at hf
    refine call_len_dict (knd := kind prog w) (beq_eq_false_iff_ne.mpr fun q => hF (q ▸ hS)) e (by rw [r.length]; (first | lia | omega)) ?_
    rw [r.length]; exact po_int h2 Evl.toks
theorem min_sound (hh : A.handled = none) {vs : List Value} {ds : List D} {Q : D → Prop} (r : Reps w prog F s.heap vs ds) (hq : biW .min ds Q) : wpAny (model prog w) A (call (.builtin "min") vs) (Po w prog F s Q) E s := by
  rcases on12_inv hq with ⟨d, rfl, h1⟩ | ⟨d, e, rfl, h1⟩
  · obtain ⟨v, rfl, a⟩ := one_view r
    obtain ⟨xs, rfl, i, is, hi, h2⟩ := onL_inv h1
    obtain ⟨l, vs, rfl, _, e, r⟩ := a.view
    refine min_ints0 hh e (ints_are r hi) (Nat.succ_pos _) fun h' M t tk x h1 h3 => po_int ?_ (Evl.of x)
    rw [show M = minL i is from Int.le_antisymm (h3 _ (minL_mem _ _)) (minL_le _ _ _ h1)]; exact h2
  · obtain ⟨v, v', rfl, a, b⟩ := two_view r
    obtain ⟨x, t, y, u, rfl, rfl, h2⟩ := onI2 (k := fun a b => Q (.int (if b < a then b else a))) a b h1
    refine min_two_ints hh fun h' tk z => ?_
    by_cases c : y < x
    · rw [if_pos c] at h2 ⊢; exact po_int h2 (Evl.of z)
    · rw [if_neg c] at h2 ⊢; exact po_int h2 (Evl.of z)
theorem max_sound (hh : A.handled = none) {vs : List Value} {ds : List D} {Q : D → Prop} (r : Reps w prog F s.heap vs ds) (hq : biW .max ds Q) : wpAny (model prog w) A (call (.builtin "max") vs) (Po w prog F s Q) E s := by
  rcases on12_inv hq with ⟨d, rfl, h1⟩ | ⟨d, e, rfl, h1⟩
  · obtain ⟨v, rfl, a⟩ := one_view r
    obtain ⟨xs, rfl, i, is, hi, h2⟩ := onL_inv h1
    obtain ⟨l, vs, rfl, _, e, r⟩ := a.view
    refine max_ints0 hh e (ints_are r hi) (Nat.succ_pos _) fun h' M t tk x h1 h3 => po_int ?_ (Evl.of x)
    rw [show M = maxL i is from Int.le_antisymm (maxL_ge _ _ _ h1) (h3 _ (maxL_mem _ _))]; exact h2
  · obtain ⟨v, v', rfl, a, b⟩ := two_view r
    obtain ⟨x, t, y, u, rfl, rfl, h2⟩ := onI2 (k := fun a b => Q (.int (if b > a then b else a))) a b h1
    refine max_two_ints hh fun h' tk z => ?_
    by_cases c : y > x
    · rw [if_pos c] at h2 ⊢; exact po_int h2 (Evl.of z)
    · rw [if_neg c] at h2 ⊢; exact po_int h2 (Evl.of z)
theorem isTupW_inv {d : D} {Q : D → Prop} (h : isTupW d Q) : (∃ xs, d = .tup xs ∧ Q (.bool true)) ∨ ∃ i, d = .int i ∧ Q (.bool false) := by
  cases d <;> first | exact .inl ⟨_, rfl, h⟩ | exact .inr ⟨_, rfl, h⟩ | exact h.elim
theorem isTup_sound {vs : List Value} {ds : List D} {Q : D → Prop} (r : Reps w prog F s.heap vs ds) (hq : biW .isTuple ds Q) : wpAny (model prog w) A (call (.builtin "isinstance") (vs ++ [.type "tuple"])) (Po w prog F s Q) E s := by
  obtain ⟨d, rfl, h1⟩ := on1_inv hq
  obtain ⟨v, rfl, a⟩ := one_view r
  rcases isTupW_inv h1 with ⟨xs, rfl, h2⟩ | ⟨i, rfl, h2⟩
  · obtain ⟨l, vs, rfl, _, ⟨o, e, hc, _⟩, r⟩ := a.view
    exact call_isinstance_yes (Tx := "tuple") ⟨o, e, hc⟩ (show typeOf (.type "tuple") = pure (.type "type") by kernel_rfl) (by rw [isSubtype_type]; kernel_rfl) ⟨_, h2, .refl _ _, .bool _⟩
  · obtain ⟨t, rfl⟩ := a.view
    exact call_isinstance (isinstance_false_int (by decide) (show typeOf (.type "tuple") = pure (.type "type") by kernel_rfl) PySem.F.sub_int_tuple) ⟨_, h2, Evl.toks, .bool _⟩
theorem bi_sound (hS : F sysModules) (hh : A.handled = none) {b : Bi} {vs : List Value} {ds : List D} {Q : D → Prop} (r : Reps w prog F s.heap vs ds) (hq : biW b ds Q) :
    wpAny (model prog w) A (call (.builtin b.name) (vs ++ b.more)) (Po w prog F s Q) E s := by
  have e : ∀ {b : Bi}, b.more = [] → vs ++ b.more = vs := fun e => by rw [e, List.append_nil]
  cases b with
  | isTuple => exact isTup_sound r hq
  | sum => rw [e rfl]; exact sum_sound hh r hq
  | len => rw [e rfl]; exact len_sound hS r hq
  | min => rw [e rfl]; exact min_sound hh r hq
  | max => rw [e rfl]; exact max_sound hh r hq
  | abs =>
    rw [e rfl]
    obtain ⟨d, rfl, h1⟩ := on1_inv hq
    obtain ⟨v, rfl, a⟩ := one_view r
    obtain ⟨i, rfl, h2⟩ := onI_inv h1
    obtain ⟨t, rfl⟩ := a.view
    exact PyProof.Rows.call_abs_int fun u tk => po_int h2 Evl.toks
end
end Mine
end
section
open PySem PySem.Calls PyProof.Rows
namespace Mine
noncomputable def writable (lo : Bool) (names : List (Str × NameKind)) (x : Str) : Bool := names.lookup x == some .local || (!lo && names.lookup x == some .cell)
noncomputable def tgtName (lo : Bool) (names : List (Str × NameKind)) (tbl : List Str) (i : Nat) : Expr → Bool
  | .Name x _ => tbl[i]? == some x && writable lo names x
  | _ => false
noncomputable def tgtNames (lo : Bool) (names : List (Str × NameKind)) (tbl : List Str) : List Nat → List Expr → Bool
  | [], [] => true
  | i :: is, e :: es => tgtName lo names tbl i e && tgtNames lo names tbl is es
  | _, _ => false
noncomputable def okT (lo : Bool) (names : List (Str × NameKind)) (tbl : List Str) : Tgt → Expr → Bool
  | .nm i, e => tgtName lo names tbl i e
  | .tp is, .Tuple es _ _ => tgtNames lo names tbl is es
  | _, _ => false
noncomputable def Wr (lo : Bool) (env : Env) (W : Addr → Prop) : Addr → Prop := fun b => W b ∧ (b = env.locals ∨ lo = false)
section
variable {prog : Program} {w : World} {A : Around} {E : Value → Shared → Prop} {s s' s₁ : Shared} {s₀ : Base} {env : Env} {tbl : List Str} {N N' W W' : Addr → Prop} {ρ : Rho} {lo : Bool}
theorem tgtName_inv {names : List (Str × NameKind)} {i : Nat} {e : Expr} (h : tgtName lo names tbl i e = true) : ∃ x p, e = .Name x p ∧ tbl[i]? = some x ∧ writable lo names x = true := by
  cases e <;> first | cases h | skip
  rename_i x p
  simp only [tgtName, Bool.and_eq_true, beq_iff_eq] at h
  exact ⟨x, p, rfl, h.1, h.2⟩
theorem Home.write {x : Str} {a : Addr} {b : Bool} (H : Home env x a b) (hw : writable lo env.scope.names x = true) : Home env x a true ∧ (a = env.locals ∨ lo = false) := by
  cases H with
  | loc h => exact ⟨.loc h, .inl rfl⟩
  | cel h hc =>
    have : env.scope.names.lookup x = some .cell := h
    refine ⟨.cel h hc, .inr ?_⟩
    simpa [writable, this] using hw
  | fre h hc =>
    have : env.scope.names.lookup x = some .free := h
    simp [writable, this] at hw
theorem assign_name {i : Nat} {e : Expr} {v : Value} {d : D} {Q : Unit → Shared → Prop} (S : St w prog env tbl s₀ N W ρ s) (R : Frm env tbl N W) (ht : tgtName lo env.scope.names tbl i e = true) (r : Rep w prog (fun a => N a ∨ W a) s.heap v d)
    (h : ∀ s', St w prog env tbl s₀ N W (ρ.set i (some (.sh d))) s' → Aft (Wr lo env W) s s' → Q () s') : wpAny (model prog w) A (assign e env v) Q E s := by
  obtain ⟨x, p, rfl, hx, hw⟩ := tgtName_inv ht
  obtain ⟨a, b, H⟩ := R.home x (List.mem_of_getElem? hx)
  obtain ⟨H', hl⟩ := H.write hw
  exact wpAny_assign_Name (S.store R hx H' r fun s' S' a' => h s' S' (a'.mono fun b hb => by subst hb; exact ⟨R.homeW x (List.mem_of_getElem? hx) _ H', hl⟩))
theorem assignEach_names {names : List (Str × NameKind)} : ∀ {is : List Nat} {es : List Expr}, tgtNames lo names tbl is es = true → assignEach es env = es.map fun e => (false, assign e env)
  | [], [], _ => rfl
  | i :: is, e :: es, h => by
    simp only [tgtNames, Bool.and_eq_true] at h
    obtain ⟨x, p, rfl, _⟩ := tgtName_inv h.1
    show (false, assign (.Name x p) env) :: assignEach es env = _
    rw [assignEach_names h.2]; rfl
  | [], _ :: _, h => by cases h
  | _ :: _, [], h => by cases h
theorem tgtNames_length {names : List (Str × NameKind)} : ∀ {is : List Nat} {es : List Expr}, tgtNames lo names tbl is es = true → is.length = es.length
  | [], [], _ => rfl
  | i :: is, e :: es, h => by
    simp only [tgtNames, Bool.and_eq_true] at h
    simp [tgtNames_length h.2]
  | [], _ :: _, h => by cases h
  | _ :: _, [], h => by cases h
theorem assign_order : ∀ {is : List Nat} {es : List Expr} {vs : List Value} {ds : List D} {ρ : Rho} {s : Shared} {Q : Unit → Shared → Prop}, tgtNames lo env.scope.names tbl is es = true → St w prog env tbl s₀ N W ρ s → Frm env tbl N W →
    Reps w prog (fun a => N a ∨ W a) s.heap vs ds → is.length = ds.length → (∀ s', St w prog env tbl s₀ N W (ρ.setAll is ds) s' → Aft (Wr lo env W) s s' → Q () s') →
    wpAny (model prog w) A (assignInOrder (es.map fun e => assign e env) vs) Q E s
  | [], [], vs, ds, ρ, s, Q, _, S, R, r, hl, h => by
    cases ds with
    | nil => cases r; exact wpAny_pure (h _ S (.refl _ _))
    | cons _ _ => simp at hl
  | i :: is, e :: es, vs, ds, ρ, s, Q, ht, S, R, r, hl, h => by
    simp only [tgtNames, Bool.and_eq_true] at ht
    cases ds with
    | nil => simp at hl
    | cons d ds =>
      cases r with
      | @cons v _ vs _ rv r =>
        show wpAny _ _ (assignInOrder (assign e env :: es.map fun e => assign e env) (v :: vs)) _ _ _
        unfold assignInOrder
        refine wpAny_bind (wpAny_holding (assign_name S R ht.1 rv fun s₁ S₁ a₁ => ?_))
        have k : ∀ a o, ¬ (N a ∨ W a) → s.heap.get? a = some o → ¬ (N a ∨ W a) ∧ s₁.heap.get? a = some o := fun a o hF e => ⟨hF, a₁.heap a o (fun q => hF (.inr q.1)) e⟩
        exact assign_order ht.2 S₁ R (r.go k) (by simpa using hl) fun s' S' a' => h s' S' (a₁.trans a')
  | [], _ :: _, _, _, _, _, _, h, _, _, _, _, _ => by cases h
  | _ :: _, [], _, _, _, _, _, h, _, _, _, _, _ => by cases h
theorem asg_sound (hh : A.handled = none) {t : Tgt} {e : Expr} {v : Value} {d : D} {P : Rho → Prop} (S : St w prog env tbl s₀ N W ρ s) (R : Frm env tbl N W) (ht : okT lo env.scope.names tbl t e = true) (r : Rep w prog (fun a => N a ∨ W a) s.heap v d)
    (hq : asgW t d ρ P) {Q : Unit → Shared → Prop} (h : ∀ ρ' s', P ρ' → St w prog env tbl s₀ N W ρ' s' → Aft (Wr lo env W) s s' → Q () s') : wpAny (model prog w) A (assign e env v) Q E s := by
  cases t with
  | nm i => exact assign_name S R ht r fun s' S' a' => h _ s' hq S' a'
  | tp is =>
    cases e with
    | Tuple es k p =>
      cases r with
      | @tup l vs ds hF el rs =>
        obtain ⟨hl, hq⟩ := hq
        have ha := assignEach_names (env := env) ht
        refine wpAny_assign_Tuple hh el (by rw [ha]; simp [← tgtNames_length ht, hl, rs.length]) ?_ fun h' x => ?_
        · rw [ha, List.findIdx?_eq_none_iff]; simp
        · have ev : Evl s { s with heap := h' } := Evl.of (tk := s.toks) fun b o e => x b o (Nat.ne_of_lt (Heap.lt_size e)) e
          rw [ha, List.map_map]
          refine assign_order ht (S.step ev) R (rs.ext ev.ext) hl fun s' S' a' => h _ s' hq S' (ev.aft.trans a')
      | none => exact hq.elim
      | bool _ => exact hq.elim
      | int _ _ => exact hq.elim
      | str _ _ => exact hq.elim
      | lst _ _ _ => exact hq.elim
      | dct _ _ _ => exact hq.elim
    | _ => cases ht
end
end Mine
end
section
open PySem PySem.Calls PyProof.Rows
namespace Mine
noncomputable def turnShape (ipos : Pos) (t : Expr) (it : Value) (ifs : List Expr) (env : Env) (fin nxt : Sem Fin) : Sem Fin := do
  standAt ipos
  match ← pyNext it with
  | none => pure (.done .next)
  | some v =>
    letOwnedTupleGo t it v
    assign t env v
    let mut ok := true
    for c in ifs do
      if ok then ok ← isTrue c env (eval c env)
    if ok then fin else nxt
noncomputable abbrev ifsRun (ifs : List Expr) (env : Env) : Sem Bool := forIn ifs true fun c r => if r = true then do let ok ← isTrue c env (eval c env); pure (ForInStep.yield ok) else pure (ForInStep.yield r)
section
variable {prog : Program} {w : World} {A : Around} {E : Value → Shared → Prop} {R : Result → Shared → Prop} {s : Shared}
theorem turn_of {ipos : Pos} {t : Expr} {it : Value} {ifs : List Expr} {env : Env} {fin nxt : Sem Fin} {Q : Fin → Shared → Prop}
    (h : wpAny (model prog w) A (pyNext it) (fun r s₁ => match r with
      | none => Q (.done .next) s₁
      | some v => wpAny (model prog w) A (letOwnedTupleGo t it v) (fun _ s₁' => wpAny (model prog w) A (assign t env v) (fun _ s₂ => wpAny (model prog w) A (ifsRun ifs env) (fun ok s₃ =>
          if ok = true then wpAny (model prog w) A fin Q E s₃ else wpAny (model prog w) A nxt Q E s₃) E s₂) E s₁') E s₁) E s) :
    wpAny (model prog w) A (turnShape ipos t it ifs env fin nxt) Q E s := by
  unfold turnShape
  refine wpAny_bind (wpAny_standAt (wpAny_bind (wpAny_mono h (fun r s₁ h₁ => ?_) fun _ _ h' => h')))
  cases r with
  | none => exact wpAny_pure h₁
  | some v =>
    refine wpAny_bind (wpAny_mono h₁ (fun _ s₂ h₂ => wpAny_bind (wpAny_mono h₂ (fun _ s₃ h₃ => wpAny_bind (wpAny_mono h₃ (fun ok s₄ h₄ => ?_) fun _ _ h' => h')) fun _ _ h' => h')) fun _ _ h' => h')
    cases ok with
    | false => exact h₄
    | true => exact h₄
theorem compLoop_L {elt : Expr} {gens : List Comprehension} {scope : Scope} {pos : Pos} {depth : Nat} {it acc : Value} {env : Env} {ipos : Pos} {t : Expr} {ifs : List Expr} {fin : Sem Fin}
    (hs : compTurn (.ListComp elt gens scope pos) depth it acc env = turnShape ipos t it ifs env fin (again (.compLoop (.ListComp elt gens scope pos) depth it acc env)))
    (I : Nat → Shared → Prop)
    (turn : ∀ n s, I n s → wpAny (model prog w) A (pyNext it) (fun r s₁ => match r with
      | none => R (.ok .next) s₁
      | some v => wpAny (model prog w) A (letOwnedTupleGo t it v) (fun _ s₁' => wpAny (model prog w) A (assign t env v) (fun _ s₂ => wpAny (model prog w) A (ifsRun ifs env) (fun ok s₃ =>
          if ok = true then wpAny (model prog w) A fin (fun f s₄ => f = .again (.compLoop (.ListComp elt gens scope pos) depth it acc env) ∧ ∃ m, m < n ∧ I m s₄) (fun _ _ => False) s₃ else ∃ m, m < n ∧ I m s₃) (fun _ _ => False) s₂) (fun _ _ => False) s₁') (fun _ _ => False) s₁) (fun _ _ => False) s)
    (n : Nat) (h : I n s) : codeAny (model prog w) A (.compLoop (.ListComp elt gens scope pos) depth it acc env) R s := by
  refine codeAny_loop rfl I (fun n s hI => ?_) n h
  show wpAny _ A ((compTurn (.ListComp elt gens scope pos) depth it acc env).onRaise (fun x => do noteFrame x env; theTreesLotGoes x)) _ _ s
  refine wpAny_noted ?_
  rw [hs]
  refine wpAny_mono (turn_of (Q := fun fin s' => match fin with | .done f => R (.ok f) s' | .again c' => c' = .compLoop (.ListComp elt gens scope pos) depth it acc env ∧ ∃ m, m < n ∧ I m s') (E := fun _ _ => False)
    (wpAny_mono (turn n s hI) (fun r s₁ h₁ => ?_) fun _ _ h' => h')) (fun _ _ h' => h') fun _ _ h' => h'.elim
  cases r with
  | none => exact h₁
  | some v =>
    refine wpAny_mono h₁ (fun _ s₂ h₂ => wpAny_mono h₂ (fun _ s₃ h₃ => wpAny_mono h₃ (fun ok s₄ h₄ => ?_) fun _ _ h' => h') fun _ _ h' => h') fun _ _ h' => h'
    cases ok with
    | false => exact wpAny_pure ⟨rfl, h₄⟩
    | true => exact wpAny_mono h₄ (fun f s₅ h₅ => by obtain ⟨rfl, h₅⟩ := h₅; exact ⟨rfl, h₅⟩) fun _ _ h' => h'
theorem compLoop_D {kx vx : Expr} {gens : List Comprehension} {scope : Scope} {pos : Pos} {depth : Nat} {it acc : Value} {env : Env} {ipos : Pos} {t : Expr} {ifs : List Expr} {fin : Sem Fin}
    (hs : compTurn (.DictComp kx vx gens scope pos) depth it acc env = turnShape ipos t it ifs env fin (again (.compLoop (.DictComp kx vx gens scope pos) depth it acc env)))
    (I : Nat → Shared → Prop)
    (turn : ∀ n s, I n s → wpAny (model prog w) A (pyNext it) (fun r s₁ => match r with
      | none => R (.ok .next) s₁
      | some v => wpAny (model prog w) A (letOwnedTupleGo t it v) (fun _ s₁' => wpAny (model prog w) A (assign t env v) (fun _ s₂ => wpAny (model prog w) A (ifsRun ifs env) (fun ok s₃ =>
          if ok = true then wpAny (model prog w) A fin (fun f s₄ => f = .again (.compLoop (.DictComp kx vx gens scope pos) depth it acc env) ∧ ∃ m, m < n ∧ I m s₄) (fun _ _ => False) s₃ else ∃ m, m < n ∧ I m s₃) (fun _ _ => False) s₂) (fun _ _ => False) s₁') (fun _ _ => False) s₁) (fun _ _ => False) s)
    (n : Nat) (h : I n s) : codeAny (model prog w) A (.compLoop (.DictComp kx vx gens scope pos) depth it acc env) R s := by
  refine codeAny_loop rfl I (fun n s hI => ?_) n h
  show wpAny _ A ((compTurn (.DictComp kx vx gens scope pos) depth it acc env).onRaise (fun x => do noteFrame x env; theTreesLotGoes x)) _ _ s
  refine wpAny_noted ?_
  rw [hs]
  refine wpAny_mono (turn_of (Q := fun fin s' => match fin with | .done f => R (.ok f) s' | .again c' => c' = .compLoop (.DictComp kx vx gens scope pos) depth it acc env ∧ ∃ m, m < n ∧ I m s') (E := fun _ _ => False)
    (wpAny_mono (turn n s hI) (fun r s₁ h₁ => ?_) fun _ _ h' => h')) (fun _ _ h' => h') fun _ _ h' => h'.elim
  cases r with
  | none => exact h₁
  | some v =>
    refine wpAny_mono h₁ (fun _ s₂ h₂ => wpAny_mono h₂ (fun _ s₃ h₃ => wpAny_mono h₃ (fun ok s₄ h₄ => ?_) fun _ _ h' => h') fun _ _ h' => h') fun _ _ h' => h'
    cases ok with
    | false => exact wpAny_pure ⟨rfl, h₄⟩
    | true => exact wpAny_mono h₄ (fun f s₅ h₅ => by obtain ⟨rfl, h₅⟩ := h₅; exact ⟨rfl, h₅⟩) fun _ _ h' => h'
theorem shape_L1 (elt t iter : Expr) (ifs : List Expr) (scope : Scope) (pos : Pos) (it acc : Value) (env : Env) :
    compTurn (.ListComp elt [⟨t, iter, ifs, 0⟩] scope pos) 0 it acc env = turnShape iter.pos t it ifs env ((do let _ ← call (.builtin "list.append") [acc, ← eval elt env] : Sem Unit) >>= fun _ => again (.compLoop (.ListComp elt [⟨t, iter, ifs, 0⟩] scope pos) 0 it acc env))
      (again (.compLoop (.ListComp elt [⟨t, iter, ifs, 0⟩] scope pos) 0 it acc env)) := rfl
theorem shape_L20 (elt t iter t₂ iter₂ : Expr) (ifs ifs₂ : List Expr) (scope : Scope) (pos : Pos) (it acc : Value) (env : Env) :
    compTurn (.ListComp elt [⟨t, iter, ifs, 0⟩, ⟨t₂, iter₂, ifs₂, 0⟩] scope pos) 0 it acc env = turnShape iter.pos t it ifs env (do
        let x ← eval iter₂ env
        standAt iter₂.pos
        let x ← foldedSetIterable iter₂ env x
        let _ ← runOwn (.compStart (.ListComp elt [⟨t, iter, ifs, 0⟩, ⟨t₂, iter₂, ifs₂, 0⟩] scope pos) 1 (← holding [x] (pyIter x)) acc env) env
        again (.compLoop (.ListComp elt [⟨t, iter, ifs, 0⟩, ⟨t₂, iter₂, ifs₂, 0⟩] scope pos) 0 it acc env))
      (again (.compLoop (.ListComp elt [⟨t, iter, ifs, 0⟩, ⟨t₂, iter₂, ifs₂, 0⟩] scope pos) 0 it acc env)) := rfl
theorem shape_L21 (elt t iter t₂ iter₂ : Expr) (ifs ifs₂ : List Expr) (scope : Scope) (pos : Pos) (it acc : Value) (env : Env) :
    compTurn (.ListComp elt [⟨t, iter, ifs, 0⟩, ⟨t₂, iter₂, ifs₂, 0⟩] scope pos) 1 it acc env = turnShape iter₂.pos t₂ it ifs₂ env
      ((do let _ ← call (.builtin "list.append") [acc, ← eval elt env] : Sem Unit) >>= fun _ => again (.compLoop (.ListComp elt [⟨t, iter, ifs, 0⟩, ⟨t₂, iter₂, ifs₂, 0⟩] scope pos) 1 it acc env))
      (again (.compLoop (.ListComp elt [⟨t, iter, ifs, 0⟩, ⟨t₂, iter₂, ifs₂, 0⟩] scope pos) 1 it acc env)) := rfl
noncomputable def putBody (kx vx : Expr) (d : Addr) (env : Env) : Sem Unit := do
  let kv ← eval kx env
  let vv ← holding [kv] (eval vx env)
  standAt { kx.pos with endLine := vx.pos.endLine, endCol := vx.pos.endCol }
  holding [kv, vv] (dictSet d kv vv)
theorem shape_D1 (kx vx t iter : Expr) (ifs : List Expr) (scope : Scope) (pos : Pos) (it : Value) (d : Addr) (env : Env) :
    compTurn (.DictComp kx vx [⟨t, iter, ifs, 0⟩] scope pos) 0 it (.ref d) env = turnShape iter.pos t it ifs env (putBody kx vx d env >>= fun _ => again (.compLoop (.DictComp kx vx [⟨t, iter, ifs, 0⟩] scope pos) 0 it (.ref d) env))
      (again (.compLoop (.DictComp kx vx [⟨t, iter, ifs, 0⟩] scope pos) 0 it (.ref d) env)) := rfl
theorem compStart_L {elt : Expr} {gens : List Comprehension} {scope : Scope} {pos : Pos} {depth : Nat} {it acc : Value} {env : Env} {g : Comprehension} (hg : gens[depth]? = some g) (ha : g.is_async = 0)
    (hi : ∀ (Q : Value → Shared → Prop) (E : Value → Shared → Prop), Q it s → wpAny (model prog w) A (pyIter it) Q E s)
    (h0 : codeAny (model prog w) A (.compLoop (.ListComp elt gens scope pos) depth it acc env) R s) : codeAny (model prog w) A (.compStart (.ListComp elt gens scope pos) depth it acc env) R s := by
  refine codeAny_of_tree ?_
  show wpAny _ _ ((compStart (.ListComp elt gens scope pos) depth it acc env).onRaise (fun x => do noteFrame x env; standAt theWindowsPlace)) _ _ s
  refine wpAny_notedAt ?_
  unfold compStart
  have e1 : ((clausesOf (.ListComp elt gens scope pos))[depth]?) = some g := hg
  rw [e1]
  simp only [Option.elim_some, ha, bne_self_eq_false, Bool.false_eq_true, if_false]
  refine wpAny_bind (wpAny_askSetting (wpAny_ite ?_))
  split
  · first
      | exact wpAny_bind (wpAny_pure (wpAny_pure (And.intro rfl h0)))
      | exact wpAny_pure (And.intro rfl h0)
  · exact wpAny_bind (wpAny_rule (wpAny_bind (wpAny_standAt (wpAny_bind (hi _ _ (wpAny_pure (And.intro rfl h0)))))))
theorem compStart_D {kx vx : Expr} {gens : List Comprehension} {scope : Scope} {pos : Pos} {depth : Nat} {it acc : Value} {env : Env} {g : Comprehension} (hg : gens[depth]? = some g) (ha : g.is_async = 0)
    (hi : ∀ (Q : Value → Shared → Prop) (E : Value → Shared → Prop), Q it s → wpAny (model prog w) A (pyIter it) Q E s)
    (h0 : codeAny (model prog w) A (.compLoop (.DictComp kx vx gens scope pos) depth it acc env) R s) : codeAny (model prog w) A (.compStart (.DictComp kx vx gens scope pos) depth it acc env) R s := by
  refine codeAny_of_tree ?_
  show wpAny _ _ ((compStart (.DictComp kx vx gens scope pos) depth it acc env).onRaise (fun x => do noteFrame x env; standAt theWindowsPlace)) _ _ s
  refine wpAny_notedAt ?_
  unfold compStart
  have e1 : ((clausesOf (.DictComp kx vx gens scope pos))[depth]?) = some g := hg
  rw [e1]
  simp only [Option.elim_some, ha, bne_self_eq_false, Bool.false_eq_true, if_false]
  refine wpAny_bind (wpAny_askSetting (wpAny_ite ?_))
  split
  · first
      | exact wpAny_bind (wpAny_pure (wpAny_pure (And.intro rfl h0)))
      | exact wpAny_pure (And.intro rfl h0)
  · exact wpAny_bind (wpAny_rule (wpAny_bind (wpAny_standAt (wpAny_bind (hi _ _ (wpAny_pure (And.intro rfl h0)))))))
end
end Mine
end
section
open PySem PySem.Calls PyProof.Rows
namespace Mine
noncomputable def isLocal : NameKind → Bool
  | .local => true | _ => false
noncomputable def isFree : NameKind → Bool
  | .free => true | _ => false
noncomputable def isCell : NameKind → Bool
  | .cell => true | _ => false
noncomputable def plainName (x : Str) : Bool := !(x == ("__debug__" : Str)) && !(x == ("__classdict__" : Str))
noncomputable def capOk (names pnames : List (Str × NameKind)) (ptbl : List Str) : List Str → List (Option Nat) → Bool
  | [], [] => true
  | x :: tbl, none :: cap => names.lookup x == some .local && capOk names pnames ptbl tbl cap
  | x :: tbl, some j :: cap => ptbl[j]? == some x && names.lookup x == some .free && (pnames.lookup x == some .cell || pnames.lookup x == some .free) && capOk names pnames ptbl tbl cap
  | _, _ => false
noncomputable def scopeOk (names pnames : List (Str × NameKind)) (ptbl tbl : List Str) (cap : List (Option Nat)) : Bool :=
  capOk names pnames ptbl tbl cap && decide tbl.Nodup && tbl.all plainName && decide (names.map (·.1)).Nodup &&
  names.all fun p => !isCell p.2 && (!isLocal p.2 || names.lookup p.1 == some .local) && (!isFree p.2 || (ptbl.contains p.1 && (pnames.lookup p.1 == some .cell || pnames.lookup p.1 == some .free)))
section
variable {prog : Program} {w : World} {A : Around} {E : Value → Shared → Prop} {s s' : Shared} {s₀ : Base} {env : Env} {tbl tbl' : List Str} {N W : Addr → Prop} {ρ : Rho} {scope : Scope} {cap : List (Option Nat)}
theorem closure_aux : ∀ (names : List (Str × NameKind)) (acc : List (Str × Addr)) (f : Str × NameKind → List (Str × Addr) → Sem (ForInStep (List (Str × Addr)))),
    (∀ n k cs, f (n, k) cs = if k == .free then (do let c ← cellOf env n; pure (.yield ((n, c) :: cs))) else pure (.yield cs)) →
    (∀ n, (n, NameKind.free) ∈ names → ∃ c, env.cells.lookup n = some c) → (names.map (·.1)).Nodup → (∀ n c, (n, c) ∈ acc → env.cells.lookup n = some c ∧ n ∉ names.map (·.1)) → (acc.map (·.1)).Nodup →
    ∃ cl, (forIn names acc f : Sem _) = pure cl ∧ (∀ n c, (n, c) ∈ cl → env.cells.lookup n = some c) ∧ (cl.map (·.1)).Nodup ∧ (∀ n c, (n, c) ∈ acc → (n, c) ∈ cl) ∧ ∀ n, (n, NameKind.free) ∈ names → ∃ c, (n, c) ∈ cl
  | [], acc, f, _, _, _, ha, hn => ⟨acc, by rw [List.forIn_nil], fun n c h => (ha n c h).1, hn, fun _ _ h => h, fun n h => by cases h⟩
  | (n, k) :: names, acc, f, hf, hc, hd, ha, hn => by
    rw [List.map_cons, List.nodup_cons] at hd
    have hc' : ∀ n', (n', NameKind.free) ∈ names → ∃ c, env.cells.lookup n' = some c := fun n' h => hc n' (.tail _ h)
    rw [List.forIn_cons, hf]
    by_cases hk : k = .free
    · subst hk
      obtain ⟨c, hcc⟩ := hc n (.head _)
      rw [if_pos (by decide)]
      have e1 : cellOf env n = pure c := by unfold cellOf; rw [hcc]
      obtain ⟨cl, h1, h2, h3, h4, h5⟩ := closure_aux names ((n, c) :: acc) f hf hc' hd.2 (fun n' c' h => by
        rcases List.mem_cons.mp h with e | h
        · cases e; exact ⟨hcc, hd.1⟩
        · exact ⟨(ha n' c' h).1, fun q => (ha n' c' h).2 (.tail _ q)⟩) (by
        rw [List.map_cons, List.nodup_cons]
        refine ⟨fun q => ?_, hn⟩
        obtain ⟨⟨n', c'⟩, hm, e⟩ := List.mem_map.mp q
        simp only at e; subst e
        exact (ha _ _ hm).2 (.head _))
      refine ⟨cl, ?_, h2, h3, fun n' c' h => h4 _ _ (.tail _ h), fun n' h => ?_⟩
      · rw [e1]; exact h1
      · rcases List.mem_cons.mp h with e | h
        · cases e; exact ⟨c, h4 _ _ (.head _)⟩
        · exact h5 n' h
    · rw [if_neg (by cases k <;> first | exact absurd rfl hk | decide)]
      obtain ⟨cl, h1, h2, h3, h4, h5⟩ := closure_aux names acc f hf hc' hd.2 (fun n' c' h => ⟨(ha n' c' h).1, fun q => (ha n' c' h).2 (.tail _ q)⟩) hn
      refine ⟨cl, h1, h2, h3, h4, fun n' h => ?_⟩
      rcases List.mem_cons.mp h with e | h
      · cases e; exact absurd rfl hk
      · exact h5 n' h
theorem closure_of (hc : ∀ n, (n, NameKind.free) ∈ scope.names → ∃ c, env.cells.lookup n = some c) (hd : (scope.names.map (·.1)).Nodup) :
    ∃ cl, closureFor scope env = pure cl ∧ (∀ n c, (n, c) ∈ cl → env.cells.lookup n = some c) ∧ (cl.map (·.1)).Nodup ∧ ∀ n, (n, NameKind.free) ∈ scope.names → ∃ c, (n, c) ∈ cl := by
  obtain ⟨cl, h1, h2, h3, _, h5⟩ := closure_aux (env := env) scope.names [] (fun x cs => match x with | (n, k) => if k == .free then (do let c ← cellOf env n; pure (.yield ((n, c) :: cs))) else pure (.yield cs)) (fun n k cs => rfl) hc hd (fun n c h => by cases h) .nil
  refine ⟨cl, ?_, h2, h3, h5⟩
  unfold closureFor
  show ((forIn scope.names ([] : List (Str × Addr)) fun x cs => match x with | (n, k) => if (k == NameKind.free) = true then (do let c ← cellOf env n; pure (.yield ((n, c) :: cs))) else pure (.yield cs) : Sem (List (Str × Addr))) >>= fun cs => pure cs) = pure cl
  rw [h1]; rfl
theorem mem_lookup {α : Type} : ∀ {l : List (Str × α)} {n : Str} {c : α}, (l.map (·.1)).Nodup → (n, c) ∈ l → l.lookup n = some c
  | (k, v) :: r, n, c, hd, hm => by
    rw [List.map_cons, List.nodup_cons] at hd
    rw [List.lookup_cons]
    rcases List.mem_cons.mp hm with e | hm'
    · cases e; simp
    · have : (n == k) = false := by
        rw [beq_eq_false_iff_ne]; intro e; subst e
        exact hd.1 (List.mem_map.mpr ⟨_, hm', rfl⟩)
      rw [this]; exact mem_lookup hd.2 hm'
  | [], _, _, _, hm => by cases hm
theorem relabel_lookup (scope : Scope) (env : Env) (x : Str) : (relabel scope env).names.lookup x = (scope.names.lookup x).map fun k => if (k == .free && env.scope.kind == .function && env.kindOf x == some .cell) then .cell else k := by
  show (scope.names.map _).lookup x = _
  induction scope.names with
  | nil => rfl
  | cons p r ih =>
    obtain ⟨n, k⟩ := p
    rw [List.map_cons]
    show List.lookup x ((if (k == .free && env.scope.kind == .function && env.kindOf n == some .cell) = true then (n, NameKind.cell) else (n, k)) :: _) = _
    by_cases hx : x = n
    · subst hx
      by_cases hc : (k == .free && env.scope.kind == .function && env.kindOf x == some .cell) = true
      · rw [if_pos hc]; simp only [List.lookup_cons, beq_self_eq_true, Option.map_some]; rw [if_pos hc]
      · rw [if_neg hc]; simp only [List.lookup_cons, beq_self_eq_true, Option.map_some]; rw [if_neg hc]
    · have hb : (x == n) = false := by rw [beq_eq_false_iff_ne]; exact hx
      by_cases hc : (k == .free && env.scope.kind == .function && env.kindOf n == some .cell) = true
      · rw [if_pos hc]; simp only [List.lookup_cons, hb]; exact ih
      · rw [if_neg hc]; simp only [List.lookup_cons, hb]; exact ih
theorem capOk_at {names pnames : List (Str × NameKind)} {ptbl : List Str} : ∀ {tbl : List Str} {cap : List (Option Nat)} {i : Nat} {x : Str}, capOk names pnames ptbl tbl cap = true → tbl[i]? = some x →
    (cap[i]? = some none ∧ names.lookup x = some .local) ∨ ∃ j, cap[i]? = some (some j) ∧ ptbl[j]? = some x ∧ names.lookup x = some .free ∧ (pnames.lookup x = some .cell ∨ pnames.lookup x = some .free)
  | y :: tbl, none :: cap, 0, x, h, hi => by
    simp only [capOk, Bool.and_eq_true, beq_iff_eq] at h
    simp at hi; subst hi
    exact .inl ⟨rfl, h.1⟩
  | y :: tbl, some j :: cap, 0, x, h, hi => by
    simp only [capOk, Bool.and_eq_true, beq_iff_eq, Bool.or_eq_true] at h
    simp at hi; subst hi
    exact .inr ⟨j, rfl, h.1.1.1, h.1.1.2, h.1.2⟩
  | y :: tbl, none :: cap, i + 1, x, h, hi => by
    simp only [capOk, Bool.and_eq_true] at h
    simpa using capOk_at h.2 (by simpa using hi)
  | y :: tbl, some j :: cap, i + 1, x, h, hi => by
    simp only [capOk, Bool.and_eq_true] at h
    simpa using capOk_at h.2 (by simpa using hi)
  | _ :: _, [], _, _, h, _ => by cases h
  | [], [], _, _, _, hi => by simp at hi
  | [], _ :: _, _, _, h, _ => by cases h
theorem capOk_back {names pnames : List (Str × NameKind)} {ptbl : List Str} {j : Nat} : ∀ {tbl : List Str} {cap : List (Option Nat)} {k : Nat}, capOk names pnames ptbl tbl cap = true → cap[k]? = some (some j) → ∃ x, tbl[k]? = some x ∧ ptbl[j]? = some x
  | y :: tbl, none :: cap, 0, h, hi => by simp at hi
  | y :: tbl, some j' :: cap, 0, h, hi => by
    simp only [capOk, Bool.and_eq_true, beq_iff_eq, Bool.or_eq_true] at h
    simp at hi; subst hi
    exact ⟨y, rfl, h.1.1.1⟩
  | y :: tbl, none :: cap, k + 1, h, hi => by
    simp only [capOk, Bool.and_eq_true] at h
    simpa using capOk_back h.2 (by simpa using hi)
  | y :: tbl, some _ :: cap, k + 1, h, hi => by
    simp only [capOk, Bool.and_eq_true] at h
    simpa using capOk_back h.2 (by simpa using hi)
  | _ :: _, [], _, h, _ => by cases h
  | [], [], _, _, hi => by simp at hi
  | [], _ :: _, _, h, _ => by cases h
theorem capture_at (ρ : Rho) (cap : List (Option Nat)) (i : Nat) : (capture ρ cap).at i = match cap[i]? with | some (some j) => ρ.at j | _ => none := by
  unfold capture Rho.at
  rw [List.getElem?_map]
  cases h : cap[i]? with
  | none => rfl
  | some o => cases o <;> rfl
theorem St.comp (S : St w prog env tbl s₀ N W ρ s) (R : Frm env tbl N W) (ok : scopeOk scope.names env.scope.names tbl tbl' cap = true) (hk : scope.kind = .function) :
    ∃ cl, closureFor scope env = pure cl ∧ (∀ n c, cl.lookup n = some c → env.cells.lookup n = some c) ∧ (∀ x ∈ scope.names, x.2 ≠ .cell) ∧ (∀ x ∈ scope.names, x.2 = .local → scope.names.lookup x.1 = some .local) ∧
      ∀ (s' : Shared) (C : Addr), Evl s s' → s.heap.get? C = none → s'.heap.Ns C (fun _ => none) →
        St w prog (compEnvC scope cl C env) tbl' s₀ N (fun a => W a ∨ a = C) (capture ρ cap) s' ∧ Frm (compEnvC scope cl C env) tbl' N (fun a => W a ∨ a = C) := by
  simp only [scopeOk, Bool.and_eq_true, decide_eq_true_eq, List.all_eq_true] at ok
  obtain ⟨⟨⟨⟨ok1, ok2⟩, ok3⟩, ok4⟩, ok5⟩ := ok
  obtain ⟨m, cm, own, L, ZL, O1, O2, V⟩ := S.vals
  have cellsome : ∀ x ∈ tbl, (env.scope.names.lookup x = some .cell ∨ env.scope.names.lookup x = some .free) → ∃ c, env.cells.lookup x = some c ∧ (env.scope.names.lookup x = some .cell → W c) ∧ (N c ∨ W c) := by
    intro x hx hkx
    obtain ⟨a, b, H⟩ := R.home x hx
    have HN := R.homeN x hx a b H
    cases H with
    | loc h => have h' : env.scope.names.lookup x = some .local := h; rw [h'] at hkx; simp at hkx
    | cel h hc => exact ⟨a, hc, fun _ => R.homeW x hx a (.cel h hc), HN⟩
    | fre h hc => exact ⟨a, hc, fun q => by have h' : env.scope.names.lookup x = some .free := h; rw [h'] at q; simp at q, HN⟩
  have hfree : ∀ n, (n, NameKind.free) ∈ scope.names → ∃ c, env.cells.lookup n = some c := by
    intro n hn
    have h5 := ok5 _ hn
    simp only [isFree, Bool.not_true, Bool.false_or, Bool.and_eq_true, Bool.or_eq_true, beq_iff_eq, List.contains_iff_mem] at h5
    obtain ⟨c, hc, _⟩ := cellsome n h5.2.1 h5.2.2
    exact ⟨c, hc⟩
  obtain ⟨cl, hcl, c2, c3, c4⟩ := closure_of hfree ok4
  refine ⟨cl, hcl, fun n c h => c2 n c (mem_of_lookup h), ?_, ?_, ?_⟩
  · intro x hx e
    have h5 := ok5 x hx
    rw [e] at h5; simp [isCell] at h5
  · intro x hx e
    have h5 := ok5 x hx
    rw [e] at h5
    simp only [isLocal, Bool.not_true, Bool.false_or, Bool.and_eq_true, beq_iff_eq] at h5
    exact h5.1.2
  · intro s' C ev hC hns
    have cll : ∀ n c, cl.lookup n = some c → env.cells.lookup n = some c := fun n c h => c2 n c (mem_of_lookup h)
    have neC : ∀ a, (∃ o, s.heap.get? a = some o) → a ≠ C := fun a ⟨o, e⟩ q => by rw [q, hC] at e; cases e
    have kind' : ∀ x, (compEnvC scope cl C env).kindOf x = (scope.names.lookup x).map fun k => if (k == .free && env.scope.kind == .function && env.kindOf x == some .cell) then .cell else k := fun x => relabel_lookup scope env x
    have kloc : ∀ x, scope.names.lookup x = some .local → (compEnvC scope cl C env).kindOf x = some .local := fun x h => by
      rw [kind', h]; rfl
    have kfre : ∀ x, scope.names.lookup x = some .free → (compEnvC scope cl C env).kindOf x = if env.scope.names.lookup x = some .cell then some .cell else some .free := fun x h => by
      rw [kind', h]
      show some (if (true && env.scope.kind == .function && env.kindOf x == some .cell) = true then NameKind.cell else NameKind.free) = _
      rw [R.kind]
      by_cases q : env.scope.names.lookup x = some .cell
      · have : env.kindOf x = some .cell := q
        simp [q, this]
      · have : env.kindOf x ≠ some .cell := q
        simp [q, this]
    have cap' : ∀ x, scope.names.lookup x = some .free → ∃ c, cl.lookup x = some c := fun x h => by
      obtain ⟨c, hm⟩ := c4 x (mem_of_lookup h)
      exact ⟨c, mem_lookup c3 hm⟩
    have L' : Loc (compEnvC scope cl C env) s'.heap (fun _ => none) cm := by
      refine ⟨hns, fun n c hc => ?_, ?_, fun n c hc => ?_⟩
      · obtain ⟨o, e, hd⟩ := L.cell n c (cll n c hc)
        exact ⟨o, ev.heap _ _ id e, hd⟩
      · show cl.Pairwise _
        rw [List.pairwise_iff_forall_sublist]
        intro x y hxy e
        have hx := c2 x.1 x.2 (hxy.subset (.head _))
        have hy := c2 y.1 y.2 (hxy.subset (.tail _ (.head _)))
        have hne : x.1 ≠ y.1 := (List.pairwise_iff_forall_sublist.mp c3) (show [x.1, y.1].Sublist (cl.map (·.1)) from List.Sublist.map (fun p : Str × Addr => p.1) hxy)
        exact hne (name_of_addr L.apart (mem_of_lookup hx) (e ▸ mem_of_lookup hy))
      · obtain ⟨o, e, _⟩ := L.cell n c (cll n c hc)
        exact neC c ⟨o, e⟩
    have Wtbl : ∀ x ∈ tbl', x ∈ tbl ∨ scope.names.lookup x = some .local := by
      intro x hx
      obtain ⟨i, hi, e⟩ := List.getElem_of_mem hx
      rcases capOk_at ok1 (i := i) (x := x) (by rw [List.getElem?_eq_getElem hi, e]) with h | ⟨j, _, h, _⟩
      · exact .inr h.2
      · exact .inl (List.mem_of_getElem? h)
    have F' : Frm (compEnvC scope cl C env) tbl' N (fun a => W a ∨ a = C) := by
      have key : ∀ x ∈ tbl', (∃ a b, Home (compEnvC scope cl C env) x a b) ∧ (∀ a b, Home (compEnvC scope cl C env) x a b → N a ∨ W a ∨ a = C) ∧ ∀ a, Home (compEnvC scope cl C env) x a true → W a ∨ a = C := by
        intro x hx
        obtain ⟨i, hi, e⟩ := List.getElem_of_mem hx
        rcases capOk_at ok1 (i := i) (x := x) (by rw [List.getElem?_eq_getElem hi, e]) with ⟨_, h⟩ | ⟨j, _, h1, h2, h3⟩
        · have kl := kloc x h
          refine ⟨⟨C, true, .loc kl⟩, fun a b H => ?_, fun a H => ?_⟩
          · cases H with
            | loc _ => exact .inr (.inr rfl)
            | cel h _ => rw [kl] at h; cases h
            | fre h _ => rw [kl] at h; cases h
          · cases H with
            | loc _ => exact .inr rfl
            | cel h _ => rw [kl] at h; cases h
        · have kf := kfre x h2
          obtain ⟨c, hc⟩ := cap' x h2
          obtain ⟨c', hc', hW, hN⟩ := cellsome x (List.mem_of_getElem? h1) h3
          have ec : c' = c := by have := cll x c hc; rw [hc'] at this; cases this; rfl
          subst ec
          by_cases q : env.scope.names.lookup x = some .cell
          · rw [if_pos q] at kf
            refine ⟨⟨c', true, .cel kf hc⟩, fun a b H => ?_, fun a H => ?_⟩
            · cases H with
              | loc h => rw [kf] at h; cases h
              | cel _ h =>
                have h' : cl.lookup x = some a := h
                rw [hc] at h'; cases h'
                exact hN.imp id .inl
              | fre h _ => rw [kf] at h; cases h
            · cases H with
              | loc h => rw [kf] at h; cases h
              | cel _ h =>
                have h' : cl.lookup x = some a := h
                rw [hc] at h'; cases h'
                exact .inl (hW q)
          · rw [if_neg q] at kf
            refine ⟨⟨c', false, .fre kf hc⟩, fun a b H => ?_, fun a H => ?_⟩
            · cases H with
              | loc h => rw [kf] at h; cases h
              | cel h _ => rw [kf] at h; cases h
              | fre _ h =>
                have h' : cl.lookup x = some a := h
                rw [hc] at h'; cases h'
                exact hN.imp id .inl
            · cases H with
              | loc h => rw [kf] at h; cases h
              | cel h _ => rw [kf] at h; cases h
      refine ⟨hk, ok2, fun x hx => ?_, fun x hx => (key x hx).1, fun x hx => (key x hx).2.1, fun x hx => (key x hx).2.2⟩
      have := ok3 x hx
      simpa [plainName] using this
    refine ⟨⟨S.evl.trans ev, fun b hb => ?_, fun b hb => ?_, fun b hb => .inl (S.zw b hb), s₀.zs _ _ S.zi fun b o _ e => ev.heap b o id e, (fun _ => none), cm, (fun i => match cap[i]? with | some (some j) => own j | _ => []), L', fun b hb => ⟨⟨neC b (S.live b (.inr (S.zw b hb))), fun n c hc => (ZL b hb).1.2 n c (cll n c hc)⟩, fun i lv hr ho => ?_⟩, ?_, ?_, ?_⟩, F'⟩
    · have old : ∀ b, (N b ∨ W b) → ∃ o, s'.heap.get? b = some o := fun b hb => let ⟨o, e⟩ := S.live b hb; ⟨o, ev.heap b o id e⟩
      rcases hb with hb | hb | hb
      · exact old b (.inl hb)
      · exact old b (.inr hb)
      · obtain ⟨o, es, ep, e, _⟩ := hns; exact ⟨o, hb ▸ e⟩
    · rcases hb with hb | hb
      · exact S.fresh b hb
      · cases e : s₀.heap.get? b with
        | none => rfl
        | some o => have := S.evl.heap b o id e; rw [hb, hC] at this; cases this
    · rw [capture_at] at hr
      split at hr
      · rename_i j hj
        try simp only [hj]
        exact (ZL b hb).2 j lv hr ho
      · cases hr
    · intro i lv hr ho a ha
      rw [capture_at] at hr
      split at hr
      · rename_i j hj
        simp only [hj] at ha
        have O := O1 j lv hr ho a ha
        have hlive : ∃ o, s.heap.get? a = some o := S.live a (.inr O.1.1)
        refine ⟨⟨.inl O.1.1, O.1.2⟩, neC a hlive, fun n c hc => O.2.2.1 n c (cll n c hc), fun i' lv' hr' ho' ha' => ?_⟩
        rw [capture_at] at hr'
        split at hr'
        · rename_i j' hj'
          simp only [hj'] at ha'
          have ej : j = j' := O.2.2.2 j' lv' hr' ho' ha'
          subst ej
          have hx : ∀ k : Nat, cap[k]? = some (some j) → ∃ x, tbl'[k]? = some x ∧ tbl[j]? = some x := by
            exact fun k hk => capOk_back ok1 hk
          obtain ⟨x, h1, h2⟩ := hx i hj
          obtain ⟨x', h1', h2'⟩ := hx i' hj'
          rw [h2] at h2'; cases h2'
          obtain ⟨l1, e1⟩ := List.getElem?_eq_some_iff.mp h1
          obtain ⟨l2, e2⟩ := List.getElem?_eq_some_iff.mp h1'
          exact (List.getElem_inj ok2).mp (e1.trans e2.symm)
        · cases hr'
      · cases hr
    · intro i lv hr ho
      rw [capture_at] at hr
      split at hr
      · rename_i j hj
        try simp only [hj]
        exact O2 j lv hr ho
      · cases hr
    · intro i x lv ht hr
      rw [capture_at] at hr
      rcases capOk_at ok1 ht with ⟨h1, _⟩ | ⟨j, h1, h2, h3, h4⟩
      · rw [h1] at hr; cases hr
      · simp only [h1] at hr ⊢
        obtain ⟨v, hv, r⟩ := V j x lv h2 hr
        refine ⟨v, ?_, r.go (fun a o hF e => ⟨fun q => ?_, ev.heap a o id e⟩) fun _ a _ o e => ev.heap a o id e⟩
        · have nl : ¬ env.kindOf x = some .local := fun q => by
            have q' : env.scope.names.lookup x = some .local := q
            rw [q'] at h4; simp at h4
          unfold val at hv ⊢
          rw [if_neg nl] at hv
          have kf := kfre x h3
          rw [if_neg (by rw [kf]; split <;> simp)]
          exact hv
        · rcases q with q | q | q
          · exact hF (.inl q)
          · exact hF (.inr q)
          · exact neC a ⟨o, e⟩ q
end
end Mine
end
section
open PySem PySem.Calls PyProof.Rows
namespace Mine
structure Ring (prog : Program) (w : World) (A : Around) (it : Value) (tp sf : Bool) (h₀ : Heap) (F X : Addr → Prop) (P : List D → Heap → Prop) (env : Env) (s₀ : Base) (N W : Addr → Prop) : Prop where
  itr : Itr prog w A it tp sf h₀ F X P
  xN : ∀ a, X a → N a
  x0 : ∀ a, X a → s₀.heap.get? a = none
  xW : ∀ a, X a → ¬ W a
  xl : ∀ a, X a → a ≠ env.locals
  xc : ∀ a, X a → ∀ n c, env.cells.lookup n = some c → a ≠ c
  nf : ∀ a, N a ∨ W a → F a ∨ X a ∨ h₀.get? a = none
section
variable {prog : Program} {w : World} {A : Around} {E : Value → Shared → Prop} {s s' : Shared} {s₀ : Base} {env : Env} {tbl : List Str} {N W W' : Addr → Prop} {ρ : Rho} {it : Value} {tp sf : Bool} {h₀ : Heap} {F X : Addr → Prop} {P : List D → Heap → Prop} {lo : Bool}
theorem Ring.keep (G : Ring prog w A it tp sf h₀ F X P env s₀ N W) {Y : Addr → Prop} {ds : List D} (p : P ds s.heap) (x : Aft Y s s') (k : ∀ a, Y a → ¬ X a ∧ (F a ∨ h₀.get? a = none)) : P ds s'.heap :=
  G.itr.frame ds _ _ p fun a o ha e => x.heap a o (fun q => by
    obtain ⟨k1, k2⟩ := k a q
    rcases ha with ha | ⟨hF, o', ha⟩
    · exact k1 ha
    · rcases k2 with k2 | k2
      · exact hF k2
      · rw [k2] at ha; cases ha) e
theorem Ring.wx (G : Ring prog w A it tp sf h₀ F X P env s₀ N W) : ∀ a, W a → ¬ X a ∧ (F a ∨ h₀.get? a = none) := fun a ha =>
  ⟨fun q => G.xW a q ha, by
    rcases G.nf a (.inr ha) with q | q | q
    · exact .inl q
    · exact absurd ha (G.xW a q)
    · exact .inr q⟩
theorem Ring.grow {h₁ : Heap} (G : Ring prog w A it tp sf h₀ F X P env s₀ N W) (k : ∀ a, W' a → W a ∨ h₁.get? a = none) (lx : ∀ a, X a → ∃ o, h₁.get? a = some o) (e : Ext h₀ h₁) : Ring prog w A it tp sf h₀ F X P env s₀ N W' where
  itr := G.itr
  xN := G.xN
  x0 := G.x0
  xW := fun a ha q => (k a q).elim (G.xW a ha) fun q => by obtain ⟨o, e⟩ := lx a ha; rw [q] at e; cases e
  xl := G.xl
  xc := G.xc
  nf := fun a ha => by
    rcases ha with ha | ha
    · exact G.nf a (.inl ha)
    · rcases k a ha with q | q
      · exact G.nf a (.inr q)
      · refine .inr (.inr ?_)
        cases q' : h₀.get? a with
        | none => rfl
        | some o => rw [e a o q'] at q; cases q
theorem Ring.aft (G : Ring prog w A it tp sf h₀ F X P env s₀ N W) (S : St w prog env tbl s₀ N W ρ s) (x : Aft X s s') {ds : List D} (p : P ds s'.heap) : St w prog env tbl s₀ N W ρ s' :=
  S.aft x (fun a ha => ⟨G.xN a ha, G.x0 a ha, G.xW a ha, G.xl a ha, G.xc a ha⟩) fun a ha => G.itr.live ds _ p a ha
theorem Ring.pull (hh : A.handled = none) (G : Ring prog w A it tp sf h₀ F X P env s₀ N W) (S : St w prog env tbl s₀ N W ρ s) (R : Frm env tbl N W) {t : Tgt} {e : Expr} (ht : okT lo env.scope.names tbl t e = true) (htp : tp = true → ∃ es k p, e = .Tuple es k p)
    {d : D} {ds : List D} (p : P (d :: ds) s.heap) {PR : Rho → Prop} (hq : asgW t d ρ PR) {Q : Unit → Shared → Prop} {Qn : Shared → Prop}
    (h : ∀ ρ' s', PR ρ' → St w prog env tbl s₀ N W ρ' s' → P ds s'.heap → Aft (fun a => X a ∨ Wr lo env W a) s s' → Q () s') :
    wpAny (model prog w) A (pyNext it) (fun r s₁ => match r with
      | none => Qn s₁
      | some v => wpAny (model prog w) A (letOwnedTupleGo e it v) (fun _ s₁' => wpAny (model prog w) A (assign e env v) Q E s₁') E s₁) E s := by
  have liveNW : ∀ a, (N a ∨ W a) → ∃ o, s.heap.get? a = some o := S.live
  refine wpAny_mono (G.itr.next e d ds s E E (fun v s₁' => wpAny (model prog w) A (assign e env v) Q E s₁') htp p fun v s₁ p₁ a₁ r₁ => ?_) (fun r s₁ h₁ => ?_) fun _ _ q => q
  · have S₁ := G.aft S a₁ p₁
    have r : Rep w prog (fun a => N a ∨ W a) s₁.heap v d := r₁.anti fun a ha => by
      rcases G.nf a ha with q | q | q
      · exact .inl q
      · exact .inr (.inl q)
      · exact .inr (.inr ⟨q, liveNW a ha⟩)
    exact asg_sound hh S₁ R ht r hq fun ρ' s₂ hp S₂ a₂ => h ρ' s₂ hp S₂ (G.keep p₁ a₂ fun a ha => G.wx a ha.1) ((a₁.mono fun a q => .inl q).trans (a₂.mono fun a q => .inr q))
  · obtain ⟨v, rfl, h₁⟩ := h₁
    exact h₁
theorem Ring.stop (G : Ring prog w A it tp sf h₀ F X P env s₀ N W) (S : St w prog env tbl s₀ N W ρ s) (p : P [] s.heap) {e : Expr} {Q : Unit → Shared → Prop} {Qn : Shared → Prop}
    (h : ∀ s', Aft X s s' → Qn s') :
    wpAny (model prog w) A (pyNext it) (fun r s₁ => match r with
      | none => Qn s₁
      | some v => wpAny (model prog w) A (letOwnedTupleGo e it v) (fun _ s₁' => wpAny (model prog w) A (assign e env v) Q E s₁') E s₁) E s :=
  G.itr.done s E _ p fun s' a => h s' a
end
end Mine
end
section
open PySem PySem.Calls PyProof.Rows
namespace Mine
section
variable (prog : Program) (w : World) (A : Around) (env : Env) (tbl : List Str) (s₀ : Base) (N₀ : Addr → Prop)
noncomputable def SndE (ex : Expr) (P : Rho → (D → Prop) → Prop) : Prop :=
  ∀ (N W : Addr → Prop) (ρ : Rho) (s : Shared) (E : Value → Shared → Prop) (Q : D → Prop), (∀ a, N₀ a → N a) → St w prog env tbl s₀ N W ρ s → Frm env tbl N W → P ρ Q → wpAny (model prog w) A (eval ex env) (Po w prog (fun a => N a ∨ W a) s Q) E s
noncomputable def SndC (ex : Expr) (P : Rho → (Bool → Prop) → Prop) : Prop :=
  ∀ (N W : Addr → Prop) (ρ : Rho) (s : Shared) (E : Value → Shared → Prop) (Q : Bool → Prop), (∀ a, N₀ a → N a) → St w prog env tbl s₀ N W ρ s → Frm env tbl N W → P ρ Q → wpAny (model prog w) A (isTrue ex env (eval ex env)) (PoB s Q) E s
noncomputable def SndIfs (ifs : List Expr) (P : Rho → (Bool → Prop) → Prop) : Prop :=
  ∀ (N W : Addr → Prop) (ρ : Rho) (s : Shared) (E : Value → Shared → Prop) (Q : Bool → Prop), (∀ a, N₀ a → N a) → St w prog env tbl s₀ N W ρ s → Frm env tbl N W → P ρ Q → wpAny (model prog w) A (ifsRun ifs env) (PoB s Q) E s
noncomputable def SndI (tp sf : Bool) (ex : Expr) (P : Rho → (List D → Prop) → Prop) : Prop :=
  (∀ x, foldedSetIterable ex env x = pure x) ∧
  ∀ (N W : Addr → Prop) (ρ : Rho) (s : Shared) (E : Value → Shared → Prop) (Q : List D → Prop), (∀ a, N₀ a → N a) → St w prog env tbl s₀ N W ρ s → Frm env tbl N W → P ρ Q →
    wpAny (model prog w) A (eval ex env) (fun xv s₁ => Evl s s₁ ∧ ∀ (E' : Value → Shared → Prop) (R : Value → Shared → Prop),
      (∀ it s₂ ds h₀, Q ds → Evl s₁ s₂ → Ext s.heap h₀ → Made prog w A (fun a => N a ∨ W a) tp sf ds h₀ it s₂ → R it s₂) → wpAny (model prog w) A (pyIter xv) R E' s₁) E s
end
section
variable {prog : Program} {w : World} {A : Around} {E : Value → Shared → Prop} {s s₂ : Shared} {s₀ : Base} {env : Env} {tbl tbl' : List Str} {N W N₀ : Addr → Prop} {ρ : Rho} {scope : Scope} {cap : List (Option Nat)}
theorem St.cellLive (S : St w prog env tbl s₀ N W ρ s) {n : Str} {c : Addr} (h : env.cells.lookup n = some c) : ∃ o, s.heap.get? c = some o := by
  obtain ⟨m, cm, own, L, _⟩ := S.vals
  obtain ⟨o, e, _⟩ := L.cell n c h
  exact ⟨o, e⟩
theorem St.ns (S : St w prog env tbl s₀ N W ρ s) : ∃ m, s.heap.Ns env.locals m := by
  obtain ⟨m, cm, own, L, _⟩ := S.vals
  exact ⟨m, L.ns⟩
structure Cst (prog : Program) (w : World) (A : Around) (it : Value) (tp sf : Bool) (F X : Addr → Prop) (P : List D → Heap → Prop) (h₀ : Heap) (env cenv : Env) (tbl' : List Str) (s₀ : Base) (s : Shared) (N W : Addr → Prop) (D : Addr) (ρ' : Rho) (s₄ : Shared) : Prop where
  st : St w prog cenv tbl' s₀ (fun a => N a ∨ a = D ∨ X a) (fun a => W a ∨ a = cenv.locals) ρ' s₄
  frm : Frm cenv tbl' (fun a => N a ∨ a = D ∨ X a) (fun a => W a ∨ a = cenv.locals)
  ring : Ring prog w A it tp sf h₀ F X P cenv s₀ (fun a => N a ∨ a = D ∨ X a) (fun a => W a ∨ a = cenv.locals)
  evl : Evl s s₄
  dnew : s.heap.get? D = none
  d0 : h₀.get? D = none
  dx : ¬ X D
  dl : D ≠ cenv.locals
  dw : ¬ W D
  dc : ∀ n c, cenv.cells.lookup n = some c → D ≠ c
  cnew : s.heap.get? cenv.locals = none
  xnew : ∀ a, X a → s.heap.get? a = none
  fW : ∀ a, F a → ∃ o, s.heap.get? a = some o
theorem comp_setup (S : St w prog env tbl s₀ N W ρ s) (R : Frm env tbl N W) (ok : scopeOk scope.names env.scope.names tbl tbl' cap = true) (hk : scope.kind = .function) {it : Value} {tp sf : Bool} {h₀ : Heap} {X : Addr → Prop} {P : List D → Heap → Prop} {ds : List D}
    (ev : Evl s s₂) (eh : Ext s.heap h₀) (e2 : Ext h₀ s₂.heap) (T : Itr prog w A it tp sf h₀ (fun a => N a ∨ W a) X P) (p : P ds s₂.heap) (o : Obj) (ho : o.isFreed = false) :
    ∃ cl, closureFor scope env = pure cl ∧ (∀ x ∈ scope.names, x.2 ≠ .cell) ∧ (∀ x ∈ scope.names, x.2 = .local → scope.names.lookup x.1 = some .local) ∧
      ∀ h' tk, h'.Ns (s₂.heap.objs.size + 1) (fun _ => none) → Heap.SameBut (s₂.heap.objs.size + 1) ((s₂.heap.push o).push { cls := .type "dict", data := .dict #[] }) h' →
        Cst prog w A it tp sf (fun a => N a ∨ W a) X P h₀ env (compEnvC scope cl (s₂.heap.objs.size + 1) env) tbl' s₀ s N W s₂.heap.objs.size (capture ρ cap) { s₂ with heap := h', toks := tk } ∧ P ds h' ∧ h'.get? s₂.heap.objs.size = some o := by
  have dnew : s₂.heap.get? s₂.heap.objs.size = none := fresh_size
  have sold : ∀ a, s₂.heap.get? a = none → s.heap.get? a = none := fun a h => by
    cases e : s.heap.get? a with
    | none => rfl
    | some o => rw [ev.heap a o id e] at h; cases h
  have hold : ∀ a, s₂.heap.get? a = none → h₀.get? a = none := fun a h => by
    cases e : h₀.get? a with
    | none => rfl
    | some o => rw [e2 a o e] at h; cases h
  have h0old : ∀ a, h₀.get? a = none → s.heap.get? a = none := fun a h => by
    cases e : s.heap.get? a with
    | none => rfl
    | some o => rw [eh a o e] at h; cases h
  have Xl : ∀ a, X a → ∃ o, s₂.heap.get? a = some o := fun a ha => T.live ds _ p a ha
  have Dat : (s₂.heap.push o).get? s₂.heap.objs.size = some o := Heap.get?_push_size _ ho
  have csz : (s₂.heap.push o).objs.size = s₂.heap.objs.size + 1 := Heap.size_push ..
  have cnone : (s₂.heap.push o).get? (s₂.heap.objs.size + 1) = none := by rw [← csz]; exact fresh_size
  have cnone2 : s₂.heap.get? (s₂.heap.objs.size + 1) = none := by
    cases e : s₂.heap.get? (s₂.heap.objs.size + 1) with
    | none => rfl
    | some o' => rw [Heap.get?_push_of_some _ e] at cnone; cases cnone
  have ev3 : Evl s { s₂ with heap := s₂.heap.push o } := ev.trans (Evl.push _ _)
  have S₃ : St w prog env tbl s₀ (fun a => N a ∨ a = s₂.heap.objs.size ∨ X a) W ρ { s₂ with heap := s₂.heap.push o } := S.moreN ev3 fun a ha => by
    rcases ha with ha | ha | ha
    · exact .inl ha
    · subst ha; exact .inr ⟨sold _ dnew, _, Dat⟩
    · obtain ⟨o', e⟩ := Xl a ha
      exact .inr ⟨h0old a (T.fresh a ha), o', Heap.get?_push_of_some _ e⟩
  have R₃ : Frm env tbl (fun a => N a ∨ a = s₂.heap.objs.size ∨ X a) W := R.moreN fun a ha => .inl ha
  obtain ⟨cl, h1, h2, h3, h4, h5⟩ := S₃.comp R₃ ok hk
  refine ⟨cl, h1, h3, h4, fun h' tk hns hs => ?_⟩
  have up : Ext (s₂.heap.push o) h' := fun a o' e => hs.extBut a o' (fun q => by rw [q, cnone] at e; cases e) (Heap.get?_push_of_some _ e)
  obtain ⟨St4, F4⟩ := h5 { s₂ with heap := h', toks := tk } (s₂.heap.objs.size + 1) (Evl.of up) cnone hns
  have up2 : Ext s₂.heap h' := fun a o' e => up a o' (Heap.get?_push_of_some _ e)
  have xnew : ∀ a, X a → s.heap.get? a = none := fun a ha => h0old a (T.fresh a ha)
  have Xne : ∀ a b, X a → s₂.heap.get? b = none → a ≠ b := fun a b ha hb e => by
    obtain ⟨o', e'⟩ := Xl a ha; rw [e, hb] at e'; cases e'
  have cells : ∀ n c, (compEnvC scope cl (s₂.heap.objs.size + 1) env).cells.lookup n = some c → ∃ o, s.heap.get? c = some o := fun n c h => S.cellLive (h2 n c h)
  refine ⟨⟨St4, F4, ⟨T, fun a ha => .inr (.inr ha), fun a ha => ?_, fun a ha q => ?_, fun a ha => Xne a _ ha cnone2, fun a ha n c hc e => ?_, fun a ha => ?_⟩, ev3.trans (Evl.of up), sold _ dnew, hold _ dnew, fun q => Xne _ _ q dnew rfl, fun q => ?_, fun q => ?_, fun n c hc e => ?_, sold _ cnone2, xnew, S.live⟩, T.frame _ _ _ p fun a o' _ e => up2 a o' e, up _ _ Dat⟩
  · cases e : s₀.heap.get? a with
    | none => rfl
    | some o' => have := S.evl.heap a o' id e; rw [xnew a ha] at this; cases this
  · rcases q with q | q
    · obtain ⟨o', e⟩ := S.live a (.inr q); rw [xnew a ha] at e; cases e
    · exact Xne a _ ha cnone2 q
  · obtain ⟨o', e'⟩ := cells n c hc; rw [← e, xnew a ha] at e'; cases e'
  · rcases ha with (ha | ha | ha) | (ha | ha)
    · exact .inl (.inl ha)
    · exact .inr (.inr (ha ▸ hold _ dnew))
    · exact .inr (.inl ha)
    · exact .inl (.inr ha)
    · exact .inr (.inr (ha ▸ hold _ cnone2))
  · exact absurd q (Nat.ne_of_lt (Nat.lt_succ_self _))
  · obtain ⟨o', e⟩ := S.live _ (.inr q); rw [sold _ dnew] at e; cases e
  · obtain ⟨o', e'⟩ := cells n c hc; rw [← e, sold _ dnew] at e'; cases e'
end
end Mine
end
section
open PySem PySem.Calls PyProof.Rows
namespace Mine
theorem setAll_keep : ∀ (is : List Nat) (ds : List D) (ρ : Rho) (i : Nat), i ∉ is → (ρ.setAll is ds).at i = ρ.at i
  | [], _, _, _, _ => by simp [Rho.setAll]
  | _ :: _, [], _, _, _ => by simp [Rho.setAll]
  | j :: is, d :: ds, ρ, i, h => by
    rw [Rho.setAll, setAll_keep is ds _ i (fun q => h (.tail _ q)), Rho.at_set, if_neg]
    intro q; exact h (q.1 ▸ .head _)
theorem asgW_keep {t : Tgt} {d : D} {ρ : Rho} {P : Rho → Prop} (h : asgW t d ρ P) : asgW t d ρ (fun ρ' => P ρ' ∧ ∀ i, i ∉ t.names → ρ'.at i = ρ.at i) := by
  cases t with
  | nm i => exact ⟨h, fun j hj => by rw [Rho.at_set, if_neg]; intro q; exact hj (q.1 ▸ List.mem_singleton.mpr rfl)⟩
  | tp is =>
    cases d with
    | tup ds => exact ⟨h.1, h.2, fun j hj => setAll_keep is ds ρ j hj⟩
    | _ => exact h.elim
section
variable {prog : Program} {w : World} {A : Around} {E : Value → Shared → Prop} {s s' s₂ : Shared} {s₀ : Base} {env : Env} {tbl : List Str} {N W N₀ : Addr → Prop} {ρ : Rho} {it : Value} {tp sf : Bool} {h₀ : Heap} {F X : Addr → Prop} {P : List D → Heap → Prop}
noncomputable def AccL (w : World) (prog : Program) (N W : Addr → Prop) (Dd : Addr) (ds : List D) (s : Shared) : Prop := ∃ vs, LstAt s.heap Dd vs ∧ Reps w prog (fun a => N a ∨ W a) s.heap vs ds
structure AccAt (env : Env) (s₀ : Base) (N W : Addr → Prop) (Dd : Addr) : Prop where
  n : N Dd
  z : s₀.heap.get? Dd = none
  w : ¬ W Dd
  l : Dd ≠ env.locals
  c : ∀ n c, env.cells.lookup n = some c → Dd ≠ c
theorem Ring.retire {N' : Addr → Prop} (G : Ring prog w A it tp sf h₀ F X P env s₀ N W) (S : St w prog env tbl s₀ N W ρ s) (x : Aft X s s') (k : ∀ a, N' a → N a ∧ ¬ X a) : St w prog env tbl s₀ N' W ρ s' := by
  refine ⟨⟨fun b o _ e => ?_, fun i g e => x.gens i g (S.evl.gens i g e), fun q => x.bare (S.evl.bare q), x.os.trans S.evl.os⟩, fun a ha => ?_, S.fresh, S.zw, s₀.zs _ _ S.zi fun b o hb e => x.heap b o (fun q => G.xW b q (S.zw b hb)) e, ?_⟩
  · refine x.heap b o (fun q => ?_) (S.evl.heap b o id e)
    rw [G.x0 b q] at e; cases e
  · have hn : ¬ X a := fun q => ha.elim (fun h => (k a h).2 q) (G.xW a q)
    obtain ⟨o, e⟩ := S.live a (ha.imp (fun h => (k a h).1) id)
    exact ⟨o, x.heap a o hn e⟩
  · obtain ⟨m, cm, own, L, ZL, O1, O2, V⟩ := S.vals
    refine ⟨m, cm, own, L.keep fun a o ha e => x.heap a o (fun q => ?_) e, ZL, fun i lv hr ho a ha => ⟨⟨(O1 i lv hr ho a ha).1.1, fun q => (O1 i lv hr ho a ha).1.2 (k a q).1⟩, (O1 i lv hr ho a ha).2⟩, O2, fun i y lv ht hr => ?_⟩
    · rcases ha with rfl | ⟨n, hn⟩
      · exact G.xl _ q rfl
      · exact G.xc _ q n a hn rfl
    · obtain ⟨v, hv, r⟩ := V i y lv ht hr
      exact ⟨v, hv, r.go (fun a o hF e => ⟨fun q => hF (q.imp (fun h => (k a h).1) id), x.heap a o (fun q => hF (.inl (G.xN a q))) e⟩) (fun ho a ha o e => x.heap a o (fun q => G.xW a q (O1 i lv hr ho a ha).1.1) e)⟩
theorem AccL.aft {Y : Addr → Prop} {Dd : Addr} {ds : List D} (x : AccL w prog N W Dd ds s) (a : Aft Y s s') (hY : ∀ a, Y a → N a ∨ W a) (hD : ¬ Y Dd) : AccL w prog N W Dd ds s' := by
  obtain ⟨vs, e, r⟩ := x
  exact ⟨vs, e.keep fun o e => a.heap _ _ hD e, r.go fun b o hF e => ⟨hF, a.heap b o (fun q => hF (hY b q)) e⟩⟩
theorem AccAt.aft {Dd : Addr} (H : AccAt env s₀ N W Dd) (S : St w prog env tbl s₀ N W ρ s) (x : Aft (fun a => a = Dd) s s') (hl : ∃ o, s'.heap.get? Dd = some o) : St w prog env tbl s₀ N W ρ s' :=
  S.aft x (fun a ha => by subst ha; exact ⟨H.n, H.z, H.w, H.l, H.c⟩) fun a ha => by subst ha; exact hl
theorem push_sound {Dd : Addr} (H : AccAt env s₀ N W Dd) (S : St w prog env tbl s₀ N W ρ s) {ds : List D} {v : Value} {d : D} (x : AccL w prog N W Dd ds s) (r : Rep w prog (fun a => N a ∨ W a) s.heap v d) {C : D → Prop} (hq : pushW (.lst ds) d C)
    {Q : Value → Shared → Prop} (h : ∀ v' s' ds', C (.lst ds') → AccL w prog N W Dd ds' s' → Aft (fun a => a = Dd) s s' → St w prog env tbl s₀ N W ρ s' → Q v' s') : wpAny (model prog w) A (call (.builtin "list.append") [.ref Dd, v]) Q E s := by
  obtain ⟨vs, e, rs⟩ := x
  obtain ⟨hf, hq⟩ := hq
  unfold fits at hf
  refine wpAny_list_append_plain (hsz := by rw [sizeLine_eq, List.size_toArray, rs.length]; (first | lia | omega)) e fun h' hl hs => ?_
  have af : Aft (fun a => a = Dd) s { s with heap := h' } := Aft.of (tk := s.toks) fun b o hb e => hs.extBut b o hb e
  have hl' : LstAt h' Dd (vs ++ [v]) := by unfold LstAt; rw [show (vs ++ [v]).toArray = vs.toArray.push v by simp]; exact hl
  refine h _ _ _ hq ⟨vs ++ [v], hl', ?_⟩ af (H.aft S af hl'.live)
  have k : ∀ a o, ¬ (N a ∨ W a) → s.heap.get? a = some o → ¬ (N a ∨ W a) ∧ h'.get? a = some o := fun a o hF e => ⟨hF, hs.extBut a o (fun q => hF (.inl (q ▸ H.n))) e⟩
  exact (rs.go k).append (.cons (r.go k) .nil)
theorem emit_L {Dd : Addr} {elt : Expr} {Pelt : Rho → (D → Prop) → Prop} (hN : ∀ a, N₀ a → N a) (he : SndE prog w A env tbl s₀ N₀ elt Pelt) (H : AccAt env s₀ N W Dd) (S : St w prog env tbl s₀ N W ρ s) (R : Frm env tbl N W) {ds : List D} (x : AccL w prog N W Dd ds s) {C : D → Prop}
    (hq : Pelt ρ fun d => pushW (.lst ds) d C) {c : Code} {Q : Fin → Shared → Prop}
    (h : ∀ s' ds', C (.lst ds') → AccL w prog N W Dd ds' s' → Aft (fun a => a = Dd) s s' → St w prog env tbl s₀ N W ρ s' → Q (.again c) s') :
    wpAny (model prog w) A ((do let _ ← call (.builtin "list.append") [.ref Dd, ← eval elt env] : Sem Unit) >>= fun _ => again c) Q E s := by
  refine wpAny_bind (wpAny_bind (wpAny_mono (he N W ρ s E _ hN S R hq) (fun v s₁ ⟨d, hd, ev, r⟩ => ?_) fun _ _ q => q))
  have S₁ := S.step ev
  have x₁ : AccL w prog N W Dd ds s₁ := x.aft (Y := fun _ => False) ev (fun _ q => q.elim) id
  refine wpAny_bind (push_sound H S₁ x₁ r hd fun v' s₂ ds' hc x₂ a₂ S₂ => wpAny_pure (wpAny_pure ?_))
  exact h s₂ ds' hc x₂ (ev.aft.trans a₂) S₂
inductive LpL (w : World) (prog : Program) (env : Env) (tbl : List Str) (s₀ : Base) (N W X : Addr → Prop) (ρ : Rho) (P : List D → Heap → Prop) (Dd : Addr) (s : Shared) (f : D → D → (D → Prop) → Prop) (Q : D → Prop) (n : Nat) (s' : Shared) : Prop
  | mk (ds : List D) (acc : List D) (e : n = ds.length) (p : P ds s'.heap) (x : AccL w prog N W Dd acc s') (S : St w prog env tbl s₀ N W ρ s') (a : Aft (fun a => a = Dd ∨ a = env.locals ∨ X a) s s') (q : loopW f ds (.lst acc) Q) : LpL w prog env tbl s₀ N W X ρ P Dd s f Q n s'
inductive LeL (w : World) (prog : Program) (env : Env) (tbl : List Str) (s₀ : Base) (N W X : Addr → Prop) (ρ : Rho) (Dd : Addr) (s : Shared) (Q : D → Prop) (r : Result) (s' : Shared) : Prop
  | mk (e : r = .ok .next) (acc : List D) (q : Q (.lst acc)) (x : AccL w prog N W Dd acc s') (a : Aft (fun a => a = Dd ∨ a = env.locals ∨ X a) s s') (S : ∀ N' : Addr → Prop, (∀ a, N' a → N a ∧ ¬ X a) → St w prog env tbl s₀ N' W ρ s') : LeL w prog env tbl s₀ N W X ρ Dd s Q r s'
theorem loop_L (hh : A.handled = none) {elt : Expr} {gens : List Comprehension} {scope : Scope} {pos ipos : Pos} {depth : Nat} {Dd : Addr} {e : Expr} {ifs : List Expr} {fin : Sem Fin} {t : Tgt}
    (hs : compTurn (.ListComp elt gens scope pos) depth it (.ref Dd) env = turnShape ipos e it ifs env fin (again (.compLoop (.ListComp elt gens scope pos) depth it (.ref Dd) env)))
    (hN : ∀ a, N₀ a → N a) (G : Ring prog w A it tp sf h₀ F X P env s₀ N W) (R : Frm env tbl N W) (H : AccAt env s₀ N W Dd) (hDX : ¬ X Dd) (hDF : F Dd ∨ h₀.get? Dd = none)
    (ht : okT true env.scope.names tbl t e = true) (htp : tp = true → ∃ es k p, e = .Tuple es k p) (hb : ∀ i ∈ t.names, ρ.at i = none) {Pifs : Rho → (Bool → Prop) → Prop} (hifs : SndIfs prog w A env tbl s₀ N₀ ifs Pifs) {body : Rho → D → (D → Prop) → Prop}
    (hloc : W env.locals)
    (hfin : ∀ ρ' acc s₃ C E, (∀ i, i ∉ t.names → ρ'.at i = ρ.at i) → body ρ' (.lst acc) C → St w prog env tbl s₀ N W ρ' s₃ → AccL w prog N W Dd acc s₃ → (∀ a, X a → ∃ o, s₃.heap.get? a = some o) → Ext h₀ h₀ →
      wpAny (model prog w) A fin (fun f s₄ => f = .again (.compLoop (.ListComp elt gens scope pos) depth it (.ref Dd) env) ∧ ∃ acc', C (.lst acc') ∧ AccL w prog N W Dd acc' s₄ ∧ Aft (fun a => a = Dd ∨ a = env.locals) s₃ s₄ ∧ St w prog env tbl s₀ N W ρ' s₄) E s₃)
    {Q : D → Prop} {ds : List D} {acc : List D} (S : St w prog env tbl s₀ N W ρ s) (p : P ds s.heap) (x : AccL w prog N W Dd acc s)
    (hq : loopW (fun d acc C => asgW t d ρ fun ρ' => Pifs ρ' fun b => match b with | true => body ρ' acc C | false => C acc) ds (.lst acc) Q) :
    codeAny (model prog w) A (.compLoop (.ListComp elt gens scope pos) depth it (.ref Dd) env) (LeL w prog env tbl s₀ N W X ρ Dd s Q) s := by
  have hXN : ∀ a, X a → N a ∨ W a := fun a ha => .inl (G.xN a ha)
  have kD : ∀ a, (a = Dd ∨ a = env.locals) → ¬ X a ∧ (F a ∨ h₀.get? a = none) := fun a ha => by
    rcases ha with rfl | rfl
    · exact ⟨hDX, hDF⟩
    · exact G.wx _ hloc
  refine compLoop_L hs (fun n s' => LpL w prog env tbl s₀ N W X ρ P Dd s (fun d acc C => asgW t d ρ fun ρ' => Pifs ρ' fun b => match b with | true => body ρ' acc C | false => C acc) Q n s') ?_ ds.length ⟨ds, acc, rfl, p, x, S, .refl _ _, hq⟩
  rintro n s' ⟨ds, acc, rfl, p, x, S, a₀, hq⟩
  cases ds with
  | nil =>
    refine G.stop S p fun s₁ a₁ => ?_
    exact ⟨rfl, acc, hq, x.aft a₁ hXN hDX, a₀.trans (a₁.mono fun a q => .inr (.inr q)), fun N' k => G.retire S a₁ k⟩
  | cons d ds =>
    rw [loopW] at hq
    refine G.pull hh S R ht htp p (asgW_keep hq) fun ρ' s₂ ⟨hq', hk⟩ S₂ p₂ a₂ => ?_
    have a₂' : Aft (fun a => a = env.locals ∨ X a) s' s₂ := a₂.mono fun a q => q.elim .inr fun q => .inl (q.2.elim id fun q => by cases q)
    have hY : ∀ a, (a = env.locals ∨ X a) → N a ∨ W a := fun a q => q.elim (fun q => .inr (q ▸ hloc)) (hXN a)
    have hDn : ¬ (Dd = env.locals ∨ X Dd) := fun q => q.elim H.l hDX
    have x₂ := x.aft a₂' hY hDn
    have A₂ : Aft (fun a => a = Dd ∨ a = env.locals ∨ X a) s s₂ := a₀.trans (a₂'.mono fun a q => .inr q)
    refine wpAny_mono (hifs N W ρ' s₂ _ _ hN S₂ R hq') (fun b s₃ ⟨hb', ev⟩ => ?_) fun _ _ q => q
    have S₃ := S₂.step ev
    have x₃ : AccL w prog N W Dd acc s₃ := x₂.aft (Y := fun _ => False) ev (fun _ q => q.elim) id
    have p₃ : P ds s₃.heap := G.keep (Y := fun _ => False) p₂ ev fun _ q => q.elim
    have back : ∀ {s₄ : Shared}, St w prog env tbl s₀ N W ρ' s₄ → St w prog env tbl s₀ N W ρ s₄ := fun S => S.weaken fun i lv hi => by
      rw [hk i (fun q => by rw [hb i q] at hi; cases hi)]; exact hi
    cases b with
    | false =>
      rw [if_neg (by decide)]
      exact ⟨ds.length, Nat.lt_succ_self _, ds, acc, rfl, p₃, x₃, back S₃, A₂.trans ev.aft, hb'⟩
    | true =>
      rw [if_pos rfl]
      refine wpAny_mono (hfin ρ' acc s₃ _ _ hk hb' S₃ x₃ (fun a ha => G.itr.live ds _ p₃ a ha) (Ext.refl _)) (fun f s₄ ⟨hf, acc', hc, x₄, a₄, S₄⟩ => ⟨hf, ds.length, Nat.lt_succ_self _, ds, acc', rfl, G.keep p₃ a₄ kD, x₄, back S₄, ?_, hc⟩) fun _ _ q => q
      exact (A₂.trans ev.aft).trans (a₄.mono fun a q => q.elim .inl fun q => .inr (.inl q))
end
end Mine
end
section
open PySem PySem.Calls PyProof.Rows
namespace Mine
section
variable {prog : Program} {w : World} {A : Around} {E : Value → Shared → Prop} {s s' s₂ : Shared} {s₀ : Base} {env : Env} {tbl tbl' : List Str} {N W N₀ : Addr → Prop} {ρ : Rho} {it : Value} {tp sf : Bool} {h₀ : Heap} {F X : Addr → Prop} {P : List D → Heap → Prop} {scope : Scope} {cap : List (Option Nat)}
theorem Aft.none {s s' : Shared} {a : Addr} (x : Evl s s') (h : s'.heap.get? a = Option.none) : s.heap.get? a = Option.none := by
  cases e : s.heap.get? a with
  | none => rfl
  | some o => rw [x.heap a o id e] at h; cases h
theorem ring_make (S : St w prog env tbl s₀ N W ρ s) (ev : Evl s s₂) (eh : Ext s.heap h₀) (e2 : Ext h₀ s₂.heap) (T : Itr prog w A it tp sf h₀ (fun a => N a ∨ W a) X P) {ds : List D} (p : P ds s₂.heap) :
    Ring prog w A it tp sf h₀ (fun a => N a ∨ W a) X P env s₀ (fun a => N a ∨ X a) W ∧ St w prog env tbl s₀ (fun a => N a ∨ X a) W ρ s₂ ∧ ∀ a, X a → s.heap.get? a = none := by
  have h0old : ∀ a, h₀.get? a = none → s.heap.get? a = none := fun a h => by
    cases e : s.heap.get? a with
    | none => rfl
    | some o => rw [eh a o e] at h; cases h
  have xnew : ∀ a, X a → s.heap.get? a = none := fun a ha => h0old a (T.fresh a ha)
  have Xl : ∀ a, X a → ∃ o, s₂.heap.get? a = some o := fun a ha => T.live ds _ p a ha
  refine ⟨⟨T, fun a ha => .inr ha, fun a ha => ?_, fun a ha q => ?_, fun a ha q => ?_, fun a ha n c hc q => ?_, fun a ha => ?_⟩, S.moreN ev fun a ha => ?_, xnew⟩
  · cases e : s₀.heap.get? a with
    | none => rfl
    | some o' => have := S.evl.heap a o' id e; rw [xnew a ha] at this; cases this
  · obtain ⟨o', e⟩ := S.live a (.inr q); rw [xnew a ha] at e; cases e
  · obtain ⟨m, o, es, ep, e, _⟩ := S.ns; rw [← q, xnew a ha] at e; cases e
  · obtain ⟨o', e⟩ := S.cellLive hc; rw [← q, xnew a ha] at e; cases e
  · rcases ha with (ha | ha) | ha
    · exact .inl (.inl ha)
    · exact .inr (.inl ha)
    · exact .inl (.inr ha)
  · rcases ha with ha | ha
    · exact .inl ha
    · exact .inr ⟨xnew a ha, Xl a ha⟩
theorem capture_none {i : Nat} (h : cap[i]? = some none) (ρ : Rho) : (capture ρ cap).at i = none := by rw [capture_at, h]
theorem listcompG (hh : A.handled = none) (S : St w prog env tbl s₀ N W ρ s) (R : Frm env tbl N W) (hN : ∀ a, N₀ a → N a) {elt iter e : Expr} {ifs : List Expr} {gs : List Comprehension} {pos ipos jpos : Pos} {t : Tgt} {fin : Value → Value → Env → Sem Fin} {body : Rho → D → (D → Prop) → Prop}
    (hs : ∀ it acc cenv, compTurn (.ListComp elt (⟨e, iter, ifs, 0⟩ :: gs) scope pos) 0 it acc cenv = turnShape jpos e it ifs cenv (fin it acc cenv) (again (.compLoop (.ListComp elt (⟨e, iter, ifs, 0⟩ :: gs) scope pos) 0 it acc cenv)))
    (ok : scopeOk scope.names env.scope.names tbl tbl' cap = true) (hk : scope.kind = .function) {PI : Rho → (List D → Prop) → Prop} {Pifs : Rho → (Bool → Prop) → Prop}
    (hit : SndI prog w A env tbl s₀ N₀ tp true iter PI) (ht : okT true (relabel scope env).names tbl' t e = true) (htp : tp = true → ∃ es k p, e = .Tuple es k p) (hc : ∀ i ∈ t.names, cap[i]? = some none)
    (hifs : ∀ cl C, SndIfs prog w A (compEnvC scope cl C env) tbl' s₀ N₀ ifs Pifs)
    (hbody : ∀ cl Cc it N' W' Dd, (∀ a, N₀ a → N' a) → Frm (compEnvC scope cl Cc env) tbl' N' W' → AccAt (compEnvC scope cl Cc env) s₀ N' W' Dd → W' Cc → ∀ ρ' acc s₃ C E, (∀ i, i ∉ t.names → ρ'.at i = (capture ρ cap).at i) → body ρ' (.lst acc) C →
      St w prog (compEnvC scope cl Cc env) tbl' s₀ N' W' ρ' s₃ → AccL w prog N' W' Dd acc s₃ → wpAny (model prog w) A (fin it (.ref Dd) (compEnvC scope cl Cc env)) (fun f s₄ => f = .again (.compLoop (.ListComp elt (⟨e, iter, ifs, 0⟩ :: gs) scope pos) 0 it (.ref Dd) (compEnvC scope cl Cc env)) ∧
        ∃ acc', C (.lst acc') ∧ AccL w prog N' W' Dd acc' s₄ ∧ Aft (fun a => a = Dd ∨ a = Cc) s₃ s₄ ∧ St w prog (compEnvC scope cl Cc env) tbl' s₀ N' W' ρ' s₄) E s₃) {Q : D → Prop} {use : Option (Value → Sem Unit)} {Qf : Value → Shared → Prop}
    (hq : PI ρ fun ds => loopW (fun d acc C => asgW t d (capture ρ cap) fun ρ' => Pifs ρ' fun b => match b with | true => body ρ' acc C | false => C acc) ds (.lst []) Q)
    (hfin : ∀ s' Dd Cc ds, Q (.lst ds) → Evl s s' → s.heap.get? Dd = none → s.heap.get? Cc = none → Dd ≠ Cc → AccL w prog (fun a => N a ∨ a = Cc ∨ a = Dd) W Dd ds s' → (∃ m, s'.heap.Ns Cc m) → compPost (model prog w) A E use Qf (.ref Dd) Cc (.ok .next) s') :
    wpAny (model prog w) A (comprehension (.ListComp elt (⟨e, iter, ifs, 0⟩ :: gs) scope pos) scope env ipos (newList []) false (eval iter env) use) Qf E s := by
  obtain ⟨cl₀, hcl, _, _, hnm, _⟩ := S.comp R ok hk
  refine wpAny_comprehension_free rfl hit.1 hcl hk hnm (wpAny_mono (hit.2 N W ρ s E _ hN S R hq) (fun xv s₁ ⟨ev₁, hI⟩ => hI _ _ fun it s₂ ds h₀ hq ev₂ eh ⟨e2, X, P, T, p⟩ => ?_) fun _ _ q => q)
  obtain ⟨cl, hcl', hcell, _, hset⟩ := comp_setup S R ok hk (ev₁.trans ev₂) eh e2 T p { cls := .type "list", dict := none, data := .seq ([] : List Value).toArray } rfl
  have ecl : cl₀ = cl := by
    have := hcl.symm.trans hcl'
    injection this
  subst ecl
  refine wpAny_newObj_type (wpAny_newFunctionEnv hcell (by intro y hy; simp at hy) (fun h₁ hns₁ hsb₁ => ?_) hk)
  have csz : ({ s₂ with heap := s₂.heap.push { cls := .type "list", dict := none, data := .seq ([] : List Value).toArray } } : Shared).heap.objs.size = s₂.heap.objs.size + 1 := Heap.size_push ..
  rw [csz] at hns₁ hsb₁ ⊢
  obtain ⟨c, p₄, hD⟩ := hset h₁ (s₂.toks + ([] : List (Str × Value)).length) hns₁ hsb₁
  have x₄ : AccL w prog (fun a => N a ∨ a = s₂.heap.objs.size ∨ X a) (fun a => W a ∨ a = (compEnvC scope cl₀ (s₂.heap.objs.size + 1) env).locals) s₂.heap.objs.size [] { s₂ with heap := h₁, toks := s₂.toks + ([] : List (Str × Value)).length } := ⟨[], ⟨0, hD⟩, .nil⟩
  have H : AccAt (compEnvC scope cl₀ (s₂.heap.objs.size + 1) env) s₀ (fun a => N a ∨ a = s₂.heap.objs.size ∨ X a) (fun a => W a ∨ a = (compEnvC scope cl₀ (s₂.heap.objs.size + 1) env).locals) s₂.heap.objs.size :=
    ⟨.inr (.inl rfl), S.evl.none c.dnew, fun q => q.elim c.dw c.dl, c.dl, c.dc⟩
  refine compStart_L rfl rfl (fun Q E q => c.ring.itr.self rfl ds _ E Q p₄ q) (codeAny_mono (loop_L hh (hs _ _ _) (fun a ha => .inl (hN a ha)) c.ring c.frm H c.dx (.inr c.d0) ht htp (fun i hi => capture_none (hc i hi) ρ) (hifs _ _) (body := body) (.inr rfl) ?_ c.st p₄ x₄ hq) ?_)
  · intro ρ' acc s₃ C E hk' hb S₃ x₃ _ _
    exact hbody _ _ _ _ _ _ (fun a ha => .inl (hN a ha)) c.frm H (.inr rfl) ρ' acc s₃ C E hk' hb S₃ x₃
  · rintro r s' ⟨rfl, acc', hq', x', a', hS⟩
    have ev' : Evl s s' := c.evl.trans' a' fun a ha => by
      rcases ha with rfl | rfl | ha
      · exact .inr c.dnew
      · exact .inr c.cnew
      · exact .inr (c.xnew a ha)
    obtain ⟨m, hm⟩ := (hS (fun a => N a ∨ a = s₂.heap.objs.size) (fun a ha => ⟨ha.imp id .inl, fun q => by
      rcases ha with ha | ha
      · obtain ⟨o, e⟩ := S.live a (.inl ha); rw [c.xnew a q] at e; cases e
      · exact c.dx (ha ▸ q)⟩)).ns
    refine hfin s' _ _ acc' hq' ev' c.dnew c.cnew c.dl ?_ ⟨m, hm⟩
    obtain ⟨vs, hl, rs⟩ := x'
    refine ⟨vs, hl, rs.anti fun a ha => ?_⟩
    rcases ha with (ha | ha | ha) | ha
    · exact .inl (.inl ha)
    · exact .inr (.inr ha)
    · exact .inl (.inr (.inl ha))
    · exact .inr (.inl ha)
theorem listcomp1 (hh : A.handled = none) (S : St w prog env tbl s₀ N W ρ s) (R : Frm env tbl N W) (hN : ∀ a, N₀ a → N a) {elt iter e : Expr} {ifs : List Expr} {pos ipos : Pos} {t : Tgt}
    (ok : scopeOk scope.names env.scope.names tbl tbl' cap = true) (hk : scope.kind = .function) {PI : Rho → (List D → Prop) → Prop} {Pifs : Rho → (Bool → Prop) → Prop} {Pelt : Rho → (D → Prop) → Prop}
    (hit : SndI prog w A env tbl s₀ N₀ tp true iter PI) (ht : okT true (relabel scope env).names tbl' t e = true) (htp : tp = true → ∃ es k p, e = .Tuple es k p) (hc : ∀ i ∈ t.names, cap[i]? = some none)
    (hifs : ∀ cl C, SndIfs prog w A (compEnvC scope cl C env) tbl' s₀ N₀ ifs Pifs) (helt : ∀ cl C, SndE prog w A (compEnvC scope cl C env) tbl' s₀ N₀ elt Pelt) {Q : D → Prop} {use : Option (Value → Sem Unit)} {Qf : Value → Shared → Prop}
    (hq : PI ρ fun ds => loopW (fun d acc C => asgW t d (capture ρ cap) fun ρ' => Pifs ρ' fun b => match b with | true => Pelt ρ' (fun d => pushW acc d C) | false => C acc) ds (.lst []) Q)
    (hfin : ∀ s' Dd Cc ds, Q (.lst ds) → Evl s s' → s.heap.get? Dd = none → s.heap.get? Cc = none → Dd ≠ Cc → AccL w prog (fun a => N a ∨ a = Cc ∨ a = Dd) W Dd ds s' → (∃ m, s'.heap.Ns Cc m) → compPost (model prog w) A E use Qf (.ref Dd) Cc (.ok .next) s') :
    wpAny (model prog w) A (comprehension (.ListComp elt [⟨e, iter, ifs, 0⟩] scope pos) scope env ipos (newList []) false (eval iter env) use) Qf E s :=
  listcompG hh S R hN (fun it acc cenv => shape_L1 elt e iter ifs scope pos it acc cenv) ok hk hit ht htp hc hifs (body := fun ρ' acc C => Pelt ρ' (fun d => pushW acc d C))
    (fun cl Cc it N' W' Dd hN' F' H' _ ρ' acc s₃ C E _ hb S₃ x₃ => emit_L hN' (helt _ _) H' S₃ F' x₃ hb fun s' ds' hc' x' a' S' => ⟨rfl, ds', hc', x', a'.mono fun a q => .inl q, S'⟩) hq hfin
theorem listcomp2 (hh : A.handled = none) (S : St w prog env tbl s₀ N W ρ s) (R : Frm env tbl N W) (hN : ∀ a, N₀ a → N a) {elt iter e iter₂ e₂ : Expr} {ifs ifs₂ : List Expr} {pos ipos : Pos} {t t₂ : Tgt}
    (ok : scopeOk scope.names env.scope.names tbl tbl' cap = true) (hk : scope.kind = .function) {tp₂ : Bool} {PI PI₂ : Rho → (List D → Prop) → Prop} {Pifs Pifs₂ : Rho → (Bool → Prop) → Prop} {Pelt : Rho → (D → Prop) → Prop}
    (hit : SndI prog w A env tbl s₀ N₀ tp true iter PI) (ht : okT true (relabel scope env).names tbl' t e = true) (htp : tp = true → ∃ es k p, e = .Tuple es k p) (hc : ∀ i ∈ t.names, cap[i]? = some none)
    (hit₂ : ∀ cl C, SndI prog w A (compEnvC scope cl C env) tbl' s₀ N₀ tp₂ true iter₂ PI₂) (ht₂ : okT true (relabel scope env).names tbl' t₂ e₂ = true) (htp₂ : tp₂ = true → ∃ es k p, e₂ = .Tuple es k p) (hc₂ : ∀ i ∈ t₂.names, cap[i]? = some none ∧ i ∉ t.names)
    (hifs : ∀ cl C, SndIfs prog w A (compEnvC scope cl C env) tbl' s₀ N₀ ifs Pifs) (hifs₂ : ∀ cl C, SndIfs prog w A (compEnvC scope cl C env) tbl' s₀ N₀ ifs₂ Pifs₂) (helt : ∀ cl C, SndE prog w A (compEnvC scope cl C env) tbl' s₀ N₀ elt Pelt) {Q : D → Prop} {use : Option (Value → Sem Unit)} {Qf : Value → Shared → Prop}
    (hq : PI ρ fun ds => loopW (fun d acc C => asgW t d (capture ρ cap) fun ρ' => Pifs ρ' fun b => match b with
      | true => PI₂ ρ' fun ds₂ => loopW (fun d acc C => asgW t₂ d ρ' fun ρ'' => Pifs₂ ρ'' fun b => match b with | true => Pelt ρ'' (fun d => pushW acc d C) | false => C acc) ds₂ acc C
      | false => C acc) ds (.lst []) Q)
    (hfin : ∀ s' Dd Cc ds, Q (.lst ds) → Evl s s' → s.heap.get? Dd = none → s.heap.get? Cc = none → Dd ≠ Cc → AccL w prog (fun a => N a ∨ a = Cc ∨ a = Dd) W Dd ds s' → (∃ m, s'.heap.Ns Cc m) → compPost (model prog w) A E use Qf (.ref Dd) Cc (.ok .next) s') :
    wpAny (model prog w) A (comprehension (.ListComp elt [⟨e, iter, ifs, 0⟩, ⟨e₂, iter₂, ifs₂, 0⟩] scope pos) scope env ipos (newList []) false (eval iter env) use) Qf E s := by
  refine listcompG hh S R hN (fun it acc cenv => shape_L20 elt e iter e₂ iter₂ ifs ifs₂ scope pos it acc cenv) ok hk hit ht htp hc hifs (body := fun ρ' acc C => PI₂ ρ' fun ds₂ => loopW (fun d acc C => asgW t₂ d ρ' fun ρ'' => Pifs₂ ρ'' fun b => match b with | true => Pelt ρ'' (fun d => pushW acc d C) | false => C acc) ds₂ acc C) ?_ hq hfin
  intro cl Cc it N' W' Dd hN' F' H' hCc ρ' acc s₃ C E hk' hb S₃ x₃
  refine wpAny_bind (wpAny_mono ((hit₂ cl Cc).2 N' W' ρ' s₃ E _ hN' S₃ F' hb) (fun xv s₄ ⟨ev₁, hI⟩ => ?_) fun _ _ q => q)
  refine wpAny_bind (wpAny_standAt (wpAny_bind (wpAny_of_eq ((hit₂ cl Cc).1 xv) (wpAny_bind (wpAny_holding (hI _ _ fun it₂ s₅ ds₂ h₂ hq₂ ev₂ eh ⟨e2, X₂, P₂, T₂, p₂⟩ => ?_))))))
  obtain ⟨G₂, S₅, xnew⟩ := ring_make S₃ (ev₁.trans ev₂) eh e2 T₂ p₂
  have liveD : ∃ o, s₃.heap.get? Dd = some o := S₃.live _ (.inl H'.n)
  have hDX : ¬ X₂ Dd := fun q => by obtain ⟨o, e⟩ := liveD; rw [xnew _ q] at e; cases e
  have x₅ : AccL w prog (fun a => N' a ∨ X₂ a) W' Dd acc s₅ := by
    obtain ⟨vs, el, rs⟩ := x₃
    have ev := ev₁.trans ev₂
    refine ⟨vs, el.keep fun o e => ev.heap _ _ id e, rs.go fun a o hF e => ⟨fun q => ?_, ev.heap a o id e⟩⟩
    rcases q with (q | q) | q
    · exact hF (.inl q)
    · rw [xnew a q] at e; cases e
    · exact hF (.inr q)
  have H₂ : AccAt (compEnvC scope cl Cc env) s₀ (fun a => N' a ∨ X₂ a) W' Dd := ⟨.inl H'.n, H'.z, H'.w, H'.l, H'.c⟩
  refine wpAny_bind (wpAny_runOwn (compStart_L (A := A) rfl rfl (fun Q E q => G₂.itr.self rfl ds₂ _ E Q p₂ q) (codeAny_mono (loop_L hh (shape_L21 elt e iter e₂ iter₂ ifs ifs₂ scope pos it₂ (.ref Dd) _) (fun a ha => .inl (hN' a ha)) G₂ (F'.moreN fun a => .inl) H₂ hDX (.inl (.inl H'.n)) ht₂ htp₂ (fun i hi => ?_) (hifs₂ _ _)
    (body := fun ρ'' acc C => Pelt ρ'' (fun d => pushW acc d C)) hCc ?_ S₅ p₂ x₅ hq₂) ?_)))
  · rw [hk' i (hc₂ i hi).2]; exact capture_none (hc₂ i hi).1 ρ
  · intro ρ'' acc s₃ C E _ hb S₃ x₃ _ _
    exact emit_L (fun a ha => .inl (hN' a ha)) (helt _ _) H₂ S₃ (F'.moreN fun a => .inl) x₃ hb fun s' ds' hc' x' a' S' => ⟨rfl, ds', hc', x', a'.mono fun a q => .inl q, S'⟩
  · rintro r s₆ ⟨rfl, acc', hq', x', a', hS⟩
    refine wpAny_pure ⟨rfl, acc', hq', ?_, ?_, hS N' fun a ha => ⟨.inl ha, fun q => by obtain ⟨o, e⟩ := S₃.live a (.inl ha); rw [xnew a q] at e; cases e⟩⟩
    · obtain ⟨vs, hl, rs⟩ := x'
      exact ⟨vs, hl, rs.anti fun a ha => ha.imp .inl id⟩
    · refine Aft.trans' (Aft.mono (ev₁.trans ev₂) fun _ q => q.elim) a' fun a ha => ?_
      rcases ha with ha | ha | ha
      · exact .inl (.inl ha)
      · exact .inl (.inr ha)
      · exact .inr (xnew a ha)
end
end Mine
end
section
open PySem PySem.Calls PyProof.Rows
namespace Mine
section
variable {prog : Program} {w : World} {A : Around} {E : Value → Shared → Prop} {s s' s₂ : Shared} {s₀ : Base} {env : Env} {tbl tbl' : List Str} {N W N₀ : Addr → Prop} {ρ : Rho} {it : Value} {tp sf : Bool} {h₀ : Heap} {F X : Addr → Prop} {P : List D → Heap → Prop} {scope : Scope} {cap : List (Option Nat)}
theorem stored_cons {k k' : K} {v v' : Value} {r : List (K × Value)} (hn : ((((k', v') :: r).map (·.1)).Nodup)) : stored ((k', v') :: r) k v = if k' = k then (k', v) :: r else (k', v') :: stored r k v := by
  unfold stored
  by_cases h : k' = k
  · subst h
    simp only [List.any_cons, decide_true, Bool.true_or, if_true, List.map_cons]
    congr 1
    rw [List.map_cons, List.nodup_cons] at hn
    have : ∀ x ∈ r, (if x.1 = k' then (x.1, v) else x) = id x := fun x hx => by
      rw [if_neg]; rfl
      intro e; exact hn.1 (List.mem_map.mpr ⟨x, hx, e⟩)
    rw [List.map_congr_left this, List.map_id]
  · simp only [List.any_cons, decide_eq_false h, Bool.false_or, if_neg h, List.map_cons, List.cons_append]
    split <;> rfl
theorem RepKs.put {h : Heap} {k : K} {v : Value} {d : D} (q : Rep w prog F h v d) : ∀ {ps : List (K × Value)} {kvs : List (K × D)}, RepKs w prog F h ps kvs → (ps.map (·.1)).Nodup → RepKs w prog F h (stored ps k v) (kset k d kvs)
  | _, _, .nil, _ => .cons q .nil
  | _, _, .cons (k := k') a r, hn => by
    rw [stored_cons hn, kset]
    by_cases e : k' = k
    · rw [if_pos e, if_pos e]; exact .cons q r
    · rw [if_neg e, if_neg e]
      rw [List.map_cons, List.nodup_cons] at hn
      exact .cons a (RepKs.put q r hn.2)
theorem DictOf.nodup {h : Heap} {knd : KeyKind prog w K} {a : Addr} {ps : List (K × Value)} (x : h.DictOf knd a ps) : (ps.map (·.1)).Nodup := let ⟨_, _, _, _, _, _, _, _, hn⟩ := x; hn
noncomputable def AccD (w : World) (prog : Program) (N W : Addr → Prop) (Dd : Addr) (kvs : List (K × D)) (s : Shared) : Prop := ∃ ps, s.heap.DictOf (kind prog w) Dd ps ∧ RepKs w prog (fun a => N a ∨ W a) s.heap ps kvs
theorem AccD.aft {Y : Addr → Prop} {Dd : Addr} {kvs : List (K × D)} (x : AccD w prog N W Dd kvs s) (a : Aft Y s s') (hY : ∀ a, Y a → N a ∨ W a) (hD : ¬ Y Dd) : AccD w prog N W Dd kvs s' := by
  obtain ⟨vs, e, r⟩ := x
  exact ⟨vs, e.at fun o e => a.heap _ _ hD e, r.go fun b o hF e => ⟨hF, a.heap b o (fun q => hF (hY b q)) e⟩⟩
theorem put_sound {Dd : Addr} (H : AccAt env s₀ N W Dd) (S : St w prog env tbl s₀ N W ρ s) {kvs : List (K × D)} {kv v : Value} {dk d : D} (x : AccD w prog N W Dd kvs s) (rk : Rep w prog (fun a => N a ∨ W a) s.heap kv dk) (r : Rep w prog (fun a => N a ∨ W a) s.heap v d) {C : D → Prop} (hq : putW (.dct kvs) dk d C)
    {Q : Unit → Shared → Prop} (h : ∀ s' kvs', C (.dct kvs') → AccD w prog N W Dd kvs' s' → Aft (fun a => a = Dd) s s' → St w prog env tbl s₀ N W ρ s' → Q () s') : wpAny (model prog w) A (dictSet Dd kv v) Q E s := by
  obtain ⟨vs, e, rs⟩ := x
  obtain ⟨kk, hk, hf, hq⟩ := hq
  unfold fits at hf
  refine wpAny_dictSet_pairs (hsz := by rw [sizeLine_eq, rs.length]; (first | lia | omega)) (key_is rk hk) e fun h' hl hs => ?_
  have af : Aft (fun a => a = Dd) s { s with heap := h', toks := s.toks + 1 } := Aft.of fun b o hb e => hs.extBut b o hb e
  have live : ∃ o, h'.get? Dd = some o := by obtain ⟨o, _, _, e, _⟩ := hl; exact ⟨o, e⟩
  refine h _ _ hq ⟨_, hl, ?_⟩ af (H.aft S af live)
  have k : ∀ a o, ¬ (N a ∨ W a) → s.heap.get? a = some o → ¬ (N a ∨ W a) ∧ h'.get? a = some o := fun a o hF e => ⟨hF, hs.extBut a o (fun q => hF (.inl (q ▸ H.n))) e⟩
  exact RepKs.put (r.go k) (rs.go k) (DictOf.nodup e)
theorem emit_D {Dd : Addr} {kx vx : Expr} {Pk Pv : Rho → (D → Prop) → Prop} (hN : ∀ a, N₀ a → N a) (hk : SndE prog w A env tbl s₀ N₀ kx Pk) (hv : SndE prog w A env tbl s₀ N₀ vx Pv) (H : AccAt env s₀ N W Dd) (S : St w prog env tbl s₀ N W ρ s) (R : Frm env tbl N W) {kvs : List (K × D)}
    (x : AccD w prog N W Dd kvs s) {C : D → Prop} (hq : Pk ρ fun dk => Pv ρ fun dv => putW (.dct kvs) dk dv C) {c : Code} {Q : Fin → Shared → Prop}
    (h : ∀ s' kvs', C (.dct kvs') → AccD w prog N W Dd kvs' s' → Aft (fun a => a = Dd) s s' → St w prog env tbl s₀ N W ρ s' → Q (.again c) s') :
    wpAny (model prog w) A (putBody kx vx Dd env >>= fun _ => again c) Q E s := by
  unfold putBody
  refine wpAny_bind (wpAny_bind (wpAny_mono (hk N W ρ s E _ hN S R hq) (fun kv s₁ ⟨dk, hd, ev, rk⟩ => ?_) fun _ _ q => q))
  have S₁ := S.step ev
  refine wpAny_bind (wpAny_holding (wpAny_mono (hv N W ρ s₁ E _ hN S₁ R hd) (fun vv s₂ ⟨dv, hd₂, ev₂, rv⟩ => ?_) fun _ _ q => q))
  have S₂ := S₁.step ev₂
  have x₂ : AccD w prog N W Dd kvs s₂ := x.aft (Y := fun _ => False) (ev.trans ev₂) (fun _ q => q.elim) id
  refine wpAny_bind (wpAny_standAt (wpAny_holding (put_sound H S₂ x₂ (rk.ext ev₂.ext) rv hd₂ fun s₃ kvs' hc x₃ a₃ S₃ => wpAny_pure ?_)))
  exact h s₃ kvs' hc x₃ (Aft.trans (Aft.mono (ev.trans ev₂) fun _ q => q.elim) a₃) S₃
inductive LpD (w : World) (prog : Program) (env : Env) (tbl : List Str) (s₀ : Base) (N W X : Addr → Prop) (ρ : Rho) (P : List D → Heap → Prop) (Dd : Addr) (s : Shared) (f : D → D → (D → Prop) → Prop) (Q : D → Prop) (n : Nat) (s' : Shared) : Prop
  | mk (ds : List D) (acc : List (K × D)) (e : n = ds.length) (p : P ds s'.heap) (x : AccD w prog N W Dd acc s') (S : St w prog env tbl s₀ N W ρ s') (a : Aft (fun a => a = Dd ∨ a = env.locals ∨ X a) s s') (q : loopW f ds (.dct acc) Q) : LpD w prog env tbl s₀ N W X ρ P Dd s f Q n s'
inductive LeD (w : World) (prog : Program) (env : Env) (tbl : List Str) (s₀ : Base) (N W X : Addr → Prop) (ρ : Rho) (Dd : Addr) (s : Shared) (Q : D → Prop) (r : Result) (s' : Shared) : Prop
  | mk (e : r = .ok .next) (acc : List (K × D)) (q : Q (.dct acc)) (x : AccD w prog N W Dd acc s') (a : Aft (fun a => a = Dd ∨ a = env.locals ∨ X a) s s') (S : ∀ N' : Addr → Prop, (∀ a, N' a → N a ∧ ¬ X a) → St w prog env tbl s₀ N' W ρ s') : LeD w prog env tbl s₀ N W X ρ Dd s Q r s'
end
end Mine
end
section
open PySem PySem.Calls PyProof.Rows
namespace Mine
section
variable {prog : Program} {w : World} {A : Around} {E : Value → Shared → Prop} {s s' s₂ : Shared} {s₀ : Base} {env : Env} {tbl tbl' : List Str} {N W N₀ : Addr → Prop} {ρ : Rho} {it : Value} {tp sf : Bool} {h₀ : Heap} {F X : Addr → Prop} {P : List D → Heap → Prop} {scope : Scope} {cap : List (Option Nat)}
theorem shape_D20 (kx vx t iter t₂ iter₂ : Expr) (ifs ifs₂ : List Expr) (scope : Scope) (pos : Pos) (it acc : Value) (env : Env) :
    compTurn (.DictComp kx vx [⟨t, iter, ifs, 0⟩, ⟨t₂, iter₂, ifs₂, 0⟩] scope pos) 0 it acc env = turnShape iter.pos t it ifs env (do
        let x ← eval iter₂ env
        standAt iter₂.pos
        let x ← foldedSetIterable iter₂ env x
        let _ ← runOwn (.compStart (.DictComp kx vx [⟨t, iter, ifs, 0⟩, ⟨t₂, iter₂, ifs₂, 0⟩] scope pos) 1 (← holding [x] (pyIter x)) acc env) env
        again (.compLoop (.DictComp kx vx [⟨t, iter, ifs, 0⟩, ⟨t₂, iter₂, ifs₂, 0⟩] scope pos) 0 it acc env))
      (again (.compLoop (.DictComp kx vx [⟨t, iter, ifs, 0⟩, ⟨t₂, iter₂, ifs₂, 0⟩] scope pos) 0 it acc env)) := rfl
theorem shape_D21 (kx vx t iter t₂ iter₂ : Expr) (ifs ifs₂ : List Expr) (scope : Scope) (pos : Pos) (it : Value) (d : Addr) (env : Env) :
    compTurn (.DictComp kx vx [⟨t, iter, ifs, 0⟩, ⟨t₂, iter₂, ifs₂, 0⟩] scope pos) 1 it (.ref d) env = turnShape iter₂.pos t₂ it ifs₂ env
      (putBody kx vx d env >>= fun _ => again (.compLoop (.DictComp kx vx [⟨t, iter, ifs, 0⟩, ⟨t₂, iter₂, ifs₂, 0⟩] scope pos) 1 it (.ref d) env))
      (again (.compLoop (.DictComp kx vx [⟨t, iter, ifs, 0⟩, ⟨t₂, iter₂, ifs₂, 0⟩] scope pos) 1 it (.ref d) env)) := rfl
theorem loop_DG (hh : A.handled = none) {kx vx : Expr} {gens : List Comprehension} {scope : Scope} {pos ipos : Pos} {depth : Nat} {Dd : Addr} {e : Expr} {ifs : List Expr} {fin : Sem Fin} {t : Tgt}
    (hs : compTurn (.DictComp kx vx gens scope pos) depth it (.ref Dd) env = turnShape ipos e it ifs env fin (again (.compLoop (.DictComp kx vx gens scope pos) depth it (.ref Dd) env)))
    (hN : ∀ a, N₀ a → N a) (G : Ring prog w A it tp sf h₀ F X P env s₀ N W) (R : Frm env tbl N W) (H : AccAt env s₀ N W Dd) (hDX : ¬ X Dd) (hDF : F Dd ∨ h₀.get? Dd = none)
    (ht : okT true env.scope.names tbl t e = true) (htp : tp = true → ∃ es k p, e = .Tuple es k p) (hb : ∀ i ∈ t.names, ρ.at i = none) {Pifs : Rho → (Bool → Prop) → Prop} (hifs : SndIfs prog w A env tbl s₀ N₀ ifs Pifs) {body : Rho → D → (D → Prop) → Prop}
    (hloc : W env.locals)
    (hfin : ∀ ρ' acc s₃ C E, (∀ i, i ∉ t.names → ρ'.at i = ρ.at i) → body ρ' (.dct acc) C → St w prog env tbl s₀ N W ρ' s₃ → AccD w prog N W Dd acc s₃ → (∀ a, X a → ∃ o, s₃.heap.get? a = some o) → Ext h₀ h₀ →
      wpAny (model prog w) A fin (fun f s₄ => f = .again (.compLoop (.DictComp kx vx gens scope pos) depth it (.ref Dd) env) ∧ ∃ acc', C (.dct acc') ∧ AccD w prog N W Dd acc' s₄ ∧ Aft (fun a => a = Dd ∨ a = env.locals) s₃ s₄ ∧ St w prog env tbl s₀ N W ρ' s₄) E s₃)
    {Q : D → Prop} {ds : List D} {acc : List (K × D)} (S : St w prog env tbl s₀ N W ρ s) (p : P ds s.heap) (x : AccD w prog N W Dd acc s)
    (hq : loopW (fun d acc C => asgW t d ρ fun ρ' => Pifs ρ' fun b => match b with | true => body ρ' acc C | false => C acc) ds (.dct acc) Q) :
    codeAny (model prog w) A (.compLoop (.DictComp kx vx gens scope pos) depth it (.ref Dd) env) (LeD w prog env tbl s₀ N W X ρ Dd s Q) s := by
  have hXN : ∀ a, X a → N a ∨ W a := fun a ha => .inl (G.xN a ha)
  have kD : ∀ a, (a = Dd ∨ a = env.locals) → ¬ X a ∧ (F a ∨ h₀.get? a = none) := fun a ha => by
    rcases ha with rfl | rfl
    · exact ⟨hDX, hDF⟩
    · exact G.wx _ hloc
  refine compLoop_D hs (fun n s' => LpD w prog env tbl s₀ N W X ρ P Dd s (fun d acc C => asgW t d ρ fun ρ' => Pifs ρ' fun b => match b with | true => body ρ' acc C | false => C acc) Q n s') ?_ ds.length ⟨ds, acc, rfl, p, x, S, .refl _ _, hq⟩
  rintro n s' ⟨ds, acc, rfl, p, x, S, a₀, hq⟩
  cases ds with
  | nil =>
    refine G.stop S p fun s₁ a₁ => ?_
    exact ⟨rfl, acc, hq, x.aft a₁ hXN hDX, a₀.trans (a₁.mono fun a q => .inr (.inr q)), fun N' k => G.retire S a₁ k⟩
  | cons d ds =>
    rw [loopW] at hq
    refine G.pull hh S R ht htp p (asgW_keep hq) fun ρ' s₂ ⟨hq', hk⟩ S₂ p₂ a₂ => ?_
    have a₂' : Aft (fun a => a = env.locals ∨ X a) s' s₂ := a₂.mono fun a q => q.elim .inr fun q => .inl (q.2.elim id fun q => by cases q)
    have hY : ∀ a, (a = env.locals ∨ X a) → N a ∨ W a := fun a q => q.elim (fun q => .inr (q ▸ hloc)) (hXN a)
    have hDn : ¬ (Dd = env.locals ∨ X Dd) := fun q => q.elim H.l hDX
    have x₂ := x.aft a₂' hY hDn
    have A₂ : Aft (fun a => a = Dd ∨ a = env.locals ∨ X a) s s₂ := a₀.trans (a₂'.mono fun a q => .inr q)
    refine wpAny_mono (hifs N W ρ' s₂ _ _ hN S₂ R hq') (fun b s₃ ⟨hb', ev⟩ => ?_) fun _ _ q => q
    have S₃ := S₂.step ev
    have x₃ : AccD w prog N W Dd acc s₃ := x₂.aft (Y := fun _ => False) ev (fun _ q => q.elim) id
    have p₃ : P ds s₃.heap := G.keep (Y := fun _ => False) p₂ ev fun _ q => q.elim
    have back : ∀ {s₄ : Shared}, St w prog env tbl s₀ N W ρ' s₄ → St w prog env tbl s₀ N W ρ s₄ := fun S => S.weaken fun i lv hi => by
      rw [hk i (fun q => by rw [hb i q] at hi; cases hi)]; exact hi
    cases b with
    | false =>
      rw [if_neg (by decide)]
      exact ⟨ds.length, Nat.lt_succ_self _, ds, acc, rfl, p₃, x₃, back S₃, A₂.trans ev.aft, hb'⟩
    | true =>
      rw [if_pos rfl]
      refine wpAny_mono (hfin ρ' acc s₃ _ _ hk hb' S₃ x₃ (fun a ha => G.itr.live ds _ p₃ a ha) (Ext.refl _)) (fun f s₄ ⟨hf, acc', hc, x₄, a₄, S₄⟩ => ⟨hf, ds.length, Nat.lt_succ_self _, ds, acc', rfl, G.keep p₃ a₄ kD, x₄, back S₄, ?_, hc⟩) fun _ _ q => q
      exact (A₂.trans ev.aft).trans (a₄.mono fun a q => q.elim .inl fun q => .inr (.inl q))
theorem dictcompG (hh : A.handled = none) (S : St w prog env tbl s₀ N W ρ s) (R : Frm env tbl N W) (hN : ∀ a, N₀ a → N a) {kx vx iter e : Expr} {ifs : List Expr} {gs : List Comprehension} {pos ipos jpos : Pos} {t : Tgt} {fin : Value → Value → Env → Sem Fin} {body : Rho → D → (D → Prop) → Prop}
    (hs : ∀ it d cenv, compTurn (.DictComp kx vx (⟨e, iter, ifs, 0⟩ :: gs) scope pos) 0 it (.ref d) cenv = turnShape jpos e it ifs cenv (fin it (.ref d) cenv) (again (.compLoop (.DictComp kx vx (⟨e, iter, ifs, 0⟩ :: gs) scope pos) 0 it (.ref d) cenv)))
    (ok : scopeOk scope.names env.scope.names tbl tbl' cap = true) (hk : scope.kind = .function) {PI : Rho → (List D → Prop) → Prop} {Pifs : Rho → (Bool → Prop) → Prop}
    (hit : SndI prog w A env tbl s₀ N₀ tp true iter PI) (ht : okT true (relabel scope env).names tbl' t e = true) (htp : tp = true → ∃ es k p, e = .Tuple es k p) (hc : ∀ i ∈ t.names, cap[i]? = some none)
    (hifs : ∀ cl C, SndIfs prog w A (compEnvC scope cl C env) tbl' s₀ N₀ ifs Pifs)
    (hbody : ∀ cl Cc it N' W' Dd, (∀ a, N₀ a → N' a) → Frm (compEnvC scope cl Cc env) tbl' N' W' → AccAt (compEnvC scope cl Cc env) s₀ N' W' Dd → W' Cc → ∀ ρ' acc s₃ C E, (∀ i, i ∉ t.names → ρ'.at i = (capture ρ cap).at i) → body ρ' (.dct acc) C →
      St w prog (compEnvC scope cl Cc env) tbl' s₀ N' W' ρ' s₃ → AccD w prog N' W' Dd acc s₃ → wpAny (model prog w) A (fin it (.ref Dd) (compEnvC scope cl Cc env)) (fun f s₄ => f = .again (.compLoop (.DictComp kx vx (⟨e, iter, ifs, 0⟩ :: gs) scope pos) 0 it (.ref Dd) (compEnvC scope cl Cc env)) ∧
        ∃ acc', C (.dct acc') ∧ AccD w prog N' W' Dd acc' s₄ ∧ Aft (fun a => a = Dd ∨ a = Cc) s₃ s₄ ∧ St w prog (compEnvC scope cl Cc env) tbl' s₀ N' W' ρ' s₄) E s₃) {Q : D → Prop} {use : Option (Value → Sem Unit)} {Qf : Value → Shared → Prop}
    (hq : PI ρ fun ds => loopW (fun d acc C => asgW t d (capture ρ cap) fun ρ' => Pifs ρ' fun b => match b with | true => body ρ' acc C | false => C acc) ds (.dct []) Q)
    (hfin : ∀ s' Dd Cc ds, Q (.dct ds) → Evl s s' → s.heap.get? Dd = none → s.heap.get? Cc = none → Dd ≠ Cc → AccD w prog (fun a => N a ∨ a = Cc ∨ a = Dd) W Dd ds s' → (∃ m, s'.heap.Ns Cc m) → compPost (model prog w) A E use Qf (.ref Dd) Cc (.ok .next) s') :
    wpAny (model prog w) A (comprehension (.DictComp kx vx (⟨e, iter, ifs, 0⟩ :: gs) scope pos) scope env ipos (newDict) false (eval iter env) use) Qf E s := by
  obtain ⟨cl₀, hcl, _, _, hnm, _⟩ := S.comp R ok hk
  refine wpAny_comprehension_free rfl hit.1 hcl hk hnm (wpAny_mono (hit.2 N W ρ s E _ hN S R hq) (fun xv s₁ ⟨ev₁, hI⟩ => hI _ _ fun it s₂ ds h₀ hq ev₂ eh ⟨e2, X, P, T, p⟩ => ?_) fun _ _ q => q)
  obtain ⟨cl, hcl', hcell, _, hset⟩ := comp_setup S R ok hk (ev₁.trans ev₂) eh e2 T p { cls := .type "dict", data := .dict #[] } rfl
  have ecl : cl₀ = cl := by
    have := hcl.symm.trans hcl'
    injection this
  subst ecl
  unfold newDict
  refine wpAny_newObj_type (wpAny_newFunctionEnv hcell (by intro y hy; simp at hy) (fun h₁ hns₁ hsb₁ => ?_) hk)
  have csz : ({ s₂ with heap := s₂.heap.push { cls := .type "dict", data := .dict #[] } } : Shared).heap.objs.size = s₂.heap.objs.size + 1 := Heap.size_push ..
  rw [csz] at hns₁ hsb₁ ⊢
  obtain ⟨c, p₄, hD⟩ := hset h₁ (s₂.toks + ([] : List (Str × Value)).length) hns₁ hsb₁
  have x₄ : AccD w prog (fun a => N a ∨ a = s₂.heap.objs.size ∨ X a) (fun a => W a ∨ a = (compEnvC scope cl₀ (s₂.heap.objs.size + 1) env).locals) s₂.heap.objs.size [] { s₂ with heap := h₁, toks := s₂.toks + ([] : List (Str × Value)).length } :=
    ⟨[], (Heap.DictOf.new (knd := kind prog w) s₂.heap).at fun o e => by
      have e' : (s₂.heap.push { cls := .type "dict", data := .dict #[] }).get? s₂.heap.objs.size = some { cls := .type "dict", data := .dict #[] } := Heap.get?_push_size _ rfl
      rw [e'] at e; cases e; exact hD, .nil⟩
  have H : AccAt (compEnvC scope cl₀ (s₂.heap.objs.size + 1) env) s₀ (fun a => N a ∨ a = s₂.heap.objs.size ∨ X a) (fun a => W a ∨ a = (compEnvC scope cl₀ (s₂.heap.objs.size + 1) env).locals) s₂.heap.objs.size :=
    ⟨.inr (.inl rfl), S.evl.none c.dnew, fun q => q.elim c.dw c.dl, c.dl, c.dc⟩
  refine compStart_D rfl rfl (fun Q E q => c.ring.itr.self rfl ds _ E Q p₄ q) (codeAny_mono (loop_DG hh (hs _ _ _) (fun a ha => .inl (hN a ha)) c.ring c.frm H c.dx (.inr c.d0) ht htp (fun i hi => capture_none (hc i hi) ρ) (hifs _ _) (body := body) (.inr rfl) ?_ c.st p₄ x₄ hq) ?_)
  · intro ρ' acc s₃ C E hk' hb S₃ x₃ _ _
    exact hbody _ _ _ _ _ _ (fun a ha => .inl (hN a ha)) c.frm H (.inr rfl) ρ' acc s₃ C E hk' hb S₃ x₃
  · rintro r s' ⟨rfl, acc', hq', x', a', hS⟩
    have ev' : Evl s s' := c.evl.trans' a' fun a ha => by
      rcases ha with rfl | rfl | ha
      · exact .inr c.dnew
      · exact .inr c.cnew
      · exact .inr (c.xnew a ha)
    obtain ⟨m, hm⟩ := (hS (fun a => N a ∨ a = s₂.heap.objs.size) (fun a ha => ⟨ha.imp id .inl, fun q => by
      rcases ha with ha | ha
      · obtain ⟨o, e⟩ := S.live a (.inl ha); rw [c.xnew a q] at e; cases e
      · exact c.dx (ha ▸ q)⟩)).ns
    refine hfin s' _ _ acc' hq' ev' c.dnew c.cnew c.dl ?_ ⟨m, hm⟩
    obtain ⟨vs, hl, rs⟩ := x'
    refine ⟨vs, hl, rs.go fun a o hF e => ⟨fun ha => hF ?_, e⟩⟩
    rcases ha with (ha | ha | ha) | ha
    · exact .inl (.inl ha)
    · exact .inr (.inr ha)
    · exact .inl (.inr (.inl ha))
    · exact .inr (.inl ha)
theorem dictcomp2 (hh : A.handled = none) (S : St w prog env tbl s₀ N W ρ s) (R : Frm env tbl N W) (hN : ∀ a, N₀ a → N a) {kx vx iter e iter₂ e₂ : Expr} {ifs ifs₂ : List Expr} {pos ipos : Pos} {t t₂ : Tgt}
    (ok : scopeOk scope.names env.scope.names tbl tbl' cap = true) (hk : scope.kind = .function) {tp₂ : Bool} {PI PI₂ : Rho → (List D → Prop) → Prop} {Pifs Pifs₂ : Rho → (Bool → Prop) → Prop} {Pk Pv : Rho → (D → Prop) → Prop}
    (hit : SndI prog w A env tbl s₀ N₀ tp true iter PI) (ht : okT true (relabel scope env).names tbl' t e = true) (htp : tp = true → ∃ es k p, e = .Tuple es k p) (hc : ∀ i ∈ t.names, cap[i]? = some none)
    (hit₂ : ∀ cl C, SndI prog w A (compEnvC scope cl C env) tbl' s₀ N₀ tp₂ true iter₂ PI₂) (ht₂ : okT true (relabel scope env).names tbl' t₂ e₂ = true) (htp₂ : tp₂ = true → ∃ es k p, e₂ = .Tuple es k p) (hc₂ : ∀ i ∈ t₂.names, cap[i]? = some none ∧ i ∉ t.names)
    (hifs : ∀ cl C, SndIfs prog w A (compEnvC scope cl C env) tbl' s₀ N₀ ifs Pifs) (hifs₂ : ∀ cl C, SndIfs prog w A (compEnvC scope cl C env) tbl' s₀ N₀ ifs₂ Pifs₂) (hkx : ∀ cl C, SndE prog w A (compEnvC scope cl C env) tbl' s₀ N₀ kx Pk) (hvx : ∀ cl C, SndE prog w A (compEnvC scope cl C env) tbl' s₀ N₀ vx Pv) {Q : D → Prop} {use : Option (Value → Sem Unit)} {Qf : Value → Shared → Prop}
    (hq : PI ρ fun ds => loopW (fun d acc C => asgW t d (capture ρ cap) fun ρ' => Pifs ρ' fun b => match b with
      | true => PI₂ ρ' fun ds₂ => loopW (fun d acc C => asgW t₂ d ρ' fun ρ'' => Pifs₂ ρ'' fun b => match b with | true => Pk ρ'' (fun dk => Pv ρ'' fun dv => putW acc dk dv C) | false => C acc) ds₂ acc C
      | false => C acc) ds (.dct []) Q)
    (hfin : ∀ s' Dd Cc ds, Q (.dct ds) → Evl s s' → s.heap.get? Dd = none → s.heap.get? Cc = none → Dd ≠ Cc → AccD w prog (fun a => N a ∨ a = Cc ∨ a = Dd) W Dd ds s' → (∃ m, s'.heap.Ns Cc m) → compPost (model prog w) A E use Qf (.ref Dd) Cc (.ok .next) s') :
    wpAny (model prog w) A (comprehension (.DictComp kx vx [⟨e, iter, ifs, 0⟩, ⟨e₂, iter₂, ifs₂, 0⟩] scope pos) scope env ipos (newDict) false (eval iter env) use) Qf E s := by
  refine dictcompG hh S R hN (fin := fun it acc cenv => do
        let x ← eval iter₂ cenv
        standAt iter₂.pos
        let x ← foldedSetIterable iter₂ cenv x
        let _ ← runOwn (.compStart (.DictComp kx vx [⟨e, iter, ifs, 0⟩, ⟨e₂, iter₂, ifs₂, 0⟩] scope pos) 1 (← holding [x] (pyIter x)) acc cenv) cenv
        again (.compLoop (.DictComp kx vx [⟨e, iter, ifs, 0⟩, ⟨e₂, iter₂, ifs₂, 0⟩] scope pos) 0 it acc cenv)) (fun it d cenv => shape_D20 kx vx e iter e₂ iter₂ ifs ifs₂ scope pos it (.ref d) cenv) ok hk hit ht htp hc hifs (body := fun ρ' acc C => PI₂ ρ' fun ds₂ => loopW (fun d acc C => asgW t₂ d ρ' fun ρ'' => Pifs₂ ρ'' fun b => match b with | true => Pk ρ'' (fun dk => Pv ρ'' fun dv => putW acc dk dv C) | false => C acc) ds₂ acc C) ?_ hq hfin
  intro cl Cc it N' W' Dd hN' F' H' hCc ρ' acc s₃ C E hk' hb S₃ x₃
  refine wpAny_bind (wpAny_mono ((hit₂ cl Cc).2 N' W' ρ' s₃ E _ hN' S₃ F' hb) (fun xv s₄ ⟨ev₁, hI⟩ => ?_) fun _ _ q => q)
  refine wpAny_bind (wpAny_standAt (wpAny_bind (wpAny_of_eq ((hit₂ cl Cc).1 xv) (wpAny_bind (wpAny_holding (hI _ _ fun it₂ s₅ ds₂ h₂ hq₂ ev₂ eh ⟨e2, X₂, P₂, T₂, p₂⟩ => ?_))))))
  obtain ⟨G₂, S₅, xnew⟩ := ring_make S₃ (ev₁.trans ev₂) eh e2 T₂ p₂
  have liveD : ∃ o, s₃.heap.get? Dd = some o := S₃.live _ (.inl H'.n)
  have hDX : ¬ X₂ Dd := fun q => by obtain ⟨o, e⟩ := liveD; rw [xnew _ q] at e; cases e
  have x₅ : AccD w prog (fun a => N' a ∨ X₂ a) W' Dd acc s₅ := by
    obtain ⟨vs, el, rs⟩ := x₃
    have ev := ev₁.trans ev₂
    refine ⟨vs, el.at fun o e => ev.heap _ _ id e, rs.go fun a o hF e => ⟨fun q => ?_, ev.heap a o id e⟩⟩
    rcases q with (q | q) | q
    · exact hF (.inl q)
    · rw [xnew a q] at e; cases e
    · exact hF (.inr q)
  have H₂ : AccAt (compEnvC scope cl Cc env) s₀ (fun a => N' a ∨ X₂ a) W' Dd := ⟨.inl H'.n, H'.z, H'.w, H'.l, H'.c⟩
  refine wpAny_bind (wpAny_runOwn (compStart_D (A := A) rfl rfl (fun Q E q => G₂.itr.self rfl ds₂ _ E Q p₂ q) (codeAny_mono (loop_DG hh (shape_D21 kx vx e iter e₂ iter₂ ifs ifs₂ scope pos it₂ Dd _) (fun a ha => .inl (hN' a ha)) G₂ (F'.moreN fun a => .inl) H₂ hDX (.inl (.inl H'.n)) ht₂ htp₂ (fun i hi => ?_) (hifs₂ _ _)
    (body := fun ρ'' acc C => Pk ρ'' (fun dk => Pv ρ'' fun dv => putW acc dk dv C)) hCc ?_ S₅ p₂ x₅ hq₂) ?_)))
  · rw [hk' i (hc₂ i hi).2]; exact capture_none (hc₂ i hi).1 ρ
  · intro ρ'' acc s₃ C E _ hb S₃ x₃ _ _
    exact emit_D (fun a ha => .inl (hN' a ha)) (hkx _ _) (hvx _ _) H₂ S₃ (F'.moreN fun a => .inl) x₃ hb fun s' ds' hc' x' a' S' => ⟨rfl, ds', hc', x', a'.mono fun a q => .inl q, S'⟩
  · rintro r s₆ ⟨rfl, acc', hq', x', a', hS⟩
    refine wpAny_pure ⟨rfl, acc', hq', ?_, ?_, hS N' fun a ha => ⟨.inl ha, fun q => by obtain ⟨o, e⟩ := S₃.live a (.inl ha); rw [xnew a q] at e; cases e⟩⟩
    · obtain ⟨vs, hl, rs⟩ := x'
      exact ⟨vs, hl, rs.go fun a o hF e => ⟨fun ha => hF (ha.imp .inl id), e⟩⟩
    · refine Aft.trans' (Aft.mono (ev₁.trans ev₂) fun _ q => q.elim) a' fun a ha => ?_
      rcases ha with ha | ha | ha
      · exact .inl (.inl ha)
      · exact .inl (.inr ha)
      · exact .inr (xnew a ha)
theorem dictcomp1 (hh : A.handled = none) (S : St w prog env tbl s₀ N W ρ s) (R : Frm env tbl N W) (hN : ∀ a, N₀ a → N a) {kx vx iter e : Expr} {ifs : List Expr} {pos ipos : Pos} {t : Tgt}
    (ok : scopeOk scope.names env.scope.names tbl tbl' cap = true) (hk : scope.kind = .function) {PI : Rho → (List D → Prop) → Prop} {Pifs : Rho → (Bool → Prop) → Prop} {Pk Pv : Rho → (D → Prop) → Prop}
    (hit : SndI prog w A env tbl s₀ N₀ tp true iter PI) (ht : okT true (relabel scope env).names tbl' t e = true) (htp : tp = true → ∃ es k p, e = .Tuple es k p) (hc : ∀ i ∈ t.names, cap[i]? = some none)
    (hifs : ∀ cl C, SndIfs prog w A (compEnvC scope cl C env) tbl' s₀ N₀ ifs Pifs) (hkx : ∀ cl C, SndE prog w A (compEnvC scope cl C env) tbl' s₀ N₀ kx Pk) (hvx : ∀ cl C, SndE prog w A (compEnvC scope cl C env) tbl' s₀ N₀ vx Pv) {Q : D → Prop} {use : Option (Value → Sem Unit)} {Qf : Value → Shared → Prop}
    (hq : PI ρ fun ds => loopW (fun d acc C => asgW t d (capture ρ cap) fun ρ' => Pifs ρ' fun b => match b with | true => Pk ρ' (fun dk => Pv ρ' fun dv => putW acc dk dv C) | false => C acc) ds (.dct []) Q)
    (hfin : ∀ s' Dd Cc kvs, Q (.dct kvs) → Evl s s' → s.heap.get? Dd = none → s.heap.get? Cc = none → Dd ≠ Cc → AccD w prog (fun a => N a ∨ a = Cc ∨ a = Dd) W Dd kvs s' → (∃ m, s'.heap.Ns Cc m) → compPost (model prog w) A E use Qf (.ref Dd) Cc (.ok .next) s') :
    wpAny (model prog w) A (comprehension (.DictComp kx vx [⟨e, iter, ifs, 0⟩] scope pos) scope env ipos newDict false (eval iter env) use) Qf E s := by
  refine dictcompG (gs := []) hh S R hN (fin := fun it acc cenv => (match acc with | .ref d => putBody kx vx d cenv | _ => pure ()) >>= fun _ => again (.compLoop (.DictComp kx vx [⟨e, iter, ifs, 0⟩] scope pos) 0 it acc cenv)) (fun it d cenv => shape_D1 kx vx e iter ifs scope pos it d cenv) ok hk hit ht htp hc hifs (body := fun ρ' acc C => Pk ρ' (fun dk => Pv ρ' fun dv => putW acc dk dv C)) ?_ hq hfin
  intro cl Cc it N' W' Dd hN' F' H' hCc ρ' acc s₃ C E hk' hb S₃ x₃
  exact emit_D hN' (hkx _ _) (hvx _ _) H' S₃ F' x₃ hb fun s' ds' hc' x' a' S' => ⟨rfl, ds', hc', x', a'.mono fun a q => .inl q, S'⟩
end
end Mine
end
section
open PySem PySem.Calls PyProof.Rows
namespace Mine
inductive FlOk (w : World) (prog : Program) (F : Addr → Prop) (h : Heap) : Flow → Fl → Prop
  | next : FlOk w prog F h .next .next
  | brk : FlOk w prog F h .brk .brk
  | ret {v : Value} {d : D} : Rep w prog F h v d → FlOk w prog F h (.ret v) (.ret d)
inductive ForI (w : World) (prog : Program) (env : Env) (tbl : List Str) (s₀ : Base) (N W X : Addr → Prop) (P : List D → Heap → Prop) (s₂ : Shared) (K : List D → Rho → (Rho → Fl → Prop) → Prop) (Q : Rho → Fl → Prop) (n : Nat) (s' : Shared) : Prop
  | mk (ds : List D) (ρ : Rho) (W₁ : Addr → Prop) (e : n = ds.length) (p : P ds s'.heap) (S : St w prog env tbl s₀ (fun a => N a ∨ X a) W₁ ρ s') (R : Frm env tbl (fun a => N a ∨ X a) W₁) (g : ∀ a, W₁ a → W a ∨ s₂.heap.get? a = none) (a : Aft (fun a => X a ∨ W a) s₂ s') (q : K ds ρ Q) : ForI w prog env tbl s₀ N W X P s₂ K Q n s'
inductive PoS (w : World) (prog : Program) (env : Env) (tbl : List Str) (s₀ : Base) (N W : Addr → Prop) (s : Shared) (Q : Rho → Fl → Prop) (f : Flow) (s' : Shared) : Prop
  | mk (ρ' : Rho) (fl : Fl) (W' : Addr → Prop) (q : Q ρ' fl) (f1 : FlOk w prog (fun a => N a ∨ W' a) s'.heap f fl) (S : St w prog env tbl s₀ N W' ρ' s') (R : Frm env tbl N W') (g : ∀ a, W' a → W a ∨ s.heap.get? a = none) (a : Aft W s s') : PoS w prog env tbl s₀ N W s Q f s'
section
variable (prog : Program) (w : World) (A : Around) (env : Env) (tbl : List Str) (s₀ : Base) (N₀ : Addr → Prop)
noncomputable def SndS (st : Stmt) (P : Rho → (Rho → Fl → Prop) → Prop) : Prop :=
  ∀ (N W : Addr → Prop) (ρ : Rho) (s : Shared) (E : Value → Shared → Prop) (Q : Rho → Fl → Prop), (∀ a, N₀ a → N a) → St w prog env tbl s₀ N W ρ s → Frm env tbl N W → P ρ Q → wpAny (model prog w) A (exec st env) (PoS w prog env tbl s₀ N W s Q) E s
noncomputable def SndSs (sts : List Stmt) (P : Rho → (Rho → Fl → Prop) → Prop) : Prop :=
  ∀ (N W : Addr → Prop) (ρ : Rho) (s : Shared) (E : Value → Shared → Prop) (Q : Rho → Fl → Prop), (∀ a, N₀ a → N a) → St w prog env tbl s₀ N W ρ s → Frm env tbl N W → P ρ Q → wpAny (model prog w) A (execs sts env) (PoS w prog env tbl s₀ N W s Q) E s
end
section
variable {prog : Program} {w : World} {A : Around} {E : Value → Shared → Prop} {s s' s₂ : Shared} {s₀ : Base} {env : Env} {tbl : List Str} {N W W' N₀ : Addr → Prop} {ρ : Rho} {it : Value} {tp sf : Bool} {h₀ : Heap} {F X : Addr → Prop} {P : List D → Heap → Prop}
theorem clr_at (ρ : Rho) (ks : List Nat) (i : Nat) (lv : LV) (h : (ρ.clr ks).at i = some lv) : ρ.at i = some lv := by
  induction ks generalizing ρ with
  | nil => exact h
  | cons k ks ih =>
    have := ih _ h
    rw [Rho.at_set] at this
    split at this
    · cases this
    · exact this
theorem St.clr (S : St w prog env tbl s₀ N W ρ s) (ks : List Nat) : St w prog env tbl s₀ N W (ρ.clr ks) s := S.weaken fun i lv h => clr_at ρ ks i lv h
theorem grow_trans {W₁ W₂ : Addr → Prop} {s₁ : Shared} (g₁ : ∀ a, W₁ a → W a ∨ s.heap.get? a = none) (a₁ : Aft W s s₁) (g₂ : ∀ a, W₂ a → W₁ a ∨ s₁.heap.get? a = none) : ∀ a, W₂ a → W a ∨ s.heap.get? a = none := fun a ha => by
  rcases g₂ a ha with q | q
  · exact g₁ a q
  · by_cases hw : W a
    · exact .inl hw
    · right
      cases e : s.heap.get? a with
      | none => rfl
      | some o => rw [a₁.heap a o hw e] at q; cases q
theorem for_sound (hh : A.handled = none) (S : St w prog env tbl s₀ N W ρ s) (R : Frm env tbl N W) (hN : ∀ a, N₀ a → N a) {iter target : Expr} {body : List Stmt} {pos : Pos} {t : Tgt} {kill : List Nat}
    {PI : Rho → (List D → Prop) → Prop} (hit : SndI prog w A env tbl s₀ N₀ tp sf iter PI) (ht : okT false env.scope.names tbl t target = true) (htp : tp = true → ∃ es k p, target = .Tuple es k p)
    {Pb : Rho → (Rho → Fl → Prop) → Prop} (hb : SndSs prog w A env tbl s₀ N₀ body Pb) {Q : Rho → Fl → Prop} (hq : PI ρ fun ds => forW t kill Pb ds ρ Q) :
    wpAny (model prog w) A (exec (.For target iter body [] pos) env) (PoS w prog env tbl s₀ N W s Q) E s := by
  show wpAny _ _ (do
    standAt pos
    let x ← foldedSetIterable iter env (← eval iter env)
    standAt iter.pos
    runOwn (.forLoop target (← holding [x] (pyIter x)) body [] env) env) _ _ _
  refine wpAny_bind (wpAny_standAt (wpAny_bind (wpAny_mono (hit.2 N W ρ s E _ hN S R hq) (fun xv s₁ ⟨ev₁, hI⟩ => ?_) fun _ _ q => q)))
  refine wpAny_bind (wpAny_of_eq (hit.1 xv) (wpAny_bind (wpAny_standAt (wpAny_bind (wpAny_holding (hI _ _ fun it s₂ ds h₀ hq ev₂ eh ⟨e2, X, P, T, p⟩ => ?_))))))
  obtain ⟨G, S₂, xnew⟩ := ring_make S (ev₁.trans ev₂) eh e2 T p
  have ev := ev₁.trans ev₂
  have Xl : ∀ a, X a → ∃ o, s₂.heap.get? a = some o := fun a ha => T.live ds _ p a ha
  have NX : ∀ a, N a → (N a ∨ X a) ∧ ¬ X a := fun a ha => ⟨.inl ha, fun q => by obtain ⟨o, e⟩ := S.live a (.inl ha); rw [xnew a q] at e; cases e⟩
  have fin : ∀ {s₃ : Shared}, Aft (fun a => X a ∨ W a) s₂ s₃ → Aft W s s₃ := fun a => Aft.trans' (Aft.mono ev fun _ q => q.elim) a fun b hb => hb.elim (fun q => .inr (xnew b q)) .inl
  have gfin : ∀ {W₁ : Addr → Prop}, (∀ a, W₁ a → W a ∨ s₂.heap.get? a = none) → ∀ a, W₁ a → W a ∨ s.heap.get? a = none := fun g a ha => (g a ha).imp id fun q => ev.none q
  refine wpAny_runOwn (codeAny_forLoop_any (A := A) (fun n s' => ForI w prog env tbl s₀ N W X P s₂ (forW t kill Pb) Q n s') ?_ ds.length ⟨ds, ρ, W, rfl, p, S₂, R.moreN fun a => .inl, fun a => .inl, .refl _ _, hq⟩)
  rintro n s₃ ⟨ds, ρ, W₁, rfl, p₃, S₃, R₃, g₃, a₃, hq⟩
  have G₃ : Ring prog w A it tp sf h₀ (fun a => N a ∨ W a) X P env s₀ (fun a => N a ∨ X a) W₁ := G.grow g₃ Xl e2
  cases ds with
  | nil =>
    rw [forW] at hq
    refine G₃.stop S₃ p₃ (e := target) fun s₄ a₄ => ?_
    show wpAny _ _ (pure Flow.next) _ _ _
    refine wpAny_pure ⟨_, _, W₁, hq, .next, (G₃.retire S₃ a₄ NX).clr kill, ⟨R₃.kind, R₃.nodup, R₃.plain, R₃.home, fun x hx a b H => ?_, R₃.homeW⟩, gfin g₃, fin (a₃.trans (a₄.mono fun a => .inl))⟩
    rcases R₃.homeN x hx a b H with (q | q) | q
    · exact .inl q
    · exfalso
      obtain ⟨m, cm, own, L, _⟩ := S₃.vals
      rcases L.home H with rfl | ⟨n, hn⟩
      · exact G₃.xl _ q rfl
      · exact G₃.xc _ q n a hn rfl
    · exact .inr q
  | cons d ds =>
    rw [forW] at hq
    have lessF : ∀ {W₂ : Addr → Prop} {ρ₂ : Rho} {s₅ : Shared}, Frm env tbl (fun a => N a ∨ X a) W₂ → St w prog env tbl s₀ (fun a => N a ∨ X a) W₂ ρ₂ s₅ → Frm env tbl N W₂ := fun R S => ⟨R.kind, R.nodup, R.plain, R.home, fun x hx a b H => by
      rcases R.homeN x hx a b H with (q | q) | q
      · exact .inl q
      · exfalso
        obtain ⟨m, cm, own, L, _⟩ := S.vals
        rcases L.home H with rfl | ⟨n, hn⟩
        · exact G₃.xl _ q rfl
        · exact G₃.xc _ q n a hn rfl
      · exact .inr q, R.homeW⟩
    refine G₃.pull hh S₃ R₃ ht htp p₃ hq fun ρ' s₄ hq' S₄ p₄ a₄ => ?_
    have a₄' : Aft (fun a => X a ∨ W a) s₂ s₄ := a₃.trans' (a₄.mono fun a q => q.imp id (fun q => q.1)) fun a q => q.elim (fun q => .inl (.inl q)) fun q => (g₃ a q).imp .inr id
    refine wpAny_mono (hb _ W₁ ρ' s₄ _ _ (fun a ha => .inl (hN a ha)) S₄ R₃ hq') (fun f s₅ ⟨ρ'', fl, W₂, hq₂, hf, S₅, R₅, g₅, a₅⟩ => ?_) fun _ _ q => q
    have a₅' : Aft (fun a => X a ∨ W a) s₂ s₅ := a₄'.trans' a₅ fun a q => (g₃ a q).imp .inr id
    have g₅' : ∀ a, W₂ a → W a ∨ s₂.heap.get? a = none := fun a ha => by
      rcases g₅ a ha with q | q
      · exact g₃ a q
      · by_cases hw : W a
        · exact .inl hw
        · by_cases hx : X a
          · obtain ⟨o, e⟩ := T.live ds _ p₄ a hx; rw [q] at e; cases e
          · right
            cases e : s₂.heap.get? a with
            | none => rfl
            | some o => rw [a₄'.heap a o (fun q => q.elim hx hw) e] at q; cases q
    cases hf with
    | next =>
      refine ⟨ds.length, Nat.lt_succ_self _, ds, _, W₂, rfl, G₃.keep p₄ a₅ fun a ha => G₃.wx a ha, S₅.clr kill, R₅, g₅', a₅', hq₂⟩
    | brk => exact ⟨_, _, W₂, hq₂, .next, (S₅.clr kill).lessN fun a => .inl, lessF R₅ S₅, gfin g₅', fin a₅'⟩
    | ret r => exact ⟨_, _, W₂, hq₂, .ret (r.anti fun a => Or.imp .inl id), (S₅.clr kill).lessN fun a => .inl, lessF R₅ S₅, gfin g₅', fin a₅'⟩
end
end Mine
end
section
open PySem PySem.Calls PyProof.Rows
namespace Mine
noncomputable def notStar : Expr → Bool
  | .Starred _ _ => false
  | _ => true
noncomputable def notSetE : Expr → Bool
  | .Set _ _ _ => false
  | _ => true
noncomputable def notSlice : Expr → Bool
  | .Slice _ _ _ _ => false
  | _ => true
theorem behind_of {op : CmpOp} {e : Expr} (h : notSetE e = true) : behindInMarks op e = false := by
  cases e <;> first | rfl | cases h
theorem folded_of {e : Expr} {env : Env} (h : notSetE e = true) (x : Value) : foldedSetIterable e env x = pure x := by
  cases e <;> first | rfl | cases h
inductive PoEs (w : World) (prog : Program) (F : Addr → Prop) (s : Shared) (Q : List D → Prop) (vs : List Value) (s' : Shared) : Prop
  | mk (ds : List D) (q : Q ds) (ev : Evl s s') (r : Reps w prog F s'.heap vs ds) : PoEs w prog F s Q vs s'
section
variable (prog : Program) (w : World) (A : Around) (env : Env) (tbl : List Str) (s₀ : Base) (N₀ : Addr → Prop)
noncomputable def SndEs (es : List Expr) (P : Rho → (List D → Prop) → Prop) : Prop :=
  ∀ (pos : Pos) (N W : Addr → Prop) (ρ : Rho) (s : Shared) (E : Value → Shared → Prop) (Q : List D → Prop), (∀ a, N₀ a → N a) → St w prog env tbl s₀ N W ρ s → Frm env tbl N W → P ρ Q →
    wpAny (model prog w) A (spliced (backTo pos (starEach es env))) (PoEs w prog (fun a => N a ∨ W a) s Q) E s
inductive PoO (w : World) (prog : Program) (F : Addr → Prop) (s : Shared) (Q : D → Prop) (v : Value) (s' : Shared) : Prop
  | mk (d : D) (lv : LV) (a : Addr) (t : toLV d = some lv) (q : Q d) (ev : Evl s s') (n : s.heap.get? a = none) (l : ∃ o, s'.heap.get? a = some o) (r : LvRep w prog (fun b => F b ∨ b = a) s'.heap [a] v lv) : PoO w prog F s Q v s'
noncomputable def SndO (ex : Expr) (P : Rho → (D → Prop) → Prop) : Prop :=
  ∀ (N W : Addr → Prop) (ρ : Rho) (s : Shared) (E : Value → Shared → Prop) (Q : D → Prop), (∀ a, N₀ a → N a) → St w prog env tbl s₀ N W ρ s → Frm env tbl N W → P ρ Q → wpAny (model prog w) A (eval ex env) (PoO w prog (fun a => N a ∨ W a) s Q) E s
end
section
variable {prog : Program} {w : World} {A : Around} {E : Value → Shared → Prop} {s s' s₂ : Shared} {s₀ : Base} {env : Env} {tbl : List Str} {N W W' N₀ : Addr → Prop} {ρ : Rho} {F : Addr → Prop}
theorem PoO.po (l : Live F s) {Q : D → Prop} {v : Value} (h : PoO w prog F s Q v s') : Po w prog F s Q v s' := by
  obtain ⟨d, lv, a, hl, hq, ev, hn, ⟨o, ho⟩, r⟩ := h
  have nF : ¬ F a := fun q => by obtain ⟨o, e⟩ := l a q; rw [hn] at e; cases e
  refine ⟨d, hq, ev, ?_⟩
  cases d with
  | lst ds =>
    cases hl
    obtain ⟨b, vs, rfl, hfp, e, r⟩ := r
    cases hfp
    exact .lst nF e.list (r.anti fun b => .inl)
  | dct ds =>
    cases hl
    obtain ⟨b, vs, rfl, hfp, e, r⟩ := r
    cases hfp
    exact .dct nF e (r.go fun b o hF e => ⟨fun q => hF (.inl q), e⟩)
  | _ => cases hl
theorem snd_own {ex : Expr} {P : Rho → (D → Prop) → Prop} (h : SndO prog w A env tbl s₀ N₀ ex P) : SndE prog w A env tbl s₀ N₀ ex P :=
  fun N W ρ s E Q hN S R hq => wpAny_mono (h N W ρ s E Q hN S R hq) (fun v s' x => x.po S.live) fun _ _ q => q
theorem snd_const_int (i : Int) (k : Nat) (p : Pos) : SndE prog w A env tbl s₀ N₀ (.Constant (.int i) k p) (fun _ Q => Q (.int i)) := fun _ _ _ _ _ _ _ _ _ hq => wpAny_Constant_int (po_int hq Evl.toks)
theorem snd_const_str (x : Str) (k : Nat) (p : Pos) : SndE prog w A env tbl s₀ N₀ (.Constant (.str x) k p) (fun _ Q => Q (.str x)) := fun _ _ _ _ _ _ _ _ _ hq => wpAny_Constant_str ⟨_, hq, Evl.toks, .str _ _⟩
theorem snd_const_bool (b : Bool) (k : Nat) (p : Pos) : SndE prog w A env tbl s₀ N₀ (.Constant (.bool b) k p) (fun _ Q => Q (.bool b)) := fun _ _ _ _ _ _ _ _ _ hq => wpAny_Constant_bool ⟨_, hq, .refl _ _, .bool _⟩
theorem snd_var {i : Nat} {x : Str} (p : Pos) (hx : tbl[i]? = some x) : SndE prog w A env tbl s₀ N₀ (.Name x p) (fun ρ Q => match ρ.at i with | some (.sh d) => Q d | _ => False) := fun N W ρ s E Q _ S R hq => by
  dsimp only at hq
  split at hq
  · rename_i d hd
    exact wpAny_Name (S.load R hx hd fun v r => ⟨d, hq, .refl _ _, r⟩) (R.plain x (List.mem_of_getElem? hx)).1
  · exact hq.elim
theorem snd_nil : SndEs prog w A env tbl s₀ N₀ [] (fun _ Q => Q []) := fun _ _ _ _ _ _ _ _ _ _ hq => spliced_nil ⟨[], hq, .refl _ _, .nil⟩
theorem starEach_cons {e : Expr} {es : List Expr} (h : notStar e = true) : starEach (e :: es) env = (false, eval e env) :: starEach es env := by
  cases e <;> first | rfl | cases h
theorem snd_cons {e : Expr} {es : List Expr} {P : Rho → (D → Prop) → Prop} {Ps : Rho → (List D → Prop) → Prop} (hs : notStar e = true) (h : SndE prog w A env tbl s₀ N₀ e P) (hr : SndEs prog w A env tbl s₀ N₀ es Ps) :
    SndEs prog w A env tbl s₀ N₀ (e :: es) (fun ρ Q => P ρ fun d => Ps ρ fun ds => Q (d :: ds)) := fun pos N W ρ s E Q hN S R hq => by
  rw [starEach_cons hs]
  refine spliced_cons (wpAny_mono (h N W ρ s E _ hN S R hq) (fun v s₁ ⟨d, hd, ev, r⟩ => ?_) fun _ _ q => q)
  exact wpAny_mono (hr pos N W ρ s₁ E _ hN (S.step ev) R hd) (fun vs s₂ ⟨ds, hds, ev₂, rs⟩ => ⟨d :: ds, hds, ev.trans ev₂, .cons (r.ext ev₂.ext) rs⟩) fun _ _ q => q
theorem snd_tup {es : List Expr} {Ps : Rho → (List D → Prop) → Prop} (k : Nat) (p : Pos) (h : SndEs prog w A env tbl s₀ N₀ es Ps) : SndE prog w A env tbl s₀ N₀ (.Tuple es k p) (fun ρ Q => Ps ρ fun ds => fits ds.length ∧ Q (.tup ds)) := fun N W ρ s E Q hN S R hq => by
  refine wpAny_Tuple_spliced (wpAny_mono (h p N W ρ s E _ hN S R hq) (fun vs s₁ ⟨ds, ⟨hf, hds⟩, ev, rs⟩ => ⟨?_, _, hds, ev.trans (Evl.push _ _), ?_⟩) fun _ _ q => q)
  · unfold fits at hf; rw [sizeLine_eq, rs.length]; (first | lia | omega)
  · exact .tup (Live.new (Live.step S.live ev)) ⟨_, Heap.get?_push_size _ rfl, rfl, 0, rfl⟩ (rs.ext (Ext.push _ _))
theorem snd_lst {es : List Expr} {Ps : Rho → (List D → Prop) → Prop} (p : Pos) (h : SndEs prog w A env tbl s₀ N₀ es Ps) : SndO prog w A env tbl s₀ N₀ (.List es p) (fun ρ Q => Ps ρ fun ds => fits ds.length ∧ Q (.lst ds)) := fun N W ρ s E Q hN S R hq => by
  refine wpAny_List_spliced (wpAny_mono (h p N W ρ s E _ hN S R hq) (fun vs s₁ ⟨ds, ⟨hf, hds⟩, ev, rs⟩ => ⟨?_, _, .ol ds, s₁.heap.objs.size, rfl, hds, ev.trans (Evl.push _ _), ev.none fresh_size, ⟨_, Heap.get?_push_size _ rfl⟩, _, vs, rfl, rfl, LstAt.new _ _, ?_⟩) fun _ _ q => q)
  · unfold fits at hf; rw [sizeLine_eq, rs.length]; (first | lia | omega)
  · refine rs.go fun a o hF e => ⟨fun q => q.elim hF fun q => ?_, Heap.get?_push_of_some _ e⟩
    rw [q, fresh_size] at e; cases e
theorem snd_bin {op : Bop} {l r : Expr} {Pl Pr : Rho → (D → Prop) → Prop} (p : Pos) (hl : SndE prog w A env tbl s₀ N₀ l Pl) (hr : SndE prog w A env tbl s₀ N₀ r Pr) :
    SndE prog w A env tbl s₀ N₀ (.BinOp l op.op r p) (fun ρ Q => Pl ρ fun a => Pr ρ fun b => binW op a b Q) := fun N W ρ s E Q hN S R hq => by
  refine wpAny_BinOp (wpAny_mono (hl N W ρ s E _ hN S R hq) (fun v s₁ ⟨d, hd, ev, ra⟩ => ?_) fun _ _ q => q)
  refine wpAny_mono (hr N W ρ s₁ E _ hN (S.step ev) R hd) (fun v' s₂ ⟨d', hd', ev₂, rb⟩ => ?_) fun _ _ q => q
  refine wpAny_mono (bin_sound (Live.step (Live.step S.live ev) ev₂) (ra.ext ev₂.ext) rb hd') (fun v s₃ ⟨d, hq, ev₃, r⟩ => ⟨d, hq, (ev.trans ev₂).trans ev₃, r⟩) fun _ _ q => q
theorem snd_cmp {op : Cop} {l r : Expr} {Pl Pr : Rho → (D → Prop) → Prop} (p : Pos) (hS : N₀ sysModules) (hu : A.units + 20 < cLine) (hs : notSetE r = true) (hi : op ≠ .isnone) (hl : SndE prog w A env tbl s₀ N₀ l Pl) (hr : SndE prog w A env tbl s₀ N₀ r Pr) :
    SndE prog w A env tbl s₀ N₀ (.Compare l [op.op] [r] p) (fun ρ Q => Pl ρ fun a => Pr ρ fun b => cmpW op a b fun c => Q (.bool c)) := fun N W ρ s E Q hN S R hq => by
  refine wpAny_Compare1 (wpAny_mono (hl N W ρ s E _ hN S R hq) (fun v s₁ ⟨d, hd, ev, ra⟩ => ?_) fun _ _ q => q) (behind_of hs)
  refine wpAny_mono (hr N W ρ s₁ E _ hN (S.step ev) R hd) (fun v' s₂ ⟨d', hd', ev₂, rb⟩ => ?_) fun _ _ q => q
  exact wpAny_mono (cmp_sound (.inl (hN _ hS)) hu (ra.ext ev₂.ext) rb (fun q => absurd q hi) hd') (fun v s₃ ⟨b, hv, hq, ev₃⟩ => by subst hv; exact ⟨_, hq, (ev.trans ev₂).trans ev₃, .bool _⟩) fun _ _ q => q
theorem snd_cmpC {op : Cop} {l r : Expr} {Pl Pr : Rho → (D → Prop) → Prop} (p : Pos) (hS : N₀ sysModules) (hu : A.units + 20 < cLine) (hs : notSetE r = true) (hi : op ≠ .isnone) (hl : SndE prog w A env tbl s₀ N₀ l Pl) (hr : SndE prog w A env tbl s₀ N₀ r Pr) :
    SndC prog w A env tbl s₀ N₀ (.Compare l [op.op] [r] p) (fun ρ Q => Pl ρ fun a => Pr ρ fun b => cmpW op a b Q) := fun N W ρ s E Q hN S R hq => by
  refine wpAny_isTrue_Compare1 (wpAny_mono (hl N W ρ s E _ hN S R hq) (fun v s₁ ⟨d, hd, ev, ra⟩ => ?_) fun _ _ q => q) (behind_of hs)
  refine wpAny_mono (hr N W ρ s₁ E _ hN (S.step ev) R hd) (fun v' s₂ ⟨d', hd', ev₂, rb⟩ => ?_) fun _ _ q => q
  refine wpAny_mono (cmp_sound (.inl (hN _ hS)) hu (ra.ext ev₂.ext) rb (fun q => absurd q hi) hd') (fun v s₃ ⟨b, hv, hq, ev₃⟩ => ?_) fun _ _ q => q
  subst hv
  exact wpAny_truthy_bool ⟨hq, (ev.trans ev₂).trans ev₃⟩
theorem snd_neg {e : Expr} {P : Rho → (D → Prop) → Prop} (p : Pos) (h : SndE prog w A env tbl s₀ N₀ e P) : SndE prog w A env tbl s₀ N₀ (.UnaryOp .USub e p) (fun ρ Q => P ρ fun a => onI a fun i => Q (.int (-i))) := fun N W ρ s E Q hN S R hq => by
  refine wpAny_UnaryOp (wpAny_mono (h N W ρ s E _ hN S R hq) (fun v s₁ ⟨d, hd, ev, r⟩ => ?_) fun _ _ q => q)
  obtain ⟨i, rfl, h1⟩ := onI_inv hd
  obtain ⟨t, rfl⟩ := r.view
  exact PyProof.Rows.neg_int (po_int h1 (ev.trans Evl.toks))
theorem snd_truth {e : Expr} {P : Rho → (D → Prop) → Prop} (he : ∀ whole, isTrue e env whole = (do let v ← whole; standAt e.pos; holding [v] (truthy v))) (h : SndE prog w A env tbl s₀ N₀ e P) : SndC prog w A env tbl s₀ N₀ e (fun ρ Q => P ρ fun d => truthW d Q) := fun N W ρ s E Q hN S R hq => by
  refine wpAny_isTrue_value (wpAny_mono (h N W ρ s E _ hN S R hq) (fun v s₁ ⟨d, hd, ev, r⟩ => ?_) fun _ _ q => q) (he _)
  exact wpAny_mono (truth_sound r hd) (fun b s₂ ⟨hb, ev₂⟩ => ⟨hb, ev.trans ev₂⟩) fun _ _ q => q
theorem snd_ite {c a b : Expr} {Pc : Rho → (Bool → Prop) → Prop} {Pa Pb : Rho → (D → Prop) → Prop} (p : Pos) (hc : SndC prog w A env tbl s₀ N₀ c Pc) (ha : SndE prog w A env tbl s₀ N₀ a Pa) (hb : SndE prog w A env tbl s₀ N₀ b Pb) :
    SndE prog w A env tbl s₀ N₀ (.IfExp c a b p) (fun ρ Q => Pc ρ fun t => match t with | true => Pa ρ Q | false => Pb ρ Q) := fun N W ρ s E Q hN S R hq => by
  refine wpAny_IfExp (wpAny_mono (hc N W ρ s E _ hN S R hq) (fun t s₁ ⟨ht, ev⟩ => ?_) fun _ _ q => q)
  cases t with
  | true => rw [if_pos rfl]; exact wpAny_mono (ha N W ρ s₁ E Q hN (S.step ev) R ht) (fun v s₂ ⟨d, hq, ev₂, r⟩ => ⟨d, hq, ev.trans ev₂, r⟩) fun _ _ q => q
  | false => rw [if_neg (by decide)]; exact wpAny_mono (hb N W ρ s₁ E Q hN (S.step ev) R ht) (fun v s₂ ⟨d, hq, ev₂, r⟩ => ⟨d, hq, ev.trans ev₂, r⟩) fun _ _ q => q
noncomputable def SndA (prog : Program) (w : World) (A : Around) (env : Env) (tbl : List Str) (s₀ : Base) (N₀ : Addr → Prop) (op : BoolOp) (es : List Expr) (P : Rho → (Bool → Prop) → Prop) : Prop :=
  ∀ (N W : Addr → Prop) (ρ : Rho) (s : Shared) (E : Value → Shared → Prop) (Q : Bool → Prop), (∀ a, N₀ a → N a) → St w prog env tbl s₀ N W ρ s → Frm env tbl N W → P ρ Q → wpAny (model prog w) A (allTrue op es env) (PoB s Q) E s
noncomputable def andOp (and : Bool) : BoolOp := if and then .And else .Or
theorem snd_A_nil (and : Bool) : SndA prog w A env tbl s₀ N₀ (andOp and) [] (fun _ Q => Q and) := fun N W ρ s E Q hN S R hq => by
  cases and <;> exact wpAny_pure ⟨hq, .refl _ _⟩
theorem snd_A_cons (and : Bool) {e : Expr} {es : List Expr} {P Ps : Rho → (Bool → Prop) → Prop} (h : SndC prog w A env tbl s₀ N₀ e P) (hs : SndA prog w A env tbl s₀ N₀ (andOp and) es Ps) :
    SndA prog w A env tbl s₀ N₀ (andOp and) (e :: es) (fun ρ Q => P ρ fun b => match (generalizing := false) and, b with | true, false => Q false | false, true => Q true | _, _ => Ps ρ Q) := fun N W ρ s E Q hN S R hq => by
  show wpAny _ _ (do
    match andOp and, ← isTrue e env (eval e env) with
    | .And, false => pure false
    | .Or, true => pure true
    | _, _ => allTrue (andOp and) es env) _ _ _
  refine wpAny_bind (wpAny_mono (h N W ρ s E _ hN S R hq) (fun b s₁ ⟨hb, ev⟩ => ?_) fun _ _ q => q)
  have rest : Ps ρ Q → wpAny (model prog w) A (allTrue (andOp and) es env) (PoB s Q) E s₁ := fun hq => wpAny_mono (hs N W ρ s₁ E Q hN (S.step ev) R hq) (fun b s₂ ⟨hb, ev₂⟩ => ⟨hb, ev.trans ev₂⟩) fun _ _ q => q
  cases and <;> cases b
  · exact rest hb
  · exact wpAny_pure ⟨hb, ev⟩
  · exact wpAny_pure ⟨hb, ev⟩
  · exact rest hb
theorem snd_bopC (and : Bool) {es : List Expr} {P : Rho → (Bool → Prop) → Prop} (p : Pos) (h : SndA prog w A env tbl s₀ N₀ (andOp and) es P) : SndC prog w A env tbl s₀ N₀ (.BoolOp (andOp and) es p) P := fun N W ρ s E Q hN S R hq =>
  wpAny_isTrue_BoolOp (h N W ρ s E Q hN S R hq)
theorem snd_bop1 (and : Bool) {e : Expr} {P : Rho → (D → Prop) → Prop} (p : Pos) (h : SndE prog w A env tbl s₀ N₀ e P) : SndE prog w A env tbl s₀ N₀ (.BoolOp (andOp and) [e] p) P := fun N W ρ s E Q hN S R hq => BoolOp_one (h N W ρ s E Q hN S R hq)
theorem snd_bop2 (and : Bool) {e e₂ : Expr} {es : List Expr} {P Ps : Rho → (D → Prop) → Prop} (p : Pos) (h : SndE prog w A env tbl s₀ N₀ e P) (hs : SndE prog w A env tbl s₀ N₀ (.BoolOp (andOp and) (e₂ :: es) p) Ps) :
    SndE prog w A env tbl s₀ N₀ (.BoolOp (andOp and) (e :: e₂ :: es) p) (fun ρ Q => P ρ fun a => truthW a fun b => match (generalizing := false) and, b with | true, false => Q a | false, true => Q a | _, _ => Ps ρ Q) := fun N W ρ s E Q hN S R hq => by
  have rest : ∀ s₁, Evl s s₁ → Ps ρ Q → wpAny (model prog w) A (eval (.BoolOp (andOp and) (e₂ :: es) p) env) (Po w prog (fun a => N a ∨ W a) s Q) E s₁ := fun s₁ ev hq =>
    wpAny_mono (hs N W ρ s₁ E Q hN (S.step ev) R hq) (fun v s₂ ⟨d, hd, ev₂, r⟩ => ⟨d, hd, ev.trans ev₂, r⟩) fun _ _ q => q
  cases and with
  | true =>
    refine BoolOp_and (wpAny_mono (h N W ρ s E _ hN S R hq) (fun v s₁ ⟨d, hd, ev, r⟩ => ?_) fun _ _ q => q)
    refine wpAny_mono (truth_sound r hd) (fun b s₂ ⟨hb, ev₂⟩ => ?_) fun _ _ q => q
    cases b with
    | true => exact rest s₂ (ev.trans ev₂) hb
    | false => exact ⟨d, hb, ev.trans ev₂, r.ext ev₂.ext⟩
  | false =>
    refine BoolOp_or (wpAny_mono (h N W ρ s E _ hN S R hq) (fun v s₁ ⟨d, hd, ev, r⟩ => ?_) fun _ _ q => q)
    refine wpAny_mono (truth_sound r hd) (fun b s₂ ⟨hb, ev₂⟩ => ?_) fun _ _ q => q
    cases b with
    | true => exact ⟨d, hb, ev.trans ev₂, r.ext ev₂.ext⟩
    | false => exact rest s₂ (ev.trans ev₂) hb
theorem Rep.typed {v : Value} {ds : List D} (r : Rep w prog F s.heap v (.lst ds)) : s.TypeIs v "list" := by
  obtain ⟨a, vs, rfl, _, ⟨o, e, hc, _⟩, _⟩ := r.view
  exact ⟨o, e, hc⟩
theorem Rep.typedT {v : Value} {ds : List D} (r : Rep w prog F s.heap v (.tup ds)) : s.TypeIs v "tuple" := by
  obtain ⟨a, vs, rfl, _, ⟨o, e, hc, _⟩, _⟩ := r.view
  exact ⟨o, e, hc⟩
theorem Rep.typedD {v : Value} {ds : List (K × D)} (r : Rep w prog F s.heap v (.dct ds)) : s.TypeIs v "dict" := by
  obtain ⟨a, vs, rfl, _, e, _⟩ := r.view
  exact e.typeIs
theorem sub_tail {value slice : Expr} {o i : Value} {do' : D} {di : D} {Q : D → Prop} (hsl : notSlice slice = true) (ro : Rep w prog F s.heap o do') (ri : Rep w prog F s.heap i di) (hq : subW do' di Q) :
    wpAny (model prog w) A (subscriptTail value slice o i) (Po w prog F s Q) E s := by
  have hs : subscripted slice false o i = operate [o, i] (getItem o i) := by cases slice <;> first | rfl | cases hsl
  have g := sub_sound (E := E) (A := A) ro ri hq
  rcases subW_inv hq with ⟨xs, j, rfl | rfl, _⟩ | ⟨kvs, rfl, _⟩
  · exact tail_any (T := "list") ro.typed slot_list_getitem.lookup g hs
  · exact tail_any (T := "tuple") ro.typedT PySem.F.slot_tuple_getitem.lookup g hs
  · exact tail_any (T := "dict") ro.typedD slot_dict_getitem.lookup g hs
theorem snd_sub {o i : Expr} {Po' Pi : Rho → (D → Prop) → Prop} (p : Pos) (hsl : notSlice i = true) (ho : SndE prog w A env tbl s₀ N₀ o Po') (hi : SndE prog w A env tbl s₀ N₀ i Pi) :
    SndE prog w A env tbl s₀ N₀ (.Subscript o i p) (fun ρ Q => Po' ρ fun a => Pi ρ fun b => subW a b Q) := fun N W ρ s E Q hN S R hq => by
  refine Subscript_ (wpAny_mono (ho N W ρ s E _ hN S R hq) (fun v s₁ ⟨d, hd, ev, ra⟩ => ?_) fun _ _ q => q)
  refine wpAny_mono (hi N W ρ s₁ E _ hN (S.step ev) R hd) (fun v' s₂ ⟨d', hd', ev₂, rb⟩ => ?_) fun _ _ q => q
  exact wpAny_mono (sub_tail hsl (ra.ext ev₂.ext) rb hd') (fun v s₃ ⟨d, hq, ev₃, r⟩ => ⟨d, hq, (ev.trans ev₂).trans ev₃, r⟩) fun _ _ q => q
noncomputable def SndPart (prog : Program) (w : World) (A : Around) (env : Env) (tbl : List Str) (s₀ : Base) (N₀ : Addr → Prop) (e : Option Expr) (P : Rho → (D → Prop) → Prop) : Prop :=
  ∀ (N W : Addr → Prop) (ρ : Rho) (s : Shared) (E : Value → Shared → Prop) (Q : D → Prop), (∀ a, N₀ a → N a) → St w prog env tbl s₀ N W ρ s → Frm env tbl N W → P ρ Q → wpAny (model prog w) A (evalPart e env) (Po w prog (fun a => N a ∨ W a) s Q) E s
theorem snd_part_none : SndPart prog w A env tbl s₀ N₀ none (fun _ Q => Q .none) := fun _ _ _ _ _ _ _ _ _ hq => wpAny_pure ⟨_, hq, .refl _ _, .none⟩
theorem snd_part_some {e : Expr} {P : Rho → (D → Prop) → Prop} (h : SndE prog w A env tbl s₀ N₀ e P) : SndPart prog w A env tbl s₀ N₀ (some e) P := h
theorem sliceW_lst {a b c : D} {Q : D → Prop} (h : sliceW a b c Q) : ∃ xs, a = .lst xs := by
  cases a <;> first | exact ⟨_, rfl⟩ | exact h.elim
theorem snd_slice {o : Expr} {lo hi : Option Expr} {Po' Pl Ph : Rho → (D → Prop) → Prop} (p q : Pos) (ho : SndE prog w A env tbl s₀ N₀ o Po') (hl : SndPart prog w A env tbl s₀ N₀ lo Pl) (hh : SndPart prog w A env tbl s₀ N₀ hi Ph) :
    SndE prog w A env tbl s₀ N₀ (.Subscript o (.Slice lo hi none q) p) (fun ρ Q => Po' ρ fun a => Pl ρ fun b => Ph ρ fun c => sliceW a b c Q) := fun N W ρ s E Q hN S R hq => by
  refine Subscript_ (wpAny_mono (ho N W ρ s E _ hN S R hq) (fun v s₁ ⟨d, hd, ev, ra⟩ => ?_) fun _ _ q => q)
  refine wpAny_Slice (wpAny_mono (hl N W ρ s₁ E _ hN (S.step ev) R hd) (fun vl s₂ ⟨dl, hd₂, ev₂, rl⟩ => ?_) fun _ _ q => q)
  refine wpAny_mono (hh N W ρ s₂ E _ hN (S.step (ev.trans ev₂)) R hd₂) (fun vh s₃ ⟨dh, hd₃, ev₃, rh⟩ => ?_) fun _ _ q => q
  refine wpAny_pure ?_
  have ev' := (ev.trans ev₂).trans ev₃
  have ev4 : Evl s₃ { s₃ with heap := s₃.heap.push { cls := .type "slice", data := .fields #[vl, vh, .none] } } := Evl.push _ _
  have l4 := Live.step S.live (ev'.trans ev4)
  have ra' := ((ra.ext ev₂.ext).ext ev₃.ext).ext ev4.ext
  have rl' := (rl.ext ev₃.ext).ext ev4.ext
  have rh' := rh.ext ev4.ext
  have hs := Heap.IsSliceOf.new s₃.heap vl vh .none
  have g : wpAny (model prog w) A (getItem v (.ref s₃.heap.objs.size)) (Po w prog (fun a => N a ∨ W a) s Q) E { s₃ with heap := s₃.heap.push { cls := .type "slice", data := .fields #[vl, vh, .none] } } :=
    wpAny_mono (slice_sound l4 ra' rl' rh' hs hd₃) (fun v s₅ ⟨d, hq, ev₅, r⟩ => ⟨d, hq, (ev'.trans ev4).trans ev₅, r⟩) fun _ _ q => q
  have hsub : subscripted (.Slice lo hi none q) false v (.ref s₃.heap.objs.size) = operate [.ref s₃.heap.objs.size, v] (getItem v (.ref s₃.heap.objs.size)) := rfl
  obtain ⟨xs, rfl⟩ := sliceW_lst hd₃
  exact tail_any (T := "list") (Rep.typed (s := { s₃ with heap := s₃.heap.push { cls := .type "slice", data := .fields #[vl, vh, .none] } }) ra') slot_list_getitem.lookup g hsub
end
end Mine
end
section
open PySem PySem.Calls PyProof.Rows
namespace Mine
noncomputable def biTab : List (Str × Value) := [("sum", .builtin "sum"), ("len", .builtin "len"), ("min", .builtin "min"), ("max", .builtin "max"), ("abs", .builtin "abs"), ("isinstance", .builtin "isinstance"), ("tuple", .type "tuple"), ("range", .type "range"), ("enumerate", .type "enumerate"),
  ("zip", .type "zip"), ("str", .type "str"), ("ValueError", .type "ValueError")]
structure Gl (mg mb : Str → Option Value) (H : Heap) : Prop where
  g : H.Ns mainGlobals mg
  b : H.Ns builtinsNs mb
  bi : ∀ x v, (x, v) ∈ biTab → mg x = none ∧ mb x = some v
structure Fx (mg mb : Str → Option Value) (H : Heap) (env : Env) (s₀ : Base) (N₀ : Addr → Prop) : Prop where
  gl : Gl mg mb H
  ext : Ext H s₀.heap
  glob : env.globals = mainGlobals
  bns : env.builtins = builtinsNs
  kind : env.scope.kind = .function
  sys : N₀ sysModules
noncomputable def globName (names : List (Str × NameKind)) (x : Str) : Bool := names.lookup x == some .globalImplicit && plainName x
noncomputable def CallOk (prog : Program) (w : World) (H : Heap) (RmOk : Around → Prop) (a : Addr) (Xf : List D → (D → Prop) → Prop) : Prop :=
  ∀ (A : Around) (s : Shared) (F : Addr → Prop) (vs : List Value) (ds : List D) (Q : D → Prop) (E : Value → Shared → Prop), RmOk A → Ext H s.heap → Live F s → F sysModules → Reps w prog F s.heap vs ds → Xf ds Q →
    wpAny (model prog w) A (call (.ref a) vs) (Po w prog F s Q) E s
structure FnOk (prog : Program) (w : World) (H : Heap) (mg : Str → Option Value) (RmOk : Around → Prop) (x : Str) (Xf : List D → (D → Prop) → Prop) : Prop where
  fn : ∃ a o fd, mg x = some (.ref a) ∧ H.get? a = some o ∧ o.data = .func fd ∧ CallOk prog w H RmOk a Xf
section
variable {prog : Program} {w : World} {A : Around} {E : Value → Shared → Prop} {s s' s₂ : Shared} {s₀ : Base} {env : Env} {tbl : List Str} {N W W' N₀ : Addr → Prop} {ρ : Rho} {F : Addr → Prop} {mg mb : Str → Option Value} {H : Heap}
theorem name_bi (X : Fx mg mb H env s₀ N₀) {x : Str} {v : Value} (hx : globName env.scope.names x = true) (hm : (x, v) ∈ biTab) (p : Pos) (e : Ext s₀.heap s.heap) {Q : Value → Shared → Prop} (h : Q v s) : wpAny (model prog w) A (eval (.Name x p) env) Q E s := by
  simp only [globName, plainName, Bool.and_eq_true, beq_iff_eq, Bool.not_eq_true'] at hx
  obtain ⟨h1, h2⟩ := X.gl.bi x v hm
  have k : ∀ b o, H.get? b = some o → s.heap.get? b = some o := fun b o q => e b o (X.ext b o q)
  exact Name_function_global X.kind hx.1 (loadGlobal_builtin (X.glob ▸ X.gl.g.keeps k) h1 (X.bns ▸ X.gl.b.keeps k) h2 h) hx.2.1
theorem name_glob (X : Fx mg mb H env s₀ N₀) {x : Str} {v : Value} (hx : globName env.scope.names x = true) (hm : mg x = some v) (p : Pos) (e : Ext s₀.heap s.heap) {Q : Value → Shared → Prop} (h : Q v s) : wpAny (model prog w) A (eval (.Name x p) env) Q E s := by
  simp only [globName, plainName, Bool.and_eq_true, beq_iff_eq, Bool.not_eq_true'] at hx
  have k : ∀ b o, H.get? b = some o → s.heap.get? b = some o := fun b o q => e b o (X.ext b o q)
  exact Name_function_global X.kind hx.1 (loadGlobal_global (X.glob ▸ X.gl.g.keeps k) hm h) hx.2.1
theorem plain_trees {es : List Expr} (h : es.all notStar = true) (pos : Pos) : (backTo pos (starEach es env)).any (·.1) = false := by
  induction es with
  | nil => rfl
  | cons e es ih =>
    simp only [List.all_cons, Bool.and_eq_true] at h
    rw [starEach_cons h.1]
    show (false || _) = false
    exact ih h.2
theorem args_sound {es : List Expr} (hne : es.isEmpty = false) (h : es.all notStar = true) {pos : Pos} {f : Value} {Q : Args → Shared → Prop} (hs : wpAny (model prog w) A (spliced (backTo pos (starEach es env))) (fun vs s' => Q ⟨vs, []⟩ s') E s) :
    wpAny (model prog w) A (evalArgs f true (backTo pos (starEach es env)) []) Q E s := by
  cases es with
  | nil => cases hne
  | cons e es =>
    simp only [List.all_cons, Bool.and_eq_true] at h
    rw [starEach_cons h.1] at hs ⊢
    exact evalArgs_plain hs
theorem snd_bi (X : Fx mg mb H env s₀ N₀) (hh : A.handled = none) {b : Bi} {es : List Expr} {Ps : Rho → (List D → Prop) → Prop} {x : Str} (hx : globName env.scope.names x = true) (hm : (x, .builtin b.name) ∈ biTab) (hb : b.more = []) (hne : es.isEmpty = false) (hst : es.all notStar = true) (p q : Pos) (h : SndEs prog w A env tbl s₀ N₀ es Ps) :
    SndE prog w A env tbl s₀ N₀ (.Call (.Name x q) es [] p) (fun ρ Q => Ps ρ fun ds => biW b ds Q) := fun N W ρ s E Q hN S R hq => by
  refine wpAny_Call_NameR (name_bi X hx hm q S.evl.ext ?_)
  refine callWith_builtin (plain_trees hst p) (args_sound hne hst (wpAny_mono (h p N W ρ s E _ hN S R hq) (fun vs s₁ ⟨ds, hd, ev, r⟩ => ?_) fun _ _ q => q))
  have := bi_sound (E := E) (A := A) (.inl (hN _ X.sys)) hh r hd
  rw [hb, List.append_nil] at this
  exact wpAny_mono this (fun v s₂ ⟨d, hq, ev₂, r⟩ => ⟨d, hq, ev.trans ev₂, r⟩) fun _ _ q => q
theorem snd_isTuple (X : Fx mg mb H env s₀ N₀) (hh : A.handled = none) {e : Expr} {P : Rho → (D → Prop) → Prop} (hx : globName env.scope.names "isinstance" = true) (hy : globName env.scope.names "tuple" = true) (hst : notStar e = true) (p q q' : Pos) (h : SndE prog w A env tbl s₀ N₀ e P) :
    SndE prog w A env tbl s₀ N₀ (.Call (.Name "isinstance" q) [e, .Name "tuple" q'] [] p) (fun ρ Q => P ρ fun d => biW .isTuple [d] Q) := fun N W ρ s E Q hN S R hq => by
  refine wpAny_Call_NameR (name_bi X hx (v := .builtin "isinstance") (List.mem_of_getElem? (i := 5) rfl) q S.evl.ext ?_)
  have hst' : [e, .Name "tuple" q'].all notStar = true := by show (notStar e && (true && true)) = true; rw [hst]; rfl
  refine callWith_builtin (plain_trees hst' p) (args_sound rfl hst' ?_)
  rw [starEach_cons hst]
  refine spliced_cons (wpAny_mono (h N W ρ s E _ hN S R hq) (fun v s₁ ⟨d, hd, ev, r⟩ => ?_) fun _ _ q => q)
  refine spliced_cons (name_bi X hy (v := .type "tuple") (List.mem_of_getElem? (i := 6) rfl) q' (S.step ev).evl.ext (spliced_nil ?_))
  exact wpAny_mono (bi_sound (b := .isTuple) (.inl (hN _ X.sys)) hh (.cons r .nil) hd) (fun v s₂ ⟨d, hq, ev₂, r⟩ => ⟨d, hq, ev.trans ev₂, r⟩) fun _ _ q => q
theorem snd_call (X : Fx mg mb H env s₀ N₀) {RmOk : Around → Prop} (hr : RmOk A) {x : Str} {Xf : List D → (D → Prop) → Prop} (K : FnOk prog w H mg RmOk x Xf) {es : List Expr} {Ps : Rho → (List D → Prop) → Prop} (hx : globName env.scope.names x = true) (hne : es.isEmpty = false) (hst : es.all notStar = true) (p q : Pos) (h : SndEs prog w A env tbl s₀ N₀ es Ps) :
    SndE prog w A env tbl s₀ N₀ (.Call (.Name x q) es [] p) (fun ρ Q => Ps ρ fun ds => Xf ds Q) := fun N W ρ s E Q hN S R hq => by
  obtain ⟨a, o, fd, hm, ho, hd, hc⟩ := K.fn
  refine wpAny_Call_NameR (name_glob X hx hm q S.evl.ext ?_)
  refine callWith_function (o := o) (fd := fd) (args_sound hne hst (wpAny_mono (h p N W ρ s E _ hN S R hq) (fun vs s₁ ⟨ds, hq, ev, r⟩ => ?_) fun _ _ q => q))
  have e1 : Ext H s₁.heap := fun b o q => ev.heap b o id (S.evl.heap b o id (X.ext b o q))
  exact ⟨⟨e1 _ _ ho, hd⟩, wpAny_mono (hc A s₁ (fun a => N a ∨ W a) vs ds Q E hr e1 (Live.step S.live ev) (.inl (hN _ X.sys)) r hq) (fun v s₂ ⟨d, hq, ev₂, r⟩ => ⟨d, hq, ev.trans ev₂, r⟩) fun _ _ q => q⟩
theorem snd_dct0 (p : Pos) : SndO prog w A env tbl s₀ N₀ (.Dict [] [] p) (fun _ Q => Q (.dct [])) := fun N W ρ s E Q hN S R hq =>
  wpAny_Dict_empty ⟨_, .od [], _, rfl, hq, Evl.push _ _, fresh_size, ⟨_, Heap.get?_push_size _ rfl⟩, _, [], rfl, rfl, Heap.DictOf.new _, .nil⟩
end
end Mine
end
section
open PySem PySem.Calls PyProof.Rows
namespace Mine
section
variable {prog : Program} {w : World} {A : Around} {E : Value → Shared → Prop} {s s' s₂ : Shared} {s₀ : Base} {env : Env} {tbl : List Str} {N W W' N₀ : Addr → Prop} {ρ : Rho} {F : Addr → Prop} {mg mb : Str → Option Value} {H : Heap}
theorem seqOf_inv {d : D} {ds : List D} (h : seqOf d = some ds) : d = .lst ds ∨ (∃ kvs, d = .dct kvs ∧ ds = kvs.map fun p => p.1.d) ∨ ∃ x, d = .str x ∧ ds = x.cps.toList.map fun c => D.str ⟨#[c]⟩ := by
  cases d with
  | lst xs => cases h; exact .inl rfl
  | dct xs => cases h; exact .inr (.inl ⟨xs, rfl, rfl⟩)
  | str x => cases h; exact .inr (.inr ⟨x, rfl, rfl⟩)
  | _ => exact nomatch h
theorem sign_rep {x : Str} {h : Heap} {i : Nat} {v : Value} (hv : SignAt x i v) : ∃ d, (x.cps.toList.map fun c => D.str ⟨#[c]⟩)[i]? = some d ∧ Rep w prog F h v d := by
  obtain ⟨c, u, hc, rfl⟩ := hv
  exact ⟨_, by rw [List.getElem?_map, Array.getElem?_toList, hc]; rfl, .str _ _⟩
theorem made_str (hh : A.handled = none) {x : Str} {t : Tok} {Q : Value → Shared → Prop} (h : ∀ it s', Evl s s' → Made prog w A F false true (x.cps.toList.map fun c => D.str ⟨#[c]⟩) s.heap it s' → Q it s') : wpAny (model prog w) A (pyIter (.str x t)) Q E s := by
  refine wpAny_pyIter_strU ?_
  by_cases ha : x.cps.all (· < 128) = true
  · rw [show strIterType x = "str_ascii_iterator" by unfold strIterType; rw [if_pos ha]]
    refine h _ _ (Evl.push _ _) ⟨Ext.push _ _, _, _, Itr.walks (ds := x.cps.toList.map fun c => .str ⟨#[c]⟩) (Walks.strAscii hh s.heap.objs.size x t) (by simp) (fun _ _ => sign_rep) (fun b hb => .inl hb) (fun b hb => List.mem_singleton.mp hb ▸ fresh_size)
      (fun i h st b hb => by rw [List.mem_singleton.mp hb]; obtain ⟨o, e, _⟩ := st; exact ⟨o, e⟩) (fun i h st => by obtain ⟨o, e, hc, _⟩ := st; exact ⟨o, _, e, hc, by decide⟩), 0, rfl, Nat.zero_le _, ⟨_, Heap.get?_push_size _ rfl, rfl, rfl⟩, fun a o _ e => Heap.get?_push_of_some _ e⟩
  · rw [show strIterType x = "str_iterator" by unfold strIterType; rw [if_neg ha]]
    refine h _ _ (Evl.push _ _) ⟨Ext.push _ _, _, _, Itr.walks (ds := x.cps.toList.map fun c => .str ⟨#[c]⟩) (Walks.strWide hh s.heap.objs.size x t) (by simp) (fun _ _ => sign_rep) (fun b hb => .inl hb) (fun b hb => List.mem_singleton.mp hb ▸ fresh_size)
      (fun i h st b hb => by rw [List.mem_singleton.mp hb]; obtain ⟨o, e, _⟩ := st; exact ⟨o, e⟩) (fun i h st => by obtain ⟨o, e, hc, _⟩ := st; exact ⟨o, _, e, hc, by decide⟩), 0, rfl, Nat.zero_le _, ⟨_, Heap.get?_push_size _ rfl, rfl, rfl⟩, fun a o _ e => Heap.get?_push_of_some _ e⟩
theorem made_seq (hS : F sysModules) (hh : A.handled = none) {v : Value} {d : D} {ds : List D} (hd : seqOf d = some ds) (r : Rep w prog F s.heap v d) {Q : Value → Shared → Prop} (h : ∀ it s', Evl s s' → Made prog w A F false true ds s.heap it s' → Q it s') : wpAny (model prog w) A (pyIter v) Q E s := by
  rcases seqOf_inv hd with rfl | ⟨kvs, rfl, rfl⟩ | ⟨x, rfl, rfl⟩
  · obtain ⟨a, vs, rfl, hF, e, r⟩ := r.view
    exact made_list hh hF e r h
  · obtain ⟨a, vs, rfl, hF, e, r⟩ := r.view
    exact made_keys hS hh hF e r h
  · obtain ⟨t, rfl⟩ := r.view
    exact made_str hh h
theorem sndI_ex (hS : N₀ sysModules) (hh : A.handled = none) {e : Expr} {P : Rho → (D → Prop) → Prop} (hs : notSetE e = true) (h : SndE prog w A env tbl s₀ N₀ e P) : SndI prog w A env tbl s₀ N₀ false true e (fun ρ Q => P ρ fun d => ∃ ds, seqOf d = some ds ∧ Q ds) :=
  ⟨folded_of hs, fun N W ρ s E Q hN S R hq => by
    refine wpAny_mono (h N W ρ s E _ hN S R hq) (fun v s₁ ⟨d, ⟨ds, hd, hq⟩, ev, r⟩ => ⟨ev, fun E' R hR => ?_⟩) fun _ _ q => q
    exact made_seq (.inl (hN _ hS)) hh hd r fun it s₂ ev₂ m => hR _ _ ds s₁.heap hq ev₂ ev.ext m⟩
theorem made_of_range (hh : A.handled = none) {r : Addr} {a b c : Int} {t u v : Tok} {n : Nat} (hr : IsRange s.heap r a b c t u v) (hs : Builtin.Range.small a b c = true) (hn : Builtin.Range.rangeSize a b c = (n : Int)) (E' : Value → Shared → Prop) (R : Value → Shared → Prop)
    (hR : ∀ it s₂, Evl s s₂ → Made prog w A F false true (rangeL a c n) s.heap it s₂ → R it s₂) : wpAny (model prog w) A (pyIter (.ref r)) R E' s := made_range hh hr hs hn hR
theorem small_mid {a b : Int} (h1 : -1048576 ≤ a) (h2 : a ≤ 1048576) (h3 : -1048576 ≤ b) (h4 : b ≤ 1048576) : Builtin.Range.small a b 1 = true := small_one (by (first | lia | omega)) (by (first | lia | omega)) (by (first | lia | omega)) (by (first | lia | omega))
theorem size_mid (a b : Int) : Builtin.Range.rangeSize a b 1 = ((b - a).toNat : Int) := rangeSize_nat a b
theorem size_step {b c : Int} (h2 : 0 ≤ b) (h4 : 0 < c) : Builtin.Range.rangeSize 0 b c = (((b + c - 1) / c).toNat : Int) := by
  rw [rangeSize_pos (by (first | lia | omega)) h2, Int.toNat_of_nonneg (Int.ediv_nonneg (by (first | lia | omega)) (by (first | lia | omega)))]
theorem small_step {b c : Int} (h2 : 0 ≤ b) (h3 : b ≤ 1048576) (h4 : 0 < c) (h5 : c ≤ 1048576) : Builtin.Range.small 0 b c = true := by
  have e := rangeSize_pos (len := b) (c := c) (by (first | lia | omega)) h2
  have l1 : 0 ≤ (b + c - 1) / c := Int.ediv_nonneg (by (first | lia | omega)) (by (first | lia | omega))
  have l2 : (b + c - 1) / c ≤ b + c - 1 := Int.ediv_le_self _ (by (first | lia | omega))
  unfold Builtin.Range.small Builtin.Range.rangeFitsLong
  rw [e]
  simp only [Bool.and_eq_true, Bool.or_eq_true, decide_eq_true_eq]
  rw [if_pos h4]
  simp only [Bool.and_eq_true, decide_eq_true_eq]
  (first | lia | omega)
theorem sndI_range (X : Fx mg mb H env s₀ N₀) (hh : A.handled = none) {es : List Expr} {Ps : Rho → (List D → Prop) → Prop} (hx : globName env.scope.names "range" = true) (hne : es.isEmpty = false) (hst : es.all notStar = true) (p q : Pos) (h : SndEs prog w A env tbl s₀ N₀ es Ps) :
    SndI prog w A env tbl s₀ N₀ false true (.Call (.Name "range" q) es [] p) (fun ρ Q => Ps ρ fun ds => rangeW ds Q) :=
  ⟨folded_of rfl, fun N W ρ s E Q hN S R hq => by
    refine wpAny_Call_NameR (name_bi X hx (v := .type "range") (List.mem_of_getElem? (i := 7) rfl) q S.evl.ext ?_)
    refine PySem.callWith_type (plain_trees hst p) (args_sound hne hst (wpAny_mono (h p N W ρ s E _ hN S R hq) (fun vs s₁ ⟨ds, hd, ev, r⟩ => ?_) fun _ _ q => q))
    rw [List.nil_append]
    rcases rangeW_inv hd with ⟨b, rfl, ⟨h1, h2⟩, hq⟩ | ⟨a, b, rfl, ⟨h1, h2, h3, h4⟩, hq⟩ | ⟨a, b, c, rfl, ⟨rfl, h2, h3, h4, h5⟩, hq⟩
    · obtain ⟨v, rfl, ra⟩ := one_view r
      obtain ⟨t, rfl⟩ := ra.view
      refine call_range_1 ⟨ev.trans (Evl.of (Ext.push _ _)), fun E' R hR => made_of_range (F := fun a => N a ∨ W a) hh (IsRange.new ..) (small_mid (by decide) (by decide) h1 h2) (size_mid 0 _) E' R fun it s₂ ev₂ m => ?_⟩
      refine hR it s₂ _ _ ?_ ev₂ (Evl.ext (ev.trans (Evl.of (tk := s₁.toks + 1 + 1) (Ext.push _ _)))) m
      rw [Int.sub_zero]; exact hq
    · obtain ⟨v, v', rfl, ra, rb⟩ := two_view r
      obtain ⟨t, rfl⟩ := ra.view
      obtain ⟨u, rfl⟩ := rb.view
      refine call_range_2 ⟨ev.trans (Evl.of (Ext.push _ _)), fun E' R hR => made_of_range (F := fun a => N a ∨ W a) hh (IsRange.new ..) (small_mid h1 h2 h3 h4) (size_mid _ _) E' R fun it s₂ ev₂ m => ?_⟩
      exact hR it s₂ _ _ hq ev₂ (Evl.ext (ev.trans (Evl.of (tk := s₁.toks + 1) (Ext.push _ _)))) m
    · obtain ⟨v, vs', rfl, ra, r2⟩ := r.view
      obtain ⟨v', v'', rfl, rb, rc⟩ := two_view r2
      obtain ⟨t, rfl⟩ := ra.view
      obtain ⟨u, rfl⟩ := rb.view
      obtain ⟨x, rfl⟩ := rc.view
      refine call_range_3 (Ne.symm (Int.ne_of_lt h4)) ⟨ev.trans (Evl.of (Ext.push _ _)), fun E' R hR => made_of_range (F := fun a => N a ∨ W a) hh (IsRange.new ..) (small_step h2 h3 h4 h5) (size_step h2 h4) E' R fun it s₂ ev₂ m => ?_⟩
      exact hR it s₂ _ _ hq ev₂ (Evl.ext (ev.trans (Evl.of (tk := s₁.toks) (Ext.push _ _)))) m⟩
theorem sndI_enum (X : Fx mg mb H env s₀ N₀) (hh : A.handled = none) {e : Expr} {P : Rho → (D → Prop) → Prop} (hx : globName env.scope.names "enumerate" = true) (hst : notStar e = true) (p q : Pos) (h : SndE prog w A env tbl s₀ N₀ e P) :
    SndI prog w A env tbl s₀ N₀ true true (.Call (.Name "enumerate" q) [e] [] p) (fun ρ Q => P ρ fun d => onL d fun ds => fits ds.length ∧ Q (enumL 0 ds)) :=
  ⟨folded_of rfl, fun N W ρ s E Q hN S R hq => by
    have hst' : [e].all notStar = true := by show (notStar e && true) = true; rw [hst]; rfl
    refine wpAny_Call_NameR (name_bi X hx (v := .type "enumerate") (List.mem_of_getElem? (i := 8) rfl) q S.evl.ext ?_)
    refine PySem.callWith_type (plain_trees hst' p) (args_sound rfl hst' ?_)
    rw [starEach_cons hst]
    refine spliced_cons (wpAny_mono (h N W ρ s E _ hN S R hq) (fun v s₁ ⟨d, hd, ev, r⟩ => spliced_nil ?_) fun _ _ q => q)
    obtain ⟨ds, rfl, h1⟩ := onL_inv hd
    obtain ⟨l, vs, rfl, hF, el, r⟩ := r.view
    refine call_enum (Live.step S.live ev) hh hF el r fun en s₂ ev₂ hI => ⟨ev.trans ev₂, fun E' R hR => hI E' R fun m => ?_⟩
    exact hR _ s₂ _ _ h1.2 (.refl _ _) ev.ext m⟩
end
end Mine
end
section
open PySem PySem.Calls PyProof.Rows
namespace Mine
section
variable {prog : Program} {w : World} {A : Around} {E : Value → Shared → Prop} {s s' s₂ : Shared} {s₀ : Base} {env : Env} {tbl : List Str} {N W W' N₀ : Addr → Prop} {ρ : Rho} {F : Addr → Prop} {mg mb : Str → Option Value} {H : Heap}
theorem St.get {i : Nat} {x : Str} {d : D} (S : St w prog env tbl s₀ N W ρ s) (R : Frm env tbl N W) (hx : tbl[i]? = some x) (hd : ρ.at i = some (.sh d)) :
    ∃ v, Rep w prog (fun a => N a ∨ W a) s.heap v d ∧ ∀ (A : Around) (E : Value → Shared → Prop) (Q : Value → Shared → Prop), Q v s → wpAny (model prog w) A (loadName env x) Q E s := by
  obtain ⟨m, cm, own, L, ZL, O1, O2, V⟩ := S.vals
  obtain ⟨v, hv, r⟩ := V i x _ hx hd
  obtain ⟨a, b, H⟩ := R.home x (List.mem_of_getElem? hx)
  exact ⟨v, r, fun A E Q h => L.load R.kind H hv h (R.plain x (List.mem_of_getElem? hx)).2⟩
theorem sndI_items (hS : N₀ sysModules) (hh : A.handled = none) {i : Nat} {x : Str} (hx : tbl[i]? = some x) {apos : Pos} (p q : Pos) (hl : (apos.endLine == p.line) = true) :
    SndI prog w A env tbl s₀ N₀ true false (.Call (.Attribute (.Name x q) "items" apos) [] [] p) (fun ρ Q => match ρ.at i with | some (.sh (.dct kvs)) => Q (kvs.map fun p => .tup [p.1.d, p.2]) | _ => False) :=
  ⟨folded_of rfl, fun N W ρ s E Q hN S R hq => by
    dsimp only at hq
    split at hq
    · rename_i kvs hd
      obtain ⟨v, r, hld⟩ := S.get R hx hd
      cases r with
      | @dct d _ _ hF e r =>
        refine wpAny_Call_items (knd := kind prog w) (by rw [beq_eq_false_iff_ne]; intro q; exact hF (.inl (q ▸ hN _ hS))) e rfl hl (fun Q' h => wpAny_Name (hld _ _ _ h) (R.plain x (List.mem_of_getElem? hx)).1) ⟨Evl.push _ _, fun E' R' hR => ?_⟩
        have ev : Evl s { s with heap := s.heap.push { cls := .type "dict_items", data := .fields #[.ref d] } } := Evl.push _ _
        exact made_items (F := fun a => N a ∨ W a) (Live.step S.live ev) hh hF ⟨_, Heap.get?_push_size _ rfl, rfl, rfl⟩ (e.push _) (r.ext ev.ext) fun it s₂ ev₂ m => hR it s₂ _ _ hq ev₂ ev.ext m
    · exact hq.elim⟩
theorem sndI_values (hS : N₀ sysModules) (hh : A.handled = none) {i : Nat} {x : Str} (hx : tbl[i]? = some x) {apos : Pos} (p q : Pos) (hl : (apos.endLine == p.line) = true) :
    SndI prog w A env tbl s₀ N₀ false true (.Call (.Attribute (.Name x q) "values" apos) [] [] p) (fun ρ Q => match ρ.at i with | some (.sh (.dct kvs)) => Q (kvs.map fun p => p.2) | _ => False) :=
  ⟨folded_of rfl, fun N W ρ s E Q hN S R hq => by
    dsimp only at hq
    split at hq
    · rename_i kvs hd
      obtain ⟨v, r, hld⟩ := S.get R hx hd
      cases r with
      | @dct d _ _ hF e r =>
        have hds : (d == sysModules) = false := by rw [beq_eq_false_iff_ne]; intro q; exact hF (.inl (q ▸ hN _ hS))
        refine wpAny_Call_method (T := "dict") (id := "dict.values") rfl rfl hl PySem.F.plainAttrs_dict PySem.F.slot_dict_values PySem.F.type_dict_values (wpAny_Name (hld _ _ _ ⟨e.typeIs, e.mapOf.noDict, ?_⟩) (R.plain x (List.mem_of_getElem? hx)).1)
        show wpAny _ _ (callWith p (.builtin "dict.values") [.ref d] [] []) _ E s
        refine method_meetsIn PySem.F.slot_dict_values PySem.F.entry_dict_values rfl (PySem.evalArgs_none ⟨rfl, e.typeIs, PySem.F.args_dict_values_1 _, _, meets_dict_values (kind prog w) d hds, ⟨_, e⟩, ?_⟩)
        have ev : Evl s { s with heap := s.heap.push { cls := .type "dict_values", data := .fields #[.ref d] } } := Evl.push _ _
        exact ⟨ev, fun E' R' hR => made_values (F := fun a => N a ∨ W a) hh hF ⟨_, Heap.get?_push_size _ rfl, rfl, rfl⟩ (e.push _) (r.ext ev.ext) fun it s₂ ev₂ m => hR it s₂ _ _ hq ev₂ ev.ext m⟩
    · exact hq.elim⟩
theorem snd_osub {j : Nat} {x : Str} (hx : tbl[j]? = some x) (hS : N₀ sysModules) {i : Expr} {Pi : Rho → (D → Prop) → Prop} (p q : Pos) (hsl : notSlice i = true) (hi : SndE prog w A env tbl s₀ N₀ i Pi) :
    SndE prog w A env tbl s₀ N₀ (.Subscript (.Name x q) i p) (fun ρ Q => match ρ.at j with | some (.ol ds) => Pi ρ fun b => subW (.lst ds) b Q | some (.od ds) => Pi ρ fun b => subW (.dct ds) b Q | _ => False) := fun N W ρ s E Q hN S R hq => by
  have hpn := (R.plain x (List.mem_of_getElem? hx)).1
  have hs : ∀ o v, subscripted i false o v = operate [o, v] (getItem o v) := fun o v => by cases i <;> first | rfl | cases hsl
  dsimp only at hq
  split at hq
  · rename_i ds hd
    obtain ⟨v, fp, ⟨a, vs, rfl, hfp, e, r⟩, hW, hnd, hld, _⟩ := S.own R hx hd rfl
    refine Subscript_ (wpAny_Name (hld A E _ s (.refl _ _) ?_) hpn)
    refine wpAny_mono (hi N W ρ s E _ hN S R hq) (fun v' s₂ ⟨di, hdi, ev, ri⟩ => ?_) fun _ _ q => q
    have e₂ := e.keep fun o q => ev.heap _ _ id q
    refine tail_any (T := "list") (by obtain ⟨o, e, hc, _⟩ := e₂.list; exact ⟨o, e, hc⟩) slot_list_getitem.lookup ?_ (hs _ _)
    cases ri with
    | int k t =>
      obtain ⟨d, hd, hq⟩ := hdi
      rw [Option.bind_eq_some_iff] at hd
      obtain ⟨j', hj, hd⟩ := hd
      rw [← r.length] at hj
      obtain ⟨v, hv, q⟩ := r.get hd
      exact item_list e₂.list hj hv ⟨d, hq, ev, q.ext ev.ext⟩
    | none => exact hdi.elim
    | bool _ => exact hdi.elim
    | str _ _ => exact hdi.elim
    | tup _ _ _ => exact hdi.elim
    | lst _ _ _ => exact hdi.elim
    | dct _ _ _ => exact hdi.elim
  · rename_i ds hd
    obtain ⟨v, fp, ⟨a, vs, rfl, hfp, e, r⟩, hW, hnd, hld, _⟩ := S.own R hx hd rfl
    refine Subscript_ (wpAny_Name (hld A E _ s (.refl _ _) ?_) hpn)
    refine wpAny_mono (hi N W ρ s E _ hN S R hq) (fun v' s₂ ⟨di, hdi, ev, ri⟩ => ?_) fun _ _ q => q
    have e₂ := e.at fun o q => ev.heap _ _ id q
    refine tail_any (T := "dict") e₂.typeIs slot_dict_getitem.lookup ?_ (hs _ _)
    have hq' : ∃ k' d, di.key? = some k' ∧ klook k' _ = some d ∧ Q d := hdi
    obtain ⟨k, d, hk, hl, hq⟩ := hq'
    rcases r.find k with ⟨h1, _⟩ | ⟨d', v, h1, h2, q⟩
    · rw [h1] at hl; cases hl
    · rw [h1] at hl; cases hl
      exact wpAny_getItem_of (key_is ri hk) e₂.mapOf h2 ⟨d, hq, ev.trans Evl.toks, q.ext ev.ext⟩
  · exact hq.elim
theorem snd_olen (X : Fx mg mb H env s₀ N₀) {j : Nat} {x : Str} (hx : tbl[j]? = some x) (hl : globName env.scope.names "len" = true) (p q q' : Pos) :
    SndE prog w A env tbl s₀ N₀ (.Call (.Name "len" q) [.Name x q'] [] p) (fun ρ Q => match ρ.at j with | some (.ol ds) => fits ds.length ∧ Q (.int ds.length) | _ => False) := fun N W ρ s E Q hN S R hq => by
  dsimp only at hq
  split at hq
  · rename_i ds hd
    obtain ⟨hf, hq⟩ := hq
    unfold fits at hf
    obtain ⟨v, fp, ⟨a, vs, rfl, hfp, e, r⟩, hW, hnd, hld, _⟩ := S.own R hx hd rfl
    refine wpAny_Call_NameR (name_bi X hl (v := .builtin "len") (List.mem_of_getElem? (i := 1) rfl) q S.evl.ext ?_)
    refine callWith_builtin (plain_trees rfl p) (args_sound rfl rfl (spliced_cons (wpAny_Name (hld A E _ s (.refl _ _) (spliced_nil ?_)) (R.plain x (List.mem_of_getElem? hx)).1)))
    refine call_len_list e.list (by simp [r.length]; (first | lia | omega)) (po_int ?_ Evl.toks)
    rw [List.size_toArray, r.length]; exact hq
  · exact hq.elim
theorem own_rep {fp : List Addr} {v : Value} {lv : LV} {d : D} (hd : toLV d = some lv) (r : LvRep w prog F s.heap fp v lv) : Rep w prog (fun a => F a ∧ a ∉ fp) s.heap v d := by
  cases d with
  | lst ds =>
    cases hd
    obtain ⟨a, vs, rfl, hfp, e, r⟩ := r
    exact .lst (fun q => q.2 (hfp ▸ .head _)) e.list (r.anti fun a => And.left)
  | dct ds =>
    cases hd
    obtain ⟨a, vs, rfl, hfp, e, r⟩ := r
    exact .dct (fun q => q.2 (hfp ▸ .head _)) e (r.go fun b o hF e => ⟨fun q => hF q.1, e⟩)
  | _ => cases hd
theorem ocmp_sound (hS : N₀ sysModules) (hu : A.units + 20 < cLine) {j : Nat} {x : Str} (hx : tbl[j]? = some x) {lv : LV} {dv : D} (hN : ∀ a, N₀ a → N a) (S : St w prog env tbl s₀ N W ρ s) (R : Frm env tbl N W) (hd : ρ.at j = some lv) (hlv : toLV dv = some lv) {Q : Bool → Prop} :
    ∃ v, (∀ (A : Around) (E : Value → Shared → Prop) (Q : Value → Shared → Prop) (s₂ : Shared), Evl s s₂ → Q v s₂ → wpAny (model prog w) A (loadName env x) Q E s₂) ∧
      (∀ (op : Cop) (a : Value) (da : D) (s₂ : Shared) (E : Value → Shared → Prop), op ≠ .isnone → Evl s s₂ → Rep w prog (fun a => N a ∨ W a) s₂.heap a da → cmpW op da dv Q → wpAny (model prog w) A (compareOp op.op a v) (PoV s Q) E s₂) ∧
      ∀ (op : Cop) (a : Value) (da : D) (s₂ : Shared) (E : Value → Shared → Prop), op ≠ .isnone → Evl s s₂ → Rep w prog (fun a => N a ∨ W a) s₂.heap a da → cmpW op dv da Q → wpAny (model prog w) A (compareOp op.op v a) (PoV s Q) E s₂ := by
  have ho : lv.owned = true := by cases dv <;> first | (cases hlv; rfl) | cases hlv
  obtain ⟨v, fp, r, hW, hnd, hld, _⟩ := S.own R hx hd ho
  have rv : ∀ s₂, Evl s s₂ → Rep w prog (fun a => (N a ∨ W a) ∧ a ∉ fp) s₂.heap v dv := fun s₂ ev => (own_rep hlv r).ext ev.ext
  have sysF : ∀ s₂, Evl s s₂ → (N sysModules ∨ W sysModules) ∧ sysModules ∉ fp := fun s₂ ev => ⟨.inl (hN _ hS), fun q => (hW _ q).2 (hN _ hS)⟩
  refine ⟨v, hld, fun op a da s₂ E hop ev ra hq => ?_, fun op a da s₂ E hop ev ra hq => ?_⟩
  · exact wpAny_mono (cmp_sound (sysF s₂ ev) hu (ra.anti fun a => And.left) (rv s₂ ev) (fun q => absurd q hop) hq) (fun v s₃ ⟨b, hv, hq, ev₃⟩ => ⟨b, hv, hq, ev.trans ev₃⟩) fun _ _ q => q
  · exact wpAny_mono (cmp_sound (sysF s₂ ev) hu (rv s₂ ev) (ra.anti fun a => And.left) (fun q => absurd q hop) hq) (fun v s₃ ⟨b, hv, hq, ev₃⟩ => ⟨b, hv, hq, ev.trans ev₃⟩) fun _ _ q => q
end
end Mine
end
section
open PySem PySem.Calls PyProof.Rows
namespace Mine
noncomputable def compOf (ex : Expr) (env : Env) (use : Option (Value → Sem Unit)) : Sem Value :=
  match ex with
  | e@(.ListComp _ gens scope pos) => comprehension e scope env (firstIterPos gens pos) (newList []) (firstAsync gens) (firstIter gens env) use
  | e@(.DictComp _ _ gens scope pos) => comprehension e scope env (firstIterPos gens pos) newDict (firstAsync gens) (firstIter gens env) use
  | _ => pure .none
noncomputable def isComp : Expr → Bool
  | .ListComp _ _ _ _ => true
  | .DictComp _ _ _ _ _ => true
  | _ => false
noncomputable def notComp : Expr → Bool
  | .ListComp _ _ _ _ => false
  | .DictComp _ _ _ _ _ => false
  | .SetComp _ _ _ _ => false
  | _ => true
section
variable (prog : Program) (w : World) (A : Around) (env : Env) (tbl : List Str) (s₀ : Base) (N₀ : Addr → Prop)
noncomputable def SndK (ex : Expr) (P : Rho → (D → Prop) → Prop) : Prop :=
  isComp ex = true ∧ ∀ (N W : Addr → Prop) (ρ : Rho) (s : Shared) (E : Value → Shared → Prop) (Q : D → Prop) (use : Option (Value → Sem Unit)) (Qf : Value → Shared → Prop), (∀ a, N₀ a → N a) → St w prog env tbl s₀ N W ρ s → Frm env tbl N W → P ρ Q →
    (∀ s' a C d lv, toLV d = some lv → Q d → Evl s s' → s.heap.get? a = none → s.heap.get? C = none → a ≠ C → (∃ o, s'.heap.get? a = some o) → LvRep w prog (fun b => (N b ∨ b = C ∨ b = a) ∨ W b) s'.heap [a] (.ref a) lv → (∃ m, s'.heap.Ns C m) →
      compPost (model prog w) A E use Qf (.ref a) C (.ok .next) s') → wpAny (model prog w) A (compOf ex env use) Qf E s
end
section
variable {prog : Program} {w : World} {A : Around} {E : Value → Shared → Prop} {s s' s₂ : Shared} {s₀ : Base} {env : Env} {tbl tbl' : List Str} {N W W' N₀ : Addr → Prop} {ρ : Rho} {F : Addr → Prop} {mg mb : Str → Option Value} {H : Heap} {scope : Scope} {cap : List (Option Nat)} {tp tp₂ : Bool}
theorem snd_lc1 (hh : A.handled = none) {elt iter e : Expr} {ifs : List Expr} {t : Tgt} (pos : Pos)
    (ok : scopeOk scope.names env.scope.names tbl tbl' cap = true) (hk : scope.kind = .function) {PI : Rho → (List D → Prop) → Prop} {Pifs : Rho → (Bool → Prop) → Prop} {Pelt : Rho → (D → Prop) → Prop}
    (hit : SndI prog w A env tbl s₀ N₀ tp true iter PI) (ht : okT true (relabel scope env).names tbl' t e = true) (htp : tp = true → ∃ es k p, e = .Tuple es k p) (hc : ∀ i ∈ t.names, cap[i]? = some none)
    (hifs : ∀ cl C, SndIfs prog w A (compEnvC scope cl C env) tbl' s₀ N₀ ifs Pifs) (helt : ∀ cl C, SndE prog w A (compEnvC scope cl C env) tbl' s₀ N₀ elt Pelt) :
    SndK prog w A env tbl s₀ N₀ (.ListComp elt [⟨e, iter, ifs, 0⟩] scope pos) (fun ρ Q => PI ρ fun ds => loopW (fun d acc C => asgW t d (capture ρ cap) fun ρ' => Pifs ρ' fun b => match b with | true => Pelt ρ' (fun d => pushW acc d C) | false => C acc) ds (.lst []) Q) :=
  ⟨rfl, fun N W ρ s E Q use Qf hN S R hq hfin => listcomp1 hh S R hN ok hk hit ht htp hc hifs helt hq fun s' Dd Cc ds hq ev h1 h2 hne ⟨vs, el, rs⟩ hm => hfin s' Dd Cc (.lst ds) (.ol ds) rfl hq ev h1 h2 hne el.live ⟨Dd, vs, rfl, rfl, el, rs⟩ hm⟩
theorem snd_lc2 (hh : A.handled = none) {elt iter e iter₂ e₂ : Expr} {ifs ifs₂ : List Expr} {t t₂ : Tgt} (pos : Pos)
    (ok : scopeOk scope.names env.scope.names tbl tbl' cap = true) (hk : scope.kind = .function) {PI PI₂ : Rho → (List D → Prop) → Prop} {Pifs Pifs₂ : Rho → (Bool → Prop) → Prop} {Pelt : Rho → (D → Prop) → Prop}
    (hit : SndI prog w A env tbl s₀ N₀ tp true iter PI) (ht : okT true (relabel scope env).names tbl' t e = true) (htp : tp = true → ∃ es k p, e = .Tuple es k p) (hc : ∀ i ∈ t.names, cap[i]? = some none)
    (hit₂ : ∀ cl C, SndI prog w A (compEnvC scope cl C env) tbl' s₀ N₀ tp₂ true iter₂ PI₂) (ht₂ : okT true (relabel scope env).names tbl' t₂ e₂ = true) (htp₂ : tp₂ = true → ∃ es k p, e₂ = .Tuple es k p) (hc₂ : ∀ i ∈ t₂.names, cap[i]? = some none ∧ i ∉ t.names)
    (hifs : ∀ cl C, SndIfs prog w A (compEnvC scope cl C env) tbl' s₀ N₀ ifs Pifs) (hifs₂ : ∀ cl C, SndIfs prog w A (compEnvC scope cl C env) tbl' s₀ N₀ ifs₂ Pifs₂) (helt : ∀ cl C, SndE prog w A (compEnvC scope cl C env) tbl' s₀ N₀ elt Pelt) :
    SndK prog w A env tbl s₀ N₀ (.ListComp elt [⟨e, iter, ifs, 0⟩, ⟨e₂, iter₂, ifs₂, 0⟩] scope pos) (fun ρ Q => PI ρ fun ds => loopW (fun d acc C => asgW t d (capture ρ cap) fun ρ' => Pifs ρ' fun b => match b with
      | true => PI₂ ρ' fun ds₂ => loopW (fun d acc C => asgW t₂ d ρ' fun ρ'' => Pifs₂ ρ'' fun b => match b with | true => Pelt ρ'' (fun d => pushW acc d C) | false => C acc) ds₂ acc C
      | false => C acc) ds (.lst []) Q) :=
  ⟨rfl, fun N W ρ s E Q use Qf hN S R hq hfin => listcomp2 hh S R hN ok hk hit ht htp hc hit₂ ht₂ htp₂ hc₂ hifs hifs₂ helt hq fun s' Dd Cc ds hq ev h1 h2 hne ⟨vs, el, rs⟩ hm => hfin s' Dd Cc (.lst ds) (.ol ds) rfl hq ev h1 h2 hne el.live ⟨Dd, vs, rfl, rfl, el, rs⟩ hm⟩
theorem snd_dc1 (hh : A.handled = none) {kx vx iter e : Expr} {ifs : List Expr} {t : Tgt} (pos : Pos)
    (ok : scopeOk scope.names env.scope.names tbl tbl' cap = true) (hk : scope.kind = .function) {PI : Rho → (List D → Prop) → Prop} {Pifs : Rho → (Bool → Prop) → Prop} {Pk Pv : Rho → (D → Prop) → Prop}
    (hit : SndI prog w A env tbl s₀ N₀ tp true iter PI) (ht : okT true (relabel scope env).names tbl' t e = true) (htp : tp = true → ∃ es k p, e = .Tuple es k p) (hc : ∀ i ∈ t.names, cap[i]? = some none)
    (hifs : ∀ cl C, SndIfs prog w A (compEnvC scope cl C env) tbl' s₀ N₀ ifs Pifs) (hkx : ∀ cl C, SndE prog w A (compEnvC scope cl C env) tbl' s₀ N₀ kx Pk) (hvx : ∀ cl C, SndE prog w A (compEnvC scope cl C env) tbl' s₀ N₀ vx Pv) :
    SndK prog w A env tbl s₀ N₀ (.DictComp kx vx [⟨e, iter, ifs, 0⟩] scope pos) (fun ρ Q => PI ρ fun ds => loopW (fun d acc C => asgW t d (capture ρ cap) fun ρ' => Pifs ρ' fun b => match b with | true => Pk ρ' (fun dk => Pv ρ' fun dv => putW acc dk dv C) | false => C acc) ds (.dct []) Q) :=
  ⟨rfl, fun N W ρ s E Q use Qf hN S R hq hfin => dictcomp1 hh S R hN ok hk hit ht htp hc hifs hkx hvx hq fun s' Dd Cc ds hq ev h1 h2 hne ⟨vs, el, rs⟩ hm => hfin s' Dd Cc (.dct ds) (.od ds) rfl hq ev h1 h2 hne (by obtain ⟨o, _, _, e, _⟩ := el; exact ⟨o, e⟩) ⟨Dd, vs, rfl, rfl, el, rs⟩ hm⟩
theorem snd_compO {ex : Expr} {P : Rho → (D → Prop) → Prop} (h : SndK prog w A env tbl s₀ N₀ ex P) : SndO prog w A env tbl s₀ N₀ ex P := fun N W ρ s E Q hN S R hq => by
  have e1 : eval ex env = compOf ex env none := by
    have := h.1
    cases ex <;> first | rfl | cases this
  rw [e1]
  refine h.2 N W ρ s E Q none _ hN S R hq fun s' a C d lv hl hq ev h1 h2 hne ⟨o, ho⟩ r ⟨m, hm⟩ => ⟨m, hm, fun h' hs => ?_⟩
  have ev2 : Evl s { s' with heap := h' } := ev.trans' (Aft.of (W := fun b => b = C) (tk := s'.toks) fun b o hb e => hs.extBut b o hb e) fun b hb => .inr (hb ▸ h2)
  refine ⟨d, lv, a, hl, hq, ev2, h1, ⟨o, hs.extBut a o hne ho⟩, r.go (fun b o hF e => ⟨fun q => hF ?_, hs.extBut b o (fun q => hF (.inl (.inr (.inl q)))) e⟩) fun _ b hb o e => hs.extBut b o (fun q => hne ((List.mem_singleton.mp hb) ▸ q)) e⟩
  rcases q with (q | q) | q
  · exact .inl (.inl q)
  · exact .inr q
  · exact .inl (.inr (.inr q))
mutual
theorem Rep.noL {G : Addr → Prop} {h : Heap} : ∀ {v : Value} {d : D}, Rep w prog G h v d → noLst d = true → (∀ a, F a → G a ∨ ∃ vs, h.IsList a vs) → Rep w prog F h v d
  | _, _, .none, _, _ => .none
  | _, _, .bool b, _, _ => .bool b
  | _, _, .int i t, _, _ => .int i t
  | _, _, .str s t, _, _ => .str s t
  | _, _, .tup hF e r, hn, k => .tup (fun q => (k _ q).elim hF fun ⟨vs, o, e', hc, _⟩ => by obtain ⟨o2, e2, hc2, _⟩ := e; rw [e'] at e2; cases e2; rw [hc] at hc2; simp at hc2) e (Reps.noL r (by simpa [noLst] using hn) k)
  | _, _, .lst _ _ _, hn, _ => by simp [noLst] at hn
  | _, _, .dct hF e r, hn, k => .dct (fun q => (k _ q).elim hF fun ⟨vs, o, e', hc, _⟩ => by obtain ⟨o2, _, _, e2, hc2, _⟩ := e; rw [e'] at e2; cases e2; rw [hc2.1] at hc; simp at hc) e (RepKs.noL r (by simpa [noLst] using hn) k)
theorem Reps.noL {G : Addr → Prop} {h : Heap} : ∀ {v : List Value} {d : List D}, Reps w prog G h v d → noLsts d = true → (∀ a, F a → G a ∨ ∃ vs, h.IsList a vs) → Reps w prog F h v d
  | _, _, .nil, _, _ => .nil
  | _, _, .cons a r, hn, k => by
    simp only [noLsts, Bool.and_eq_true] at hn
    exact .cons (Rep.noL a hn.1 k) (Reps.noL r hn.2 k)
theorem RepKs.noL {G : Addr → Prop} {h : Heap} : ∀ {v : List (K × Value)} {d : List (K × D)}, RepKs w prog G h v d → noLstK d = true → (∀ a, F a → G a ∨ ∃ vs, h.IsList a vs) → RepKs w prog F h v d
  | _, _, .nil, _, _ => .nil
  | _, _, .cons a r, hn, k => by
    simp only [noLstK, Bool.and_eq_true] at hn
    exact .cons (Rep.noL a hn.1 k) (RepKs.noL r hn.2 k)
end
end
end Mine
end
section
open PySem PySem.Calls PyProof.Rows
namespace Mine
theorem swaps_false {ex : Expr} (hn : notComp ex = true) (t : Option Expr) (line : Nat) (env : Env) : swapsWith ex t line env = pure false := by
  cases ex <;> first | rfl | cases hn
section
variable {prog : Program} {w : World} {A : Around} {E : Value → Shared → Prop} {s s' s₁ s₂ : Shared} {s₀ : Base} {env : Env} {tbl tbl' : List Str} {N N' W W' N₀ : Addr → Prop} {ρ : Rho} {F : Addr → Prop} {mg mb : Str → Option Value} {H : Heap}
theorem St.retire {X : Addr → Prop} (S : St w prog env tbl s₀ N W ρ s) (x : Aft X s s') (hX : ∀ a, X a → N a ∧ s₀.heap.get? a = none ∧ ¬ W a ∧ a ≠ env.locals ∧ ∀ n c, env.cells.lookup n = some c → a ≠ c) (k : ∀ a, N' a → N a ∧ ¬ X a) : St w prog env tbl s₀ N' W ρ s' := by
  refine ⟨⟨fun b o _ e => ?_, fun i g e => x.gens i g (S.evl.gens i g e), fun q => x.bare (S.evl.bare q), x.os.trans S.evl.os⟩, fun a ha => ?_, S.fresh, S.zw, s₀.zs _ _ S.zi fun b o hb e => x.heap b o (fun q => (hX b q).2.2.1 (S.zw b hb)) e, ?_⟩
  · refine x.heap b o (fun q => ?_) (S.evl.heap b o id e)
    rw [(hX b q).2.1] at e; cases e
  · have hn : ¬ X a := fun q => ha.elim (fun h => (k a h).2 q) (hX a q).2.2.1
    obtain ⟨o, e⟩ := S.live a (ha.imp (fun h => (k a h).1) id)
    exact ⟨o, x.heap a o hn e⟩
  · obtain ⟨m, cm, own, L, ZL, O1, O2, V⟩ := S.vals
    refine ⟨m, cm, own, L.keep fun a o ha e => x.heap a o (fun q => ?_) e, ZL, fun i lv hr ho a ha => ⟨⟨(O1 i lv hr ho a ha).1.1, fun q => (O1 i lv hr ho a ha).1.2 (k a q).1⟩, (O1 i lv hr ho a ha).2⟩, O2, fun i y lv ht hr => ?_⟩
    · rcases ha with rfl | ⟨n, hn⟩
      · exact (hX _ q).2.2.2.1 rfl
      · exact (hX _ q).2.2.2.2 n a hn rfl
    · obtain ⟨v, hv, r⟩ := V i y lv ht hr
      exact ⟨v, hv, r.go (fun a o hF e => ⟨fun q => hF (q.imp (fun h => (k a h).1) id), x.heap a o (fun q => hF (.inl (hX a q).1)) e⟩) (fun ho a ha o e => x.heap a o (fun q => (hX a q).2.2.1 (O1 i lv hr ho a ha).1.1) e)⟩
theorem pos_keep {Q : Rho → Fl → Prop} {ρ' : Rho} (S : St w prog env tbl s₀ N W ρ' s') (R : Frm env tbl N W) (a : Aft W s s') (hq : Q ρ' .next) : PoS w prog env tbl s₀ N W s Q .next s' := ⟨ρ', .next, W, hq, .next, S, R, fun _ => .inl, a⟩
theorem Evl.aftW (x : Evl s s') : Aft W s s' := Aft.mono x fun _ q => q.elim
theorem store_pos {i : Nat} {x : Str} {p : Pos} {v : Value} {d : D} {Q : Rho → Fl → Prop} (S : St w prog env tbl s₀ N W ρ s₁) (R : Frm env tbl N W) (ev : Aft W s s₁) (ht : tgtName false env.scope.names tbl i (.Name x p) = true) (r : Rep w prog (fun a => N a ∨ W a) s₁.heap v d)
    (hq : Q (ρ.set i (some (.sh d))) .next) : wpAny (model prog w) A (storeName env x v) (fun _ => PoS w prog env tbl s₀ N W s Q .next) E s₁ := by
  obtain ⟨x', p', e, hx, hw⟩ := tgtName_inv ht
  cases e
  obtain ⟨a, b, Hm⟩ := R.home x (List.mem_of_getElem? hx)
  obtain ⟨H', _⟩ := Hm.write hw
  exact S.store R hx H' r fun s' S' a' => pos_keep S' R (ev.trans (a'.mono fun b hb => by subst hb; exact R.homeW x (List.mem_of_getElem? hx) _ H')) hq
theorem sndS_assign {i : Nat} {x : Str} {p pos : Pos} {ex : Expr} {P : Rho → (D → Prop) → Prop} (ht : tgtName false env.scope.names tbl i (.Name x p) = true) (hn : notComp ex = true) (h : SndE prog w A env tbl s₀ N₀ ex P) :
    SndS prog w A env tbl s₀ N₀ (.Assign [.Name x p] ex pos) (fun ρ Q => P ρ fun d => Q (ρ.set i (some (.sh d))) .next) := fun N W ρ s E Q hN S R hq =>
  wpAny_Assign_Name (wpAny_mono (h N W ρ s E _ hN S R hq) (fun v s₁ ⟨d, hd, ev, r⟩ => store_pos (S.step ev) R ev.aftW ht r hd) fun _ _ q => q) (swaps_false hn _ _ _)
theorem own_pos {i : Nat} {x : Str} {p : Pos} {v : Value} {d : D} {lv : LV} {a : Addr} {Q : Rho → Fl → Prop} (S : St w prog env tbl s₀ N W ρ s) (R : Frm env tbl N W) (ev : Evl s s₁) (ht : tgtName false env.scope.names tbl i (.Name x p) = true) (hi : i < ρ.length)
    (hn : s.heap.get? a = none) (hl : ∃ o, s₁.heap.get? a = some o) (r : LvRep w prog (fun b => (N b ∨ W b) ∨ b = a) s₁.heap [a] v lv) (hq : Q (ρ.set i (some lv)) .next) :
    wpAny (model prog w) A (storeName env x v) (fun _ => PoS w prog env tbl s₀ N W s Q .next) E s₁ := by
  obtain ⟨x', p', e, hx, hw⟩ := tgtName_inv ht
  cases e
  obtain ⟨b, c, Hm⟩ := R.home x (List.mem_of_getElem? hx)
  obtain ⟨H', _⟩ := Hm.write hw
  refine S.storeOwn R ev hx hi H' (fun b hb => by rw [List.mem_singleton.mp hb]; exact ⟨hn, hl⟩) (by simp) (fun a => .inl) (fun a => id) (fun b hb q => ?_) (r.go (fun b o hF e => ⟨fun q => hF ?_, e⟩) fun _ _ _ _ e => e) fun s' S' a' => ⟨_, .next, _, hq, .next, S', R.moreW fun a => .inl, fun b hb => hb.imp id fun q => by rw [List.mem_singleton.mp q]; exact hn, ev.aftW.trans a'⟩
  · rw [List.mem_singleton.mp hb] at q
    obtain ⟨o, e⟩ := S.live a (.inl q); rw [hn] at e; cases e
  · rcases q with q | q | q
    · exact .inl (.inl q)
    · exact .inl (.inr q)
    · exact .inr (List.mem_singleton.mp q)
theorem sndS_assignO {i : Nat} {x : Str} {p pos : Pos} {ex : Expr} {P : Rho → (D → Prop) → Prop} (ht : tgtName false env.scope.names tbl i (.Name x p) = true) (hn : notComp ex = true) (h : SndO prog w A env tbl s₀ N₀ ex P) :
    SndS prog w A env tbl s₀ N₀ (.Assign [.Name x p] ex pos) (fun ρ Q => P ρ fun d => ∃ lv, toLV d = some lv ∧ i < ρ.length ∧ Q (ρ.set i (some lv)) .next) := fun N W ρ s E Q hN S R hq =>
  wpAny_Assign_Name (wpAny_mono (h N W ρ s E _ hN S R hq) (fun v s₁ ⟨d, lv, a, hl, ⟨lv', hl', hi, hd⟩, ev, hn, hlive, r⟩ => by
    rw [hl] at hl'; cases hl'
    exact own_pos (d := d) S R ev ht hi hn hlive r hd) fun _ _ q => q) (swaps_false hn _ _ _)
theorem swaps_comp {ex : Expr} {x : Str} {p : Pos} {l : Nat} {env : Env} (h : isComp ex = true) : ∃ b, swapsWith ex (some (.Name x p)) l env = pure b := by
  cases ex <;> first | exact ⟨_, rfl⟩ | cases h
theorem use_comp {ex : Expr} {u : Value → Sem Unit} {env : Env} (h : isComp ex = true) : evalThenUse ex env u = (do let _ ← compOf ex env (some u)) := by
  cases ex <;> first | rfl | cases h
theorem sndS_comp {i : Nat} {x : Str} {p pos : Pos} {ex : Expr} {P : Rho → (D → Prop) → Prop} (own : Bool) (ht : tgtName false env.scope.names tbl i (.Name x p) = true) (h : SndK prog w A env tbl s₀ N₀ ex P) :
    SndS prog w A env tbl s₀ N₀ (.Assign [.Name x p] ex pos) (fun ρ Q => P ρ fun d => match own with | true => ∃ lv, toLV d = some lv ∧ i < ρ.length ∧ Q (ρ.set i (some lv)) .next | false => Q (ρ.set i (some (.sh d))) .next) := fun N W ρ s E Q hN S R hq => by
  obtain ⟨b, hsw⟩ := swaps_comp (x := x) (p := p) (l := pos.line) (env := env) h.1
  cases b with
  | false =>
    refine wpAny_Assign_Name (wpAny_mono (snd_compO h N W ρ s E _ hN S R hq) (fun v s₁ hx => ?_) fun _ _ q => q) hsw
    cases own with
    | true =>
      obtain ⟨d, lv, a, hl, ⟨lv', hl', hi, hd⟩, ev, hn, hlive, r⟩ := hx
      rw [hl] at hl'; cases hl'
      exact own_pos (d := d) S R ev ht hi hn hlive r hd
    | false =>
      obtain ⟨d, hd, ev, r⟩ := hx.po S.live
      exact store_pos (S.step ev) R ev.aftW ht r hd
  | true =>
    rw [exec_Assign_Name_used _ _ _ _ hsw]
    have e1 := use_comp (u := assign (.Name x p) env) (env := env) h.1
    rw [e1]
    refine wpAny_bind (wpAny_standAt (wpAny_bind (wpAny_bind (wpAny_mono (h.2 N W ρ s E _ (some (assign (.Name x p) env)) (fun _ => PoS w prog env tbl s₀ N W s Q .next) hN S R hq fun s' a C d lv hl hd ev h1 h2 hne ⟨o, ho⟩ r ⟨m, hm⟩ => ?_) (fun _ s' q => wpAny_pure (wpAny_pure q)) fun _ _ q => q))))
    show wpAny _ _ (assign (.Name x p) env (.ref a)) _ _ _
    refine wpAny_assign_Name ?_
    obtain ⟨x', p', e, hx, hw⟩ := tgtName_inv ht
    cases e
    obtain ⟨hm₀, c₀, Hm⟩ := R.home x (List.mem_of_getElem? hx)
    obtain ⟨H', _⟩ := Hm.write hw
    have Ccell : ∀ n c, env.cells.lookup n = some c → C ≠ c := fun n c hc q => by obtain ⟨o, e⟩ := S.cellLive hc; rw [← q, h2] at e; cases e
    have Cloc : C ≠ env.locals := fun q => by obtain ⟨m, o, _, _, e, _⟩ := S.ns; rw [← q, h2] at e; cases e
    have CW : ¬ W C := fun q => by obtain ⟨o, e⟩ := S.live C (.inr q); rw [h2] at e; cases e
    have Clive : ∃ o, s'.heap.get? C = some o := by obtain ⟨o, _, _, e, _⟩ := hm; exact ⟨o, e⟩
    have C0 : s₀.heap.get? C = none := S.evl.none h2
    have nN : ∀ b, (N b ∨ b = C) → N b ∨ (s.heap.get? b = none ∧ ∃ o, s'.heap.get? b = some o) := fun b hb => by
      rcases hb with q | q
      · exact .inl q
      · subst q; exact .inr ⟨h2, Clive⟩
    have R' : Frm env tbl (fun b => N b ∨ b = C) W := R.moreN fun b => .inl
    -- the end, once the name is set in a frame that forbids C too
    have fin : ∀ (W₂ : Addr → Prop) (ρ' : Rho) (s'' : Shared), St w prog env tbl s₀ (fun b => N b ∨ b = C) W₂ ρ' s'' → Frm env tbl (fun b => N b ∨ b = C) W₂ → (∀ b, W₂ b → W b ∨ s.heap.get? b = none) → ¬ W₂ C → Aft W s' s'' → Q ρ' .next →
        ∃ m, s''.heap.Ns C m ∧ ∀ h', Heap.SameBut C s''.heap h' → PoS w prog env tbl s₀ N W s Q .next { s'' with heap := h' } := fun W₂ ρ' s'' S₂ R₂ g₂ cw a₂ hq => by
      refine ⟨m, hm.at' fun o e => a₂.heap C o CW e, fun h' hs => ?_⟩
      have aC : Aft (fun b => b = C) s'' { s'' with heap := h' } := Aft.of (tk := s''.toks) fun b o hb e => hs.extBut b o hb e
      refine ⟨ρ', .next, W₂, hq, .next, S₂.retire aC (fun b hb => by subst hb; exact ⟨.inr rfl, C0, cw, Cloc, Ccell⟩) fun b hb => ⟨.inl hb, fun q => by subst q; obtain ⟨o, e⟩ := S.live b (.inl hb); rw [h2] at e; cases e⟩, ⟨R₂.kind, R₂.nodup, R₂.plain, R₂.home, fun y hy b c Hy => ?_, R₂.homeW⟩, g₂, ?_⟩
      · rcases R₂.homeN y hy b c Hy with (q | q) | q
        · exact .inl q
        · exfalso
          subst q
          obtain ⟨m, cm, own, L, _⟩ := S.vals
          rcases L.home Hy with q | ⟨n, hn⟩
          · exact Cloc q
          · exact Ccell n _ hn rfl
        · exact .inr q
      · exact Aft.trans' (ev.aftW (W := W)) (Aft.trans (a₂.mono fun b q => Or.inl (b := b = C) q) (aC.mono fun b q => Or.inr q)) fun b hb => by
          rcases hb with q | q
          · exact .inl q
          · exact .inr (q ▸ h2)
    cases own with
    | false =>
      have S' := S.moreN ev nN
      have rr : Rep w prog (fun b => (N b ∨ b = C) ∨ W b) s'.heap (.ref a) d := by
        have na : ¬ ((N a ∨ a = C) ∨ W a) := fun q => by
          rcases q with (q | q) | q
          · obtain ⟨o, e⟩ := S.live a (.inl q); rw [h1] at e; cases e
          · exact hne q
          · obtain ⟨o, e⟩ := S.live a (.inr q); rw [h1] at e; cases e
        cases d with
        | lst ds =>
          cases hl
          obtain ⟨b, vs, hb, hfp, e, r⟩ := r
          cases hb
          exact .lst na e.list (r.anti fun b q => q.imp (Or.imp id .inl) id)
        | dct ds =>
          cases hl
          obtain ⟨b, vs, hb, hfp, e, r⟩ := r
          cases hb
          exact .dct na e (r.go fun b o hF e => ⟨fun q => hF (q.imp (Or.imp id .inl) id), e⟩)
        | _ => cases hl
      exact S'.store R' hx H' rr fun s'' S'' a'' => fin W _ s'' S'' R' (fun b => .inl) CW (a''.mono fun b hb => by subst hb; exact R.homeW x (List.mem_of_getElem? hx) _ H') hd
    | true =>
      obtain ⟨lv', hl', hi, hd⟩ := hd
      rw [hl] at hl'; cases hl'
      refine S.storeOwn R ev hx hi H' (fun b hb => by rw [List.mem_singleton.mp hb]; exact ⟨h1, o, ho⟩) (by simp) nN (fun b => .inl) (fun b hb q => ?_) (r.go (fun b o hF e => ⟨fun q => hF ?_, e⟩) fun _ _ _ _ e => e) fun s'' S'' a'' => fin _ _ s'' S'' (R'.moreW fun b => .inl) (fun b hb => hb.imp id fun q => by rw [List.mem_singleton.mp q]; exact h1) (fun q => q.elim CW fun q => hne (List.mem_singleton.mp q).symm) a'' hd
      · rw [List.mem_singleton.mp hb] at q
        rcases q with q | q
        · obtain ⟨o, e⟩ := S.live a (.inl q); rw [h1] at e; cases e
        · exact hne q
      · rcases q with (q | q) | q | q
        · exact .inl (.inl q)
        · exact .inl (.inr (.inl q))
        · exact .inr q
        · exact .inl (.inr (.inr (List.mem_singleton.mp q)))
end
end Mine
end
section
open PySem PySem.Calls PyProof.Rows
namespace Mine
section
variable {prog : Program} {w : World} {A : Around} {E : Value → Shared → Prop} {s s' s₁ s₂ : Shared} {s₀ : Base} {env : Env} {tbl tbl' : List Str} {N N' W W' N₀ : Addr → Prop} {ρ : Rho} {F : Addr → Prop} {mg mb : Str → Option Value} {H : Heap}
theorem own_get {fp : List Addr} {v kv : Value} {lv : LV} {dk : D} {Q : D → Prop} (r : LvRep w prog F s.heap fp v lv) (rk : Rep w prog F s.heap kv dk) (hq : getW lv dk Q) : wpAny (model prog w) A (getItem v kv) (Po w prog F s Q) E s := by
  cases lv with
  | ol ds =>
    obtain ⟨a, vs, rfl, hfp, e, r⟩ := r
    cases rk with
    | int k t =>
      obtain ⟨d, hd, hq⟩ := hq
      rw [Option.bind_eq_some_iff] at hd
      obtain ⟨j', hj, hd⟩ := hd
      rw [← r.length] at hj
      obtain ⟨v, hv, q⟩ := r.get hd
      exact item_list e.list hj hv ⟨d, hq, .refl _ _, q⟩
    | none => exact hq.elim
    | bool _ => exact hq.elim
    | str _ _ => exact hq.elim
    | tup _ _ _ => exact hq.elim
    | lst _ _ _ => exact hq.elim
    | dct _ _ _ => exact hq.elim
  | od ds =>
    obtain ⟨a, vs, rfl, hfp, e, r⟩ := r
    have hq' : ∃ k' d, dk.key? = some k' ∧ klook k' _ = some d ∧ Q d := hq
    obtain ⟨k, d, hk, hl, hq⟩ := hq'
    rcases r.find k with ⟨h1, _⟩ | ⟨d', v, h1, h2, q⟩
    · rw [h1] at hl; cases hl
    · rw [h1] at hl; cases hl
      exact wpAny_getItem_of (key_is rk hk) e.mapOf h2 ⟨d, hq, Evl.toks, q⟩
  | sh _ => exact hq.elim
  | oll _ => exact hq.elim
  | exc _ => exact hq.elim
inductive SetTo (w : World) (prog : Program) (F : Addr → Prop) (fp : List Addr) (v : Value) (s : Shared) (Q : LV → Prop) (s' : Shared) : Prop
  | mk (lv' : LV) (h' : Heap) (tk : Nat) (q : Q lv') (e : s' = { s with heap := h', toks := tk }) (ow : lv'.owned = true) (k : ∀ b o, b ∉ fp → s.heap.get? b = some o → h'.get? b = some o) (l : ∀ a ∈ fp, ∃ o, h'.get? a = some o) (r : LvRep w prog F h' fp v lv') : SetTo w prog F fp v s Q s'
theorem set_list {l : Addr} {vs : List Value} {i : Nat} {t : Tok} {v : Value} {Q : Unit → Shared → Prop} (e : LstAt s.heap l vs) (hi : i < vs.length) (hz : vs.length ≤ 1048576) (h : ∀ h', LstAt h' l (vs.set i v) → (∀ b o, b ≠ l → s.heap.get? b = some o → h'.get? b = some o) → Q () { s with heap := h' }) :
    wpAny (model prog w) A (setItem (.ref l) (.int i t) v) Q E s := by
  obtain ⟨n, e⟩ := e
  refine PySem.W.ki_setAt (n := n) e (by (first | lia | omega)) (by (first | lia | omega)) (by simpa using hi) (h _ ⟨n, ?_⟩ fun b o hb q => (Heap.SameBut.update ..).extBut b o hb q)
  rw [Heap.get?_update_self _ e rfl]
  simp [Obj.mapSeq]
theorem own_set {fp : List Addr} {v kv x : Value} {lv : LV} {dk dx : D} {Q : LV → Prop} (hF : ∀ a ∈ fp, F a) (r : LvRep w prog F s.heap fp v lv) (rk : Rep w prog F s.heap kv dk) (rx : Rep w prog F s.heap x dx) (hq : setW lv dk dx Q) :
    wpAny (model prog w) A (setItem v kv x) (fun _ => SetTo w prog F fp v s Q) E s := by
  cases lv with
  | ol ds =>
    obtain ⟨a, vs, rfl, hfp, e, r⟩ := r
    subst hfp
    cases rk with
    | int k t =>
      obtain ⟨⟨h0, h1⟩, hf, hq⟩ := hq
      unfold fits at hf
      obtain ⟨i, rfl⟩ := Int.eq_ofNat_of_zero_le h0
      rw [← r.length] at h1 hf
      refine set_list e (by (first | lia | omega)) hf fun h' e' k => ⟨_, h', s.toks, hq, rfl, rfl, fun b o hb q => k b o (fun q => hb (List.mem_singleton.mpr q)) q, fun b hb => by rw [List.mem_singleton.mp hb]; exact e'.live, a, _, rfl, rfl, e', ?_⟩
      have g : ∀ b o, ¬ F b → s.heap.get? b = some o → ¬ F b ∧ h'.get? b = some o := fun b o hb q => ⟨hb, k b o (fun q => hb (q ▸ hF a (.head _))) q⟩
      exact (r.go g).set (rx.go g)
    | none => exact hq.elim
    | bool _ => exact hq.elim
    | str _ _ => exact hq.elim
    | tup _ _ _ => exact hq.elim
    | lst _ _ _ => exact hq.elim
    | dct _ _ _ => exact hq.elim
  | od ds =>
    obtain ⟨a, vs, rfl, hfp, e, r⟩ := r
    subst hfp
    obtain ⟨kk, hk, hf, hq⟩ := hq
    unfold fits at hf
    refine wpAny_setItem_pairs (hsz := by rw [sizeLine_eq, r.length]; (first | lia | omega)) (key_is rk hk) e fun h' e' hs => ⟨_, h', s.toks + 1, hq, rfl, rfl, fun b o hb q => hs.extBut b o (fun q => hb (List.mem_singleton.mpr q)) q, fun b hb => ?_, a, _, rfl, rfl, e', ?_⟩
    · rw [List.mem_singleton.mp hb]; obtain ⟨o, _, _, e, _⟩ := e'; exact ⟨o, e⟩
    have g : ∀ b o, ¬ F b → s.heap.get? b = some o → ¬ F b ∧ h'.get? b = some o := fun b o hb q => ⟨hb, hs.extBut b o (fun q => hb (q ▸ hF a (.head _))) q⟩
    exact RepKs.put (rx.go g) (r.go g) (DictOf.nodup e)
  | sh _ => exact hq.elim
  | oll _ => exact hq.elim
  | exc _ => exact hq.elim
theorem getW_owned {lv : LV} {dk : D} {Q : D → Prop} (h : getW lv dk Q) : lv.owned = true := by cases lv <;> first | rfl | exact h.elim
theorem setW_owned {lv : LV} {dk dv : D} {Q : LV → Prop} (h : setW lv dk dv Q) : lv.owned = true := by cases lv <;> first | rfl | exact h.elim
theorem sndS_setitem {j : Nat} {x : Str} (hx : tbl[j]? = some x) {q sp pos : Pos} {kx vx : Expr} {Pk Pv : Rho → (D → Prop) → Prop} (hn : notComp vx = true) (hk : SndE prog w A env tbl s₀ N₀ kx Pk) (hv : SndE prog w A env tbl s₀ N₀ vx Pv) :
    SndS prog w A env tbl s₀ N₀ (.Assign [.Subscript (.Name x q) kx sp] vx pos) (fun ρ Q => match ρ.at j with | some lv => Pv ρ fun dv => Pk ρ fun dk => (setW lv dk dv fun lv' => Q (ρ.set j (some lv')) .next) | none => False) := fun N W ρ s E Q hN S R hq => by
  have hpn := (R.plain x (List.mem_of_getElem? hx)).1
  dsimp only at hq
  split at hq
  · rename_i lv hlv
    by_cases ho : lv.owned = true
    · obtain ⟨v, fp, r, hW, hnd, hld, hput⟩ := S.own R hx hlv ho
      refine wpAny_Assign_Subscript (wpAny_mono (hv N W ρ s E _ hN S R hq) (fun x₁ s₁ ⟨dv, hd, ev₁, rv⟩ => ?_) fun _ _ q => q) (swaps_false hn _ _ _)
      refine wpAny_Name (hld A E _ s₁ ev₁ ?_) hpn
      refine wpAny_mono (hk N W ρ s₁ E _ hN (S.step ev₁) R hd) (fun kv s₂ ⟨dk, hd₂, ev₂, rk⟩ => ?_) fun _ _ q => q
      have ev := ev₁.trans ev₂
      refine wpAny_mono (own_set (F := fun a => N a ∨ W a) (fun a ha => .inr (hW a ha).1) (r.go (fun a o hF e => ⟨hF, ev.heap a o id e⟩) fun _ a _ o e => ev.heap a o id e) rk (rv.ext ev₂.ext) hd₂) (fun _ s₃ ⟨lv', h', tk, hq, e3, ho', k1, k2, r'⟩ => ?_) fun _ _ q => q
      subst e3
      obtain ⟨S', a'⟩ := hput s₂ h' tk lv' ev ho' k1 k2 r'
      exact pos_keep S' R (Aft.trans (Evl.aftW ev) a') hq
    · refine wpAny_Assign_Subscript (wpAny_mono (hv N W ρ s E _ hN S R hq) (fun x₁ s₁ ⟨dv, hd, ev₁, rv⟩ => ?_) fun _ _ q => q) (swaps_false hn _ _ _)
      refine wpAny_Name ((S.step ev₁).loadv R hx hlv fun v fp r => ?_) hpn
      refine wpAny_mono (hk N W ρ s₁ E _ hN (S.step ev₁) R hd) (fun kv s₂ ⟨dk, hd₂, _, _⟩ => ?_) fun _ _ q => q
      exact absurd (setW_owned hd₂) ho
  · exact hq.elim
theorem sndS_aug {i : Nat} {x : Str} {p pos : Pos} {op : Bop} {ex : Expr} {P : Rho → (D → Prop) → Prop} (ht : tgtName false env.scope.names tbl i (.Name x p) = true) (h : SndE prog w A env tbl s₀ N₀ ex P) :
    SndS prog w A env tbl s₀ N₀ (.AugAssign (.Name x p) op.op ex pos) (fun ρ Q => match ρ.at i with | some (.sh a) => P ρ fun b => iopW op a b fun d => Q (ρ.set i (some (.sh d))) .next | _ => False) := fun N W ρ s E Q hN S R hq => by
  obtain ⟨x', p', e, hx, hw⟩ := tgtName_inv ht
  cases e
  dsimp only at hq
  split at hq
  · rename_i a hd
    refine wpAny_AugAssign_Name (S.load R hx hd fun v r => ?_)
    refine wpAny_mono (h N W ρ s E _ hN S R hq) (fun v' s₁ ⟨b, hb, ev, r'⟩ => ?_) fun _ _ q => q
    refine wpAny_mono (iop_sound (r.ext ev.ext) r' hb) (fun v₂ s₂ ⟨d, hd, ev₂, r₂⟩ => ?_) fun _ _ q => q
    exact store_pos (S.step (ev.trans ev₂)) R (Evl.aftW (ev.trans ev₂)) ht r₂ hd
  · exact hq.elim
theorem sndS_augitem {j : Nat} {x : Str} (hx : tbl[j]? = some x) {q sp pos : Pos} {kx ex : Expr} {op : Bop} {Pk P : Rho → (D → Prop) → Prop} (hsl : notSlice kx = true) (hk : SndE prog w A env tbl s₀ N₀ kx Pk) (h : SndE prog w A env tbl s₀ N₀ ex P) :
    SndS prog w A env tbl s₀ N₀ (.AugAssign (.Subscript (.Name x q) kx sp) op.op ex pos) (fun ρ Q => match ρ.at j with
      | some lv => Pk ρ fun dk => getW lv dk fun a => P ρ fun b => iopW op a b fun d => setW lv dk d fun lv' => Q (ρ.set j (some lv')) .next
      | none => False) := fun N W ρ s E Q hN S R hq => by
  have hpn := (R.plain x (List.mem_of_getElem? hx)).1
  have haug : ∀ ov iv new, augStore kx ov iv new = (do holding [new, ov, iv] (setItem ov iv new); release [new, ov, iv] []; pure .next) := fun ov iv new => by cases kx <;> first | rfl | cases hsl
  dsimp only at hq
  split at hq
  · rename_i lv hlv
    by_cases ho : lv.owned = true
    · obtain ⟨v, fp, r, hW, hnd, hld, hput⟩ := S.own R hx hlv ho
      refine wpAny_AugAssign_SubscriptAny (wpAny_Name (hld A E _ s (.refl _ _) ?_) hpn) haug
      refine wpAny_mono (hk N W ρ s E _ hN S R hq) (fun kv s₁ ⟨dk, hd, ev₁, rk⟩ => ?_) fun _ _ q => q
      have rr : ∀ {s₂ : Shared}, Evl s s₂ → LvRep w prog (fun a => N a ∨ W a) s₂.heap fp v lv := fun ev => r.go (fun a o hF e => ⟨hF, ev.heap a o id e⟩) fun _ a _ o e => ev.heap a o id e
      refine wpAny_mono (own_get (rr ev₁) rk hd) (fun v₂ s₂ ⟨a, ha, ev₂, ra⟩ => ?_) fun _ _ q => q
      have e12 := ev₁.trans ev₂
      refine wpAny_mono (h N W ρ s₂ E _ hN (S.step e12) R ha) (fun v₃ s₃ ⟨b, hb, ev₃, rb⟩ => ?_) fun _ _ q => q
      refine wpAny_mono (iop_sound (ra.ext ev₃.ext) rb hb) (fun v₄ s₄ ⟨d, hd₄, ev₄, r₄⟩ => ?_) fun _ _ q => q
      have ev := (e12.trans ev₃).trans ev₄
      refine wpAny_mono (own_set (F := fun a => N a ∨ W a) (fun a ha => .inr (hW a ha).1) (rr ev) (((rk.ext ev₂.ext).ext ev₃.ext).ext ev₄.ext) r₄ hd₄) (fun _ s₅ ⟨lv', h', tk, hq, e5, ho', k1, k2, r'⟩ => ?_) fun _ _ q => q
      subst e5
      obtain ⟨S', a'⟩ := hput s₄ h' tk lv' ev ho' k1 k2 r'
      exact pos_keep S' R (Aft.trans (Evl.aftW ev) a') hq
    · refine wpAny_AugAssign_SubscriptAny (wpAny_Name (S.loadv R hx hlv fun v fp r => ?_) hpn) haug
      refine wpAny_mono (hk N W ρ s E _ hN S R hq) (fun kv s₁ ⟨dk, hd, _, _⟩ => ?_) fun _ _ q => q
      exact absurd (getW_owned hd) ho
  · exact hq.elim
theorem sndS_append {j : Nat} {x : Str} (hx : tbl[j]? = some x) (hkd : env.scope.kind = .function) {q apos cpos pos : Pos} {e : Expr} {P : Rho → (D → Prop) → Prop} (hst : notStar e = true) (hl : (apos.endLine == cpos.line) = true) (h : SndE prog w A env tbl s₀ N₀ e P) :
    SndS prog w A env tbl s₀ N₀ (.Expr (.Call (.Attribute (.Name x q) "append" apos) [e] [] cpos) pos) (fun ρ Q => match ρ.at j with
      | some (.ol ds) => P ρ fun d => fits (ds.length + 1) ∧ Q (ρ.set j (some (.ol (ds ++ [d])))) .next
      | _ => False) := fun N W ρ s E Q hN S R hq => by
  have hpn := (R.plain x (List.mem_of_getElem? hx)).1
  dsimp only at hq
  split at hq
  · rename_i ds hlv
    obtain ⟨v, fp, ⟨a, vs, rfl, hfp, el, r⟩, hW, hnd, hld, hput⟩ := S.own R hx hlv rfl
    subst hfp
    have ht : backTo cpos (starEach [e] env) = [(false, eval e env)] := by rw [starEach_cons hst]; rfl
    refine wpAny_Expr (wpAny_Call_append rfl (by rw [ht]; rfl) hl ht (wpAny_Name (hld A E _ s (.refl _ _) ⟨a, vs.toArray, rfl, by obtain ⟨n, e⟩ := el; exact ⟨_, n, e, rfl, rfl, rfl⟩, ?_⟩) hpn)) (by unfold interactive; rw [hkd]; rfl) rfl
    refine wpAny_mono (h N W ρ s E _ hN S R hq) (fun v s₁ ⟨d, ⟨hf, hd⟩, ev, rd⟩ => ?_) fun _ _ q => q
    unfold fits at hf
    refine wpAny_list_append_plain (hsz := by rw [sizeLine_eq, List.size_toArray, r.length]; (first | lia | omega)) (el.keep fun o q => ev.heap _ _ id q) fun h' hl' hs => ?_
    have el' : LstAt h' a (vs ++ [v]) := by unfold LstAt; rw [show (vs ++ [v]).toArray = vs.toArray.push v by simp]; exact hl'
    have g : ∀ b o, ¬ (N b ∨ W b) → s₁.heap.get? b = some o → ¬ (N b ∨ W b) ∧ h'.get? b = some o := fun b o hb q => ⟨hb, hs.extBut b o (fun q => hb (.inr (q ▸ (hW a (.head _)).1))) q⟩
    obtain ⟨S', a'⟩ := hput s₁ h' s₁.toks (.ol (ds ++ [d])) ev rfl (fun b o hb q => hs.extBut b o (fun q => hb (List.mem_singleton.mpr q)) q) (fun b hb => by rw [List.mem_singleton.mp hb]; exact el'.live) ⟨a, _, rfl, rfl, el', ((r.ext ev.ext).go g).append (.cons (rd.go g) .nil)⟩
    exact pos_keep S' R (Aft.trans (Evl.aftW ev) a') hd
  · exact hq.elim
theorem sndS_unpack (hh : A.handled = none) {is : List Nat} {es : List Expr} {k : Nat} {tp pos : Pos} {ex : Expr} {P : Rho → (D → Prop) → Prop} (ht : tgtNames false env.scope.names tbl is es = true) (hn : notComp ex = true) (hnt : ∀ ts, swappedStores ts ex env = pure none) (h : SndE prog w A env tbl s₀ N₀ ex P) :
    SndS prog w A env tbl s₀ N₀ (.Assign [.Tuple es k tp] ex pos) (fun ρ Q => P ρ fun d => asgW (.tp is) d ρ fun ρ' => Q ρ' .next) := fun N W ρ s E Q hN S R hq => by
  refine PyProof.Rows.Assign_Tuple (wpAny_mono (h N W ρ s E _ hN S R hq) (fun v s₁ ⟨d, hd, ev, r⟩ => ?_) fun _ _ q => q) (show swapsWith ex (some (.Tuple es k tp)) pos.line env = _ from swaps_false hn _ _ _) (hnt _)
  exact asg_sound (lo := false) (t := .tp is) (e := .Tuple es k tp) hh (S.step ev) R ht r hd fun ρ' s' hq S' a' => pos_keep S' R (Aft.trans (Evl.aftW ev) (a'.mono fun b q => q.1)) hq
theorem PoS.trans {Q : Rho → Fl → Prop} {f : Flow} (R₁ : ∀ a, W' a → W a ∨ s.heap.get? a = none) (a₁ : Aft W s s₁) (h : PoS w prog env tbl s₀ N W' s₁ Q f s') : PoS w prog env tbl s₀ N W s Q f s' := by
  obtain ⟨ρ', fl, W₂, hq, hf, S, R, g, a⟩ := h
  exact ⟨ρ', fl, W₂, hq, hf, S, R, grow_trans R₁ a₁ g, Aft.trans' a₁ a R₁⟩
theorem snd_seq_nil : SndSs prog w A env tbl s₀ N₀ [] (fun ρ Q => Q ρ .next) := fun N W ρ s E Q hN S R hq => wpAny_pure (pos_keep S R (.refl _ _) hq)
theorem snd_seq_cons {st : Stmt} {sts : List Stmt} {P Ps : Rho → (Rho → Fl → Prop) → Prop} (h : SndS prog w A env tbl s₀ N₀ st P) (hs : SndSs prog w A env tbl s₀ N₀ sts Ps) :
    SndSs prog w A env tbl s₀ N₀ (st :: sts) (fun ρ Q => P ρ fun ρ' fl => match fl with | .next => Ps ρ' Q | fl => Q ρ' fl) := fun N W ρ s E Q hN S R hq => by
  show wpAny _ _ (do
    match ← exec st env with
    | .next => execs sts env
    | f => pure f) _ _ _
  refine wpAny_bind (wpAny_mono (h N W ρ s E _ hN S R hq) (fun f s₁ ⟨ρ₁, fl, W₁, hq₁, hf, S₁, R₁, g₁, a₁⟩ => ?_) fun _ _ q => q)
  cases hf with
  | next => exact wpAny_mono (hs N W₁ ρ₁ s₁ E Q hN S₁ R₁ hq₁) (fun f s₂ h₂ => h₂.trans g₁ a₁) fun _ _ q => q
  | brk => exact wpAny_pure ⟨ρ₁, .brk, W₁, hq₁, .brk, S₁, R₁, g₁, a₁⟩
  | ret r => exact wpAny_pure ⟨ρ₁, _, W₁, hq₁, .ret r, S₁, R₁, g₁, a₁⟩
theorem snd_seq_freeze {i : Nat} {x : Str} (hx : tbl[i]? = some x) {sts : List Stmt} {Ps : Rho → (Rho → Fl → Prop) → Prop} (hs : SndSs prog w A env tbl s₀ N₀ sts Ps) :
    SndSs prog w A env tbl s₀ N₀ sts (fun ρ Q => match ρ.at i with | some lv => ∃ d, lv.froz = some d ∧ Ps (ρ.set i (some (.sh d))) Q | none => False) := fun N W ρ s E Q hN S R hq => by
  dsimp only at hq
  split at hq
  · rename_i lv hlv
    obtain ⟨d, hd, hq⟩ := hq
    obtain ⟨W', hle, R', S'⟩ := S.freeze R hx hlv hd
    exact wpAny_mono (hs N W' _ s E Q hN S' R' hq) (fun f s₂ h₂ => h₂.trans (fun a ha => .inl (hle a ha)) (.refl _ _)) fun _ _ q => q
  · exact hq.elim
theorem sndS_if {c : Expr} {a b : List Stmt} {pos : Pos} {Pc : Rho → (Bool → Prop) → Prop} {Pa Pb : Rho → (Rho → Fl → Prop) → Prop} (hc : SndC prog w A env tbl s₀ N₀ c Pc) (ha : SndSs prog w A env tbl s₀ N₀ a Pa) (hb : SndSs prog w A env tbl s₀ N₀ b Pb) :
    SndS prog w A env tbl s₀ N₀ (.If c a b pos) (fun ρ Q => Pc ρ fun t => match t with | true => Pa ρ Q | false => Pb ρ Q) := fun N W ρ s E Q hN S R hq => by
  refine wpAny_If (wpAny_mono (hc N W ρ s E _ hN S R hq) (fun t s₁ ⟨ht, ev⟩ => ?_) fun _ _ q => q)
  cases t with
  | true => rw [if_pos rfl]; exact wpAny_mono (ha N W ρ s₁ E Q hN (S.step ev) R ht) (fun f s₂ h₂ => h₂.trans (fun _ => .inl) (Evl.aftW ev)) fun _ _ q => q
  | false => rw [if_neg (by decide)]; exact wpAny_mono (hb N W ρ s₁ E Q hN (S.step ev) R ht) (fun f s₂ h₂ => h₂.trans (fun _ => .inl) (Evl.aftW ev)) fun _ _ q => q
theorem sndS_ret {e : Expr} {pos : Pos} {P : Rho → (D → Prop) → Prop} (h : SndE prog w A env tbl s₀ N₀ e P) : SndS prog w A env tbl s₀ N₀ (.Return (some e) pos) (fun ρ Q => P ρ fun d => Q ρ (.ret d)) := fun N W ρ s E Q hN S R hq =>
  wpAny_Return_some (wpAny_mono (h N W ρ s E _ hN S R hq) (fun v s₁ ⟨d, hd, ev, r⟩ => ⟨ρ, .ret d, W, hd, .ret r, S.step ev, R, fun _ => .inl, (Evl.aftW ev)⟩) fun _ _ q => q)
theorem sndS_brk (pos : Pos) : SndS prog w A env tbl s₀ N₀ (.Break pos) (fun ρ Q => Q ρ .brk) := fun N W ρ s E Q hN S R hq => by
  show wpAny _ _ (do standAt pos; pure Flow.brk) _ _ _
  exact wpAny_bind (wpAny_standAt (wpAny_pure ⟨ρ, .brk, W, hq, .brk, S, R, fun _ => .inl, .refl _ _⟩))
theorem sndS_for (hh : A.handled = none) {iter target : Expr} {body : List Stmt} {pos : Pos} {t : Tgt} {kill : List Nat} {tp sf : Bool}
    {PI : Rho → (List D → Prop) → Prop} (hit : SndI prog w A env tbl s₀ N₀ tp sf iter PI) (ht : okT false env.scope.names tbl t target = true) (htp : tp = true → ∃ es k p, target = .Tuple es k p)
    {Pb : Rho → (Rho → Fl → Prop) → Prop} (hb : SndSs prog w A env tbl s₀ N₀ body Pb) : SndS prog w A env tbl s₀ N₀ (.For target iter body [] pos) (fun ρ Q => PI ρ fun ds => forW t kill Pb ds ρ Q) := fun N W ρ s E Q hN S R hq => for_sound hh S R hN hit ht htp hb hq
inductive WhI (w : World) (prog : Program) (env : Env) (tbl : List Str) (s₀ : Base) (N W : Addr → Prop) (s : Shared) (K : Rho → (Rho → Fl → Prop) → Prop) (Q : Rho → Fl → Prop) (s' : Shared) : Prop
  | mk (ρ : Rho) (W₁ : Addr → Prop) (S : St w prog env tbl s₀ N W₁ ρ s') (R : Frm env tbl N W₁) (g : ∀ a, W₁ a → W a ∨ s.heap.get? a = none) (a : Aft W s s') (q : K ρ Q) : WhI w prog env tbl s₀ N W s K Q s'
theorem sndS_while {c : Expr} {body : List Stmt} {pos : Pos} {kill : List Nat} {Pc : Rho → (Bool → Prop) → Prop} {Pb : Rho → (Rho → Fl → Prop) → Prop} (hc : SndC prog w A env tbl s₀ N₀ c Pc) (hb : SndSs prog w A env tbl s₀ N₀ body Pb) :
    SndS prog w A env tbl s₀ N₀ (.While c body [] pos) (fun ρ Q => ∃ n, whileW Pc kill Pb n ρ Q) := fun N W ρ s E Q hN S R ⟨n, hq⟩ => by
  refine wpAny_While (codeAny_whileLoop (fun n s' => WhI w prog env tbl s₀ N W s (whileW Pc kill Pb n) Q s') ?_ n ⟨ρ, W, S, R, fun _ => .inl, .refl _ _, hq⟩)
  rintro n s₁ ⟨ρ, W₁, S₁, R₁, g₁, a₁, hq⟩
  cases n with
  | zero => exact hq.elim
  | succ n =>
    rw [whileW] at hq
    refine wpAny_mono (hc N W₁ ρ s₁ _ _ hN S₁ R₁ hq) (fun t s₂ ⟨ht, ev⟩ => ?_) fun _ _ q => q
    have a₂ : Aft W s s₂ := a₁.trans (Evl.aftW ev)
    have g₂ : ∀ a, W₁ a → W a ∨ s.heap.get? a = none := g₁
    cases t with
    | false =>
      rw [if_neg (by decide)]
      exact wpAny_pure ⟨ρ, .next, W₁, ht, .next, S₁.step ev, R₁, g₁, a₂⟩
    | true =>
      rw [if_pos rfl]
      refine wpAny_mono (hb N W₁ ρ s₂ _ _ hN (S₁.step ev) R₁ ht) (fun f s₃ ⟨ρ₃, fl, W₃, hq₃, hf, S₃, R₃, g₃, a₃⟩ => ?_) fun _ _ q => q
      have g : ∀ a, W₃ a → W a ∨ s.heap.get? a = none := grow_trans g₁ a₂ g₃
      have a : Aft W s s₃ := Aft.trans' a₂ a₃ g₁
      cases hf with
      | next => exact ⟨n, Nat.lt_succ_self _, _, W₃, S₃.clr kill, R₃, g, a, hq₃⟩
      | brk => exact ⟨_, .next, W₃, hq₃, .next, S₃.clr kill, R₃, g, a⟩
      | ret r => exact ⟨_, _, W₃, hq₃, .ret r, S₃.clr kill, R₃, g, a⟩
end
end Mine
end
section
open PySem PySem.Calls PyProof.Rows
namespace Mine
noncomputable def Rm (k : Nat) (A : Around) : Prop := A.handled = none ∧ A.depth + k < 500 ∧ A.units + 10 * k < 5000
theorem Rm.deeper {k : Nat} {A : Around} (h : Rm (k + 1) A) (env : Env) : Rm k (A.deeper env) := by
  refine ⟨h.1, ?_, ?_⟩
  · show A.depth + 1 + k < 500
    have := h.2.1; (first | lia | omega)
  · show A.units + 3 + 10 * k < 5000
    have := h.2.2; (first | lia | omega)
theorem lookup_zip : ∀ {ns : List Str} {vs : List Value} {x : Str}, ns.length = vs.length → x ∈ ns → ((ns.zip vs).lookup x).isSome = true
  | n :: ns, v :: vs, x, hl, hm => by
    rw [List.zip_cons_cons, List.lookup_cons]
    by_cases h : x = n
    · subst h; simp
    · have : (x == n) = false := by rw [beq_eq_false_iff_ne]; exact h
      rw [this]
      rcases List.mem_cons.mp hm with e | hm
      · exact absurd e h
      · exact lookup_zip (by simpa using hl) hm
  | [], _, _, _, hm => by cases hm
  | _ :: _, [], _, hl, _ => by simp at hl
theorem filterMap_zip : ∀ {ns : List Str} {vs : List Value} (l : List (Str × Value)), ns.Nodup → ns.length = vs.length → (∀ n ∈ ns, l.lookup n = (ns.zip vs).lookup n) →
    (ns.filterMap fun n => (l.lookup n).map fun x => (n, x)) = ns.zip vs
  | n :: ns, v :: vs, l, hn, hl, h => by
    rw [List.nodup_cons] at hn
    have h0 := h n (.head _)
    rw [List.zip_cons_cons, List.lookup_cons] at h0
    simp only [beq_self_eq_true] at h0
    rw [List.filterMap_cons, h0, List.zip_cons_cons]
    simp only [Option.map_some]
    rw [filterMap_zip l hn.2 (by simpa using hl) fun x hx => ?_]
    rw [h x (.tail _ hx), List.zip_cons_cons, List.lookup_cons]
    have : (x == n) = false := by rw [beq_eq_false_iff_ne]; intro e; subst e; exact hn.1 hx
    rw [this]
  | [], [], _, _, _, _ => rfl
  | [], _ :: _, _, _, hl, _ => by simp at hl
  | _ :: _, [], _, _, hl, _ => by simp at hl
theorem bind_plain {name : Str} {as : List Arg} {body : List Stmt} {scope : Scope} {pm cd doc : Value} {vs : List Value} (hn : (as.map (·.arg)).Nodup) (hl : as.length = vs.length) :
    bindArgs (docDef name ⟨[], as, none, [], [], none, []⟩ body scope pm cd doc) ⟨vs, []⟩ = pure ((as.map (·.arg)).zip vs) := by
  have hf : ((as.map (·.arg)).filter fun n => (((as.map (·.arg)).zip vs).lookup n).isNone) = [] := by
    rw [List.filter_eq_nil_iff]
    intro x hx
    have := lookup_zip (vs := vs) (by simpa using hl) hx
    cases h : List.lookup x ((as.map (·.arg)).zip vs) with
    | none => rw [h] at this; cases this
    | some _ => simp
  have hl' : ¬ (vs.length > (as.map (·.arg)).length) := by simp [hl]
  have hm := filterMap_zip (ns := as.map (·.arg)) (vs := vs) _ hn (by simpa using hl) fun _ _ => rfl
  have ht : List.take vs.length (as.map (·.arg)) = as.map (·.arg) := List.take_of_length_le (by simp [hl])
  unfold bindArgs docDef
  dsimp only [List.map_nil, List.nil_append, List.append_nil]
  have hns' : List.map (fun x => x.arg) as = as.map (·.arg) := rfl
  generalize hz : (as.map (·.arg)).zip vs = z at *
  generalize hns : as.map (·.arg) = ns at *
  have hnl : ns.length = vs.length := by rw [← hns]; simp [hl]
  have e1 : notAStandIn Value.none = pure () := rfl
  have e2 : ¬ (vs.length < ns.length) := by (first | lia | omega)
  simp only [List.nil_append, List.append_nil, List.map_nil, hz]
  simp [seqItems?, hf, ht, hm, hnl, e1]
theorem bind_old {env : Env} : ∀ {ps : List Str} {vs : List Value} {m cm : Str → Option Value} {x : Str}, x ∉ ps →
    val env (bindL env.kindOf (ps.zip vs) m) (bindC env.kindOf (ps.zip vs) cm) x = val env m cm x
  | [], vs, m, cm, x, _ => by cases vs <;> rfl
  | p :: ps, [], m, cm, x, _ => rfl
  | p :: ps, v :: vs, m, cm, x, h => by
    rw [List.zip_cons_cons]
    have hx : x ≠ p := fun e => h (e ▸ .head _)
    unfold bindL bindC
    rw [bind_old fun q => h (.tail _ q)]
    unfold val
    by_cases hk : env.kindOf p = some .local
    · rw [if_pos hk, if_pos hk]
      split <;> simp
    · rw [if_neg hk, if_neg hk]
      split <;> simp
theorem bind_new {env : Env} : ∀ {ps : List Str} {vs : List Value} {m cm : Str → Option Value} {i : Nat} {x : Str} {v : Value}, ps.Nodup → ps[i]? = some x → vs[i]? = some v →
    val env (bindL env.kindOf (ps.zip vs) m) (bindC env.kindOf (ps.zip vs) cm) x = some v
  | [], vs, m, cm, i, x, v, _, hx, _ => by simp at hx
  | p :: ps, [], m, cm, i, x, v, _, _, hv => by simp at hv
  | p :: ps, u :: vs, m, cm, i, x, v, hn, hx, hv => by
    rw [List.nodup_cons] at hn
    rw [List.zip_cons_cons]
    unfold bindL bindC
    cases i with
    | zero =>
      simp at hx hv; subst hx; subst hv
      rw [bind_old hn.1]
      unfold val
      by_cases hk : env.kindOf p = some .local
      · simp [hk]
      · simp [hk]
    | succ i => exact bind_new hn.2 (by simpa using hx) (by simpa using hv)
theorem cellsFrom_acc : ∀ (names : List (Str × NameKind)) (n : Nat) (acc : List (Str × Addr)) (x : Str), (acc.lookup x).isSome = true → ((cellsFrom n names acc).lookup x).isSome = true
  | [], _, _, _, h => h
  | (y, k) :: r, n, acc, x, h => by
    unfold cellsFrom
    split
    · refine cellsFrom_acc r _ _ x ?_
      rw [List.lookup_cons]
      split
      · rfl
      · exact h
    · exact cellsFrom_acc r _ _ x h
theorem cellsFrom_some : ∀ (names : List (Str × NameKind)) (n : Nat) (acc : List (Str × Addr)) (x : Str), names.lookup x = some .cell → ((cellsFrom n names acc).lookup x).isSome = true
  | (y, k) :: r, n, acc, x, h => by
    rw [List.lookup_cons] at h
    unfold cellsFrom
    by_cases hxy : x = y
    · subst hxy
      simp only [beq_self_eq_true] at h
      cases h
      rw [if_pos (by rfl)]
      refine cellsFrom_acc r _ _ x ?_
      simp
    · have : (x == y) = false := by rw [beq_eq_false_iff_ne]; exact hxy
      rw [this] at h
      split <;> exact cellsFrom_some r _ _ x h
noncomputable def fnScope (scope : Scope) (n : Nat) (tbl : List Str) (ps : List Str) : Bool :=
  scope.kind == .function && !scope.isGenerator && !scope.isCoroutine && decide tbl.Nodup && (tbl.take n == ps) && ps.length == n &&
  tbl.all fun x => plainName x && (scope.names.lookup x == some .local || scope.names.lookup x == some .cell)
noncomputable def rho0 (n : Nat) (ds : List D) : Rho := (ds.map fun d => some (LV.sh d)) ++ List.replicate n none
theorem rho0_at {n : Nat} {ds : List D} {i : Nat} {lv : LV} (h : (rho0 n ds).at i = some lv) : ∃ d, ds[i]? = some d ∧ lv = .sh d := by
  unfold rho0 Rho.at at h
  by_cases hi : i < ds.length
  · rw [List.getElem?_append_left (by simpa using hi)] at h
    simp [hi] at h
    exact ⟨ds[i], by simp [hi], h.symm⟩
  · rw [List.getElem?_append_right (by simpa using hi)] at h
    rw [List.getElem?_replicate] at h
    split at h <;> simp at h
noncomputable def retW (Q : D → Prop) : Rho → Fl → Prop := fun _ fl => match fl with
  | .ret d => Q d
  | .next => Q .none
  | .brk => False
noncomputable def BodyOk (prog : Program) (w : World) (H : Heap) (mg mb : Str → Option Value) (k : Nat) (scope : Scope) (tbl : List Str) (body : List Stmt) (P : Rho → (Rho → Fl → Prop) → Prop) : Prop :=
  ∀ (A : Around) (env : Env) (s₀ : Base) (N₀ : Addr → Prop), Rm k A → env.scope = scope → Fx mg mb H env s₀ N₀ → SndSs prog w A env tbl s₀ N₀ body P
theorem call_sound {prog : Program} {w : World} {H : Heap} {mg mb : Str → Option Value} {k n : Nat} {name : Str} {as : List Arg} {scope : Scope} {tbl : List Str} {body : List Stmt} {pm cd doc : Value} {a : Addr} {o : Obj}
    {P : Rho → (Rho → Fl → Prop) → Prop} (G : Gl mg mb H) (hl : H.NoLimit) (ho : H.get? a = some o) (hd : o.data = .func (docDef name ⟨[], as, none, [], [], none, []⟩ body scope pm cd doc)) (hcd : H.CodeRec cd name)
    (hs : fnScope scope n tbl (as.map (·.arg)) = true) (hb : BodyOk prog w H mg mb k scope tbl body P) :
    CallOk prog w H (Rm (k + 1)) a (fun ds Q => ds.length = n ∧ P (rho0 (tbl.length - n) ds) (retW Q)) := by
  simp only [fnScope, Bool.and_eq_true, beq_iff_eq, Bool.not_eq_true', decide_eq_true_eq, List.all_eq_true, Bool.or_eq_true] at hs
  obtain ⟨⟨⟨⟨⟨⟨h1, h2⟩, h3⟩, h4⟩, h5⟩, h6⟩, h7⟩ := hs
  intro A s F vs ds Q E hA ext lF sF r ⟨hn, hq⟩
  have hlen : as.length = vs.length := by rw [r.length, hn]; simpa using h6
  have hps : (as.map (·.arg)).Nodup := by rw [← h5]; exact List.Nodup.sublist (List.take_sublist _ _) h4
  have hkind : ∀ x ∈ (as.map (·.arg)).zip vs, scope.names.lookup x.1 = some .local ∨ (scope.names.lookup x.1 = some .cell ∧ ((cellsFrom (s.heap.objs.size + 1) scope.names []).lookup x.1).isSome = true) := fun x hx => by
    have hm : x.1 ∈ tbl := by
      have := (List.of_mem_zip hx).1
      rw [← h5] at this
      exact List.mem_of_mem_take this
    rcases (h7 _ hm).2 with q | q
    · exact .inl q
    · exact .inr ⟨q, cellsFrom_some _ _ _ _ q⟩
  refine wpAny_call (call_cells_ret (by have := hA.2.1; unfold recursionLimit; (first | lia | omega)) (ext _ _ ho) hd (hl.keeps ext) (hcd.keeps ext) (bind_plain hps hlen) hkind (fun h₁ tk Ff X => ?_) h3 h2 h1)
  generalize henv : envOfC name scope s.heap.objs.size a cd = env at *
  have el : env.locals = s.heap.objs.size := by rw [← henv]; rfl
  have ec : env.cells = cellsFrom (s.heap.objs.size + 1) scope.names [] := by rw [← henv]; rfl
  have es : env.scope = scope := by rw [← henv]; rfl
  have hk : ∀ x, env.kindOf x = scope.names.lookup x := fun x => by rw [← henv]; rfl
  have hlive : ∀ b, (b = env.locals ∨ ∃ x, env.cells.lookup x = some b) → (∃ o, h₁.get? b = some o) ∧ s.heap.objs.size ≤ b := fun b hb => by
    rcases hb with q | ⟨x, q⟩
    · rw [q, el]
      obtain ⟨o, _, _, e, _⟩ := Ff.ns
      exact ⟨⟨o, e⟩, Nat.le_refl _⟩
    · rw [ec] at q
      obtain ⟨o, e, _⟩ := X.cell x b q
      exact ⟨⟨o, e⟩, Nat.le_of_lt (X.above x b (mem_of_lookup q))⟩
  have hfresh : ∀ b, (b = env.locals ∨ ∃ x, env.cells.lookup x = some b) → s.heap.get? b = none := fun b hb => by
    cases e : s.heap.get? b with
    | none => rfl
    | some o => exact absurd (Nat.lt_of_lt_of_le (Heap.lt_size e) (hlive b hb).2) (Nat.lt_irrefl _)
  have ev : Evl s { s with heap := h₁, toks := tk } := Evl.of Ff.keep
  let W : Addr → Prop := fun b => b = env.locals ∨ ∃ x, env.cells.lookup x = some b
  have R : Frm env tbl F W := by
    refine ⟨by rw [es]; exact h1, h4, fun x hx => ?_, fun x hx => ?_, fun x hx b c Hm => ?_, fun x hx b Hm => ?_⟩
    · have := (h7 x hx).1
      simpa [plainName] using this
    · rcases (h7 x hx).2 with q | q
      · exact ⟨_, _, .loc (by rw [hk]; exact q)⟩
      · obtain ⟨c, hc⟩ := Option.isSome_iff_exists.mp (cellsFrom_some scope.names (s.heap.objs.size + 1) [] x q)
        exact ⟨c, _, .cel (by rw [hk]; exact q) (by rw [ec]; exact hc)⟩
    · cases Hm with
      | loc _ => exact .inr (.inl rfl)
      | cel _ hc => exact .inr (.inr ⟨x, hc⟩)
      | fre _ hc => exact .inr (.inr ⟨x, hc⟩)
    · cases Hm with
      | loc _ => exact .inl rfl
      | cel _ hc => exact .inr ⟨x, hc⟩
  have S : St w prog env tbl (Base.of s) F W (rho0 (tbl.length - n) ds) { s with heap := h₁, toks := tk } := by
    refine ⟨ev, fun b hb => ?_, hfresh, fun _ q => q.elim, trivial, _, _, fun _ => [], ⟨el ▸ Ff.ns, fun x c hc => X.cell x c (ec ▸ hc), ec ▸ X.apart, fun x c hc => ?_⟩, fun _ q => q.elim, fun i lv hr hown => ?_, fun i lv hr hown => ?_, fun i x lv ht hr => ?_⟩
    · rcases hb with q | q
      · obtain ⟨o, e⟩ := lF b q; exact ⟨o, Ff.keep b o e⟩
      · exact (hlive b q).1
    · rw [el]; exact Nat.ne_of_gt (X.above x c (mem_of_lookup (ec ▸ hc)))
    · obtain ⟨d, _, rfl⟩ := rho0_at hr; cases hown
    · obtain ⟨d, _, rfl⟩ := rho0_at hr; cases hown
    · obtain ⟨d, hd, rfl⟩ := rho0_at hr
      obtain ⟨hi, _⟩ := List.getElem?_eq_some_iff.mp hd
      have hx : (as.map (·.arg))[i]? = some x := by rw [← h5, List.getElem?_take, if_pos (by (first | lia | omega))]; exact ht
      obtain ⟨v, hv, rv⟩ := r.get hd
      refine ⟨v, bind_new hps hx hv, rv.go fun b o hF e => ⟨fun q => q.elim hF fun q => ?_, Ff.keep b o e⟩⟩
      rw [hfresh b q] at e; cases e
  have fx : Fx mg mb H env (Base.of s) F := ⟨G, ext, by rw [← henv]; rfl, by rw [← henv]; rfl, by rw [es]; exact h1, sF⟩
  refine wpAny_mono (hb _ env (Base.of s) F (hA.deeper env) es fx F W _ _ _ _ (fun _ q => q) S R hq) (fun f s' ⟨ρ', fl, W', hq', hf, S', R', g', a'⟩ => ?_) fun _ _ q => q
  cases hf with
  | next => exact ⟨_, hq', S'.evl, .none⟩
  | brk => exact hq'.elim
  | ret r' => exact ⟨_, hq', S'.evl, r'.anti fun b q => .inl q⟩
end Mine
end
section
open PySem PySem.Calls PyProof.Rows
namespace Mine
section
variable {M : Model} {A : Around} {R : GenEnd} {Y : Protocol} {n : Nat} {s₀ : Shared} {c : Code} {fs : List Frame} {s : Shared} {env : Env}
  {K : Flow → Sem Fin} {H : Value → Sem Fin} {gd : Bool → Bool} {lv : List Value → List Value}
noncomputable def loopK (env : Env) (K : Flow → Sem Fin) (H : Value → Sem Fin) (gd : Bool → Bool) (lv : List Value → List Value) (c : Code) (p : Pos) : Frame :=
  .ret (fun r => ((match r with | .ok f => (.pure f : Sem Flow) | .error e => .raise e).onRaise fun (x : Value) => do
        if (← field x 1) == Value.none then unsupported "frame.own-activation:exception-without-traceback"
        setFlight x env.frame).wrap K H gd lv) none (gd false) (lv []) c p []
theorem gen_while {test : Expr} {body : List Stmt} {pos : Pos} (h : ∀ p, Seg M A R Y n s₀ (.whileLoop test body [] env) (M.den (.whileLoop test body [] env)) (loopK env K H gd lv c p :: fs) s) :
    Seg M A R Y n s₀ c ((exec (.While test body [] pos) env).wrap K H gd lv) fs s := seg_While h
theorem gen_stmt {st : Stmt} (h : wpAny M (A.over c fs) (exec st env) (fun f s' => Seg M A R Y n s₀ c (K f) fs s') (fun x s' => Seg M A R Y n s₀ c (H x) fs s') s) :
    Seg M A R Y n s₀ c ((exec st env).wrap K H gd lv) fs s := seg_wrap h
theorem gen_if {test : Expr} {a b : List Stmt} {pos : Pos} (h : wpAny M (A.over c fs) (isTrue test env (eval test env)) (fun t s' => match t with
      | true => Seg M A R Y n s₀ c ((execs a env).wrap K H gd lv) fs s'
      | false => Seg M A R Y n s₀ c ((execs b env).wrap K H gd lv) fs s') (fun x s' => Seg M A R Y n s₀ c (H x) fs s') s) :
    Seg M A R Y n s₀ c ((exec (.If test a b pos) env).wrap K H gd lv) fs s := by
  rw [exec_If]
  refine seg_bind_wrap (wpAny_standAt (seg_bind_wrap (wpAny_mono h (fun t s' h' => ?_) fun _ _ q => q)))
  cases t with
  | true => exact h'
  | false => exact h'
theorem gen_for {target iter : Expr} {body : List Stmt} {pos : Pos} (hs : ∀ x, foldedSetIterable iter env x = pure x)
    (h : wpAny M (A.over c fs) (eval iter env) (fun x s₁ => wpAny M (A.over c fs) (pyIter x) (fun it s₂ =>
      ∀ p, Seg M A R Y n s₀ (.forLoop target it body [] env) (M.den (.forLoop target it body [] env)) (loopK env K H gd lv c p :: fs) s₂)
      (fun x s' => Seg M A R Y n s₀ c (H x) fs s') s₁) (fun x s' => Seg M A R Y n s₀ c (H x) fs s') s) :
    Seg M A R Y n s₀ c ((exec (.For target iter body [] pos) env).wrap K H gd lv) fs s := by
  show Seg M A R Y n s₀ c (Sem.wrap K H gd lv (do
    standAt pos
    let x ← foldedSetIterable iter env (← eval iter env)
    standAt iter.pos
    runOwn (.forLoop target (← holding [x] (pyIter x)) body [] env) env)) fs s
  refine seg_bind_wrap (wpAny_standAt (seg_bind_wrap (wpAny_mono h (fun v s₁ h₁ => ?_) fun _ _ q => q)))
  rw [hs]
  refine seg_bind_wrap (wpAny_pure (seg_bind_wrap (wpAny_standAt (seg_bind_wrap (wpAny_holding (wpAny_mono h₁ (fun it s₂ h₂ => ?_) fun _ _ q => q))))))
  exact seg_call h₂
end
section
variable {prog : Program} {w : World} {A : Around} {R : GenEnd} {Y : Protocol} {n : Nat} {s₀ : Shared} {fs : List Frame} {s : Shared} {env : Env}
noncomputable def turnK (target : Expr) (it : Value) (body : List Stmt) (env : Env) : Flow → Sem Fin
  | .next | .cont => .pure (.again (.forLoop target it body [] env))
  | .brk => .pure (.done .next)
  | .ret v => .pure (.done (.ret v))
noncomputable def noteH (env : Env) : Value → Sem Fin := fun e => (do noteFrame e env; theTreesLotGoes e : Sem Unit).wrap (fun _ => .raise e) .raise id id
theorem gen_forLoop {x : Str} {px : Pos} {it : Value} {body : List Stmt}
    (h : wpAny (model prog w) (A.over (.forLoop (.Name x px) it body [] env) fs) (pyNext it) (fun r s₁ => match r with
      | none => Seg (model prog w) A R Y n s₀ (.forLoop (.Name x px) it body [] env) (.pure (.again (.block [] env))) fs s₁
      | some v => wpAny (model prog w) (A.over (.forLoop (.Name x px) it body [] env) fs) (storeName env x v) (fun _ s₂ =>
          Seg (model prog w) A R Y n s₀ (.forLoop (.Name x px) it body [] env) ((execs body env).wrap (turnK (.Name x px) it body env) (noteH env) id id) fs s₂) (fun _ _ => False) s₁) (fun _ _ => False) s) :
    Seg (model prog w) A R Y n s₀ (.forLoop (.Name x px) it body [] env) ((model prog w).den (.forLoop (.Name x px) it body [] env)) fs s := by
  show Seg _ A R Y n s₀ _ ((forTurn (.Name x px) it body [] env).onRaise (fun x => do noteFrame x env; theTreesLotGoes x)) fs s
  unfold forTurn
  rw [Sem.onRaise_eq_wrap]
  refine seg_bind_wrap (wpAny_standAt (seg_bind_wrap (wpAny_onRaise (wpAny_mono h (fun r s₁ h₁ => ?_) fun _ _ q => q.elim))))
  cases r with
  | none => exact h₁
  | some v =>
    refine seg_bind_wrap (wpAny_pure (seg_bind_wrap (wpAny_assign_Name (wpAny_mono h₁ (fun _ s₂ h₂ => ?_) fun _ _ q => q.elim))))
    rw [Sem.bind_eq_wrap', Sem.wrap_wrap]
    rw [Sem.wrap_congr (execs body env) _ _ (K' := turnK (.Name x px) it body env) (H' := noteH env) (fun f => by cases f <;> rfl)
        (fun e => by first | exact Sem.bind_eq_wrap _ _ | (show (do noteFrame e env; theTreesLotGoes e : Sem Unit).bind (fun _ => .raise e) = _; rw [Sem.bind_eq_wrap]; rfl))]
    exact h₂
theorem gen_again_block {c : Code} (h : Seg (model prog w) A R Y n s₀ (.block [] env) (.pure (.done .next)) fs s) : Seg (model prog w) A R Y n s₀ c (.pure (.again (.block [] env))) fs s := by
  refine seg_again rfl ?_
  show Seg _ A R Y n s₀ _ (((execs [] env).onRaise _) >>= _) fs s
  exact h
theorem gen_back {c c₁ : Code} {K : Flow → Sem Fin} {H : Value → Sem Fin} {gd : Bool → Bool} {lv : List Value → List Value} {p : Pos} {f : Flow} (h : Seg (model prog w) A R Y n s₀ c₁ (K f) fs s) :
    Seg (model prog w) A R Y n s₀ c (.pure (.done f)) (loopK env K H gd lv c₁ p :: fs) s := seg_leaf (.ok f) h
end
end Mine
end
section
open PySem PySem.Calls PyProof.Rows
namespace Mine
noncomputable def nth : Nat → GS → Option Int
  | 0, st => st.pull.map (·.1)
  | k + 1, st => match st.pull with
    | some (_, st') => nth k st'
    | none => none
noncomputable def Cons (T : Nat → Option Int) (m : Nat) (st : GS) : Prop := ∀ j, j ≤ m → T (m - j) = nth j st
theorem Cons.here {T : Nat → Option Int} {m : Nat} {st : GS} (h : Cons T m st) : T m = st.pull.map (·.1) := h 0 (Nat.zero_le _)
theorem Cons.next {T : Nat → Option Int} {m : Nat} {st st' : GS} {x : Int} (h : Cons T (m + 1) st) (hp : st.pull = some (x, st')) : Cons T m st' := fun j hj => by
  have := h (j + 1) (by (first | lia | omega))
  rw [show m + 1 - (j + 1) = m - j by (first | lia | omega)] at this
  rw [this, nth, hp]
theorem Cons.congr {T : Nat → Option Int} {m : Nat} {st st' : GS} (h : Cons T m st) (e : st.pull = st'.pull) : Cons T m st' := fun j hj => by
  rw [h j hj]; cases j <;> simp only [nth, e]
theorem Cons.start (n : Nat) (st : GS) : Cons (fun m => nth (n - m) st) n st := fun j hj => by
  show nth (n - (n - j)) st = _
  rw [show n - (n - j) = j by (first | lia | omega)]
noncomputable abbrev Snc (Own : Addr → Prop) (s₀ s : Shared) : Prop := Aft Own s₀ s
noncomputable def Agr (Keep : Addr → Prop) (s s'' : Shared) : Prop := ∀ b o, Keep b → s.heap.get? b = some o → s''.heap.get? b = some o
noncomputable def GY (T : Nat → Option Int) (Own Keep : Addr → Prop) : Protocol := fun m s₀ v s kap =>
  (∃ (x : Int) (t : Tok), T m = some x ∧ v = Value.int x t) ∧ (Snc Own s₀ s ∧ ∀ a, Own a → ∃ o, s.heap.get? a = some o) ∧ ∀ m', m = m' + 1 → ∀ s'', Agr Keep s s'' → kap (.send .none) s''
noncomputable def GR (T : Nat → Option Int) (Own : Addr → Prop) : GenEnd := fun n s₀ r s => r = .ok (.ret .none) ∧ T (n - 1) = none ∧ Snc Own s₀ s
structure GEnv (ge : Env) : Prop where
  kind : ge.scope.kind = .function
  co : ge.scope.isCoroutine = false
  grouping : ge.kindOf "grouping" = some .local
  last : ge.kindOf "last_interval" = some .local
  interval : ge.kindOf "interval" = some .local
  glob : ge.globals = mainGlobals
  bns : ge.builtins = builtinsNs
  cmax : globName ge.scope.names "CHAR_MAX" = true
  verr : globName ge.scope.names "ValueError" = true
  frame : ge.frame = some ge.locals
structure GTop (mg mb : Str → Option Value) (H : Heap) (ge : Env) : Prop where
  env : GEnv ge
  gl : Gl mg mb H
  cmax : ∃ t : Tok, mg "CHAR_MAX" = some (Value.int 127 t)
  verr : mg "ValueError" = none ∧ mb "ValueError" = some (.type "ValueError")
noncomputable def lastIs (last : Option Int) (v : Option Value) : Prop := match last with
  | none => v = some .none
  | some x => ∃ t : Tok, v = some (Value.int x t)
structure GI (H : Heap) (ge : Env) (I l : Addr) (vs : List Value) (i : Nat) (last : Option Int) (h : Heap) : Prop where
  ext : Ext H h
  ns : ∃ m, h.Ns ge.locals m ∧ lastIs last (m "last_interval")
  it : h.IsListIter I l i
  lst : h.IsList l vs.toArray
noncomputable def IntsAt (vs : List Value) (xs : List Int) : Prop := vs.length = xs.length ∧ ∀ (i : Nat) (x : Int), xs[i]? = some x → ∃ t : Tok, vs[i]? = some (Value.int x t)
noncomputable def GKeep (H : Heap) (C I l : Addr) : Addr → Prop := fun b => b = C ∨ b = I ∨ b = l ∨ ∃ o, H.get? b = some o
noncomputable def GOwn (C I : Addr) : Addr → Prop := fun b => b = C ∨ b = I
theorem GI.live {H : Heap} {ge : Env} {I l : Addr} {vs : List Value} {i : Nat} {last : Option Int} {h : Heap} (g : GI H ge I l vs i last h) : ∀ a, GOwn ge.locals I a → ∃ o, h.get? a = some o := fun a ha => by
  rcases ha with rfl | rfl
  · obtain ⟨m, ⟨o, _, _, e, _⟩, _⟩ := g.ns; exact ⟨o, e⟩
  · obtain ⟨o, e, _⟩ := g.it; exact ⟨o, e⟩
theorem GI.agr {H : Heap} {ge : Env} {I l : Addr} {vs : List Value} {i : Nat} {last : Option Int} {s s'' : Shared} (g : GI H ge I l vs i last s.heap) (a : Agr (GKeep H ge.locals I l) s s'') : GI H ge I l vs i last s''.heap where
  ext := fun b o e => a b o (.inr (.inr (.inr ⟨o, e⟩))) (g.ext b o e)
  ns := let ⟨m, hn, hl⟩ := g.ns; ⟨m, hn.at' fun o e => a _ o (.inl rfl) e, hl⟩
  it := g.it.at fun o e => a _ o (.inr (.inl rfl)) e
  lst := g.lst.at fun o e => a _ o (.inr (.inr (.inl rfl))) e
section
variable {prog : Program} {w : World} {A : Around} {T : Nat → Option Int} {H : Heap} {mg mb : Str → Option Value} {ge : Env} {I l : Addr} {vs : List Value} {xs : List Int}
theorem gen_global (G : GTop mg mb H ge) {A : Around} {x : Str} {v : Value} {s : Shared} {E : Value → Shared → Prop} (hx : globName ge.scope.names x = true) (hm : mg x = some v) (e : Ext H s.heap) (p : Pos) {Q : Value → Shared → Prop} (h : Q v s) :
    wpAny (model prog w) A (eval (.Name x p) ge) Q E s := by
  simp only [globName, plainName, Bool.and_eq_true, beq_iff_eq, Bool.not_eq_true'] at hx
  exact Name_function_global G.env.kind hx.1 (loadGlobal_global (G.env.glob ▸ G.gl.g.keeps e) hm h) hx.2.1
theorem gen_local (G : GEnv ge) {A : Around} {x : Str} {v : Value} {s : Shared} {m : Str → Option Value} {E : Value → Shared → Prop} (hx : ge.kindOf x = some .local) (hd : (x == ("__debug__" : Str)) = false) (hn : s.heap.Ns ge.locals m) (hv : m x = some v) (p : Pos) {Q : Value → Shared → Prop} (h : Q v s) :
    wpAny (model prog w) A (eval (.Name x p) ge) Q E s := wpAny_Name (wpAny_loadName_local G.kind hx hn hv h) hd
theorem seg_rep (G : GTop mg mb H ge) {x : Int} {p1 p2 p3 p4 : Pos} {k1 : Nat} {fs : List Frame} (hfs : splitAtGen fs = none) (hfg : fs.any Frame.guarded = false) :
    ∀ (m : Nat) (s₀ s : Shared) (i : Nat), Cons T m (.rep x) → Snc (GOwn ge.locals I) s₀ s → GI H ge I l vs i (some x) s.heap →
      Seg (model prog w) A (GR T (GOwn ge.locals I)) (GY T (GOwn ge.locals I) (GKeep H ge.locals I l)) (m + 1) s₀ (.whileLoop (.Constant (.bool true) k1 p1) [.Expr (.Yield (some (.Name "last_interval" p2)) p3) p4] [] ge)
        ((model prog w).den (.whileLoop (.Constant (.bool true) k1 p1) [.Expr (.Yield (some (.Name "last_interval" p2)) p3) p4] [] ge)) fs s := by
  intro m
  induction m with
  | zero =>
    intro s₀ s i hc hs hg
    obtain ⟨mm, hn, t, hl⟩ := hg.ns
    refine seg_whileLoop (wpAny_isTrue_value (wpAny_Constant_bool (wpAny_truthy_bool ?_)) rfl)
    rw [if_pos rfl]
    refine seg_execs_cons (seg_Expr_Yield hfs rfl hfg (gen_local G.env G.env.last (by decide) hn hl p2 fun kap hk => ?_) G.env.co (by unfold interactive; rw [G.env.kind]; rfl))
    exact ⟨⟨x, t, hc.here, rfl⟩, ⟨hs, hg.live⟩, fun m' e => by cases e⟩
  | succ m ih =>
    intro s₀ s i hc hs hg
    obtain ⟨mm, hn, t, hl⟩ := hg.ns
    refine seg_whileLoop (wpAny_isTrue_value (wpAny_Constant_bool (wpAny_truthy_bool ?_)) rfl)
    rw [if_pos rfl]
    refine seg_execs_cons (seg_Expr_Yield hfs rfl hfg (gen_local G.env G.env.last (by decide) hn hl p2 fun kap hk => ?_) G.env.co (by unfold interactive; rw [G.env.kind]; rfl))
    refine ⟨⟨x, t, hc.here, rfl⟩, ⟨hs, hg.live⟩, fun m' e s'' ha => hk .none s'' ?_⟩
    exact seg_again rfl (ih s'' s'' i (hc.next rfl) (Aft.refl _ _) (hg.agr ha))
end
end Mine
end
section
open PySem PySem.Calls PyProof.Rows
namespace Mine
noncomputable def gRaise (P : Nat → Pos) (k : Nat → Nat) : Stmt :=
  .If (.Compare (.Name "last_interval" (P 0)) [.Is] [.Constant .none (k 0) (P 1)] (P 2)) [.Raise (some (.Call (.Name "ValueError" (P 3)) [.Constant (.str "invalid grouping") (k 1) (P 4)] [] (P 5))) none (P 6)] [] (P 7)
noncomputable def gRep (P : Nat → Pos) (k : Nat → Nat) : Stmt :=
  .While (.Constant (.bool true) (k 2) (P 8)) [.Expr (.Yield (some (.Name "last_interval" (P 9))) (P 10)) (P 11)] [] (P 12)
noncomputable def gEnd (P : Nat → Pos) : Stmt := .If (.Compare (.Name "interval" (P 13)) [.Eq] [.Name "CHAR_MAX" (P 14)] (P 15)) [.Return none (P 16)] [] (P 17)
noncomputable def gZero (P : Nat → Pos) (k : Nat → Nat) : Stmt := .If (.Compare (.Name "interval" (P 18)) [.Eq] [.Constant (.int 0) (k 3) (P 19)] (P 20)) [gRaise P k, gRep P k] [] (P 21)
noncomputable def gYield (P : Nat → Pos) : Stmt := .Expr (.Yield (some (.Name "interval" (P 22))) (P 23)) (P 24)
noncomputable def gSet (P : Nat → Pos) : Stmt := .Assign [.Name "last_interval" (P 25)] (.Name "interval" (P 26)) (P 27)
noncomputable def gBody (P : Nat → Pos) (k : Nat → Nat) : List Stmt := [gEnd P, gZero P k, gYield P, gSet P]
noncomputable def gFor (P : Nat → Pos) (k : Nat → Nat) : Stmt := .For (.Name "interval" (P 28)) (.Name "grouping" (P 29)) (gBody P k) [] (P 30)
noncomputable def gStart (P : Nat → Pos) (k : Nat → Nat) : Stmt := .Assign [.Name "last_interval" (P 31)] (.Constant .none (k 4) (P 32)) (P 33)
noncomputable def gAll (P : Nat → Pos) (k : Nat → Nat) : List Stmt := [gStart P k, gFor P k]
noncomputable def gLoop (P : Nat → Pos) (k : Nat → Nat) (I : Addr) (ge : Env) : Code := .forLoop (.Name "interval" (P 28)) (.ref I) (gBody P k) [] ge
section
variable {prog : Program} {w : World} {A : Around} {T : Nat → Option Int} {H : Heap} {mg mb : Str → Option Value} {ge : Env} {I l : Addr} {vs : List Value} {xs : List Int} {s : Shared} {E : Value → Shared → Prop}
theorem gen_eq (G : GEnv ge) (hu : A.units + 20 < cLine) {m : Str → Option Value} {x y : Int} {t : Tok} {r : Expr} {p1 p2 : Pos} (hs : notSetE r = true) (hn : s.heap.Ns ge.locals m) (hv : m "interval" = some (.int x t)) {Q : Bool → Shared → Prop}
    (hr : ∀ Q' : Value → Shared → Prop, (∀ u s', Evl s s' → Q' (.int y u) s') → wpAny (model prog w) A (eval r ge) Q' E s) (h : ∀ s', Evl s s' → Q (x == y) s') :
    wpAny (model prog w) A (isTrue (.Compare (.Name "interval" p1) [.Eq] [r] p2) ge (eval (.Compare (.Name "interval" p1) [.Eq] [r] p2) ge)) Q E s := by
  refine wpAny_isTrue_Compare1 (gen_local G G.interval (by decide) hn hv p1 (hr _ fun u s' ev => ?_)) (behind_of hs)
  refine wpAny_mono (cmp_sound (op := .eq) (F := fun a => a = sysModules) (Q := fun b => b = (x == y)) rfl hu (.int x t) (.int y u) (fun q => by cases q) ⟨rfl, rfl⟩) (fun v s'' ⟨b, hb, hq, ev₂⟩ => ?_) fun _ _ q => q
  subst hb
  exact wpAny_truthy_bool (hq ▸ h s'' (ev.trans ev₂))
theorem gen_is (G : GEnv ge) (hu : A.units + 20 < cLine) {m : Str → Option Value} {last : Option Int} {p1 p2 p3 : Pos} {k : Nat} (hn : s.heap.Ns ge.locals m) (hv : lastIs last (m "last_interval")) {Q : Bool → Shared → Prop} (h : ∀ s', Evl s s' → Q last.isNone s') :
    wpAny (model prog w) A (isTrue (.Compare (.Name "last_interval" p1) [.Is] [.Constant .none k p2] p3) ge (eval (.Compare (.Name "last_interval" p1) [.Is] [.Constant .none k p2] p3) ge)) Q E s := by
  cases last with
  | none =>
    refine wpAny_isTrue_Compare1 (gen_local G G.last (by decide) hn hv p1 (wpAny_Constant_none ?_)) rfl
    refine wpAny_mono (cmp_sound (op := .isnone) (F := fun a => a = sysModules) (Q := fun b => b = true) rfl hu .none .none (fun _ => rfl) rfl) (fun v s'' ⟨b, hb, hq, ev₂⟩ => ?_) fun _ _ q => q
    subst hb
    exact wpAny_truthy_bool (hq ▸ h s'' ev₂)
  | some x =>
    obtain ⟨t, hv⟩ := hv
    refine wpAny_isTrue_Compare1 (gen_local G G.last (by decide) hn hv p1 (wpAny_Constant_none ?_)) rfl
    refine wpAny_mono (cmp_sound (op := .isnone) (F := fun a => a = sysModules) (Q := fun b => b = false) rfl hu (.int x t) .none (fun _ => rfl) rfl) (fun v s'' ⟨b, hb, hq, ev₂⟩ => ?_) fun _ _ q => q
    subst hb
    exact wpAny_truthy_bool (hq ▸ h s'' ev₂)
end
end Mine
end
section
open PySem PySem.Calls PyProof.Rows
namespace Mine
section
variable {prog : Program} {w : World} {A : Around} {T : Nat → Option Int} {H : Heap} {mg mb : Str → Option Value} {ge : Env} {I l : Addr} {vs : List Value} {xs : List Int} {s : Shared} {E : Value → Shared → Prop}
structure GApart (H : Heap) (ge : Env) (I l : Addr) : Prop where
  ci : ge.locals ≠ I
  lc : l ≠ ge.locals
  li : l ≠ I
  hc : ∀ o, H.get? ge.locals ≠ some o
  hi : ∀ o, H.get? I ≠ some o
theorem GI.step {i : Nat} {last : Option Int} {s' : Shared} (g : GI H ge I l vs i last s.heap) (e : Evl s s') : GI H ge I l vs i last s'.heap where
  ext := g.ext.trans e.ext
  ns := let ⟨m, hn, hl⟩ := g.ns; ⟨m, hn.keeps fun b o q => e.ext b o q, hl⟩
  it := g.it.at fun o q => e.ext _ o q
  lst := g.lst.at fun o q => e.ext _ o q
theorem gen_store (G : GEnv ge) (ap : GApart H ge I l) {x : Str} {v : Value} {i : Nat} {last : Option Int} {m : Str → Option Value} (hx : ge.kindOf x = some .local) (g : GI H ge I l vs i last s.heap) (hn : s.heap.Ns ge.locals m) {Q : Unit → Shared → Prop}
    (h : ∀ s', Aft (GOwn ge.locals I) s s' → s'.heap.Ns ge.locals (fun y => if y = x then some v else m y) → (∀ last', lastIs last' (if ("last_interval" : Str) = x then some v else m "last_interval") → GI H ge I l vs i last' s'.heap) → s'.heap.objs.size = s.heap.objs.size → Q () s') :
    wpAny (model prog w) A (storeName ge x v) Q E s := by
  refine wpAny_storeName_local hx hn (fun h' hn' hs' => ?_) (by rw [G.kind]; rfl)
  have k : ∀ b o, ¬ GOwn ge.locals I b → s.heap.get? b = some o → h'.get? b = some o := fun b o hb e => hs'.extBut b o (fun q => hb (.inl q)) e
  refine h { s with heap := h', toks := s.toks + 1 } (Aft.of k) hn' (fun last' hl => ⟨fun b o e => ?_, ⟨_, hn', hl⟩, ?_, ?_⟩) hs'.1
  · exact hs'.extBut b o (fun q => ap.hc o (q ▸ e)) (g.ext b o e)
  · exact g.it.at fun o e => hs'.extBut _ o (Ne.symm ap.ci) e
  · exact g.lst.at fun o e => hs'.extBut _ o ap.lc e
noncomputable def gConts (K0 : Flow → Sem Fin) : Prop := K0 .next = .pure (.done (.ret .none)) ∧ ∀ v, K0 (.ret v) = .pure (.done (.ret v))
theorem int_of_drop {xs : List Int} {i : Nat} (hi : i < xs.length) : xs.drop i = xs[i] :: xs.drop (i + 1) := List.drop_eq_getElem_cons hi
theorem seg_turn (G : GTop mg mb H ge) (ap : GApart H ge I l) (hh : A.handled = none) (hu : A.units + 100 < cLine) (hx : IntsAt vs xs) (hbad : rowBad xs = false) {P : Nat → Pos} {k : Nat → Nat} {K0 : Flow → Sem Fin} {H0 : Value → Sem Fin} {gd0 : Bool → Bool} {lv0 : List Value → List Value} {cf : Code} {pf : Pos}
    (hK : gConts K0) (hgd : gd0 false = false) (hcf : cf.cUnits ≤ 30) {m : Nat}
    (ih : ∀ m', m = m' + 1 → ∀ (s₀ s : Shared) (i : Nat) (last : Option Int), Cons T m' (.go last (xs.drop i)) → (last = none → i = 0) → i ≤ xs.length → Aft (GOwn ge.locals I) s₀ s → GI H ge I l vs i last s.heap →
      Seg (model prog w) A (GR T (GOwn ge.locals I)) (GY T (GOwn ge.locals I) (GKeep H ge.locals I l)) (m' + 1) s₀ (gLoop P k I ge) ((model prog w).den (gLoop P k I ge)) [loopK ge K0 H0 gd0 lv0 cf pf] s)
    (s₀ s : Shared) (i : Nat) (last : Option Int) (hc : Cons T m (.go last (xs.drop i))) (hl0 : last = none → i = 0) (hle : i ≤ xs.length) (hs : Aft (GOwn ge.locals I) s₀ s) (hg : GI H ge I l vs i last s.heap) :
    Seg (model prog w) A (GR T (GOwn ge.locals I)) (GY T (GOwn ge.locals I) (GKeep H ge.locals I l)) (m + 1) s₀ (gLoop P k I ge) ((model prog w).den (gLoop P k I ge)) [loopK ge K0 H0 gd0 lv0 cf pf] s := by
  have hh' : (A.over (gLoop P k I ge) [loopK ge K0 H0 gd0 lv0 cf pf]).handled = none := hh
  have hu' : (A.over (gLoop P k I ge) [loopK ge K0 H0 gd0 lv0 cf pf]).units + 20 < cLine := by
    show A.units + (unitsOf [(cf, pf)]) + (gLoop P k I ge).cUnits + 20 < cLine
    have e1 : unitsOf [(cf, pf)] = cf.cUnits := by simp [unitsOf]
    have e2 : (gLoop P k I ge).cUnits = 0 := rfl
    rw [e1, e2]; (first | lia | omega)
  -- the function's end
  have fend : ∀ (c : Code) (f : Flow) (s' : Shared), K0 f = .pure (.done (.ret .none)) → T m = none → Aft (GOwn ge.locals I) s₀ s' →
      Seg (model prog w) A (GR T (GOwn ge.locals I)) (GY T (GOwn ge.locals I) (GKeep H ge.locals I l)) (m + 1) s₀ c (.pure (.done f)) [loopK ge K0 H0 gd0 lv0 cf pf] s' := fun c f s' hf hT hs' => by
    refine gen_back ?_
    rw [hf]
    exact seg_end (.ok (.ret .none)) ⟨rfl, hT, hs'⟩
  have W₀ := fun (A' : Around) (hA : A'.handled = none) => Walks.list (prog := prog) (w := w) (A := A') hA I l ap.li vs.toArray
  refine gen_forLoop ?_
  by_cases hi : i < xs.length
  · have hiv : i < vs.toArray.size := by simp [hx.1, hi]
    refine (W₀ _ hh').item i s _ _ hiv ⟨hg.it, hg.lst⟩ fun v h₁ tk₁ hv hst hk₁ => ?_
    obtain ⟨t, hvt⟩ := hx.2 i _ (List.getElem?_eq_getElem hi)
    rw [List.getElem?_toArray, hvt] at hv
    cases hv
    generalize hxi : xs[i] = x at *
    have hdrop : xs.drop i = x :: xs.drop (i + 1) := by rw [int_of_drop hi, hxi]
    rw [hdrop] at hc
    have a₁ : Aft (GOwn ge.locals I) s { s with heap := h₁, toks := tk₁ } := Aft.of fun b o hb e => hk₁ b o (fun q => hb (.inr (by simpa using q))) e
    obtain ⟨mm, hn, hlast⟩ := hg.ns
    have g₁ : GI H ge I l vs (i + 1) last h₁ := ⟨fun b o e => hk₁ b o (fun q => ap.hi o (by simp at q; exact q ▸ e)) (hg.ext b o e), ⟨mm, hn.at' fun o e => hk₁ _ o (by simpa using ap.ci) e, hlast⟩, hst.1, hst.2⟩
    have hn₁ : h₁.Ns ge.locals mm := hn.at' fun o e => hk₁ _ o (by simpa using ap.ci) e
    refine gen_store (s := { s with heap := h₁, toks := tk₁ }) G.env ap G.env.interval g₁ hn₁ fun s₂ a₂ hn₂ g₂ _ => ?_
    have g₂ : GI H ge I l vs (i + 1) last s₂.heap := g₂ last (by rw [if_neg (by decide)]; exact hlast)
    have hs₂ : Aft (GOwn ge.locals I) s₀ s₂ := (hs.trans a₁).trans a₂
    clear hs a₁ a₂
    obtain ⟨tc, hcm⟩ := G.cmax
    -- interval == CHAR_MAX
    refine seg_execs_cons (gen_if (gen_eq G.env hu' rfl hn₂ (by rw [if_pos rfl]) (fun Q' hQ => gen_global G G.env.cmax hcm g₂.ext (P 14) (hQ tc s₂ (.refl _ _))) fun s₃ ev₃ => ?_))
    have hs₃ := hs₂.trans (Evl.aft ev₃)
    have g₃ := g₂.step ev₃
    have hn₃ := hn₂.keeps fun b o q => ev₃.ext b o q
    by_cases h127 : x = 127
    · rw [show (x == 127) = true by simp [h127]]
      refine seg_execs_cons (gen_stmt (wpAny_Return_none ?_))
      exact fend _ (.ret .none) s₃ (hK.2 _) (by rw [hc.here]; simp [GS.pull, h127]) hs₃
    · rw [show (x == 127) = false by simp [h127]]
      refine seg_execs_nil ?_
      -- interval == 0
      refine seg_execs_cons (gen_if (gen_eq G.env hu' rfl hn₃ (by rw [if_pos rfl]) (fun Q' hQ => wpAny_Constant_int (hQ _ _ Evl.toks)) fun s₄ ev₄ => ?_))
      have hs₄ := hs₃.trans (Evl.aft ev₄)
      have g₄ := g₃.step ev₄
      have hn₄ := hn₃.keeps fun b o q => ev₄.ext b o q
      by_cases h0 : x = 0
      · rw [show (x == 0) = true by simp [h0]]
        cases last with
        | none =>
          exfalso
          have := hl0 rfl
          subst this; subst h0
          rw [List.drop_zero] at hdrop
          rw [hdrop] at hbad; cases hbad
        | some y =>
          refine seg_execs_cons (gen_if (gen_is G.env hu' hn₄ (by rw [if_neg (by decide)]; exact hlast) fun s₅ ev₅ => ?_))
          refine seg_execs_nil (seg_execs_cons (gen_while fun p => ?_))
          refine seg_rep G rfl (by show (gd0 false || _) = false; rw [hgd]; rfl) m s₀ s₅ (i + 1) (hc.congr ?_) (hs₄.trans (Evl.aft ev₅)) (g₄.step ev₅)
          simp [GS.pull, h0]
      · rw [show (x == 0) = false by simp [h0]]
        refine seg_execs_nil ?_
        -- yield interval
        have hp : (GS.go last (x :: xs.drop (i + 1))).pull = some (x, .go (some x) (xs.drop (i + 1))) := by simp [GS.pull, h127, h0]
        refine seg_execs_cons (seg_Expr_Yield (fs := [loopK ge K0 H0 gd0 lv0 cf pf]) rfl rfl (by show (gd0 false || false) = false; rw [hgd]; rfl) (gen_local G.env G.env.interval (by decide) hn₄ (by rw [if_pos rfl]) (P 22) fun kap hk => ?_) G.env.co (by unfold interactive; rw [G.env.kind]; rfl))
        refine ⟨⟨x, t, by rw [hc.here, hp]; rfl, rfl⟩, ⟨hs₄, g₄.live⟩, fun m' e s'' ha => hk .none s'' ?_⟩
        subst e
        have g₅ := g₄.agr ha
        have hn₅ : s''.heap.Ns ge.locals _ := hn₄.at' fun o e => ha _ o (.inl rfl) e
        refine seg_execs_cons (gen_stmt (wpAny_Assign_Name (gen_local G.env G.env.interval (by decide) hn₅ (by rw [if_pos rfl]) (P 26) ?_) (swaps_false rfl _ _ _)))
        refine gen_store G.env ap G.env.last g₅ hn₅ fun s₆ a₆ hn₆ g₆ _ => ?_
        exact seg_again rfl (ih m' rfl s'' s₆ (i + 1) (some x) (hc.next hp) (fun q => by cases q) hi a₆ (g₆ (some x) (by rw [if_pos rfl]; exact ⟨t, rfl⟩)))
  · have hii : i = vs.toArray.size := by simp [hx.1]; (first | lia | omega)
    refine (W₀ _ hh').done s _ _ (hii ▸ ⟨hg.it, hg.lst⟩) fun h₁ tk₁ hk₁ => ?_
    have a₁ : Aft (GOwn ge.locals I) s { s with heap := h₁, toks := tk₁ } := Aft.of fun b o hb e => hk₁ b o (fun q => hb (.inr (by simpa using q))) e
    refine gen_again_block ?_
    exact fend _ .next _ hK.1 (by rw [hc.here, List.drop_of_length_le (by (first | lia | omega))]; rfl) (hs.trans a₁)
theorem seg_loop (G : GTop mg mb H ge) (ap : GApart H ge I l) (hh : A.handled = none) (hu : A.units + 100 < cLine) (hx : IntsAt vs xs) (hbad : rowBad xs = false) {P : Nat → Pos} {k : Nat → Nat} {K0 : Flow → Sem Fin} {H0 : Value → Sem Fin} {gd0 : Bool → Bool} {lv0 : List Value → List Value} {cf : Code} {pf : Pos}
    (hK : gConts K0) (hgd : gd0 false = false) (hcf : cf.cUnits ≤ 30) : ∀ (m : Nat) (s₀ s : Shared) (i : Nat) (last : Option Int), Cons T m (.go last (xs.drop i)) → (last = none → i = 0) → i ≤ xs.length → Aft (GOwn ge.locals I) s₀ s → GI H ge I l vs i last s.heap →
      Seg (model prog w) A (GR T (GOwn ge.locals I)) (GY T (GOwn ge.locals I) (GKeep H ge.locals I l)) (m + 1) s₀ (gLoop P k I ge) ((model prog w).den (gLoop P k I ge)) [loopK ge K0 H0 gd0 lv0 cf pf] s
  | 0 => seg_turn G ap hh hu hx hbad hK hgd hcf fun m' e => by cases e
  | m + 1 => seg_turn G ap hh hu hx hbad hK hgd hcf fun m' e => by cases e; exact seg_loop G ap hh hu hx hbad hK hgd hcf m
theorem seg_all (G : GTop mg mb H ge) (hh : A.handled = none) (hu : A.units + 100 < cLine) (hx : IntsAt vs xs) (hbad : rowBad xs = false) {P : Nat → Pos} {k : Nat → Nat} {m : Nat} {s : Shared} {mm : Str → Option Value}
    (hc : Cons T m (.go none xs)) (ext : Ext H s.heap) (hn : s.heap.Ns ge.locals mm) (hg : mm "grouping" = some (.ref l)) (hl : s.heap.IsList l vs.toArray) (hlc : l ≠ ge.locals) (hHc : ∀ o, H.get? ge.locals ≠ some o) :
    Seg (model prog w) A (GR T (GOwn ge.locals s.heap.objs.size)) (GY T (GOwn ge.locals s.heap.objs.size) (GKeep H ge.locals s.heap.objs.size l)) (m + 1) s (.func (gAll P k) ge) ((model prog w).den (.func (gAll P k) ge)) [] s := by
  have hIlt : ∀ b o, s.heap.get? b = some o → b ≠ s.heap.objs.size := fun b o e => Nat.ne_of_lt (Heap.lt_size e)
  have ap : GApart H ge s.heap.objs.size l := ⟨by obtain ⟨o, _, _, e, _⟩ := hn; exact hIlt _ o e, hlc, by obtain ⟨o, e, _⟩ := hl; exact hIlt _ o e, hHc, fun o e => hIlt _ o (ext _ o e) rfl⟩
  refine seg_func (seg_execs_cons (gen_stmt (wpAny_Assign_Name (wpAny_Constant_none ?_) (swaps_false rfl _ _ _))))
  refine wpAny_storeName_local G.env.last hn (fun h' hn' hs' => ?_) (by rw [G.env.kind]; rfl)
  have a₁ : Aft (GOwn ge.locals s.heap.objs.size) s { s with heap := h', toks := s.toks + 1 } := Aft.of fun b o hb e => hs'.extBut b o (fun q => hb (.inl q)) e
  have hl' : h'.IsList l vs.toArray := hl.at fun o e => hs'.extBut _ o hlc e
  have hsz : h'.objs.size = s.heap.objs.size := hs'.1
  refine seg_execs_cons (gen_for (folded_of rfl) (gen_local (s := { s with heap := h', toks := s.toks + 1 }) G.env G.env.grouping (by decide) hn' (by rw [if_neg (by decide)]; exact hg) (P 29) (wpAny_pyIter_list hl' fun p => ?_)))
  have a₂ : Evl { s with heap := h', toks := s.toks + 1 } { s with heap := h'.push { cls := .type "list_iterator", data := .fields #[.ref l, rawInt 0] }, toks := s.toks + 1 } := Evl.of (s := { s with heap := h', toks := s.toks + 1 }) (Ext.push _ _)
  rw [hsz]
  refine seg_loop G ap hh hu hx hbad (P := P) (k := k) ⟨rfl, fun v => rfl⟩ rfl (by show (3 : Nat) ≤ 30; (first | lia | omega)) m s _ 0 none (by simpa using hc) (fun _ => rfl) (Nat.zero_le _) (a₁.trans (Evl.aft a₂)) ⟨?_, ?_, ?_, ?_⟩
  · exact fun b o e => Heap.get?_push_of_some _ (hs'.extBut b o (fun q => hHc o (q ▸ e)) (ext b o e))
  · exact ⟨_, hn'.push _, by show (if _ then _ else _) = _; rw [if_pos rfl]⟩
  · exact ⟨_, by rw [← hsz]; exact Heap.get?_push_size _ rfl, rfl, rfl⟩
  · exact hl'.at fun o e => Heap.get?_push_of_some _ e
end
end Mine
end
section
open PySem PySem.Calls PyProof.Rows
namespace Mine
section
variable {prog : Program} {w : World} {A : Around} {E : Value → Shared → Prop} {s : Shared}
theorem sub_value_stop : isSubtype (.type "ValueError") (.type "StopIteration") = pure false := by rw [isSubtype_type]; kernel_rfl
theorem pyNext_gen {a : Addr} {g n : Nat} {gs : GenState} {R : GenEnd} {Y : Protocol} {Q : Option Value → Shared → Prop} (hh : A.handled = none)
    (hl : s.heap.NoLimit) (hroom : A.depth < recursionLimit) (hg : s.heap.IsGen a g) (hgs : s.gens[g]? = some gs)
    (hgo : gs.Goes (model prog w) A.in1 R Y n (.send .none) (s.setGen g .running))
    (hY : ∀ v s₁ gs', gs'.bare = true → Y (n - 1) (s.setGen g .running) v s₁ (fun r' s'' => match n with
        | 0 => False
        | m + 1 => gs'.Goes (model prog w) A.in1 R Y m r' s'') → Q (some v) (s₁.setGen g gs'))
    (hR : ∀ r s₁, R n (s.setGen g .running) r s₁ → (r = .ok (.ret .none) ∧ ∀ h', Ext s₁.heap h' → Q none { s₁.setGen g .finished with heap := h' }) ∨
      ∃ e, r = .error e ∧ s₁.TypeIs e "ValueError" ∧ s₁.heap.IsGen a g ∧ E e (s₁.setGen g .finished)) :
    wpAny (model prog w) A (pyNext (.ref a)) Q E s := by
  unfold pyNext
  refine wpAny_bind (wpAny_attempt (wpAny_callSpecial?_slot (name := Str.ofString "__next__") hg.typeIs slot_gen_next
    (wpAny_call_entry slot_gen_next hg.typeIs entry_gen_next ?_ (args_gen_next _))))
  show wpAny _ A.in1 (Builtin.Generator.genWake (.ref a) (.send .none)) _ _ s
  unfold Builtin.Generator.genWake
  refine wpAny_bind (wpAny_holding (wpAny_genNumber hg (wpAny_bind (wpAny_genState hgs ?_))))
  cases gs with
  | running => exact hgo.elim
  | finished => exact hgo.elim
  | _ =>
    refine wpAny_bind (wpAny_roomToWake hl hroom ?_)
    show wpAny _ A.in1 (.resume g (.send .none) [] _) _ _ s
    refine wpAny_resumeQ hgs hgo (fun x s₁ hx => ?_) (fun v s₁ gs' hb hv => ?_)
    · rcases hR x s₁ hx with ⟨rfl, hp⟩ | ⟨e, rfl, ht, hgi, hE⟩
      · show wpAny _ A.in1 (newExc (.type "StopIteration") [] >>= _) _ _ _
        refine wpAny_bind ?_
        simp only [newExc, newTuple]
        refine wpAny_bind (wpAny_newObj_type ?_ (by size_fits))
        refine wpAny_bind (m := firstArgMember _ _) (wpAny_of_eq (a := Value.none) (by first | rfl | (simp only [firstArgMember]; rfl)) ?_)
        refine wpAny_newObj_type ?_ (by size_fits)
        simp only [raiseNew]
        refine wpAny_bind (wpAny_bind (wpAny_handled ?_))
        first | rw [show A.in1.handled = none from hh] | rw [hh]
        refine wpAny_throw ?_
        refine wpAny_bind (wpAny_isInstance (T := "StopIteration") (b := true) ⟨_, Heap.get?_push_size _ rfl, rfl⟩ isSubtype_stop ?_)
        exact wpAny_pure (hp _ fun b o hb => Heap.get?_push_of_some _ (Heap.get?_push_of_some _ hb))
      · obtain ⟨o, nm, qn, ho, hc, hd, hsl⟩ := hgi
        show wpAny _ A.in1 (Builtin.Generator.genLeft (.ref a) e) _ _ _
        unfold Builtin.Generator.genLeft Builtin.Generator.madeByALambda
        refine wpAny_bind (m := (load a >>= fun o => _)) (wpAny_bind (wpAny_load ho ?_))
        rw [hc, hd]
        refine wpAny_pure (wpAny_bind (wpAny_isInstance (T := "ValueError") (b := false) ht sub_value_stop ?_))
        rw [Bool.and_false, if_neg Bool.false_ne_true]
        show wpAny _ A.in1 (Builtin.Generator.genEscaped e) _ _ _
        unfold Builtin.Generator.genEscaped
        refine wpAny_bind (wpAny_isInstance (T := "ValueError") (b := false) ht sub_value_stop ?_)
        refine wpAny_throw ?_
        refine wpAny_bind (wpAny_isInstance (T := "ValueError") (b := false) ht sub_value_stop ?_)
        exact wpAny_throw hE
    · exact wpAny_pure ⟨v, rfl, wpAny_pure (hY v s₁ gs' hb hv)⟩
end
end Mine
end
section
open PySem PySem.Calls PyProof.Rows
namespace Mine
section
variable {prog : Program} {w : World} {A : Around} {E : Value → Shared → Prop} {s s' : Shared} {s₀ : Base} {env : Env} {tbl : List Str} {N N' W W' Own : Addr → Prop} {ρ : Rho}
theorem St.gen (S : St w prog env tbl s₀ N W ρ s) (hk : ∀ b o, ¬ Own b → s.heap.get? b = some o → s'.heap.get? b = some o) (hg : ∀ (i : Nat) (x : GenState), s₀.gens[i]? = some x → s'.gens[i]? = some x) (hb : AllBare s₀.gens → AllBare s'.gens) (ho : s'.os = s.os)
    (hOwn : ∀ a, Own a → (N a ∨ s.heap.get? a = none) ∧ s₀.heap.get? a = none ∧ ¬ W a ∧ a ≠ env.locals ∧ ∀ n c, env.cells.lookup n = some c → a ≠ c) (hl : ∀ a, Own a → N' a → ∃ o, s'.heap.get? a = some o)
    (hN : ∀ a, N' a → N a ∨ (s.heap.get? a = none ∧ ∃ o, s'.heap.get? a = some o)) : St w prog env tbl s₀ N' W ρ s' := by
  refine ⟨⟨fun b o _ e => ?_, hg, hb, ho.trans S.evl.os⟩, fun a ha => ?_, S.fresh, S.zw, s₀.zs _ _ S.zi fun b o hb e => hk b o (fun q => (hOwn b q).2.2.1 (S.zw b hb)) e, ?_⟩
  · refine hk b o (fun q => ?_) (S.evl.heap b o id e)
    rw [(hOwn b q).2.1] at e; cases e
  · by_cases q : Own a
    · rcases ha with ha | ha
      · exact hl a q ha
      · exact absurd ha (hOwn a q).2.2.1
    · have old : (N a ∨ W a) → ∃ o, s'.heap.get? a = some o := fun ha => by
        obtain ⟨o, e⟩ := S.live a ha
        exact ⟨o, hk a o q e⟩
      rcases ha with ha | ha
      · rcases hN a ha with r | r
        · exact old (.inl r)
        · exact r.2
      · exact old (.inr ha)
  · obtain ⟨m, cm, own, L, ZL, O1, O2, V⟩ := S.vals
    refine ⟨m, cm, own, L.keep fun a o ha e => hk a o (fun q => ?_) e, ZL, fun i lv hr how a ha => ⟨⟨(O1 i lv hr how a ha).1.1, fun q => ?_⟩, (O1 i lv hr how a ha).2⟩, O2, fun i y lv ht hr => ?_⟩
    · rcases ha with rfl | ⟨n, hn⟩
      · exact (hOwn _ q).2.2.2.1 rfl
      · exact (hOwn _ q).2.2.2.2 n a hn rfl
    · rcases hN a q with q | q
      · exact (O1 i lv hr how a ha).1.2 q
      · obtain ⟨o, e⟩ := S.live a (.inr (O1 i lv hr how a ha).1.1)
        rw [q.1] at e; cases e
    · obtain ⟨v, hv, r⟩ := V i y lv ht hr
      refine ⟨v, hv, r.go (fun a o hF e => ⟨fun q => ?_, hk a o (fun q => ?_) e⟩) fun how a ha o e => hk a o (fun q => (hOwn a q).2.2.1 (O1 i lv hr how a ha).1.1) e⟩
      · rcases q with q | q
        · rcases hN a q with q | q
          · exact hF (.inl q)
          · rw [q.1] at e; cases e
        · exact hF (.inr q)
      · rcases (hOwn a q).1 with q | q
        · exact hF (.inl q)
        · rw [q] at e; cases e
inductive GFnD (H : Heap) (mg : Str → Option Value) (P : Nat → Pos) (k : Nat → Nat) (x : Str) : Prop
  | mk (a : Addr) (o : Obj) (ap : Pos) (nm : Str) (scope : Scope) (pm cd doc : Value) (h1 : mg x = some (.ref a)) (h2 : H.get? a = some o) (h3 : o.data = .func (docDef nm ⟨[], [⟨"grouping", none, ap⟩], none, [], [], none, []⟩ (gAll P k) scope pm cd doc)) (h4 : H.CodeRec cd nm)
    (h5 : scope.kind = .function) (h6 : scope.isCoroutine = false) (h7 : scope.isGenerator = true) (h8 : scope.names.lookup ("grouping" : Str) = some NameKind.local) (h9 : scope.names.lookup ("last_interval" : Str) = some NameKind.local) (h10 : scope.names.lookup ("interval" : Str) = some NameKind.local)
    (h11 : globName scope.names "CHAR_MAX" = true) (h12 : globName scope.names "ValueError" = true) : GFnD H mg P k x
structure GFn (H : Heap) (mg mb : Str → Option Value) (P : Nat → Pos) (k : Nat → Nat) (x : Str) : Prop where
  gl : Gl mg mb H
  lim : H.NoLimit
  cmax : ∃ t : Tok, mg "CHAR_MAX" = some (Value.int 127 t)
  verr : mg "ValueError" = none ∧ mb "ValueError" = some (.type "ValueError")
  fn : GFnD H mg P k x
structure GNew (H : Heap) (mg mb : Str → Option Value) (P : Nat → Pos) (k : Nat → Nat) (l : Addr) (s s' : Shared) (ag C : Addr) (ge : Env) : Prop where
  top : GTop mg mb H ge
  c : ge.locals = C
  ev : Evl s s'
  isg : s'.heap.IsGen ag s.gens.size
  gs : s'.gens[s.gens.size]? = some (.fresh (.func (gAll P k) ge))
  ns : ∃ mm, s'.heap.Ns C mm ∧ mm "grouping" = some (.ref l)
  cn : s.heap.get? C = none
  an : s.heap.get? ag = none
  ne : ag ≠ C
theorem gen_call {H : Heap} {mg mb : Str → Option Value} {P : Nat → Pos} {k : Nat → Nat} {x : Str} (G : GFn H mg mb P k x) {a l : Addr} (ha : mg x = some (.ref a)) (hroom : A.depth < recursionLimit) (ext : Ext H s.heap) {Q : Value → Shared → Prop}
    (h : ∀ s' ag C ge, GNew H mg mb P k l s s' ag C ge → Q (.ref ag) s') : wpAny (model prog w) A (call (.ref a) [.ref l]) Q E s := by
  obtain ⟨a', o, ap, nm, scope, pm, cd, doc, h1, h2, h3, h4, h5, h6, h7, h8, h9, h10, h11, h12⟩ := G.fn
  rw [ha] at h1; cases h1
  refine wpAny_call (codeAny_call_generator hroom (ext _ _ h2) h3 h6 h7 rfl (h4.keeps ext) ?_)
  rw [bind_plain (by simp) rfl]
  refine wpAny_pure (wpAny_newFunctionEnv_cells h5 (fun y hy => ?_) fun ge he s' X => ?_)
  · have : y = (("grouping" : Str), Value.ref l) := by simpa using hy
    rw [this]; exact .inl h8
  · have hk : ∀ x, ge.kindOf x = scope.names.lookup x := fun x => by rw [he]; rfl
    have hc : ge.locals = s.heap.objs.size := by rw [he]; rfl
    obtain ⟨h', tk, e, kp⟩ := X.done
    subst e
    refine ⟨G.lim.keeps (ext.trans kp), h _ _ _ ge ⟨⟨⟨by rw [he]; exact h5, by rw [he]; exact h6, (hk _).trans h8, (hk _).trans h9, (hk _).trans h10, by rw [he]; rfl, by rw [he]; rfl, by rw [he]; exact h11, by rw [he]; exact h12, by rw [he]; rfl⟩, G.gl, G.cmax, G.verr⟩, rfl, ?_, ?_, ?_, ?_, ?_, ?_, ?_⟩⟩
    · refine ⟨fun b o _ e => Heap.get?_push_of_some _ (kp b o e), fun i x e => ?_, fun q => ?_, rfl⟩
      · show (s.gens.push _)[i]? = some x
        rw [Array.getElem?_push]
        split
        · rename_i q; subst q
          rw [Array.getElem?_eq_none (Nat.le_refl _)] at e; cases e
        · exact e
      · show AllBare (s.gens.push _)
        intro y hy
        rcases Array.mem_push.mp hy with hy | rfl
        · exact q y hy
        · rfl
    · exact ⟨_, _, _, Heap.get?_push_size _ rfl, rfl, rfl, rfl⟩
    · exact Array.getElem?_push_size ..
    · refine ⟨_, X.toInCall.ns.push _, ?_⟩
      show bindL ge.kindOf [(("grouping" : Str), Value.ref l)] (fun _ => none) "grouping" = _
      unfold bindL bindL
      rw [hk, if_pos h8, if_pos rfl]
    · rw [hc]; exact fresh_size
    · cases e : s.heap.get? h'.objs.size with
      | none => rfl
      | some o => exact absurd (Heap.lt_size (kp _ o e)) (Nat.lt_irrefl _)
    · obtain ⟨o, _, _, e, _⟩ := X.toInCall.ns
      exact Nat.ne_of_gt (Heap.lt_size e)
end
end Mine
end
section
open PySem PySem.Calls PyProof.Rows
namespace Mine
structure AftG (Own : Addr → Prop) (g : Nat) (s s' : Shared) : Prop where
  heap : ∀ b o, ¬ Own b → s.heap.get? b = some o → s'.heap.get? b = some o
  gens : ∀ (i : Nat) (x : GenState), i ≠ g → s.gens[i]? = some x → s'.gens[i]? = some x
  bare : AllBare s.gens → AllBare s'.gens
  os : s'.os = s.os
theorem bare_setGen {s : Shared} {g : Nat} {x : GenState} (hx : x.bare = true) (h : AllBare s.gens) : AllBare (s.setGen g x).gens := by
  intro y hy
  obtain ⟨i, hi, rfl⟩ := Array.mem_iff_getElem.mp hy
  by_cases e : i = g
  · subst e
    have : (s.setGen i x).gens[i] = x := by simp [Shared.setGen]
    rw [this]; exact hx
  · have : (s.setGen g x).gens[i]? = s.gens[i]? := (GenOnly.setGen s g x).2 i e
    rw [Array.getElem?_eq_getElem hi] at this
    obtain ⟨hi', e'⟩ := Array.getElem?_eq_some_iff.mp this.symm
    exact e' ▸ h _ (Array.getElem_mem hi')
theorem AftG.of {Own : Addr → Prop} {g : Nat} {s s₁ : Shared} {gs gs' : GenState} {h' : Heap} (hgs : s.gens[g]? = some gs) (a : Aft Own (s.setGen g .running) s₁) (hb : gs'.bare = true) (hk : Ext s₁.heap h') : AftG Own g s { s₁.setGen g gs' with heap := h' } ∧ (s₁.setGen g gs').gens[g]? = some gs' := by
  have h1 : s₁.gens[g]? = some .running := a.gens g _ (setGen_self hgs)
  refine ⟨⟨fun b o hb e => hk b o (a.heap b o hb e), fun i x hi e => ?_, fun q => bare_setGen hb (a.bare (bare_setGen rfl q)), a.os⟩, setGen_self h1⟩
  show (s₁.setGen g gs').gens[i]? = some x
  rw [(GenOnly.setGen s₁ g gs').2 i hi]
  refine a.gens i x ?_
  rw [(GenOnly.setGen s g .running).2 i hi]; exact e
section
variable {prog : Program} {w : World} {A : Around} {E : Value → Shared → Prop} {s s' : Shared} {s₀ : Base} {env : Env} {tbl : List Str} {N N₁ N' W W' W₁ Own : Addr → Prop} {ρ : Rho} {H : Heap} {mg mb : Str → Option Value} {ge : Env}
theorem gen_pull (hh : A.handled = none) (hl : s'.heap.NoLimit) (hroom : A.depth < recursionLimit) {ag g l I n : Nat} {gs : GenState} {T : Nat → Option Int} {st : GS}
    (hg : s'.heap.IsGen ag g) (hgs : s'.gens[g]? = some gs) (hc : Cons T n st)
    (hgo : gs.Goes (model prog w) A.in1 (GR T (GOwn ge.locals I)) (GY T (GOwn ge.locals I) (GKeep H ge.locals I l)) (n + 1) (.send .none) (s'.setGen g .running))
    {Q : Option Value → Shared → Prop}
    (hQn : ∀ s₃, st.pull = none → AftG (GOwn ge.locals I) g s' s₃ → Q none s₃)
    (hQs : ∀ x t st' s₃ gs', st.pull = some (x, st') → AftG (GOwn ge.locals I) g s' s₃ → (∀ a, GOwn ge.locals I a → ∃ o, s₃.heap.get? a = some o) → s₃.gens[g]? = some gs' →
      (∀ n', n = n' + 1 → Cons T n' st' ∧ ∀ s'' : Shared, Agr (GKeep H ge.locals I l) s₃ s'' → gs'.Goes (model prog w) A.in1 (GR T (GOwn ge.locals I)) (GY T (GOwn ge.locals I) (GKeep H ge.locals I l)) (n' + 1) (.send .none) s'') → Q (some (.int x t)) s₃) :
    wpAny (model prog w) A (pyNext (.ref ag)) Q E s' := by
  refine pyNext_gen hh hl hroom hg hgs hgo (fun v s₁ gs' hb hv => ?_) (fun r s₁ hr => ?_)
  · obtain ⟨⟨x, t, hT, rfl⟩, ⟨ha, hlive⟩, hk⟩ := hv
    obtain ⟨a₁, h1⟩ := AftG.of hgs ha hb (Ext.refl _)
    have hp : ∃ st', st.pull = some (x, st') := by
      have := hc.here
      rw [show n + 1 - 1 = n by (first | lia | omega)] at hT
      rw [hT] at this
      cases h : st.pull with
      | none => rw [h] at this; cases this
      | some p => obtain ⟨y, st'⟩ := p; rw [h] at this; cases this; exact ⟨st', rfl⟩
    obtain ⟨st', hp⟩ := hp
    refine hQs x t st' _ gs' hp a₁ hlive h1 fun n' e => ⟨by subst e; exact hc.next hp, fun s'' hag => ?_⟩
    subst e
    exact hk n' rfl s'' hag
  · obtain ⟨rfl, hT, ha⟩ := hr
    refine .inl ⟨rfl, fun h' hk => hQn _ ?_ (AftG.of hgs ha rfl hk).1⟩
    have := hc.here
    rw [show n + 1 - 1 = n by (first | lia | omega)] at hT
    rw [hT] at this
    cases h : st.pull with
    | none => rfl
    | some p => rw [h] at this; cases this
theorem ints_at {F : Addr → Prop} : ∀ {vs : List Value} {ds : List D} {is : List Int} {h : Heap}, Reps w prog F h vs ds → ints? ds = some is → IntsAt vs is
  | _, _, _, _, .nil, e => by cases e; exact ⟨rfl, fun i x hx => by simp at hx⟩
  | _, _, _, _, .cons (d := d) (ds := ds) a r, e => by
    cases a with
    | int i t =>
      rw [ints?] at e
      obtain ⟨is, h1, rfl⟩ := Option.map_eq_some_iff.mp e
      obtain ⟨q1, q2⟩ := ints_at r h1
      refine ⟨by simp [q1], fun j x hx => ?_⟩
      cases j with
      | zero => simp at hx; subst hx; exact ⟨t, rfl⟩
      | succ j => exact q2 j x (by simpa using hx)
    | none => cases e
    | bool _ => cases e
    | str _ _ => cases e
    | tup _ _ _ => cases e
    | lst _ _ _ => cases e
    | dct _ _ _ => cases e
theorem Frm.less {X : Addr → Prop} (R : Frm env tbl N' W) (k : ∀ a, N' a → N a ∨ X a) (hl : ¬ X env.locals) (hc : ∀ n c, env.cells.lookup n = some c → ¬ X c) : Frm env tbl N W :=
  ⟨R.kind, R.nodup, R.plain, R.home, fun x hx a b H => by
    rcases R.homeN x hx a b H with q | q
    · rcases k a q with q | q
      · exact .inl q
      · exfalso
        cases H with
        | loc _ => exact hl q
        | cel _ h => exact hc x _ h q
        | fre _ h => exact hc x _ h q
    · exact .inr q, R.homeW⟩
structure GPh (prog : Program) (w : World) (A : Around) (env : Env) (tbl : List Str) (s₀ : Base) (N W : Addr → Prop) (s : Shared) (H : Heap) (C ag l g : Nat) (n : Nat) (st : GS) (I : Addr) (W₁ : Addr → Prop) (ρ : Rho) (s' : Shared) : Prop where
  S : St w prog env tbl s₀ (fun a => N a ∨ a = ag ∨ a = C ∨ a = I) W₁ ρ s'
  R : Frm env tbl N W₁
  a : Aft W s s'
  gw : ∀ a, W₁ a → W a ∨ s.heap.get? a = none
  wx : ¬ W₁ ag ∧ ¬ W₁ C ∧ ¬ W₁ I ∧ ¬ W₁ l
  ll : ∃ o, s'.heap.get? l = some o
  inew : s.heap.get? I = none
  run : s'.heap.IsGen ag g ∧ ∃ gs, s'.gens[g]? = some gs ∧ ∀ n', n = n' + 1 → ∃ T, Cons T n' st ∧ ∀ s'' : Shared, Agr (GKeep H C I l) s' s'' → gs.Goes (model prog w) A.in1 (GR T (GOwn C I)) (GY T (GOwn C I) (GKeep H C I l)) (n' + 1) (.send .none) s''
end
end Mine
end
section
open PySem PySem.Calls PyProof.Rows
namespace Mine
section
variable {prog : Program} {w : World} {A : Around} {E : Value → Shared → Prop} {s s' s'' : Shared} {s₀ : Base} {env : Env} {tbl : List Str} {N N₀ N₁ N' W W' W₁ W₂ Own : Addr → Prop} {ρ ρ₁ ρ₂ : Rho} {H : Heap} {mg mb : Str → Option Value} {ge : Env} {C ag l g n I : Nat} {st : GS}
theorem GPh.step (G : GPh prog w A env tbl s₀ N W s H C ag l g n st I W₁ ρ₁ s') (hH : Ext H s₀.heap) (S : St w prog env tbl s₀ N W ρ s) (hnew : s.heap.get? ag = none ∧ s.heap.get? C = none) (x : Aft W₁ s' s'') (S'' : St w prog env tbl s₀ (fun a => N a ∨ a = ag ∨ a = C ∨ a = I) W₂ ρ₂ s'')
    (R'' : Frm env tbl (fun a => N a ∨ a = ag ∨ a = C ∨ a = I) W₂) (gr : ∀ a, W₂ a → W₁ a ∨ s'.heap.get? a = none) : GPh prog w A env tbl s₀ N W s H C ag l g n st I W₂ ρ₂ s'' := by
  have nX : ∀ a, (a = ag ∨ a = C ∨ a = I) → s.heap.get? a = none := fun a ha => by
    rcases ha with rfl | rfl | rfl
    · exact hnew.1
    · exact hnew.2
    · exact G.inew
  have lX : ∀ a, (a = ag ∨ a = C ∨ a = I) → ∃ o, s'.heap.get? a = some o := fun a ha => G.S.live a (.inl (.inr ha))
  have wx : ∀ a, (¬ W₁ a) → (∃ o, s'.heap.get? a = some o) → ¬ W₂ a := fun a h1 ⟨o, e⟩ q => by
    rcases gr a q with q | q
    · exact h1 q
    · rw [q] at e; cases e
  refine ⟨S'', R''.less (X := fun a => a = ag ∨ a = C ∨ a = I) (fun a => id) (fun q => ?_) (fun n c hc q => ?_), Aft.trans' G.a x G.gw, fun a ha => ?_,
    ⟨wx _ G.wx.1 (lX _ (.inl rfl)), wx _ G.wx.2.1 (lX _ (.inr (.inl rfl))), wx _ G.wx.2.2.1 (lX _ (.inr (.inr rfl))), wx _ G.wx.2.2.2 G.ll⟩, ?_, G.inew, ?_⟩
  · obtain ⟨m, o, _, _, e, _⟩ := S.ns; rw [nX _ q] at e; cases e
  · obtain ⟨o, e⟩ := S.cellLive hc; rw [nX _ q] at e; cases e
  · rcases gr a ha with q | q
    · exact G.gw a q
    · by_cases hw : W a
      · exact .inl hw
      · right
        cases e : s.heap.get? a with
        | none => rfl
        | some o => rw [G.a.heap a o hw e] at q; cases q
  · obtain ⟨o, e⟩ := G.ll; exact ⟨o, x.heap _ o G.wx.2.2.2 e⟩
  · obtain ⟨isg, gs, hgs, go⟩ := G.run
    refine ⟨?_, gs, x.gens _ _ hgs, fun n' e => ?_⟩
    · obtain ⟨o, nm, qn, ho, r⟩ := isg
      exact ⟨o, nm, qn, x.heap _ o G.wx.1 ho, r⟩
    · obtain ⟨T, hc, hgo⟩ := go n' e
      refine ⟨T, hc, fun s''' hag => hgo s''' fun b o hb e => hag b o hb (x.heap b o (fun q => ?_) e)⟩
      rcases hb with rfl | rfl | rfl | ⟨o', hb⟩
      · exact G.wx.2.1 q
      · exact G.wx.2.2.1 q
      · exact G.wx.2.2.2 q
      · have := G.S.fresh b q
        rw [hH b o' hb] at this; cases this
inductive GLat (prog : Program) (w : World) (A : Around) (env : Env) (tbl : List Str) (s₀ : Base) (N W : Addr → Prop) (s : Shared) (H : Heap) (C ag l g n I : Nat) (K : GS → Rho → (Rho → Fl → Prop) → Prop) (Q : Rho → Fl → Prop) (s' : Shared) : Prop
  | mk (W₁ : Addr → Prop) (ρ₁ : Rho) (st : GS) (G : GPh prog w A env tbl s₀ N W s H C ag l g n st I W₁ ρ₁ s') (q : K st ρ₁ Q) : GLat prog w A env tbl s₀ N W s H C ag l g n I K Q s'
theorem lst_of {d : D} {k : List D → Prop} (h : match d with | .lst ds => k ds | _ => False) : ∃ ds, d = .lst ds ∧ k ds := by
  cases d <;> first | exact ⟨_, rfl, h⟩ | exact h.elim
theorem forgen_exec {k : Nat} (X : Fx mg mb H env s₀ N₀) (hA : Rm k A) {P : Nat → Pos} {kk : Nat → Nat} {gx : Str} (GF : GFn H mg mb P kk gx) (hgx : globName env.scope.names gx = true) {e : Expr} {Pe : Rho → (D → Prop) → Prop} (he : SndE prog w A env tbl s₀ N₀ e Pe) (hst : notStar e = true)
    {t : Nat} {x : Str} {tp : Pos} (ht : tgtName false env.scope.names tbl t (.Name x tp) = true) {body : List Stmt} {Pb : Rho → (Rho → Fl → Prop) → Prop} (hb : SndSs prog w A env tbl s₀ N₀ body Pb) {kill : List Nat} {p q pos : Pos}
    (hN : ∀ a, N₀ a → N a) (S : St w prog env tbl s₀ N W ρ s) (R : Frm env tbl N W) {Q : Rho → Fl → Prop} {Bd : Prop}
    (hq : Pe ρ fun d => match d with
      | .lst ds => ∃ is, ints? ds = some is ∧ match rowBad is with
        | false => ∃ n, genW t kill Pb n (.go none is) ρ Q
        | true => Bd
      | _ => False)
    (hbd : ∀ (s₁ s₂ : Shared) (ag C : Addr) (ge : Env) (l : Addr) (vs : List Value) (rest : List Int), Evl s s₁ → GNew H mg mb P kk l s₁ s₂ ag C ge → ¬ (N l ∨ W l) → s₁.heap.IsList l vs.toArray → IntsAt vs (0 :: rest) → Ext H s₁.heap → Bd →
      wpAny (model prog w) A (runOwn (.forLoop (.Name x tp) (.ref ag) body [] env) env) (PoS w prog env tbl s₀ N W s Q) E s₂) :
    wpAny (model prog w) A (exec (.For (.Name x tp) (.Call (.Name gx q) [e] [] p) body [] pos) env) (PoS w prog env tbl s₀ N W s Q) E s := by
  show wpAny _ _ (do
    standAt pos
    let x ← foldedSetIterable (.Call (.Name gx q) [e] [] p) env (← eval (.Call (.Name gx q) [e] [] p) env)
    standAt (Expr.pos (.Call (.Name gx q) [e] [] p))
    runOwn (.forLoop (.Name _ tp) (← holding [x] (pyIter x)) body [] env) env) _ _ _
  have hfn := GF.fn
  obtain ⟨fa, fo, ap, nm, scope, pm, cd, doc, hm, hfo, hfd, _⟩ := hfn
  have hst' : [e].all notStar = true := by show (notStar e && true) = true; rw [hst]; rfl
  have room : A.depth < recursionLimit := by have := hA.2.1; unfold recursionLimit; (first | lia | omega)
  refine wpAny_bind (wpAny_standAt (wpAny_bind ?_))
  refine wpAny_Call_NameR (name_glob X hgx hm q S.evl.ext (callWith_function (o := fo) (fd := docDef nm ⟨[], [⟨"grouping", none, ap⟩], none, [], [], none, []⟩ (gAll P kk) scope pm cd doc) (args_sound rfl hst' ?_)))
  rw [starEach_cons hst]
  refine spliced_cons (wpAny_mono (he N W ρ s E _ hN S R hq) (fun v s₁ ⟨d, hd, ev₁, r⟩ => spliced_nil ?_) fun _ _ q => q)
  have e1 : Ext H s₁.heap := fun b o q => ev₁.heap b o id (S.evl.heap b o id (X.ext b o q))
  refine ⟨⟨e1 _ _ hfo, hfd⟩, ?_⟩
  obtain ⟨ds, rfl, is, his, hd⟩ := lst_of hd
  obtain ⟨l, vs, rfl, hF, el, rs⟩ := r.view
  have hia := ints_at rs his
  show wpAny _ _ (call (.ref fa) [.ref l]) _ _ _
  refine gen_call GF hm room e1 fun s₂ ag C ge GN => ?_
  cases hbad : rowBad is with
  | true =>
    rw [hbad] at hd
    refine wpAny_bind (wpAny_of_eq (folded_of rfl _) (wpAny_bind (wpAny_standAt (wpAny_bind (wpAny_holding (wpAny_pyIter_gen GN.isg ?_))))))
    obtain ⟨rest, rfl⟩ : ∃ rest, is = 0 :: rest := by
      unfold rowBad at hbad
      split at hbad
      · exact ⟨_, rfl⟩
      · cases hbad
    exact hbd s₁ s₂ ag C ge l vs rest ev₁ GN hF el hia e1 hd
  | false =>
  rw [hbad] at hd
  obtain ⟨n, hq⟩ := hd
  -- what stands now
  have ev₂ : Evl s s₂ := ev₁.trans GN.ev
  have isg := GN.isg
  have gsg := GN.gs
  generalize hg : s₁.gens.size = g at isg gsg
  have lnew : ∀ a, (a = ag ∨ a = C) → s.heap.get? a = none := fun a ha => by
    rcases ha with rfl | rfl
    · exact ev₁.none GN.an
    · exact ev₁.none GN.cn
  have llive : ∃ o, s₁.heap.get? l = some o := by obtain ⟨o, e, _⟩ := el; exact ⟨o, e⟩
  have lC : l ≠ C := fun q => by obtain ⟨o, e⟩ := llive; rw [q, GN.cn] at e; cases e
  have lag : l ≠ ag := fun q => by obtain ⟨o, e⟩ := llive; rw [q, GN.an] at e; cases e
  have gnew : ∀ (i : Nat) (x : GenState), s.gens[i]? = some x → i ≠ g := fun i x e q => by
    have := ev₁.gens i x e
    rw [q, ← hg, Array.getElem?_eq_none (Nat.le_refl _)] at this; cases this
  have Clive : ∃ o, s₂.heap.get? C = some o := by obtain ⟨mm, ⟨o, _, _, e, _⟩, _⟩ := GN.ns; exact ⟨o, e⟩
  have alive : ∃ o, s₂.heap.get? ag = some o := by obtain ⟨o, _, _, e, _⟩ := isg; exact ⟨o, e⟩
  have S₂ : St w prog env tbl s₀ (fun a => N a ∨ a = ag ∨ a = C) W ρ s₂ := S.moreN ev₂ fun a ha => by
    rcases ha with q | rfl | rfl
    · exact .inl q
    · exact .inr ⟨lnew _ (.inl rfl), alive⟩
    · exact .inr ⟨lnew _ (.inr rfl), Clive⟩
  have hEx : ∀ {a : Addr}, s.heap.get? a = none → (∀ o, H.get? a ≠ some o) ∧ s₀.heap.get? a = none ∧ ¬ W a ∧ a ≠ env.locals ∧ (∀ n c, env.cells.lookup n = some c → a ≠ c) := fun {a} ha =>
    ⟨fun o q => (by rw [S.evl.heap a o id (X.ext a o q)] at ha; cases ha), S.evl.none ha, fun q => (by obtain ⟨o, e⟩ := S.live a (.inr q); rw [ha] at e; cases e),
      fun q => (by obtain ⟨m, o, _, _, e, _⟩ := S.ns; rw [← q, ha] at e; cases e), fun n c hc q => (by obtain ⟨o, e⟩ := S.cellLive hc; rw [← q, ha] at e; cases e)⟩
  refine wpAny_bind (wpAny_of_eq (folded_of rfl _) (wpAny_bind (wpAny_standAt (wpAny_bind (wpAny_holding (wpAny_pyIter_gen isg ?_))))))
  -- the first pull makes the list iterator I
  generalize hI : s₂.heap.objs.size = I at *
  have Inew₂ : s₂.heap.get? I = none := hI ▸ fresh_size
  have Inew : s.heap.get? I = none := ev₂.none Inew₂
  -- a turn, from a pull's end on
  have rest : ∀ (n : Nat) (st : GS) (W₁ : Addr → Prop) (ρ₁ : Rho) (s' : Shared) (y : Int) (tk : Tok) (E : Value → Shared → Prop), GPh prog w A env tbl s₀ N W s H C ag l g n st I W₁ ρ₁ s' →
      Pb (ρ₁.set t (some (.sh (.int y)))) (fun ρ' fl => match fl with
        | .next => genW t kill Pb n st (ρ'.clr kill) Q
        | .brk => Q (ρ'.clr kill) .next
        | .ret d => Q (ρ'.clr kill) (.ret d)) →
      wpAny (model prog w) A (assign (.Name x tp) env (.int y tk)) (fun _ s₂ => wpAny (model prog w) A (execs body env) (fun f s₃ => match f with
        | .next | .cont => GLat prog w A env tbl s₀ N W s H C ag l g n I (genW t kill Pb n) Q s₃
        | .brk => PoS w prog env tbl s₀ N W s Q .next s₃
        | .ret v => PoS w prog env tbl s₀ N W s Q (.ret v) s₃) E s₂) E s' := by
    intro n st W₁ ρ₁ s' y tk E GP hq
    have R₂ : Frm env tbl (fun a => N a ∨ a = ag ∨ a = C ∨ a = I) W₁ := GP.R.moreN fun a => .inl
    refine assign_name GP.S R₂ ht (.int y tk) fun s₄ S₄ a₄ => ?_
    have GP₄ := GP.step X.ext S ⟨lnew _ (.inl rfl), lnew _ (.inr rfl)⟩ (a₄.mono fun b q => q.1) S₄ R₂ fun a => .inl
    refine wpAny_mono (hb _ W₁ _ s₄ E _ (fun a ha => .inl (hN a ha)) S₄ R₂ hq) (fun f s₅ ⟨ρ'', fl, W₂, hq₂, hf, S₅, R₅, g₅, a₅⟩ => ?_) fun _ _ q => q
    have GP₅ := GP₄.step X.ext S ⟨lnew _ (.inl rfl), lnew _ (.inr rfl)⟩ a₅ (S₅.clr kill) R₅ g₅
    cases hf with
    | next => exact ⟨W₂, _, st, GP₅, hq₂⟩
    | brk => exact ⟨_, .next, W₂, hq₂, .next, GP₅.S.lessN fun a => .inl, GP₅.R, GP₅.gw, GP₅.a⟩
    | ret r => exact ⟨_, _, W₂, hq₂, .ret (r.anti fun a => Or.imp .inl id), GP₅.S.lessN fun a => .inl, GP₅.R, GP₅.gw, GP₅.a⟩
  -- the state behind a pull
  have stg : ∀ {N₁ W₁ : Addr → Prop} {ρ₁ : Rho} {s' s₃ : Shared} (N₃ : Addr → Prop), St w prog env tbl s₀ N₁ W₁ ρ₁ s' → AftG (GOwn C I) g s' s₃ → (N₁ C) → (N₁ I ∨ s'.heap.get? I = none) → ¬ W₁ C → ¬ W₁ I → (∀ a, GOwn C I a → N₃ a → ∃ o, s₃.heap.get? a = some o) →
      (∀ a, N₃ a → N₁ a ∨ (s'.heap.get? a = none ∧ ∃ o, s₃.heap.get? a = some o)) → St w prog env tbl s₀ N₃ W₁ ρ₁ s₃ := by
    intro N₁ W₁ ρ₁ s' s₃ N₃ S' a h1 h2 h3 h4 h5 h6
    refine S'.gen a.heap (fun i y e => a.gens i y (gnew i y (S.evl.gens i y e)) (S'.evl.gens i y e)) (fun q => a.bare (S'.evl.bare q)) a.os (fun b hb => ?_) h5 h6
    rcases hb with rfl | rfl
    · obtain ⟨_, x1, _, x2, x3⟩ := hEx (lnew _ (.inr rfl)); exact ⟨.inl h1, x1, h3, x2, x3⟩
    · obtain ⟨_, x1, _, x2, x3⟩ := hEx Inew; exact ⟨h2, x1, h4, x2, x3⟩
  have aftg : ∀ {s' s₃ : Shared}, Aft W s s' → AftG (GOwn C I) g s' s₃ → Aft W s s₃ := fun a b => ⟨fun c o hc e => b.heap c o (fun q => by
      rcases q with rfl | rfl
      · rw [lnew _ (.inr rfl)] at e; cases e
      · rw [Inew] at e; cases e) (a.heap c o hc e), fun i y e => b.gens i y (gnew i y e) (a.gens i y e), fun q => b.bare (a.bare q), b.os.trans a.os⟩
  have agI : ¬ GOwn C I ag := fun q => by
    rcases q with q | q
    · exact GN.ne q
    · obtain ⟨o, e⟩ := alive; rw [q, Inew₂] at e; cases e
  have lI : ¬ GOwn C I l := fun q => by
    rcases q with q | q
    · exact lC q
    · obtain ⟨o, e⟩ := llive; rw [← q, GN.ev.heap l o id e] at Inew₂; cases Inew₂
  have CI : C ≠ I := fun q => by obtain ⟨o, e⟩ := Clive; rw [q, Inew₂] at e; cases e
  have WI : ¬ W I := (hEx Inew).2.2.1
  have WC : ¬ W C := (hEx (lnew _ (.inr rfl))).2.2.1
  have Wag : ¬ W ag := (hEx (lnew _ (.inl rfl))).2.2.1
  have Wl : ¬ W l := fun q => hF (.inr q)
  refine wpAny_runOwn (codeAny_forLoop_any (A := A) (fun j s' => (j = n ∧ s' = s₂ ∧ genW t kill Pb n (.go none is) ρ Q) ∨ GLat prog w A env tbl s₀ N W s H C ag l g j I (genW t kill Pb j) Q s') ?_ n (.inl ⟨rfl, rfl, hq⟩))
  rintro j s' (⟨rfl, rfl, hq⟩ | ⟨W₁, ρ₁, st, GP, hq⟩)
  · -- the first pull
    cases j with
    | zero => exact hq.elim
    | succ j =>
      rw [genW] at hq
      have hl₂ : s'.heap.NoLimit := GF.lim.keeps fun b o e => GN.ev.heap b o id (e1 b o e)
      have hgo : GenState.Goes (model prog w) A.in1 (GR (fun m => nth (j - m) (.go none is)) (GOwn ge.locals I)) (GY (fun m => nth (j - m) (.go none is)) (GOwn ge.locals I) (GKeep H ge.locals I l)) (j + 1) (.fresh (.func (gAll P kk) ge)) (.send .none) (s'.setGen g .running) := by
        refine ⟨rfl, ?_⟩
        obtain ⟨mm, hns, hgr⟩ := GN.ns
        have := seg_all (prog := prog) (w := w) (A := A.in1) (T := fun m => nth (j - m) (.go none is)) (H := H) (mg := mg) (mb := mb) (ge := ge) (l := l) (vs := vs) (xs := is) (P := P) (k := kk) (m := j) (s := s'.setGen g .running) (mm := mm) GN.top hA.1
          (by show A.units + 1 + 100 < cLine; have := hA.2.2; unfold cLine; (first | lia | omega)) hia hbad (Cons.start j _) (fun b o e => GN.ev.heap b o id (e1 b o e)) (GN.c ▸ hns) hgr (el.at fun o e => GN.ev.heap _ o id e) (GN.c ▸ lC) (by rw [GN.c]; exact (hEx (lnew _ (.inr rfl))).1)
        rw [show (s'.setGen g .running).heap.objs.size = I from hI] at this
        exact this
      refine gen_pull (n := j) hA.1 hl₂ room isg gsg (Cons.start j _) hgo (fun s₃ hp a₃ => ?_) fun y tk st' s₃ gs' hp a₃ lv hgs' hk => ?_
      · rw [GN.c] at a₃
        rw [hp] at hq
        refine wpAny_pure ⟨_, .next, W, hq, .next, (stg N S₂ a₃ (.inr (.inr rfl)) (.inr Inew₂) WC WI (fun a ha hn => ?_) fun a => (.inl ∘ .inl)).clr kill, R, fun _ => .inl, aftg (Evl.aftW ev₂) a₃⟩
        obtain ⟨o, e⟩ := S.live a (.inl hn)
        rcases ha with rfl | rfl
        · rw [lnew _ (.inr rfl)] at e; cases e
        · rw [Inew] at e; cases e
      · rw [GN.c] at a₃ lv
        rw [hp] at hq
        dsimp only at hq
        refine wpAny_pure ?_
        have S₃ : St w prog env tbl s₀ (fun a => N a ∨ a = ag ∨ a = C ∨ a = I) W ρ s₃ := stg _ S₂ a₃ (.inr (.inr rfl)) (.inr Inew₂) WC WI (fun a ha _ => lv a ha) fun a ha => by
          rcases ha with q | q | q | q
          · exact .inl (.inl q)
          · exact .inl (.inr (.inl q))
          · exact .inl (.inr (.inr q))
          · exact .inr ⟨q ▸ Inew₂, lv a (.inr q)⟩
        have GP : GPh prog w A env tbl s₀ N W s H C ag l g j st' I W ρ s₃ := ⟨S₃, R, aftg (Evl.aftW ev₂) a₃, fun _ => .inl, ⟨Wag, WC, WI, Wl⟩, by
            obtain ⟨o, e⟩ := llive; exact ⟨o, a₃.heap l o lI (GN.ev.heap l o id e)⟩, Inew, by
            obtain ⟨o, nm, qn, ho, r⟩ := isg; exact ⟨o, nm, qn, a₃.heap _ o agI ho, r⟩, gs', hgs', fun n' e => ⟨_, by have := hk n' e; rw [GN.c] at this; exact this⟩⟩
        refine wpAny_mono (rest j st' W ρ s₃ y tk _ GP hq) (fun _ s₄ h₄ => wpAny_mono h₄ (fun f s₅ h₅ => ?_) fun _ _ q => q) fun _ _ q => q
        cases f with
        | next => exact ⟨j, Nat.lt_succ_self _, .inr h₅⟩
        | cont => exact ⟨j, Nat.lt_succ_self _, .inr h₅⟩
        | brk => exact h₅
        | ret v => exact h₅
  · -- a later pull
    cases j with
    | zero => exact hq.elim
    | succ j =>
      rw [genW] at hq
      have hl₂ : s'.heap.NoLimit := GF.lim.keeps fun b o e => GP.S.evl.heap b o id (X.ext b o e)
      obtain ⟨isg', gs, hgs, go⟩ := GP.run
      obtain ⟨T, hc, hgo⟩ := go j rfl
      rw [← GN.c] at hgo
      refine gen_pull (n := j) hA.1 hl₂ room isg' hgs hc (hgo _ fun b o _ e => e) (fun s₃ hp a₃ => ?_) fun y tk st' s₃ gs' hp a₃ lv hgs' hk => ?_
      · rw [GN.c] at a₃
        rw [hp] at hq
        refine wpAny_pure ⟨_, .next, W₁, hq, .next, (stg N GP.S a₃ (.inr (.inr (.inl rfl))) (.inl (.inr (.inr (.inr rfl)))) GP.wx.2.1 GP.wx.2.2.1 (fun a ha hn => ?_) fun a => (.inl ∘ .inl)).clr kill, GP.R, GP.gw, aftg GP.a a₃⟩
        obtain ⟨o, e⟩ := S.live a (.inl hn)
        rcases ha with rfl | rfl
        · rw [lnew _ (.inr rfl)] at e; cases e
        · rw [Inew] at e; cases e
      · rw [GN.c] at a₃ lv
        rw [hp] at hq
        dsimp only at hq
        refine wpAny_pure ?_
        have S₃ : St w prog env tbl s₀ (fun a => N a ∨ a = ag ∨ a = C ∨ a = I) W₁ ρ₁ s₃ := stg _ GP.S a₃ (.inr (.inr (.inl rfl))) (.inl (.inr (.inr (.inr rfl)))) GP.wx.2.1 GP.wx.2.2.1 (fun a ha _ => lv a ha) fun a => .inl
        have GP' : GPh prog w A env tbl s₀ N W s H C ag l g j st' I W₁ ρ₁ s₃ := ⟨S₃, GP.R, aftg GP.a a₃, GP.gw, GP.wx, by
            obtain ⟨o, e⟩ := GP.ll; exact ⟨o, a₃.heap l o lI e⟩, Inew, by
            obtain ⟨o, nm, qn, ho, r⟩ := isg'; exact ⟨o, nm, qn, a₃.heap _ o agI ho, r⟩, gs', hgs', fun n' e => ⟨_, by have := hk n' e; rw [GN.c] at this; exact this⟩⟩
        refine wpAny_mono (rest j st' W₁ ρ₁ s₃ y tk _ GP' hq) (fun _ s₄ h₄ => wpAny_mono h₄ (fun f s₅ h₅ => ?_) fun _ _ q => q) fun _ _ q => q
        cases f with
        | next => exact ⟨j, Nat.lt_succ_self _, .inr h₅⟩
        | cont => exact ⟨j, Nat.lt_succ_self _, .inr h₅⟩
        | brk => exact h₅
        | ret v => exact h₅
theorem sndS_forgen {k : Nat} (X : Fx mg mb H env s₀ N₀) (hA : Rm k A) {P : Nat → Pos} {kk : Nat → Nat} {gx : Str} (GF : GFn H mg mb P kk gx) (hgx : globName env.scope.names gx = true) {e : Expr} {Pe : Rho → (D → Prop) → Prop} (he : SndE prog w A env tbl s₀ N₀ e Pe) (hst : notStar e = true)
    {t : Nat} {x : Str} {tp : Pos} (ht : tgtName false env.scope.names tbl t (.Name x tp) = true) {body : List Stmt} {Pb : Rho → (Rho → Fl → Prop) → Prop} (hb : SndSs prog w A env tbl s₀ N₀ body Pb) {kill : List Nat} {p q pos : Pos} :
    SndS prog w A env tbl s₀ N₀ (.For (.Name x tp) (.Call (.Name gx q) [e] [] p) body [] pos) (fun ρ Q => Pe ρ fun d => match d with
      | .lst ds => ∃ is, ints? ds = some is ∧ match rowBad is with
        | false => ∃ n, genW t kill Pb n (.go none is) ρ Q
        | true => False
      | _ => False) := fun N W ρ s E Q hN S R hq =>
  forgen_exec (Bd := False) (kill := kill) X hA GF hgx he hst ht hb hN S R hq fun _ _ _ _ _ _ _ _ _ _ _ _ _ _ hf => hf.elim
end
end Mine
end
section
open PySem PySem.Calls PyProof.Rows
namespace Mine
section
variable {prog : Program} {w : World} {A : Around} {E : Value → Shared → Prop} {s s' s₂ : Shared} {s₀ : Base} {env : Env} {tbl : List Str} {N W W' N₀ : Addr → Prop} {ρ : Rho} {F : Addr → Prop} {mg mb : Str → Option Value} {H : Heap}
theorem sndC_mono {ex : Expr} {P P' : Rho → (Bool → Prop) → Prop} (k : ∀ ρ Q, P' ρ Q → P ρ Q) (h : SndC prog w A env tbl s₀ N₀ ex P) : SndC prog w A env tbl s₀ N₀ ex P' := fun N W ρ s E Q hN S R hq => h N W ρ s E Q hN S R (k ρ Q hq)
theorem sndI_mono {ex : Expr} {tp sf : Bool} {P P' : Rho → (List D → Prop) → Prop} (k : ∀ ρ Q, P' ρ Q → P ρ Q) (h : SndI prog w A env tbl s₀ N₀ tp sf ex P) : SndI prog w A env tbl s₀ N₀ tp sf ex P' :=
  ⟨h.1, fun N W ρ s E Q hN S R hq => h.2 N W ρ s E Q hN S R (k ρ Q hq)⟩
theorem snd_oinC (hS : N₀ sysModules) (hu : A.units + 20 < cLine) {j : Nat} {x : Str} (hx : tbl[j]? = some x) {op : Cop} (hop : op = .isin ∨ op = .notin) {e : Expr} {P : Rho → (D → Prop) → Prop} (p q : Pos) (h : SndE prog w A env tbl s₀ N₀ e P) :
    SndC prog w A env tbl s₀ N₀ (.Compare e [op.op] [.Name x q] p) (fun ρ Q => P ρ fun a => match ρ.at j with
      | some (.ol ds) => cmpW op a (.lst ds) Q
      | some (.od ds) => cmpW op a (.dct ds) Q
      | _ => False) := fun N W ρ s E Q hN S R hq => by
  have hpn := (R.plain x (List.mem_of_getElem? hx)).1
  have hni : op ≠ .isnone := by rcases hop with rfl | rfl <;> simp
  refine wpAny_isTrue_Compare1 (wpAny_mono (h N W ρ s E _ hN S R hq) (fun v s₁ ⟨d, hd, ev, ra⟩ => ?_) fun _ _ q => q) (behind_of rfl)
  have S₁ := S.step ev
  have go : ∀ {lv : LV} {dv : D}, ρ.at j = some lv → toLV dv = some lv → cmpW op d dv Q → wpAny (model prog w) A (eval (.Name x q) env) (fun b s₂ => wpAny (model prog w) A (compareOp op.op v b) (fun c s₃ => wpAny (model prog w) A (truthy c) (PoB s Q) E s₃) E s₂) E s₁ := by
    intro lv dv hd' hlv hq
    obtain ⟨u, hld, hc, _⟩ := ocmp_sound (Q := Q) hS hu hx hN S₁ R hd' hlv
    refine wpAny_Name (hld A E _ s₁ (.refl _ _) ?_) hpn
    refine wpAny_mono (hc op v d s₁ E hni (.refl _ _) ra hq) (fun c s₃ ⟨b, hb, hq, ev₃⟩ => ?_) fun _ _ q => q
    subst hb
    exact wpAny_truthy_bool ⟨hq, ev.trans ev₃⟩
  try dsimp only at hd
  split at hd
  · rename_i ds hd'; exact go hd' rfl hd
  · rename_i ds hd'; exact go hd' rfl hd
  · exact hd.elim
theorem snd_callo (X : Fx mg mb H env s₀ N₀) {RmOk : Around → Prop} (hr : RmOk A) {f : Str} {Xf : List D → (D → Prop) → Prop} (K : FnOk prog w H mg RmOk f Xf) {j : Nat} {x : Str} (hx : tbl[j]? = some x) {e : Expr} {es₂ : List Expr} {P : Rho → (D → Prop) → Prop} {Ps₂ : Rho → (List D → Prop) → Prop}
    (hf : globName env.scope.names f = true) (hst : notStar e = true) (hst₂ : es₂.all notStar = true) (p q qx : Pos) (h : SndE prog w A env tbl s₀ N₀ e P) (h₂ : SndEs prog w A env tbl s₀ N₀ es₂ Ps₂) :
    SndE prog w A env tbl s₀ N₀ (.Call (.Name f q) (e :: .Name x qx :: es₂) [] p) (fun ρ Q => P ρ fun d => match ρ.at j with
      | some (.ol xs) => Ps₂ ρ fun ds₂ => Xf (d :: .lst xs :: ds₂) fun d => noLst d = true ∧ Q d
      | _ => False) := fun N W ρ s E Q hN S R hq => by
  have hpn := (R.plain x (List.mem_of_getElem? hx)).1
  obtain ⟨a, o, fd, hm, ho, hd, hc⟩ := K.fn
  have hall : (e :: .Name x qx :: es₂).all notStar = true := by
    show (notStar e && (true && es₂.all notStar)) = true
    rw [hst, hst₂]; rfl
  refine wpAny_Call_NameR (name_glob X hf hm q S.evl.ext ?_)
  refine callWith_function (o := o) (fd := fd) (args_sound rfl hall ?_)
  rw [starEach_cons hst, starEach_cons (e := .Name x qx) rfl]
  refine spliced_cons (wpAny_mono (h N W ρ s E _ hN S R hq) (fun v s₁ ⟨d, hq₁, ev₁, r₁⟩ => ?_) fun _ _ q => q)
  have S₁ := S.step ev₁
  try dsimp only at hq₁
  split at hq₁
  · rename_i xs hxs
    obtain ⟨vx, fp, ⟨ax, vxs, rfl, hfp, el, rx⟩, hW, hnd, hld, _⟩ := S₁.own R hx hxs rfl
    subst hfp
    refine spliced_cons (wpAny_Name (hld A E _ s₁ (.refl _ _) ?_) hpn)
    refine wpAny_mono (h₂ p N W ρ s₁ E _ hN S₁ R hq₁) (fun vs₂ s₂ ⟨ds₂, hq₂, ev₂, r₂⟩ => ?_) fun _ _ q => q
    have ev := ev₁.trans ev₂
    have e1 : Ext H s₂.heap := fun b o q => ev.heap b o id (S.evl.heap b o id (X.ext b o q))
    refine ⟨⟨e1 _ _ ho, hd⟩, ?_⟩
    have lF : Live (fun b => (N b ∨ W b) ∧ b ≠ ax) s₂ := fun b hb => Live.step S.live ev b hb.1
    have el₂ : s₂.heap.IsList ax vxs.toArray := (el.keep fun o q => ev₂.heap _ _ id q).list
    have na : ∀ b, ((N b ∨ W b) ∧ b ≠ ax) → N b ∨ W b := fun b => And.left
    have r : Reps w prog (fun b => (N b ∨ W b) ∧ b ≠ ax) s₂.heap (v :: .ref ax :: vs₂) (d :: .lst xs :: ds₂) :=
      .cons ((r₁.ext ev₂.ext).anti na) (.cons (.lst (fun q => q.2 rfl) el₂ ((rx.ext ev₂.ext).anti na)) (r₂.anti na))
    refine wpAny_mono (hc A s₂ _ _ _ _ E hr e1 lF ⟨.inl (hN _ X.sys), fun q => (hW ax (.head _)).2 (q ▸ hN _ X.sys)⟩ r hq₂) (fun v s₃ ⟨d', ⟨hn, hq⟩, ev₃, r'⟩ => ⟨d', hq, ev.trans ev₃, ?_⟩) fun _ _ q => q
    refine r'.noL hn fun b hb => ?_
    by_cases q : b = ax
    · subst q; exact .inr ⟨_, el₂.at fun o e => ev₃.heap _ o id e⟩
    · exact .inl ⟨hb, q⟩
  · exact hq₁.elim
theorem snd_strexc (X : Fx mg mb H env s₀ N₀) (hu : A.units + 20 < cLine) {j : Nat} {x : Str} (hx : tbl[j]? = some x) (hl : globName env.scope.names "str" = true) (p q q' : Pos) :
    SndE prog w A env tbl s₀ N₀ (.Call (.Name "str" q) [.Name x q'] [] p) (fun ρ Q => match ρ.at j with | some (.exc m) => Q (.str m) | _ => False) := fun N W ρ s E Q hN S R hq => by
  dsimp only at hq
  split at hq
  · rename_i m hd
    obtain ⟨v, fp, ⟨e, t, tk, dd, sl, rest, rfl, hfp, ho, ⟨n, ht⟩, hnt⟩, hW, hnd, hld, _⟩ := S.own R hx hd rfl
    refine wpAny_Call_NameR (name_bi X hl (v := .type "str") (List.mem_of_getElem? (i := 10) rfl) q S.evl.ext ?_)
    refine PySem.callWith_type (plain_trees rfl p) (args_sound rfl rfl (spliced_cons (wpAny_Name (hld A E _ s (.refl _ _) (spliced_nil ?_)) (R.plain x (List.mem_of_getElem? hx)).1)))
    rw [List.nil_append]
    refine PySem.P.str_of_exc_one (X := "ValueError") (t0 := t) PySem.F.excStr_ValueError (by (first | lia | omega)) ⟨_, _, ho, rfl, rfl, by rw [Array.getElem?_append_left (by simp)]; rfl⟩ ⟨_, n, ht, rfl, rfl⟩ ⟨_, hq, .refl _ _, .str m tk⟩
  · exact hq.elim
end
end Mine
end
section
open PySem PySem.Calls PyProof.Rows
namespace Mine
section
variable {prog : Program} {w : World} {A : Around} {E : Value → Shared → Prop} {s s' s₂ : Shared} {s₀ : Base} {env : Env} {tbl tbl' : List Str} {N W W' N₀ : Addr → Prop} {ρ : Rho} {F : Addr → Prop} {mg mb : Str → Option Value} {H : Heap} {scope : Scope} {cap : List (Option Nat)} {tp tp₂ : Bool}
theorem snd_dc2 (hh : A.handled = none) {kx vx iter e iter₂ e₂ : Expr} {ifs ifs₂ : List Expr} {t t₂ : Tgt} (pos : Pos)
    (ok : scopeOk scope.names env.scope.names tbl tbl' cap = true) (hk : scope.kind = .function) {PI PI₂ : Rho → (List D → Prop) → Prop} {Pifs Pifs₂ : Rho → (Bool → Prop) → Prop} {Pk Pv : Rho → (D → Prop) → Prop}
    (hit : SndI prog w A env tbl s₀ N₀ tp true iter PI) (ht : okT true (relabel scope env).names tbl' t e = true) (htp : tp = true → ∃ es k p, e = .Tuple es k p) (hc : ∀ i ∈ t.names, cap[i]? = some none)
    (hit₂ : ∀ cl C, SndI prog w A (compEnvC scope cl C env) tbl' s₀ N₀ tp₂ true iter₂ PI₂) (ht₂ : okT true (relabel scope env).names tbl' t₂ e₂ = true) (htp₂ : tp₂ = true → ∃ es k p, e₂ = .Tuple es k p) (hc₂ : ∀ i ∈ t₂.names, cap[i]? = some none ∧ i ∉ t.names)
    (hifs : ∀ cl C, SndIfs prog w A (compEnvC scope cl C env) tbl' s₀ N₀ ifs Pifs) (hifs₂ : ∀ cl C, SndIfs prog w A (compEnvC scope cl C env) tbl' s₀ N₀ ifs₂ Pifs₂) (hkx : ∀ cl C, SndE prog w A (compEnvC scope cl C env) tbl' s₀ N₀ kx Pk) (hvx : ∀ cl C, SndE prog w A (compEnvC scope cl C env) tbl' s₀ N₀ vx Pv) :
    SndK prog w A env tbl s₀ N₀ (.DictComp kx vx [⟨e, iter, ifs, 0⟩, ⟨e₂, iter₂, ifs₂, 0⟩] scope pos) (fun ρ Q => PI ρ fun ds => loopW (fun d acc C => asgW t d (capture ρ cap) fun ρ' => Pifs ρ' fun b => match b with
      | true => PI₂ ρ' fun ds₂ => loopW (fun d acc C => asgW t₂ d ρ' fun ρ'' => Pifs₂ ρ'' fun b => match b with | true => Pk ρ'' (fun dk => Pv ρ'' fun dv => putW acc dk dv C) | false => C acc) ds₂ acc C
      | false => C acc) ds (.dct []) Q) :=
  ⟨rfl, fun N W ρ s E Q use Qf hN S R hq hfin => dictcomp2 hh S R hN ok hk hit ht htp hc hit₂ ht₂ htp₂ hc₂ hifs hifs₂ hkx hvx hq fun s' Dd Cc ds hq ev h1 h2 hne ⟨vs, el, rs⟩ hm => hfin s' Dd Cc (.dct ds) (.od ds) rfl hq ev h1 h2 hne (by obtain ⟨o, _, _, e, _⟩ := el; exact ⟨o, e⟩) ⟨Dd, vs, rfl, rfl, el, rs⟩ hm⟩
end
end Mine
end
section
open PySem PySem.Calls PyProof.Rows
namespace Mine
noncomputable def ZCall (prog : Program) (w : World) (A : Around) (env : Env) (tbl : List Str) (s₀ : Base) (N₀ : Addr → Prop) (a : Addr) (Xf : List D → (D → Prop) → Prop) : Prop :=
  ∀ (N W : Addr → Prop) (ρ : Rho) (s : Shared) (vs : List Value) (ds : List D) (Q : D → Prop) (E : Value → Shared → Prop), (∀ a, N₀ a → N a) → St w prog env tbl s₀ N W ρ s → Frm env tbl N W → Reps w prog (fun a => N a ∨ W a) s.heap vs ds → Xf ds Q →
    wpAny (model prog w) A (call (.ref a) vs) (fun v s' => ∃ d, Q d ∧ Rep w prog (fun a => N a ∨ W a) s'.heap v d ∧ St w prog env tbl s₀ N W ρ s' ∧ Aft W s s') E s
structure ZFn (prog : Program) (w : World) (A : Around) (env : Env) (tbl : List Str) (s₀ : Base) (N₀ : Addr → Prop) (H : Heap) (mg : Str → Option Value) (x : Str) (Xf : List D → (D → Prop) → Prop) : Prop where
  fn : ∃ a o fd, mg x = some (.ref a) ∧ H.get? a = some o ∧ o.data = .func fd ∧ ZCall prog w A env tbl s₀ N₀ a Xf
section
variable {prog : Program} {w : World} {A : Around} {E : Value → Shared → Prop} {s s' s₂ : Shared} {s₀ : Base} {env : Env} {tbl : List Str} {N W W' N₀ : Addr → Prop} {ρ : Rho} {F : Addr → Prop} {mg mb : Str → Option Value} {H : Heap}
theorem St.ext (S : St w prog env tbl s₀ N W ρ s) (X : Fx mg mb H env s₀ N₀) : Ext H s.heap := fun b o q => S.evl.heap b o id (X.ext b o q)
theorem zcall_eval (X : Fx mg mb H env s₀ N₀) {f : Str} {Xf : List D → (D → Prop) → Prop} (K : ZFn prog w A env tbl s₀ N₀ H mg f Xf) {es : List Expr} {Ps : Rho → (List D → Prop) → Prop} (hf : globName env.scope.names f = true) (hne : es.isEmpty = false) (hst : es.all notStar = true) (p q : Pos) (h : SndEs prog w A env tbl s₀ N₀ es Ps)
    (hN : ∀ a, N₀ a → N a) (S : St w prog env tbl s₀ N W ρ s) (R : Frm env tbl N W) {Q : D → Prop} (hq : Ps ρ fun ds => Xf ds Q) :
    wpAny (model prog w) A (eval (.Call (.Name f q) es [] p) env) (fun v s' => ∃ d, Q d ∧ Rep w prog (fun a => N a ∨ W a) s'.heap v d ∧ St w prog env tbl s₀ N W ρ s' ∧ Aft W s s') E s := by
  obtain ⟨a, o, fd, hm, ho, hd, hc⟩ := K.fn
  refine wpAny_Call_NameR (name_glob X hf hm q S.evl.ext ?_)
  refine callWith_function (o := o) (fd := fd) (args_sound hne hst (wpAny_mono (h p N W ρ s E _ hN S R hq) (fun vs s₁ ⟨ds, hq, ev, r⟩ => ?_) fun _ _ q => q))
  have S₁ := S.step ev
  exact ⟨⟨S₁.ext X _ _ ho, hd⟩, wpAny_mono (hc N W ρ s₁ vs ds Q E hN S₁ R r hq) (fun v s₂ ⟨d, hq, r', S', a'⟩ => ⟨d, hq, r', S', (Evl.aftW ev).trans a'⟩) fun _ _ q => q⟩
theorem sndS_zif (X : Fx mg mb H env s₀ N₀) {f : Str} {Xf : List D → (D → Prop) → Prop} (K : ZFn prog w A env tbl s₀ N₀ H mg f Xf) {es : List Expr} {Ps : Rho → (List D → Prop) → Prop} (hf : globName env.scope.names f = true) (hne : es.isEmpty = false) (hst : es.all notStar = true) (p q : Pos) (h : SndEs prog w A env tbl s₀ N₀ es Ps)
    {c₁ c₂ : Expr} {P₁ P₂ : Rho → (Bool → Prop) → Prop} (h1 : SndC prog w A env tbl s₀ N₀ c₁ P₁) (h2 : SndC prog w A env tbl s₀ N₀ c₂ P₂) {body : List Stmt} {Pb : Rho → (Rho → Fl → Prop) → Prop} (hb : SndSs prog w A env tbl s₀ N₀ body Pb) (np bp pos : Pos) :
    SndS prog w A env tbl s₀ N₀ (.If (.BoolOp .Or [c₁, c₂, .UnaryOp .Not (.Call (.Name f q) es [] p) np] bp) body [] pos) (fun ρ Q => P₁ ρ fun a => match a with
      | true => Pb ρ Q
      | false => P₂ ρ fun b => match b with
        | true => Pb ρ Q
        | false => Ps ρ fun ds => Xf ds fun d => truthW d fun t => match t with
          | true => Q ρ .next
          | false => Pb ρ Q) := fun N W ρ s E Q hN S R hq => by
  have go : ∀ (s₁ : Shared), St w prog env tbl s₀ N W ρ s₁ → Aft W s s₁ → Pb ρ Q → wpAny (model prog w) A (execs body env) (PoS w prog env tbl s₀ N W s Q) E s₁ := fun s₁ S₁ a₁ hq =>
    wpAny_mono (hb N W ρ s₁ E Q hN S₁ R hq) (fun f s₂ h₂ => h₂.trans (fun _ => .inl) a₁) fun _ _ q => q
  refine wpAny_If (wpAny_isTrue_BoolOp ?_)
  show wpAny _ _ (do
    match BoolOp.Or, ← isTrue c₁ env (eval c₁ env) with
    | .And, false => pure false
    | .Or, true => pure true
    | _, _ => allTrue .Or [c₂, .UnaryOp .Not (.Call (.Name f q) es [] p) np] env) _ _ _
  refine wpAny_bind (wpAny_mono (h1 N W ρ s E _ hN S R hq) (fun a s₁ ⟨hq₁, ev₁⟩ => ?_) fun _ _ q => q)
  cases a with
  | true =>
    refine wpAny_pure ?_
    rw [if_pos rfl]
    exact go s₁ (S.step ev₁) (Evl.aftW ev₁) hq₁
  | false =>
    show wpAny _ _ (do
      match BoolOp.Or, ← isTrue c₂ env (eval c₂ env) with
      | .And, false => pure false
      | .Or, true => pure true
      | _, _ => allTrue .Or [.UnaryOp .Not (.Call (.Name f q) es [] p) np] env) _ _ _
    refine wpAny_bind (wpAny_mono (h2 N W ρ s₁ E _ hN (S.step ev₁) R hq₁) (fun b s₂ ⟨hq₂, ev₂⟩ => ?_) fun _ _ q => q)
    have S₂ := (S.step ev₁).step ev₂
    cases b with
    | true =>
      refine wpAny_pure ?_
      rw [if_pos rfl]
      exact go s₂ S₂ (Evl.aftW (ev₁.trans ev₂)) hq₂
    | false =>
      show wpAny _ _ (do
        match BoolOp.Or, ← isTrue (.UnaryOp .Not (.Call (.Name f q) es [] p) np) env (eval (.UnaryOp .Not (.Call (.Name f q) es [] p) np) env) with
        | .And, false => pure false
        | .Or, true => pure true
        | _, _ => allTrue .Or [] env) _ _ _
      refine wpAny_bind (wpAny_isTrue_Not (wpAny_isTrue_value (wpAny_mono (zcall_eval X K hf hne hst p q h hN S₂ R hq₂) (fun v s₃ ⟨d, hd, r, S₃, a₃⟩ => ?_) fun _ _ q => q) rfl))
      refine wpAny_mono (truth_sound r hd) (fun t s₄ ⟨ht, ev₄⟩ => ?_) fun _ _ q => q
      have S₄ := S₃.step ev₄
      have a₄ : Aft W s s₄ := ((Evl.aftW (ev₁.trans ev₂)).trans a₃).trans (Evl.aftW ev₄)
      cases t with
      | true =>
        refine wpAny_pure ?_
        rw [if_neg (by decide)]
        exact wpAny_pure (pos_keep S₄ R a₄ ht)
      | false =>
        refine wpAny_pure ?_
        rw [if_pos rfl]
        exact go s₄ S₄ a₄ ht
end
end Mine
end
section
open PySem PySem.Calls PyProof.Rows
namespace Mine
structure Cx where
  names : List (Str × NameKind)
  tbl : List Str
  fns : List Str
  gen : Str
  hn : Bool
  np : List Nat
  zs : List Nat
  tr : Bool
noncomputable def relN (names pnames : List (Str × NameKind)) : List (Str × NameKind) := names.map fun p => if p.2 == .free && pnames.lookup p.1 == some .cell then (p.1, .cell) else p
noncomputable def Cx.inner (c : Cx) (sc : Scope) (nt : List Str) : Cx := { c with names := relN sc.names c.names, tbl := nt, zs := [], tr := false }
noncomputable def Cx.at (c : Cx) (i : Nat) (x : Str) : Bool := c.tbl[i]? == some x
noncomputable def isTupT : Expr → Bool | .Tuple _ _ _ => true | _ => false
noncomputable def tpI : I → Bool | .enum _ => true | .zip _ => true | .items _ => true | _ => false
noncomputable def sfI : I → Bool | .items _ => false | _ => true
noncomputable def noneFree (t : Tgt) (cap : List (Option Nat)) : Bool := t.names.all fun i => cap[i]? == some none
noncomputable def biOk (b : Bi) (x : Str) : Bool := match b with
  | .isTuple => false
  | b => x == (b.name : Str)
theorem swap_name (x : Str) (p : Pos) (env : Env) (ts : List Expr) : swappedStores ts (.Name x p) env = pure none := by
  cases ts with
  | nil => rfl
  | cons t r => cases r with
    | nil => cases t <;> rfl
    | cons _ _ => cases t <;> rfl
noncomputable def Cx.hand (c : Cx) : Cx := { c with hn := false, zs := [], tr := false }
structure Ok (prog : Program) (w : World) (H : Heap) (mg mb : Str → Option Value) (X : Fns) (c : Cx) (A : Around) (env : Env) (s₀ : Base) (N₀ : Addr → Prop) : Prop where
  fx : Fx mg mb H env s₀ N₀
  nm : env.scope.names = c.names
  hu : A.units + 20 < cLine
  hh : c.hn = true → A.handled = none
  fn : c.hn = true → ∀ f x, c.fns[f]? = some x → c.np.contains f = false → FnOk prog w H mg (fun A' => A' = A) x (X f)
section
variable {prog : Program} {w : World} {A : Around} {E : Value → Shared → Prop} {s s' s₂ : Shared} {s₀ : Base} {env : Env} {tbl : List Str} {N W W' N₀ : Addr → Prop} {ρ : Rho} {F : Addr → Prop} {mg mb : Str → Option Value} {H : Heap} {X : Fns} {c : Cx}
theorem forIn_false : ∀ (ifs : List Expr), (forIn ifs false fun c r => if r = true then do let ok ← isTrue c env (eval c env); pure (ForInStep.yield ok) else pure (ForInStep.yield r) : Sem Bool) = pure false
  | [] => rfl
  | c :: cs => by
    rw [List.forIn_cons]
    show ((pure (ForInStep.yield false) : Sem _) >>= _) = _
    exact forIn_false cs
theorem snd_ifs_nil : SndIfs prog w A env tbl s₀ N₀ [] (fun _ Q => Q true) := fun N W ρ s E Q hN S R hq => by
  unfold ifsRun
  rw [List.forIn_nil]
  exact wpAny_pure ⟨hq, .refl _ _⟩
theorem snd_ifs_cons {e : Expr} {es : List Expr} {P Ps : Rho → (Bool → Prop) → Prop} (h : SndC prog w A env tbl s₀ N₀ e P) (hs : SndIfs prog w A env tbl s₀ N₀ es Ps) :
    SndIfs prog w A env tbl s₀ N₀ (e :: es) (fun ρ Q => P ρ fun b => match b with | true => Ps ρ Q | false => Q false) := fun N W ρ s E Q hN S R hq => by
  unfold ifsRun
  rw [List.forIn_cons]
  show wpAny _ _ ((isTrue e env (eval e env) >>= fun ok => pure (ForInStep.yield ok)) >>= _) _ _ _
  refine wpAny_bind (wpAny_bind (wpAny_mono (h N W ρ s E _ hN S R hq) (fun b s₁ ⟨hb, ev⟩ => wpAny_pure ?_) fun _ _ q => q))
  cases b with
  | true => exact wpAny_mono (hs N W ρ s₁ E Q hN (S.step ev) R hb) (fun b s₂ ⟨hb, ev₂⟩ => ⟨hb, ev.trans ev₂⟩) fun _ _ q => q
  | false =>
    show wpAny _ _ (forIn es false _) _ _ _
    exact wpAny_of_eq (forIn_false es) ⟨hb, ev⟩
theorem relabel_names (sc : Scope) (hk : env.scope.kind = .function) : (relabel sc env).names = relN sc.names env.scope.names := by
  show sc.names.map _ = _
  unfold relN
  refine List.map_congr_left fun p _ => ?_
  obtain ⟨n, k⟩ := p
  show (if (k == .free && env.scope.kind == .function && env.kindOf n == some .cell) = true then (n, NameKind.cell) else (n, k)) = _
  have e : env.kindOf n = env.scope.names.lookup n := rfl
  rw [hk, e]
  simp
theorem Ok.inner (K : Ok prog w H mg mb X c A env s₀ N₀) {sc : Scope} (hk : sc.kind = .function) (nt : List Str) (cl : List (Str × Addr)) (C : Addr) : Ok prog w H mg mb X (c.inner sc nt) A (compEnvC sc cl C env) s₀ N₀ where
  fx := ⟨K.fx.gl, K.fx.ext, K.fx.glob, K.fx.bns, hk, K.fx.sys⟩
  nm := by
    show (relabel sc env).names = relN sc.names c.names
    rw [relabel_names sc K.fx.kind, K.nm]
  hu := K.hu
  hh := K.hh
  fn := K.fn
theorem bi_mem {b : Bi} {x : Str} (h : biOk b x = true) : (x, .builtin b.name) ∈ biTab ∧ b.more = [] := by
  cases b <;> first | cases h | (simp only [biOk, beq_iff_eq] at h; subst h; refine ⟨?_, rfl⟩; first | exact List.mem_of_getElem? (i := 0) rfl | exact List.mem_of_getElem? (i := 1) rfl | exact List.mem_of_getElem? (i := 2) rfl | exact List.mem_of_getElem? (i := 3) rfl | exact List.mem_of_getElem? (i := 4) rfl)
theorem isTup_of {t : Expr} (h : isTupT t = true) : ∃ es k p, t = .Tuple es k p := by cases t <;> first | exact ⟨_, _, _, rfl⟩ | cases h
theorem tp_tgt {b : Bool} {t : Expr} (h : (!b || isTupT t) = true) : b = true → ∃ es k p, t = .Tuple es k p := fun q => by subst q; exact isTup_of (by simpa using h)
theorem noneFree_at {t : Tgt} {cap : List (Option Nat)} (h : noneFree t cap = true) : ∀ i ∈ t.names, cap[i]? = some none := fun i hi => by
  have := List.all_eq_true.mp h i hi
  simpa using this
end
noncomputable def TryLem (prog : Program) (w : World) (A : Around) (env : Env) (tbl : List Str) (s₀ : Base) (N₀ : Addr → Prop) (gx : Str) : Prop :=
  ∀ {e : Expr} {Pe : Rho → (D → Prop) → Prop} {t : Nat} {x n : Str} {tp fp p q hp vp np pos : Pos} {body hs : List Stmt} {h : Stmt} {Pb Ph : Rho → (Rho → Fl → Prop) → Prop} {kill : List Nat} {j : Nat},
    globName env.scope.names gx = true → SndE prog w A env tbl s₀ N₀ e Pe → notStar e = true → tgtName false env.scope.names tbl t (.Name x tp) = true → SndSs prog w A env tbl s₀ N₀ body Pb →
    globName env.scope.names "ValueError" = true → tgtName true env.scope.names tbl j (.Name n np) = true → (∀ A' : Around, A'.units + 20 < cLine → SndSs prog w A' env tbl s₀ N₀ (h :: hs) Ph) →
    SndS prog w A env tbl s₀ N₀ (.Try [.For (.Name x tp) (.Call (.Name gx q) [e] [] p) body [] fp] [.ExceptHandler (some (.Name "ValueError" vp)) (some n) (h :: hs) hp] [] [] pos) (fun ρ Q => Pe ρ fun d => match d with
      | .lst ds => ∃ is, ints? ds = some is ∧ match rowBad is with
        | false => ∃ n, genW t kill Pb n (.go none is) ρ Q
        | true => j < ρ.length ∧ Ph (ρ.set j (some (.exc "invalid grouping"))) fun ρ' fl => Q (ρ'.set j none) fl
      | _ => False)
structure OkS (prog : Program) (w : World) (H : Heap) (mg mb : Str → Option Value) (X : Fns) (c : Cx) (A : Around) (env : Env) (s₀ : Base) (N₀ : Addr → Prop) : Prop where
  ok : Ok prog w H mg mb X c A env s₀ N₀
  gn : c.hn = true → (∃ k, Rm k A) ∧ ∃ P kk, GFn H mg mb P kk c.gen
  zf : c.hn = true → ∀ f x, c.zs.contains f = true → c.fns[f]? = some x → ZFn prog w A env c.tbl s₀ N₀ H mg x (X f)
  tr : c.tr = true → TryLem prog w A env c.tbl s₀ N₀ c.gen
section
variable {prog : Program} {w : World} {mg mb : Str → Option Value} {H : Heap} {X : Fns}
theorem OkS.hand {c : Cx} {A A' : Around} {env : Env} {s₀ : Base} {N₀ : Addr → Prop} (K : OkS prog w H mg mb X c A env s₀ N₀) (hu : A'.units + 20 < cLine) : OkS prog w H mg mb X c.hand A' env s₀ N₀ where
  ok := ⟨K.ok.fx, K.ok.nm, hu, (by intro q; cases q), (by intro q; cases q)⟩
  gn := by intro q; cases q
  zf := by intro q; cases q
  tr := by intro q; cases q
theorem frz_go {i : Nat} {ρ : Rho} {Q : Rho → Fl → Prop} {ss : List S} (h : match ρ.at i with | some lv => ∃ d, lv.froz = some d ∧ (match Fl.next with | .next => exSs X ss (ρ.set i (some (.sh d))) Q | fl => Q (ρ.set i (some (.sh d))) fl) | none => False) :
    match ρ.at i with | some lv => ∃ d, lv.froz = some d ∧ exSs X ss (ρ.set i (some (.sh d))) Q | none => False := by
  split at h
  · obtain ⟨d, h1, h2⟩ := h
    exact ⟨d, h1, h2⟩
  · exact h.elim
end
end Mine
end
section
open PySem PySem.Calls PyProof.Rows
namespace Mine
section
variable {prog : Program} {w : World} {mg mb : Str → Option Value} {H : Heap} {X : Fns} {c : Cx} {A : Around} {env : Env} {s₀ : Base} {N₀ : Addr → Prop}
theorem dInt {i : Int} {k : Nat} {p : Pos} : SndE prog w A env c.tbl s₀ N₀ (.Constant (.int i) k p) (evE X (.int i)) := snd_const_int i k p
theorem dStr {x : Str} {k : Nat} {p : Pos} : SndE prog w A env c.tbl s₀ N₀ (.Constant (.str x) k p) (evE X (.str x)) := snd_const_str x k p
theorem dBool {b : Bool} {k : Nat} {p : Pos} : SndE prog w A env c.tbl s₀ N₀ (.Constant (.bool b) k p) (evE X (.bool b)) := snd_const_bool b k p
theorem dVar {i : Nat} {x : Str} {p : Pos} (h : c.tbl[i]? = some x) : SndE prog w A env c.tbl s₀ N₀ (.Name x p) (evE X (.var i)) := snd_var p h
theorem dBin (op : Bop) {l r : E} {a b : Expr} {p : Pos} (hl : SndE prog w A env c.tbl s₀ N₀ a (evE X l)) (hr : SndE prog w A env c.tbl s₀ N₀ b (evE X r)) : SndE prog w A env c.tbl s₀ N₀ (.BinOp a op.op b p) (evE X (.bin op l r)) := snd_bin p hl hr
theorem dNil : SndEs prog w A env c.tbl s₀ N₀ [] (evEs X []) := snd_nil
theorem dCons {e : E} {es : List E} {x : Expr} {xs : List Expr} (n : notStar x = true) (h : SndE prog w A env c.tbl s₀ N₀ x (evE X e)) (hs : SndEs prog w A env c.tbl s₀ N₀ xs (evEs X es)) : SndEs prog w A env c.tbl s₀ N₀ (x :: xs) (evEs X (e :: es)) := snd_cons n h hs
theorem dTup {es : List E} {xs : List Expr} {k : Nat} {p : Pos} (h : SndEs prog w A env c.tbl s₀ N₀ xs (evEs X es)) : SndE prog w A env c.tbl s₀ N₀ (.Tuple xs k p) (evE X (.tup es)) := snd_tup k p h
theorem oLst {es : List E} {xs : List Expr} {p : Pos} (h : SndEs prog w A env c.tbl s₀ N₀ xs (evEs X es)) : SndO prog w A env c.tbl s₀ N₀ (.List xs p) (evE X (.lst es)) := snd_lst p h
theorem oDct0 {p : Pos} : SndO prog w A env c.tbl s₀ N₀ (.Dict [] [] p) (evE X (.dct [])) := snd_dct0 p
theorem dCmp (K : Ok prog w H mg mb X c A env s₀ N₀) (op : Cop) {l r : E} {a b : Expr} {p : Pos} (hi : op ≠ .isnone) (hs : notSetE b = true) (hl : SndE prog w A env c.tbl s₀ N₀ a (evE X l)) (hr : SndE prog w A env c.tbl s₀ N₀ b (evE X r)) : SndE prog w A env c.tbl s₀ N₀ (.Compare a [op.op] [b] p) (evE X (.cmp op l r)) := snd_cmp p K.fx.sys K.hu hs hi hl hr
theorem dNeg {e : E} {a : Expr} {p : Pos} (h : SndE prog w A env c.tbl s₀ N₀ a (evE X e)) : SndE prog w A env c.tbl s₀ N₀ (.UnaryOp .USub a p) (evE X (.neg e)) := snd_neg p h
theorem dB1 (and : Bool) {e : E} {x : Expr} {p : Pos} (h : SndE prog w A env c.tbl s₀ N₀ x (evE X e)) : SndE prog w A env c.tbl s₀ N₀ (.BoolOp (andOp and) [x] p) (evB X and [e]) := snd_bop1 and p h
theorem dB2 (and : Bool) {e e' : E} {es : List E} {x x' : Expr} {xs : List Expr} {p : Pos} (h : SndE prog w A env c.tbl s₀ N₀ x (evE X e)) (hs : SndE prog w A env c.tbl s₀ N₀ (.BoolOp (andOp and) (x' :: xs) p) (evB X and (e' :: es))) : SndE prog w A env c.tbl s₀ N₀ (.BoolOp (andOp and) (x :: x' :: xs) p) (evB X and (e :: e' :: es)) := snd_bop2 and p h hs
theorem dBop {and : Bool} {es : List E} {xs : List Expr} {p : Pos} (h : SndE prog w A env c.tbl s₀ N₀ (.BoolOp (andOp and) xs p) (evB X and es)) : SndE prog w A env c.tbl s₀ N₀ (.BoolOp (andOp and) xs p) (evE X (.bop and es)) := h
theorem dIte {a b d : E} {x y z : Expr} {p : Pos} (h1 : SndC prog w A env c.tbl s₀ N₀ x (evC X a)) (h2 : SndE prog w A env c.tbl s₀ N₀ y (evE X b)) (h3 : SndE prog w A env c.tbl s₀ N₀ z (evE X d)) : SndE prog w A env c.tbl s₀ N₀ (.IfExp x y z p) (evE X (.ite a b d)) := snd_ite p h1 h2 h3
theorem dSub {o i : E} {x y : Expr} {p : Pos} (n : notSlice y = true) (h1 : SndE prog w A env c.tbl s₀ N₀ x (evE X o)) (h2 : SndE prog w A env c.tbl s₀ N₀ y (evE X i)) : SndE prog w A env c.tbl s₀ N₀ (.Subscript x y p) (evE X (.sub o i)) := snd_sub p n h1 h2
theorem dPn : SndPart prog w A env c.tbl s₀ N₀ none (evE X .none) := snd_part_none
theorem dPs {e : E} {x : Expr} (h : SndE prog w A env c.tbl s₀ N₀ x (evE X e)) : SndPart prog w A env c.tbl s₀ N₀ (some x) (evE X e) := snd_part_some h
theorem dSlice {o lo hi : E} {x : Expr} {y z : Option Expr} {p q : Pos} (h1 : SndE prog w A env c.tbl s₀ N₀ x (evE X o)) (h2 : SndPart prog w A env c.tbl s₀ N₀ y (evE X lo)) (h3 : SndPart prog w A env c.tbl s₀ N₀ z (evE X hi)) : SndE prog w A env c.tbl s₀ N₀ (.Subscript x (.Slice y z none q) p) (evE X (.slice o lo hi)) := snd_slice p q h1 h2 h3
theorem dOsub (K : Ok prog w H mg mb X c A env s₀ N₀) {j : Nat} {n : Str} {i : E} {y : Expr} {p q : Pos} (h : c.tbl[j]? = some n) (hn : notSlice y = true) (h2 : SndE prog w A env c.tbl s₀ N₀ y (evE X i)) : SndE prog w A env c.tbl s₀ N₀ (.Subscript (.Name n q) y p) (evE X (.osub j i)) := snd_osub h K.fx.sys p q hn h2
theorem dOlen (K : Ok prog w H mg mb X c A env s₀ N₀) {j : Nat} {n : Str} {p q q' : Pos} (g : globName c.names "len" = true) (h : c.tbl[j]? = some n) : SndE prog w A env c.tbl s₀ N₀ (.Call (.Name "len" q) [.Name n q'] [] p) (evE X (.olen j)) := snd_olen K.fx h (K.nm ▸ g) p q q'
theorem dCall (K : Ok prog w H mg mb X c A env s₀ N₀) (f : Nat) {x : Str} {es : List E} {xs : List Expr} {p q : Pos} (hh : c.hn = true) (hf : c.fns[f]? = some x) (hp : c.np.contains f = false) (g : globName c.names x = true) (n1 : xs.isEmpty = false) (n2 : xs.all notStar = true) (h : SndEs prog w A env c.tbl s₀ N₀ xs (evEs X es)) : SndE prog w A env c.tbl s₀ N₀ (.Call (.Name x q) xs [] p) (evE X (.call f es)) := snd_call K.fx (RmOk := fun A' => A' = A) rfl (K.fn hh f x hf hp) (K.nm ▸ g) n1 n2 p q h
theorem dCallo (K : Ok prog w H mg mb X c A env s₀ N₀) (f : Nat) {j : Nat} {x n : Str} {e : E} {a : Expr} {es : List E} {xs : List Expr} {p q qx : Pos} (hh : c.hn = true) (hf : c.fns[f]? = some x) (hp : c.np.contains f = false) (g : globName c.names x = true) (hj : c.tbl[j]? = some n) (n1 : notStar a = true) (n2 : xs.all notStar = true) (h1 : SndE prog w A env c.tbl s₀ N₀ a (evE X e)) (h2 : SndEs prog w A env c.tbl s₀ N₀ xs (evEs X es)) : SndE prog w A env c.tbl s₀ N₀ (.Call (.Name x q) (a :: .Name n qx :: xs) [] p) (evE X (.callo f e j es)) := snd_callo K.fx (RmOk := fun A' => A' = A) rfl (K.fn hh f x hf hp) hj (K.nm ▸ g) n1 n2 p q qx h1 h2
theorem dBi (K : Ok prog w H mg mb X c A env s₀ N₀) (b : Bi) {es : List E} {xs : List Expr} {p q : Pos} (hh : c.hn = true) (hb : biOk b b.name = true) (g : globName c.names b.name = true) (n1 : xs.isEmpty = false) (n2 : xs.all notStar = true) (h : SndEs prog w A env c.tbl s₀ N₀ xs (evEs X es)) : SndE prog w A env c.tbl s₀ N₀ (.Call (.Name b.name q) xs [] p) (evE X (.bi b es)) := snd_bi K.fx (K.hh hh) (K.nm ▸ g) (bi_mem hb).1 (bi_mem hb).2 n1 n2 p q h
theorem dExc (K : Ok prog w H mg mb X c A env s₀ N₀) {j : Nat} {n : Str} {p q q' : Pos} (h : c.tbl[j]? = some n) (g : globName c.names "str" = true) : SndE prog w A env c.tbl s₀ N₀ (.Call (.Name "str" q) [.Name n q'] [] p) (evE X (.strexc j)) := snd_strexc K.fx K.hu h (K.nm ▸ g) p q q'
theorem kLc1 (K : Ok prog w H mg mb X c A env s₀ N₀) {sc : Scope} {nt : List Str} {cap : List (Option Nat)} {t : Tgt} {it : I} {ifs : List E} {tg ir : Expr} {fs : List Expr} {pos : Pos} {e : E} {x : Expr} (hh : c.hn = true) (hk : sc.kind = .function) (ok : scopeOk sc.names c.names c.tbl nt cap = true) (hi : SndI prog w A env c.tbl s₀ N₀ (tpI it) (sfI it) ir (evI X it)) (hsf : sfI it = true) (ht : okT true (c.inner sc nt).names nt t tg = true) (htp : (!tpI it || isTupT tg) = true) (hc : noneFree t cap = true) (hifs : ∀ {env' : Env}, Ok prog w H mg mb X (c.inner sc nt) A env' s₀ N₀ → SndIfs prog w A env' (c.inner sc nt).tbl s₀ N₀ fs (evIfs X ifs)) (he : ∀ {env' : Env}, Ok prog w H mg mb X (c.inner sc nt) A env' s₀ N₀ → SndE prog w A env' (c.inner sc nt).tbl s₀ N₀ x (evE X e)) : SndK prog w A env c.tbl s₀ N₀ (.ListComp x [⟨tg, ir, fs, 0⟩] sc pos) (evE X (.lcomp e t it ifs [] cap nt)) := snd_lc1 (K.hh hh) pos (by rw [K.nm]; exact ok) hk (by rw [hsf] at hi; exact hi) (by rw [relabel_names sc K.fx.kind, K.nm]; exact ht) (tp_tgt htp) (noneFree_at hc) (fun cl C => hifs (K.inner hk nt cl C)) (fun cl C => he (K.inner hk nt cl C))
theorem kLc2 (K : Ok prog w H mg mb X c A env s₀ N₀) {sc : Scope} {nt : List Str} {cap : List (Option Nat)} {t : Tgt} {it : I} {ifs : List E} {tg ir : Expr} {fs : List Expr} {pos : Pos} {t₂ : Tgt} {it₂ : I} {ifs₂ : List E} {tg₂ ir₂ : Expr} {fs₂ : List Expr} {e : E} {x : Expr} (hh : c.hn = true) (hk : sc.kind = .function) (ok : scopeOk sc.names c.names c.tbl nt cap = true) (hi : SndI prog w A env c.tbl s₀ N₀ (tpI it) (sfI it) ir (evI X it)) (hsf : sfI it = true) (ht : okT true (c.inner sc nt).names nt t tg = true) (htp : (!tpI it || isTupT tg) = true) (hc : noneFree t cap = true) (hifs : ∀ {env' : Env}, Ok prog w H mg mb X (c.inner sc nt) A env' s₀ N₀ → SndIfs prog w A env' (c.inner sc nt).tbl s₀ N₀ fs (evIfs X ifs)) (hi₂ : ∀ {env' : Env}, Ok prog w H mg mb X (c.inner sc nt) A env' s₀ N₀ → SndI prog w A env' (c.inner sc nt).tbl s₀ N₀ (tpI it₂) (sfI it₂) ir₂ (evI X it₂)) (hsf₂ : sfI it₂ = true) (ht₂ : okT true (c.inner sc nt).names nt t₂ tg₂ = true) (htp₂ : (!tpI it₂ || isTupT tg₂) = true) (hc₂ : noneFree t₂ cap = true) (hd₂ : (t₂.names.all fun i => !t.names.contains i) = true) (hifs₂ : ∀ {env' : Env}, Ok prog w H mg mb X (c.inner sc nt) A env' s₀ N₀ → SndIfs prog w A env' (c.inner sc nt).tbl s₀ N₀ fs₂ (evIfs X ifs₂)) (he : ∀ {env' : Env}, Ok prog w H mg mb X (c.inner sc nt) A env' s₀ N₀ → SndE prog w A env' (c.inner sc nt).tbl s₀ N₀ x (evE X e)) : SndK prog w A env c.tbl s₀ N₀ (.ListComp x [⟨tg, ir, fs, 0⟩, ⟨tg₂, ir₂, fs₂, 0⟩] sc pos) (evE X (.lcomp e t it ifs [.mk t₂ it₂ ifs₂] cap nt)) := snd_lc2 (K.hh hh) pos (by rw [K.nm]; exact ok) hk (by rw [hsf] at hi; exact hi) (by rw [relabel_names sc K.fx.kind, K.nm]; exact ht) (tp_tgt htp) (noneFree_at hc) (fun cl C => by have q := hi₂ (K.inner hk nt cl C); rw [hsf₂] at q; exact q) (by rw [relabel_names sc K.fx.kind, K.nm]; exact ht₂) (tp_tgt htp₂) (fun i hi => ⟨noneFree_at hc₂ i hi, fun q => by have := List.all_eq_true.mp hd₂ i hi; simp [q] at this⟩) (fun cl C => hifs (K.inner hk nt cl C)) (fun cl C => hifs₂ (K.inner hk nt cl C)) (fun cl C => he (K.inner hk nt cl C))
theorem kDc1 (K : Ok prog w H mg mb X c A env s₀ N₀) {sc : Scope} {nt : List Str} {cap : List (Option Nat)} {t : Tgt} {it : I} {ifs : List E} {tg ir : Expr} {fs : List Expr} {pos : Pos} {k v : E} {x y : Expr} (hh : c.hn = true) (hk : sc.kind = .function) (ok : scopeOk sc.names c.names c.tbl nt cap = true) (hi : SndI prog w A env c.tbl s₀ N₀ (tpI it) (sfI it) ir (evI X it)) (hsf : sfI it = true) (ht : okT true (c.inner sc nt).names nt t tg = true) (htp : (!tpI it || isTupT tg) = true) (hc : noneFree t cap = true) (hifs : ∀ {env' : Env}, Ok prog w H mg mb X (c.inner sc nt) A env' s₀ N₀ → SndIfs prog w A env' (c.inner sc nt).tbl s₀ N₀ fs (evIfs X ifs)) (he : ∀ {env' : Env}, Ok prog w H mg mb X (c.inner sc nt) A env' s₀ N₀ → SndE prog w A env' (c.inner sc nt).tbl s₀ N₀ x (evE X k)) (hv : ∀ {env' : Env}, Ok prog w H mg mb X (c.inner sc nt) A env' s₀ N₀ → SndE prog w A env' (c.inner sc nt).tbl s₀ N₀ y (evE X v)) : SndK prog w A env c.tbl s₀ N₀ (.DictComp x y [⟨tg, ir, fs, 0⟩] sc pos) (evE X (.dcomp k v t it ifs [] cap nt)) := snd_dc1 (K.hh hh) pos (by rw [K.nm]; exact ok) hk (by rw [hsf] at hi; exact hi) (by rw [relabel_names sc K.fx.kind, K.nm]; exact ht) (tp_tgt htp) (noneFree_at hc) (fun cl C => hifs (K.inner hk nt cl C)) (fun cl C => he (K.inner hk nt cl C)) (fun cl C => hv (K.inner hk nt cl C))
theorem kDc2 (K : Ok prog w H mg mb X c A env s₀ N₀) {sc : Scope} {nt : List Str} {cap : List (Option Nat)} {t : Tgt} {it : I} {ifs : List E} {tg ir : Expr} {fs : List Expr} {pos : Pos} {t₂ : Tgt} {it₂ : I} {ifs₂ : List E} {tg₂ ir₂ : Expr} {fs₂ : List Expr} {k v : E} {x y : Expr} (hh : c.hn = true) (hk : sc.kind = .function) (ok : scopeOk sc.names c.names c.tbl nt cap = true) (hi : SndI prog w A env c.tbl s₀ N₀ (tpI it) (sfI it) ir (evI X it)) (hsf : sfI it = true) (ht : okT true (c.inner sc nt).names nt t tg = true) (htp : (!tpI it || isTupT tg) = true) (hc : noneFree t cap = true) (hifs : ∀ {env' : Env}, Ok prog w H mg mb X (c.inner sc nt) A env' s₀ N₀ → SndIfs prog w A env' (c.inner sc nt).tbl s₀ N₀ fs (evIfs X ifs)) (hi₂ : ∀ {env' : Env}, Ok prog w H mg mb X (c.inner sc nt) A env' s₀ N₀ → SndI prog w A env' (c.inner sc nt).tbl s₀ N₀ (tpI it₂) (sfI it₂) ir₂ (evI X it₂)) (hsf₂ : sfI it₂ = true) (ht₂ : okT true (c.inner sc nt).names nt t₂ tg₂ = true) (htp₂ : (!tpI it₂ || isTupT tg₂) = true) (hc₂ : noneFree t₂ cap = true) (hd₂ : (t₂.names.all fun i => !t.names.contains i) = true) (hifs₂ : ∀ {env' : Env}, Ok prog w H mg mb X (c.inner sc nt) A env' s₀ N₀ → SndIfs prog w A env' (c.inner sc nt).tbl s₀ N₀ fs₂ (evIfs X ifs₂)) (he : ∀ {env' : Env}, Ok prog w H mg mb X (c.inner sc nt) A env' s₀ N₀ → SndE prog w A env' (c.inner sc nt).tbl s₀ N₀ x (evE X k)) (hv : ∀ {env' : Env}, Ok prog w H mg mb X (c.inner sc nt) A env' s₀ N₀ → SndE prog w A env' (c.inner sc nt).tbl s₀ N₀ y (evE X v)) : SndK prog w A env c.tbl s₀ N₀ (.DictComp x y [⟨tg, ir, fs, 0⟩, ⟨tg₂, ir₂, fs₂, 0⟩] sc pos) (evE X (.dcomp k v t it ifs [.mk t₂ it₂ ifs₂] cap nt)) := snd_dc2 (K.hh hh) pos (by rw [K.nm]; exact ok) hk (by rw [hsf] at hi; exact hi) (by rw [relabel_names sc K.fx.kind, K.nm]; exact ht) (tp_tgt htp) (noneFree_at hc) (fun cl C => by have q := hi₂ (K.inner hk nt cl C); rw [hsf₂] at q; exact q) (by rw [relabel_names sc K.fx.kind, K.nm]; exact ht₂) (tp_tgt htp₂) (fun i hi => ⟨noneFree_at hc₂ i hi, fun q => by have := List.all_eq_true.mp hd₂ i hi; simp [q] at this⟩) (fun cl C => hifs (K.inner hk nt cl C)) (fun cl C => hifs₂ (K.inner hk nt cl C)) (fun cl C => he (K.inner hk nt cl C)) (fun cl C => hv (K.inner hk nt cl C))
theorem dK {e : E} {x : Expr} (h : SndK prog w A env c.tbl s₀ N₀ x (evE X e)) : SndE prog w A env c.tbl s₀ N₀ x (evE X e) := snd_own (snd_compO h)
theorem cA0 (and : Bool) : SndA prog w A env c.tbl s₀ N₀ (andOp and) [] (evA X and []) := snd_A_nil and
theorem cA (and : Bool) {e : E} {es : List E} {x : Expr} {xs : List Expr} (h : SndC prog w A env c.tbl s₀ N₀ x (evC X e)) (hs : SndA prog w A env c.tbl s₀ N₀ (andOp and) xs (evA X and es)) : SndA prog w A env c.tbl s₀ N₀ (andOp and) (x :: xs) (evA X and (e :: es)) := snd_A_cons and h hs
theorem cBop (and : Bool) {es : List E} {xs : List Expr} {p : Pos} (h : SndA prog w A env c.tbl s₀ N₀ (andOp and) xs (evA X and es)) : SndC prog w A env c.tbl s₀ N₀ (.BoolOp (andOp and) xs p) (evC X (.bop and es)) := snd_bopC and p h
theorem cCmp (K : Ok prog w H mg mb X c A env s₀ N₀) (op : Cop) {l r : E} {a b : Expr} {p : Pos} (hi : op ≠ .isnone) (hs : notSetE b = true) (hl : SndE prog w A env c.tbl s₀ N₀ a (evE X l)) (hr : SndE prog w A env c.tbl s₀ N₀ b (evE X r)) : SndC prog w A env c.tbl s₀ N₀ (.Compare a [op.op] [b] p) (evC X (.cmp op l r)) := snd_cmpC p K.fx.sys K.hu hs hi hl hr
theorem cNotin (K : Ok prog w H mg mb X c A env s₀ N₀) {j : Nat} {n : Str} {e : E} {a : Expr} {p q : Pos} (h : c.tbl[j]? = some n) (h2 : SndE prog w A env c.tbl s₀ N₀ a (evE X e)) : SndC prog w A env c.tbl s₀ N₀ (.Compare a [.NotIn] [.Name n q] p) (evC X (.oin true e j)) := snd_oinC (op := .notin) K.fx.sys K.hu h (.inr rfl) p q h2
theorem cIn (K : Ok prog w H mg mb X c A env s₀ N₀) {j : Nat} {n : Str} {e : E} {a : Expr} {p q : Pos} (h : c.tbl[j]? = some n) (h2 : SndE prog w A env c.tbl s₀ N₀ a (evE X e)) : SndC prog w A env c.tbl s₀ N₀ (.Compare a [.In] [.Name n q] p) (evC X (.oin false e j)) := snd_oinC (op := .isin) K.fx.sys K.hu h (.inl rfl) p q h2
theorem cVar {i : Nat} {x : Str} {p : Pos} (h : c.tbl[i]? = some x) : SndC prog w A env c.tbl s₀ N₀ (.Name x p) (evC X (.var i)) := sndC_mono (fun ρ Q q => q) (snd_truth (fun _ => rfl) (snd_var p h))
theorem cCall (K : Ok prog w H mg mb X c A env s₀ N₀) (f : Nat) {x : Str} {es : List E} {xs : List Expr} {p q : Pos} (hh : c.hn = true) (hf : c.fns[f]? = some x) (hp : c.np.contains f = false) (g : globName c.names x = true) (n1 : xs.isEmpty = false) (n2 : xs.all notStar = true) (h : SndEs prog w A env c.tbl s₀ N₀ xs (evEs X es)) : SndC prog w A env c.tbl s₀ N₀ (.Call (.Name x q) xs [] p) (evC X (.call f es)) := snd_truth (fun _ => rfl) (snd_call K.fx (RmOk := fun A' => A' = A) rfl (K.fn hh f x hf hp) (K.nm ▸ g) n1 n2 p q h)
theorem cIsT (K : Ok prog w H mg mb X c A env s₀ N₀) {e : E} {a : Expr} {p q q' : Pos} (hh : c.hn = true) (g : globName c.names "isinstance" = true) (g' : globName c.names "tuple" = true) (n1 : notStar a = true) (h : SndE prog w A env c.tbl s₀ N₀ a (evE X e)) : SndC prog w A env c.tbl s₀ N₀ (.Call (.Name "isinstance" q) [a, .Name "tuple" q'] [] p) (evC X (.bi .isTuple [e])) := snd_truth (fun _ => rfl) (snd_isTuple K.fx (K.hh hh) (K.nm ▸ g) (K.nm ▸ g') n1 p q q' h)
theorem fNil : SndIfs prog w A env c.tbl s₀ N₀ [] (evIfs X []) := snd_ifs_nil
theorem fCons {e : E} {es : List E} {x : Expr} {xs : List Expr} (h : SndC prog w A env c.tbl s₀ N₀ x (evC X e)) (hs : SndIfs prog w A env c.tbl s₀ N₀ xs (evIfs X es)) : SndIfs prog w A env c.tbl s₀ N₀ (x :: xs) (evIfs X (e :: es)) := snd_ifs_cons h hs
theorem iEx (K : Ok prog w H mg mb X c A env s₀ N₀) {e : E} {x : Expr} (hh : c.hn = true) (n : notSetE x = true) (h : SndE prog w A env c.tbl s₀ N₀ x (evE X e)) : SndI prog w A env c.tbl s₀ N₀ (tpI (.ex e)) (sfI (.ex e)) x (evI X (.ex e)) := sndI_ex K.fx.sys (K.hh hh) n h
theorem iRange (K : Ok prog w H mg mb X c A env s₀ N₀) {es : List E} {xs : List Expr} {p q : Pos} (hh : c.hn = true) (g : globName c.names "range" = true) (n1 : xs.isEmpty = false) (n2 : xs.all notStar = true) (h : SndEs prog w A env c.tbl s₀ N₀ xs (evEs X es)) : SndI prog w A env c.tbl s₀ N₀ (tpI (.range es)) (sfI (.range es)) (.Call (.Name "range" q) xs [] p) (evI X (.range es)) := sndI_range K.fx (K.hh hh) (K.nm ▸ g) n1 n2 p q h
theorem iEnum (K : Ok prog w H mg mb X c A env s₀ N₀) {e : E} {a : Expr} {p q : Pos} (hh : c.hn = true) (g : globName c.names "enumerate" = true) (n1 : notStar a = true) (h : SndE prog w A env c.tbl s₀ N₀ a (evE X e)) : SndI prog w A env c.tbl s₀ N₀ (tpI (.enum e)) (sfI (.enum e)) (.Call (.Name "enumerate" q) [a] [] p) (evI X (.enum e)) := sndI_enum K.fx (K.hh hh) (K.nm ▸ g) n1 p q h
theorem iItems (K : Ok prog w H mg mb X c A env s₀ N₀) {i : Nat} {x : Str} {p q ap : Pos} (hh : c.hn = true) (h : c.tbl[i]? = some x) (hl : (ap.endLine == p.line) = true) : SndI prog w A env c.tbl s₀ N₀ (tpI (.items (.var i))) (sfI (.items (.var i))) (.Call (.Attribute (.Name x q) "items" ap) [] [] p) (evI X (.items (.var i))) := by
  refine sndI_mono (fun ρ Q q => ?_) (sndI_items K.fx.sys (K.hh hh) h p q hl)
  rw [evI_items, evE_var] at q
  split at q
  · rename_i d hd
    rw [hd]
    cases d <;> first | exact q | exact q.elim
  · exact q.elim
theorem iValues (K : Ok prog w H mg mb X c A env s₀ N₀) {i : Nat} {x : Str} {p q ap : Pos} (hh : c.hn = true) (h : c.tbl[i]? = some x) (hl : (ap.endLine == p.line) = true) : SndI prog w A env c.tbl s₀ N₀ (tpI (.values (.var i))) (sfI (.values (.var i))) (.Call (.Attribute (.Name x q) "values" ap) [] [] p) (evI X (.values (.var i))) := by
  refine sndI_mono (fun ρ Q q => ?_) (sndI_values K.fx.sys (K.hh hh) h p q hl)
  rw [evI_values, evE_var] at q
  split at q
  · rename_i d hd
    rw [hd]
    cases d <;> first | exact q | exact q.elim
  · exact q.elim
theorem sAsg (K : OkS prog w H mg mb X c A env s₀ N₀) {i : Nat} {e : E} {y : Str} {x : Expr} {tp pos : Pos} (ht : tgtName false c.names c.tbl i (.Name y tp) = true) (nc : notComp x = true) (h : SndE prog w A env c.tbl s₀ N₀ x (evE X e)) : SndS prog w A env c.tbl s₀ N₀ (.Assign [.Name y tp] x pos) (exS X (.assign i e)) := sndS_assign (by rw [K.ok.nm]; exact ht) nc h
theorem sAsgK (K : OkS prog w H mg mb X c A env s₀ N₀) {i : Nat} {e : E} {y : Str} {x : Expr} {tp pos : Pos} (ht : tgtName false c.names c.tbl i (.Name y tp) = true) (h : SndK prog w A env c.tbl s₀ N₀ x (evE X e)) : SndS prog w A env c.tbl s₀ N₀ (.Assign [.Name y tp] x pos) (exS X (.assign i e)) := sndS_comp false (by rw [K.ok.nm]; exact ht) h
theorem sAsgO (K : OkS prog w H mg mb X c A env s₀ N₀) {i : Nat} {e : E} {y : Str} {x : Expr} {tp pos : Pos} (ht : tgtName false c.names c.tbl i (.Name y tp) = true) (nc : notComp x = true) (h : SndO prog w A env c.tbl s₀ N₀ x (evE X e)) : SndS prog w A env c.tbl s₀ N₀ (.Assign [.Name y tp] x pos) (exS X (.assignO i e)) := sndS_assignO (by rw [K.ok.nm]; exact ht) nc h
theorem sAsgOK (K : OkS prog w H mg mb X c A env s₀ N₀) {i : Nat} {e : E} {y : Str} {x : Expr} {tp pos : Pos} (ht : tgtName false c.names c.tbl i (.Name y tp) = true) (h : SndK prog w A env c.tbl s₀ N₀ x (evE X e)) : SndS prog w A env c.tbl s₀ N₀ (.Assign [.Name y tp] x pos) (exS X (.assignO i e)) := sndS_comp true (by rw [K.ok.nm]; exact ht) h
theorem sUnp (K : OkS prog w H mg mb X c A env s₀ N₀) {is : List Nat} {e : E} {ts : List Expr} {x : Expr} {k : Nat} {tp pos : Pos} (hh : c.hn = true) (ht : tgtNames false c.names c.tbl is ts = true) (nc : notComp x = true) (sw : ∀ (env : Env) (ts : List Expr), swappedStores ts x env = pure none) (h : SndE prog w A env c.tbl s₀ N₀ x (evE X e)) : SndS prog w A env c.tbl s₀ N₀ (.Assign [.Tuple ts k tp] x pos) (exS X (.unpack is e)) := sndS_unpack (K.ok.hh hh) (by rw [K.ok.nm]; exact ht) nc (sw env) h
theorem sSet (K : OkS prog w H mg mb X c A env s₀ N₀) {j : Nat} {k v : E} {y : Str} {i x : Expr} {q sp pos : Pos} (h : c.tbl[j]? = some y) (nc : notComp x = true) (h1 : SndE prog w A env c.tbl s₀ N₀ i (evE X k)) (h2 : SndE prog w A env c.tbl s₀ N₀ x (evE X v)) : SndS prog w A env c.tbl s₀ N₀ (.Assign [.Subscript (.Name y q) i sp] x pos) (exS X (.setitem j k v)) := sndS_setitem h nc h1 h2
theorem sAug (K : OkS prog w H mg mb X c A env s₀ N₀) (op : Bop) {i : Nat} {e : E} {y : Str} {x : Expr} {tp pos : Pos} (ht : tgtName false c.names c.tbl i (.Name y tp) = true) (h : SndE prog w A env c.tbl s₀ N₀ x (evE X e)) : SndS prog w A env c.tbl s₀ N₀ (.AugAssign (.Name y tp) op.op x pos) (exS X (.aug i op e)) := sndS_aug (by rw [K.ok.nm]; exact ht) h
theorem sAugi (K : OkS prog w H mg mb X c A env s₀ N₀) (op : Bop) {j : Nat} {k e : E} {y : Str} {i x : Expr} {q sp pos : Pos} (h : c.tbl[j]? = some y) (ns : notSlice i = true) (h1 : SndE prog w A env c.tbl s₀ N₀ i (evE X k)) (h2 : SndE prog w A env c.tbl s₀ N₀ x (evE X e)) : SndS prog w A env c.tbl s₀ N₀ (.AugAssign (.Subscript (.Name y q) i sp) op.op x pos) (exS X (.augitem j k op e)) := sndS_augitem h ns h1 h2
theorem sApp (K : OkS prog w H mg mb X c A env s₀ N₀) {j : Nat} {e : E} {y : Str} {x : Expr} {q ap p pos : Pos} (h : c.tbl[j]? = some y) (ns : notStar x = true) (hl : (ap.endLine == p.line) = true) (h1 : SndE prog w A env c.tbl s₀ N₀ x (evE X e)) : SndS prog w A env c.tbl s₀ N₀ (.Expr (.Call (.Attribute (.Name y q) "append" ap) [x] [] p) pos) (exS X (.append j e)) := sndS_append h K.ok.fx.kind ns hl h1
theorem sIf (K : OkS prog w H mg mb X c A env s₀ N₀) {a : E} {b d : List S} {y : Expr} {z u : List Stmt} {pos : Pos} (h1 : SndC prog w A env c.tbl s₀ N₀ y (evC X a)) (h2 : SndSs prog w A env c.tbl s₀ N₀ z (exSs X b)) (h3 : SndSs prog w A env c.tbl s₀ N₀ u (exSs X d)) : SndS prog w A env c.tbl s₀ N₀ (.If y z u pos) (exS X (.ife a b d)) := sndS_if h1 h2 h3
theorem sFor (K : OkS prog w H mg mb X c A env s₀ N₀) {t : Tgt} {it : I} {body : List S} {kill : List Nat} {tg ir : Expr} {b : List Stmt} {pos : Pos} (hh : c.hn = true) (h1 : SndI prog w A env c.tbl s₀ N₀ (tpI it) (sfI it) ir (evI X it)) (ht : okT false c.names c.tbl t tg = true) (htp : (!tpI it || isTupT tg) = true) (h2 : SndSs prog w A env c.tbl s₀ N₀ b (exSs X body)) : SndS prog w A env c.tbl s₀ N₀ (.For tg ir b [] pos) (exS X (.fore t it body kill)) := sndS_for (K.ok.hh hh) h1 (by rw [K.ok.nm]; exact ht) (tp_tgt htp) h2
theorem sFgen (K : OkS prog w H mg mb X c A env s₀ N₀) {i : Nat} {e : E} {body : List S} {kill : List Nat} {y : Str} {a : Expr} {b : List Stmt} {tp q p pos : Pos} (hh : c.hn = true) (g : globName c.names c.gen = true) (ns : notStar a = true) (ht : tgtName false c.names c.tbl i (.Name y tp) = true) (h : SndE prog w A env c.tbl s₀ N₀ a (evE X e)) (h2 : SndSs prog w A env c.tbl s₀ N₀ b (exSs X body)) : SndS prog w A env c.tbl s₀ N₀ (.For (.Name y tp) (.Call (.Name c.gen q) [a] [] p) b [] pos) (exS X (.forgen i e body kill)) := by
  obtain ⟨⟨kr, hr⟩, P, kk, GF⟩ := K.gn hh
  exact sndS_forgen K.ok.fx hr GF (K.ok.nm ▸ g) h ns (by rw [K.ok.nm]; exact ht) h2
theorem sTry (K : OkS prog w H mg mb X c A env s₀ N₀) {i j : Nat} {e : E} {body hand : List S} {kill : List Nat} {y n : Str} {a : Expr} {b hs : List Stmt} {h' : Stmt} {tp q p fp vp hp pos : Pos} (htr : c.tr = true) (g : globName c.names c.gen = true) (ns : notStar a = true) (ht : tgtName false c.names c.tbl i (.Name y tp) = true) (h : SndE prog w A env c.tbl s₀ N₀ a (evE X e)) (h2 : SndSs prog w A env c.tbl s₀ N₀ b (exSs X body)) (gv : globName c.names "ValueError" = true) (hn : tgtName true c.names c.tbl j (.Name n ⟨0, 0, 0, 0⟩) = true) (h3 : ∀ {A' : Around}, OkS prog w H mg mb X c.hand A' env s₀ N₀ → SndSs prog w A' env c.hand.tbl s₀ N₀ (h' :: hs) (exSs X hand)) : SndS prog w A env c.tbl s₀ N₀ (.Try [.For (.Name y tp) (.Call (.Name c.gen q) [a] [] p) b [] fp] [.ExceptHandler (some (.Name "ValueError" vp)) (some n) (h' :: hs) hp] [] [] pos) (exS X (.trygen i e body kill j hand)) := K.tr htr (K.ok.nm ▸ g) h ns (by rw [K.ok.nm]; exact ht) h2 (K.ok.nm ▸ gv) (by rw [K.ok.nm]; exact hn) (fun A' hu => h3 (K.hand hu))
theorem sWhile (K : OkS prog w H mg mb X c A env s₀ N₀) {a : E} {body : List S} {kill : List Nat} {y : Expr} {b : List Stmt} {pos : Pos} (h1 : SndC prog w A env c.tbl s₀ N₀ y (evC X a)) (h2 : SndSs prog w A env c.tbl s₀ N₀ b (exSs X body)) : SndS prog w A env c.tbl s₀ N₀ (.While y b [] pos) (exS X (.while a body kill)) := sndS_while h1 h2
theorem sRet (K : OkS prog w H mg mb X c A env s₀ N₀) {e : E} {x : Expr} {pos : Pos} (h : SndE prog w A env c.tbl s₀ N₀ x (evE X e)) : SndS prog w A env c.tbl s₀ N₀ (.Return (some x) pos) (exS X (.ret e)) := sndS_ret h
theorem sBrk (K : OkS prog w H mg mb X c A env s₀ N₀) {pos : Pos} : SndS prog w A env c.tbl s₀ N₀ (.Break pos) (exS X .brk) := sndS_brk pos
theorem sDead (K : OkS prog w H mg mb X c A env s₀ N₀) {x : Stmt} : SndS prog w A env c.tbl s₀ N₀ x (exS X .dead) := fun _ _ _ _ _ _ _ _ _ hq => hq.elim
theorem sNil (K : OkS prog w H mg mb X c A env s₀ N₀) : SndSs prog w A env c.tbl s₀ N₀ [] (exSs X []) := snd_seq_nil
theorem sCons (K : OkS prog w H mg mb X c A env s₀ N₀) {st : S} {ss : List S} {x : Stmt} {xs : List Stmt} (h : SndS prog w A env c.tbl s₀ N₀ x (exS X st)) (hs : SndSs prog w A env c.tbl s₀ N₀ xs (exSs X ss)) : SndSs prog w A env c.tbl s₀ N₀ (x :: xs) (exSs X (st :: ss)) :=
  fun N W ρ s E Q hN S R hq => snd_seq_cons h hs N W ρ s E Q hN S R (by rw [exSs_cons] at hq; exact hq)
theorem sFrz (K : OkS prog w H mg mb X c A env s₀ N₀) {i : Nat} {y : Str} {ss : List S} {xs : List Stmt} (h : c.tbl[i]? = some y) (hs : SndSs prog w A env c.tbl s₀ N₀ xs (exSs X ss)) : SndSs prog w A env c.tbl s₀ N₀ xs (exSs X (.freeze i :: ss)) :=
  fun N W ρ s E Q hN S R hq => snd_seq_freeze h hs N W ρ s E Q hN S R (by rw [exSs_cons, exS_freeze] at hq; exact frz_go hq)
end
end Mine
end
section
open PySem PySem.Calls PyProof.Rows
namespace Mine
structure Fn where
  name : Str
  n : Nat
  tbl : List Str
  body : List S
  zs : List Nat := []
  tr : Bool := false
noncomputable def Fn.plain (g : Fn) : Bool := g.zs.isEmpty && !g.tr
noncomputable def npOf : List Fn → Nat → List Nat
  | [], _ => []
  | g :: gs, i => if g.plain then npOf gs (i + 1) else i :: npOf gs (i + 1)
noncomputable def XN (fs : List Fn) : Nat → Fns
  | 0 => fun _ _ _ => False
  | k + 1 => fun f ds Q => match fs[f]? with
    | some g => ds.length = g.n ∧ exSs (XN fs k) g.body (rho0 (g.tbl.length - g.n) ds) (retW Q)
    | none => False
noncomputable def cxOf (fs : List Fn) (gen : Str) (g : Fn) (names : List (Str × NameKind)) : Cx := ⟨names, g.tbl, fs.map (·.name), gen, true, npOf fs 0, g.zs, g.tr⟩
noncomputable def okFn (g : Fn) (d : DefRec) (as : List Arg) : Bool := g.name == d.name && fnScope d.scope g.n g.tbl (as.map (·.arg)) && (g.zs.isEmpty || g.tbl.any fun x => d.scope.names.lookup x == some .local)
noncomputable def DerFn (prog : Program) (w : World) (H : Heap) (mg mb : Str → Option Value) (fs : List Fn) (gen : Str) (g : Fn) (d : DefRec) : Prop :=
  ∀ {X : Fns} {A : Around} {env : Env} {s₀ : Base} {N₀ : Addr → Prop}, OkS prog w H mg mb X (cxOf fs gen g d.scope.names) A env s₀ N₀ → SndSs prog w A env (cxOf fs gen g d.scope.names).tbl s₀ N₀ d.body (exSs X g.body)
noncomputable def recAt (p : Program) (i : Nat) : DefRec := match p.main.body[i]? with
  | some (.FunctionDef name args body _ _ _ sc _ _ pos) => ⟨name, args, body, sc, pos⟩
  | _ => ⟨"", ⟨[], [], none, [], [], none, []⟩, [], ⟨.function, [], false, false, default⟩, ⟨0, 0, 0, 0⟩⟩
theorem gen_lit {p0 p1 p2 p3 p4 p5 p6 p7 p8 p9 p10 p11 p12 p13 p14 p15 p16 p17 p18 p19 p20 p21 p22 p23 p24 p25 p26 p27 p28 p29 p30 p31 p32 p33 : Pos} {k0 k1 k2 k3 k4 : Nat} : ∃ P k, ([(.Assign [.Name "last_interval" p31] (.Constant .none k4 p32) p33), (.For (.Name "interval" p28) (.Name "grouping" p29) ([(.If (.Compare (.Name "interval" p13) [.Eq] [.Name "CHAR_MAX" p14] p15) [.Return none p16] [] p17), (.If (.Compare (.Name "interval" p18) [.Eq] [.Constant (.int 0) k3 p19] p20) [(.If (.Compare (.Name "last_interval" p0) [.Is] [.Constant .none k0 p1] p2) [.Raise (some (.Call (.Name "ValueError" p3) [.Constant (.str "invalid grouping") k1 p4] [] p5)) none p6] [] p7), (.While (.Constant (.bool true) k2 p8) [.Expr (.Yield (some (.Name "last_interval" p9)) p10) p11] [] p12)] [] p21), (.Expr (.Yield (some (.Name "interval" p22)) p23) p24), (.Assign [.Name "last_interval" p25] (.Name "interval" p26) p27)]) [] p30)] : List Stmt) = gAll P k :=
  ⟨fun n => [p0, p1, p2, p3, p4, p5, p6, p7, p8, p9, p10, p11, p12, p13, p14, p15, p16, p17, p18, p19, p20, p21, p22, p23, p24, p25, p26, p27, p28, p29, p30, p31, p32, p33].getD n ⟨0, 0, 0, 0⟩, fun n => [k0, k1, k2, k3, k4].getD n 0, rfl⟩
noncomputable def okGen (gen : Str) (d : DefRec) : Bool := d.name == gen && d.scope.kind == .function && !d.scope.isCoroutine && d.scope.isGenerator && d.scope.names.lookup ("grouping" : Str) == some NameKind.local && d.scope.names.lookup ("last_interval" : Str) == some NameKind.local &&
  d.scope.names.lookup ("interval" : Str) == some NameKind.local && globName d.scope.names "CHAR_MAX" && globName d.scope.names "ValueError"
structure Stands (H : Heap) (mg : Str → Option Value) (d : DefRec) : Prop where
  at' : ∃ a o pm cd doc, mg d.name = some (.ref a) ∧ H.get? a = some o ∧ o.data = .func (docDef d.name d.params d.body d.scope pm cd doc) ∧ H.CodeRec cd d.name
theorem gfn_of {H : Heap} {mg mb : Str → Option Value} {gen : Str} {d : DefRec} (G : Gl mg mb H) (lim : H.NoLimit) (hc : ∃ t : Tok, mg "CHAR_MAX" = some (Value.int 127 t)) (hs : Stands H mg d) (h : okGen gen d = true) (hp : ∃ ap, d.params = ⟨[], [⟨"grouping", none, ap⟩], none, [], [], none, []⟩) (hb : ∃ P k, d.body = gAll P k) : ∃ P k, GFn H mg mb P k gen := by
  obtain ⟨name, params, body, scope, pos⟩ := d
  obtain ⟨ap, hp⟩ := hp
  obtain ⟨P, k, hb⟩ := hb
  dsimp only at hp hb
  subst hp hb
  simp only [okGen, Bool.and_eq_true, beq_iff_eq, Bool.not_eq_true'] at h
  obtain ⟨⟨⟨⟨⟨⟨⟨⟨rfl, h3⟩, h4⟩, h5⟩, h6⟩, h7⟩, h8⟩, h9⟩, h10⟩ := h
  obtain ⟨a, o, pm, cd, doc, e1, e2, e3, e4⟩ := hs.at'
  exact ⟨P, k, G, lim, hc, G.bi "ValueError" (.type "ValueError") (List.mem_of_getElem? (i := 11) rfl), a, o, ap, name, scope, pm, cd, doc, e1, e2, e3, e4, h3, h4, h5, h6, h7, h8, h9, h10⟩
theorem callOk_mono {prog : Program} {w : World} {H : Heap} {Rm' Rm'' : Around → Prop} {a : Addr} {Xf Xf' : List D → (D → Prop) → Prop} (h : CallOk prog w H Rm' a Xf) (k : ∀ A, Rm'' A → Rm' A) (x : ∀ ds Q, Xf' ds Q → Xf ds Q) : CallOk prog w H Rm'' a Xf' :=
  fun A s F vs ds Q E hA e l hs r hq => h A s F vs ds Q E (k A hA) e l hs r (x ds Q hq)
theorem np_mem : ∀ {fs : List Fn} {i f : Nat} {g : Fn}, fs[f]? = some g → g.plain = false → i + f ∈ npOf fs i
  | g :: gs, i, 0, g', h, hp => by
    simp at h; subst h
    rw [npOf, hp]; simp
  | g :: gs, i, f + 1, g', h, hp => by
    have := np_mem (i := i + 1) (f := f) (g := g') (by simpa using h) hp
    rw [npOf]
    split
    · rw [show i + (f + 1) = i + 1 + f by (first | lia | omega)]; exact this
    · refine .tail _ ?_
      rw [show i + (f + 1) = i + 1 + f by (first | lia | omega)]; exact this
  | [], _, _, _, h, _ => by simp at h
theorem plain_of_np {fs : List Fn} {f : Nat} {g : Fn} (h : fs[f]? = some g) (hn : (npOf fs 0).contains f = false) : g.plain = true := by
  cases hp : g.plain with
  | true => rfl
  | false =>
    have := np_mem (i := 0) h hp
    rw [Nat.zero_add] at this
    rw [List.contains_iff_mem.mpr this] at hn; cases hn
structure Tab (prog : Program) (w : World) (fs : List Fn) (gen : Str) (H : Heap) (mg mb : Str → Option Value) : Prop where
  gl : Gl mg mb H
  lim : H.NoLimit
  gfn : ∃ P k, GFn H mg mb P k gen
  fns : ∀ g ∈ fs, ∃ d as, okFn g d as = true ∧ d.params = ⟨[], as, none, [], [], none, []⟩ ∧ DerFn prog w H mg mb fs gen g d ∧ Stands H mg d
section
variable {prog : Program} {w : World} {H : Heap} {mg mb : Str → Option Value} {fs : List Fn} {gen : Str}
theorem okFn_inv {g : Fn} {d : DefRec} {as : List Arg} (h : okFn g d as = true) : g.name = d.name ∧ fnScope d.scope g.n g.tbl (as.map (·.arg)) = true ∧ (g.zs.isEmpty = true ∨ ∃ x ∈ g.tbl, d.scope.names.lookup x = some .local) := by
  simp only [okFn, Bool.and_eq_true, beq_iff_eq, Bool.or_eq_true, List.any_eq_true] at h
  exact ⟨h.1.1, h.1.2, h.2⟩
theorem ok_of (T : Tab prog w fs gen H mg mb) {k : Nat} (ih : ∀ f g, fs[f]? = some g → g.plain = true → FnOk prog w H mg (Rm k) g.name (XN fs k f)) {g : Fn} {sc : Scope} {A : Around} {env : Env} {s₀ : Base} {N₀ : Addr → Prop} (hA : Rm k A) (he : env.scope = sc) (fx : Fx mg mb H env s₀ N₀) :
    Ok prog w H mg mb (XN fs k) (cxOf fs gen g sc.names) A env s₀ N₀ where
  fx := fx
  nm := by rw [he]; rfl
  hu := by have := hA.2.2; unfold cLine; (first | lia | omega)
  hh := fun _ => hA.1
  fn := fun _ f x hf hnp => by
    have hf' : (fs.map (·.name))[f]? = some x := hf
    rw [List.getElem?_map, Option.map_eq_some_iff] at hf'
    obtain ⟨g', hg, rfl⟩ := hf'
    obtain ⟨a, o, fd, h1, h2, h3, h4⟩ := (ih f g' hg (plain_of_np hg hnp)).fn
    exact ⟨a, o, fd, h1, h2, h3, callOk_mono h4 (fun A' q => q ▸ hA) fun _ _ => id⟩
theorem plain_ok (T : Tab prog w fs gen H mg mb) : ∀ (k f : Nat) (g : Fn), fs[f]? = some g → g.plain = true → FnOk prog w H mg (Rm k) g.name (XN fs k f)
  | 0, f, g, hg, _ => by
    obtain ⟨d, as, hd, hpar, hder, ⟨a, o, pm, cd, doc, h1, h2, h3, h4⟩⟩ := T.fns g (List.mem_of_getElem? hg)
    obtain ⟨e, _⟩ := okFn_inv hd
    exact ⟨a, o, _, e ▸ h1, h2, h3, fun _ _ _ _ _ _ _ _ _ _ _ _ hq => hq.elim⟩
  | k + 1, f, g, hg, hp => by
    obtain ⟨d, as, hd, hpar, hder, ⟨a, o, pm, cd, doc, h1, h2, h3, h4⟩⟩ := T.fns g (List.mem_of_getElem? hg)
    obtain ⟨e, hsc, _⟩ := okFn_inv hd
    rw [hpar] at h3
    simp only [Fn.plain, Bool.and_eq_true, Bool.not_eq_true', List.isEmpty_iff] at hp
    refine ⟨a, o, _, e ▸ h1, h2, h3, callOk_mono (call_sound (k := k) (P := exSs (XN fs k) g.body) T.gl T.lim h2 h3 h4 hsc fun A env s₀ N₀ hA he fx => ?_) (fun _ => id) fun ds Q hq => ?_⟩
    · have K := ok_of (g := g) T (plain_ok T k) hA he fx
      refine hder ⟨K, fun _ => ⟨⟨k, hA⟩, T.gfn⟩, fun _ f' x hz _ => ?_, fun hz => ?_⟩
      · have : g.zs.contains f' = true := hz
        rw [hp.1] at this; cases this
      · have : g.tr = true := hz
        rw [hp.2] at this; cases this
    · rw [XN, hg] at hq; exact hq
end
end Mine
end
section
open PySem PySem.Calls PyProof.Rows
namespace Mine
structure ExcF (base : Heap) (l : List Env) (e t : Addr) (f : Value) (h₀ h : Heap) : Prop where
  stays : base.StaysIn h
  new : base.get? e = none
  frames : h.FunFrames base l
  upto : h₀.UpToSlots h
  exc : ∃ d sl T oT ts, h.get? e = some ⟨.type "ValueError", d, .fields #[.ref t, .ref T, .none, .none, .bool false, .none], sl⟩ ∧ T ≠ e ∧ base.get? T = none ∧ h.get? T = some oT ∧ oT.data = .fields ts ∧ 3 < ts.size ∧ ts[3]? = some f
theorem upto_refl (h : Heap) : h.UpToSlots h := fun b o e _ => ⟨o.slots, e⟩
theorem upto_trans {h₁ h₂ h₃ : Heap} (x : h₁.UpToSlots h₂) (y : h₂.UpToSlots h₃) : h₁.UpToSlots h₃ := fun b o e n => by
  obtain ⟨sl, e₂⟩ := x b o e n
  obtain ⟨sl', e₃⟩ := y b _ e₂ n
  exact ⟨sl', e₃⟩
section
variable {M : Model} {A : Around} {E : Value → Shared → Prop} {s : Shared} {base h₀ : Heap} {env : Env} {outer : List Env} {L e t : Addr}
theorem exc_entry {head : Value} {hadNext : Bool} {d : Option Addr} {sl : Array (Option Value)} {Q : Unit → Shared → Prop}
    (hfr : A.frames = some (env :: outer)) (hl : s.heap.FunFrames base (env :: outer)) (hf : env.frame = some L) (hkb : base.StaysIn s.heap) (hen : base.get? e = none) (hup : h₀.UpToSlots s.heap)
    (he : s.heap.get? e = some ⟨.type "ValueError", d, .fields #[.ref t, head, .none, .none, .bool false, .none], sl⟩)
    (h : ∀ h', ExcF base (env :: outer) e t (rawInt L) h₀ h' → Q () { s with heap := h' }) :
    wpAny M A (do setField (.ref e) 1 (← EntryCells.newEntry head (← frameOf env) .none (rawInt L) .none (← entryPlaceOf L hadNext))) Q E s := by
  have hene : e ∉ (env :: outer).filterMap (·.frame) := fun hm => by
    obtain ⟨_, o, ho, hnf⟩ := hl.mem hm
    rw [he] at ho; injection ho with ho; subst ho; exact hnf _ rfl
  refine wpAny_bind (wpAny_frameOf_fun hfr hl hf fun h₁ hs₁ => ?_)
  refine wpAny_bind (wpAny_entryPlaceOf fun pl hpl => ?_)
  unfold EntryCells.newEntry newFields
  refine wpAny_bind (wpAny_newObj_type ?_ (hpl.sizeOk5 _ _ _ _ _))
  have he₁ : h₁.get? e = some ⟨.type "ValueError", d, .fields #[.ref t, head, .none, .none, .bool false, .none], sl⟩ := (hs₁.2.1 e hene).trans he
  have kb₁ : base.StaysIn h₁ := fun b o hbo => (hs₁.2.1 b fun hm => by rw [(hl.mem hm).1] at hbo; cases hbo).trans (hkb b o hbo)
  generalize hob : ({ cls := .type "traceback", dict := none, data := .fields ([head, .ref L, .none, rawInt L, .none] ++ (if pl.isEmpty then List.replicate 6 Value.none else pl)).toArray } : Obj) = ob at *
  have he₂ := Heap.get?_push_of_some (h := h₁) ob he₁
  refine wpAny_setField he₂ rfl (by simp) ?_
  have hTe : h₁.objs.size ≠ e := Nat.ne_of_gt (Heap.lt_size he₁)
  have hobf : ob.isFreed = false := by rw [← hob]; rfl
  have noRecord : ∀ b o, s.heap.get? b = some o → (∀ vs, o.data ≠ .fields vs) → b ≠ e := fun b o hb hnf q => by
    rw [q, he] at hb; injection hb with hb; subst hb; exact hnf _ rfl
  have keep : ∀ b o, b ≠ e → h₁.get? b = some o → ((h₁.push ob).update e (Obj.mapFields (·.setIfInBounds 1 (.ref h₁.objs.size)))).get? b = some o := fun b o hbe hb => by
    rw [Heap.get?_update_other _ _ (Ne.symm hbe)]
    exact Heap.get?_push_of_some _ hb
  have up : s.heap.UpToSlots ((h₁.push ob).update e (Obj.mapFields (·.setIfInBounds 1 (.ref h₁.objs.size)))) := fun b o hb hnf => by
    obtain ⟨sl, hs⟩ := hs₁.2.2 b o hb
    exact ⟨sl, keep b _ (noRecord b o hb hnf) hs⟩
  refine h _ ⟨fun b o hbo => keep b o (fun q => by rw [q, hen] at hbo; cases hbo) (kb₁ b o hbo), hen, hl.of_keeps fun b o hb hnf => ?_, upto_trans hup up, d, sl, h₁.objs.size, ob, _, ?_, hTe, ?_, ?_, by rw [← hob], ?_, ?_⟩
  · obtain ⟨sl, hs⟩ := up b o hb hnf
    exact ⟨_, hs, rfl⟩
  · rw [Heap.get?_update_self _ he₂ (by rfl)]
    rfl
  · exact kb₁.fresh
  · rw [Heap.get?_update_other _ _ (Ne.symm hTe)]
    exact Heap.get?_push_size h₁ hobf
  · simp only [List.size_toArray, List.length_append, List.length_cons, List.length_nil]; (first | lia | omega)
  · simp
theorem exc_note_new {Q : Unit → Shared → Prop} (hfr : A.frames = some (env :: outer)) (hl : s.heap.FunFrames base (env :: outer)) (hf : env.frame = some L) (hkb : base.StaysIn s.heap) (hen : base.get? e = none) (hup : h₀.UpToSlots s.heap)
    (he : s.heap.get? e = some { cls := .type "ValueError", data := .fields #[.ref t, .none, .none, .none, .bool false, .none] })
    (h : ∀ h', ExcF base (env :: outer) e t (rawInt L) h₀ h' → Q () { s with heap := h' }) : wpAny M A (noteFrame (.ref e) env) Q E s := by
  unfold noteFrame
  simp only [hf]
  refine wpAny_bind (wpAny_field (x := .none) he rfl rfl ?_)
  rw [if_neg (by decide)]
  exact exc_entry hfr hl hf hkb hen hup he h
theorem exc_note_next {Q : Unit → Shared → Prop} (hfr : A.frames = some (env :: outer)) (hf : env.frame = some L) (x : ExcF base (env :: outer) e t .none h₀ s.heap)
    (h : ∀ h', ExcF base (env :: outer) e t (rawInt L) h₀ h' → Q () { s with heap := h' }) : wpAny M A (noteFrame (.ref e) env) Q E s := by
  obtain ⟨d, sl, T, oT, ts, he, hTe, hnT, hT, hdT, hsz, h3⟩ := x.exc
  unfold noteFrame
  simp only [hf]
  refine wpAny_bind (wpAny_field (x := .ref T) he rfl rfl ?_)
  rw [if_pos (show (Value.ref T != Value.none) = true from by simp)]
  refine wpAny_bind (wpAny_field hT hdT h3 ?_)
  rw [if_neg (show ¬ ((Value.none == rawInt L) = true) from by simp [rawInt])]
  refine wpAny_bind (wpAny_setField hT hdT hsz ?_)
  have other : ∀ b, b ≠ T → (s.heap.update T (Obj.mapFields (·.setIfInBounds 3 Value.none))).get? b = s.heap.get? b := fun b hb => Heap.get?_update_other _ _ (Ne.symm hb)
  have noRecord : ∀ b o, s.heap.get? b = some o → (∀ vs, o.data ≠ .fields vs) → b ≠ T := fun b o hb hnf q => by
    rw [q, hT] at hb; injection hb with hb; subst hb; exact hnf ts hdT
  refine exc_entry hfr (x.frames.of_keeps fun b o hb hnf => ⟨o, (other b (noRecord b o hb hnf)).trans hb, rfl⟩) hf
    (fun b o hbo => (other b fun q => by rw [q, hnT] at hbo; cases hbo).trans (x.stays b o hbo)) x.new (upto_trans x.upto fun b o hb hnf => ⟨o.slots, (other b (noRecord b o hb hnf)).trans hb⟩) ((other e (Ne.symm hTe)).trans he) h
theorem exc_note_in {l : List Env} {Q : Unit → Shared → Prop} (hf : env.frame = some L) (x : ExcF base l e t (rawInt L) h₀ s.heap) (h : Q () s) : wpAny M A (noteFrame (.ref e) env) Q E s := by
  obtain ⟨d, sl, T, oT, ts, he, hTe, hnT, hT, hdT, hsz, h3⟩ := x.exc
  exact wpAny_noteFrame_inFlight (tb := T) hf he rfl rfl hT hdT h3 h
theorem exc_flight {l : List Env} {f : Value} {fr : Option Addr} {Q : Unit → Shared → Prop} (x : ExcF base l e t f h₀ s.heap) (h : ∀ h', ExcF base l e t (fr.elim .none fun f => rawInt f) h₀ h' → Q () { s with heap := h' }) : wpAny M A (setFlight (.ref e) fr) Q E s := by
  obtain ⟨d, sl, T, oT, ts, he, hTe, hnT, hT, hdT, hsz, h3⟩ := x.exc
  unfold setFlight
  refine wpAny_bind (wpAny_field (x := .ref T) he rfl rfl ?_)
  rw [if_pos (show (Value.ref T != Value.none) = true from by simp)]
  refine wpAny_setField hT hdT hsz ?_
  have other : ∀ b, b ≠ T → (s.heap.update T (Obj.mapFields (·.setIfInBounds 3 (fr.elim Value.none fun f => rawInt f)))).get? b = s.heap.get? b := fun b hb => Heap.get?_update_other _ _ (Ne.symm hb)
  have noRecord : ∀ b o, s.heap.get? b = some o → (∀ vs, o.data ≠ .fields vs) → b ≠ T := fun b o hb hnf q => by
    rw [q, hT] at hb; injection hb with hb; subst hb; exact hnf ts hdT
  have hd' := Obj.data_mapFields hdT (·.setIfInBounds 3 (fr.elim Value.none fun f => rawInt f))
  refine h _ ⟨fun b o hbo => (other b fun q => by rw [q, hnT] at hbo; cases hbo).trans (x.stays b o hbo), x.new, x.frames.of_keeps fun b o hb hnf => ⟨o, (other b (noRecord b o hb hnf)).trans hb, rfl⟩,
    upto_trans x.upto fun b o hb hnf => ⟨o.slots, (other b (noRecord b o hb hnf)).trans hb⟩, d, sl, T, _, _, (other e (Ne.symm hTe)).trans he, hTe, hnT, Heap.get?_update_self _ hT (Obj.isFreed_of_fields hd'), hd', by simpa using hsz, by simp [hsz]⟩
theorem exc_traced {l : List Env} {f : Value} {Q : Value → Shared → Prop} (x : ExcF base l e t f h₀ s.heap) (h : ∀ v, v ≠ .none → Q v s) : wpAny M A (field (.ref e) 1) Q E s := by
  obtain ⟨d, sl, T, oT, ts, he, _⟩ := x.exc
  exact wpAny_field (x := .ref T) he rfl rfl (h _ (by intro q; cases q))
theorem ExcF.typeIs {l : List Env} {f : Value} (x : ExcF base l e t f h₀ s.heap) : s.TypeIs (.ref e) "ValueError" := by
  obtain ⟨d, sl, T, oT, ts, he, _⟩ := x.exc
  exact ⟨_, he, rfl⟩
end
end Mine
end
section
open PySem PySem.Calls PyProof.Rows
namespace Mine
noncomputable def erase (h : Heap) (a : Addr) : Heap := h.update a fun o => { o with data := .freed }
noncomputable def eraseL (h : Heap) : List Addr → Heap
  | [] => h
  | a :: as => erase (eraseL h as) a
theorem get?_erase (h : Heap) (a b : Addr) : (erase h a).get? b = if a = b then none else h.get? b := by
  by_cases e : a = b
  · subst e
    rw [if_pos rfl]
    cases q : (erase h a).get? a with
    | none => rfl
    | some o =>
      exfalso
      obtain ⟨q1, q2⟩ := Heap.get?_some_iff.mp q
      obtain ⟨objs, life⟩ := h
      simp only [erase, Heap.update, Array.getElem?_modify, if_true] at q1
      cases q3 : objs[a]? with
      | none => rw [q3] at q1; cases q1
      | some o' => rw [q3] at q1; simp at q1; subst q1; simp [Obj.isFreed] at q2
  · rw [if_neg e]
    exact Heap.get?_update_other _ _ e
theorem get?_eraseL (h : Heap) : ∀ (as : List Addr) (b : Addr), (eraseL h as).get? b = if b ∈ as then none else h.get? b
  | [], b => by simp [eraseL]
  | a :: as, b => by
    rw [eraseL, get?_erase, get?_eraseL h as b]
    by_cases e : a = b
    · subst e; simp
    · have : ¬ b = a := fun q => e q.symm
      simp [e, this]
noncomputable def Frs (l : List Env) (h : Heap) : Prop := ∀ x ∈ l, x.scope.kind ≠ .module ∧ ∃ L o, x.frame = some L ∧ h.get? L = some o ∧ ∀ vs, o.data ≠ .fields vs
theorem Frs.upto {l : List Env} {h h' : Heap} (x : Frs l h) (k : ∀ L o, L ∈ l.filterMap (·.frame) → h.get? L = some o → (∀ vs, o.data ≠ .fields vs) → ∃ sl, h'.get? L = some { o with slots := sl }) : Frs l h' := fun y hy => by
  obtain ⟨h1, L, o, hf, ho, hn⟩ := x y hy
  obtain ⟨sl, e⟩ := k L o (List.mem_filterMap.mpr ⟨y, hy, hf⟩) ho hn
  exact ⟨h1, L, _, hf, e, hn⟩
theorem Frs.fun {l : List Env} {h base : Heap} (x : Frs l h) (k : ∀ L ∈ l.filterMap (·.frame), base.get? L = none) : h.FunFrames base l := by
  induction l with
  | nil => trivial
  | cons y l ih =>
    obtain ⟨h1, L, o, hf, ho, hn⟩ := x y (.head _)
    exact ⟨h1, ⟨L, o, hf, k L (List.mem_filterMap.mpr ⟨y, .head _, hf⟩), ho, hn⟩, ih (fun z hz => x z (.tail _ hz)) fun L hL => k L (by obtain ⟨z, hz, e⟩ := List.mem_filterMap.mp hL; exact List.mem_filterMap.mpr ⟨z, .tail _ hz, e⟩)⟩
structure Rst (s s' : Shared) : Prop where
  gens : ∀ (i : Nat) (x : GenState), s.gens[i]? = some x → s'.gens[i]? = some x
  bare : AllBare s.gens → AllBare s'.gens
  os : s'.os = s.os
theorem Aft.rst {W : Addr → Prop} {s s' : Shared} (x : Aft W s s') : Rst s s' := ⟨x.gens, x.bare, x.os⟩
theorem Rst.heap {s s' : Shared} (x : Rst s s') (h : Heap) : Rst s { s' with heap := h } := ⟨x.gens, x.bare, x.os⟩
structure BadEnd (s₀ : Shared) (l : List Env) (C e t : Addr) (tk : Tok) (base hr : Heap) (s₁ : Shared) : Prop where
  fly : ExcF base l e t .none hr s₁.heap
  bas : ∀ b o, b ≠ e → b ∉ l.filterMap (·.frame) → hr.get? b = some o → base.get? b = some o
  off : ∀ L ∈ l.filterMap (·.frame), base.get? L = none
  old : ∀ b o, b ≠ C → s₀.heap.get? b = some o → hr.get? b = some o
  enew : s₀.heap.get? e = none
  tnew : s₀.heap.get? t = none
  tup : hr.get? t = some { cls := .type "tuple", data := .seq [Value.str "invalid grouping" tk].toArray }
  te : t ≠ e
  rst : Rst s₀ s₁
end Mine
end
section
open PySem PySem.Calls PyProof.Rows
namespace Mine
section
variable {prog : Program} {w : World} {A : Around} {H : Heap} {mg mb : Str → Option Value} {ge : Env} {l : Addr} {vs : List Value} {rest : List Int} {s : Shared}
theorem seg_bad (G : GTop mg mb H ge) (hh : A.handled = none) (hu : A.units + 100 < cLine) {outer : List Env} (hfr : A.frames = some outer) (hF : Frs outer s.heap) (hx : IntsAt vs (0 :: rest)) {P : Nat → Pos} {k : Nat → Nat} {m : Nat} {mm : Str → Option Value} {R : GenEnd} {Y : Protocol}
    (ext : Ext H s.heap) (hn : s.heap.Ns ge.locals mm) (hg : mm "grouping" = some (.ref l)) (hl : s.heap.IsList l vs.toArray) (hlc : l ≠ ge.locals) (hHc : ∀ o, H.get? ge.locals ≠ some o)
    (hR : ∀ e t tk base hr s₁, BadEnd s (ge :: outer) ge.locals e t tk base hr s₁ → R (m + 1) s (.error (.ref e)) s₁) :
    Seg (model prog w) A R Y (m + 1) s (.func (gAll P k) ge) ((model prog w).den (.func (gAll P k) ge)) [] s := by
  have hIlt : ∀ b o, s.heap.get? b = some o → b ≠ s.heap.objs.size := fun b o e => Nat.ne_of_lt (Heap.lt_size e)
  have ap : GApart H ge s.heap.objs.size l := ⟨by obtain ⟨o, _, _, e, _⟩ := hn; exact hIlt _ o e, hlc, by obtain ⟨o, e, _⟩ := hl; exact hIlt _ o e, hHc, fun o e => hIlt _ o (ext _ o e) rfl⟩
  refine seg_func (seg_execs_cons (gen_stmt (wpAny_Assign_Name (wpAny_Constant_none ?_) (swaps_false rfl _ _ _))))
  refine wpAny_storeName_local G.env.last hn (fun h' hn' hs' => ?_) (by rw [G.env.kind]; rfl)
  have k₁ : ∀ b o, b ≠ ge.locals → s.heap.get? b = some o → h'.get? b = some o := fun b o hb e => hs'.extBut b o hb e
  have hl' : h'.IsList l vs.toArray := hl.at fun o e => hs'.extBut _ o hlc e
  have hsz : h'.objs.size = s.heap.objs.size := hs'.1
  refine seg_execs_cons (gen_for (folded_of rfl) (gen_local (s := { s with heap := h', toks := s.toks + 1 }) G.env G.env.grouping (by decide) hn' (by rw [if_neg (by decide)]; exact hg) (P 29) (wpAny_pyIter_list hl' fun p => ?_)))
  rw [hsz]
  have g₀ : GI H ge s.heap.objs.size l vs 0 none (h'.push { cls := .type "list_iterator", data := .fields #[.ref l, rawInt 0] }) := ⟨fun b o e => Heap.get?_push_of_some _ (hs'.extBut b o (fun q => hHc o (q ▸ e)) (ext b o e)), ⟨_, hn'.push _, by show (if _ then _ else _) = _; rw [if_pos rfl]⟩,
    ⟨_, by rw [← hsz]; exact Heap.get?_push_size _ rfl, rfl, rfl⟩, hl'.at fun o e => Heap.get?_push_of_some _ e⟩
  -- the loop's first turn
  generalize hcf : Code.func (gAll P k) ge = cf
  generalize hfs : loopK ge _ _ _ _ cf p = fr
  have hh' : (A.over (gLoop P k s.heap.objs.size ge) [fr]).handled = none := by rw [← hfs]; exact hh
  have hu' : (A.over (gLoop P k s.heap.objs.size ge) [fr]).units + 20 < cLine := by
    rw [← hfs]
    show A.units + (unitsOf [(cf, p)]) + (gLoop P k s.heap.objs.size ge).cUnits + 20 < cLine
    have e1 : unitsOf [(cf, p)] = cf.cUnits := by simp [unitsOf]
    have e2 : (gLoop P k s.heap.objs.size ge).cUnits = 0 := rfl
    have e3 : cf.cUnits = 3 := by rw [← hcf]; rfl
    rw [e1, e2, e3]; (first | lia | omega)
  have hfr' : (A.over (gLoop P k s.heap.objs.size ge) [fr]).frames = some (ge :: outer) := by
    rw [← hfs, ← hcf]
    show pushEnvs [] (pushEnvs [ge] A.frames) = _
    rw [hfr]; rfl
  have hfr2 : (A.over (.func (gAll P k) ge) []).frames = some (ge :: outer) := by
    show pushEnvs [ge] (pushEnvs [] A.frames) = _
    rw [hfr]; rfl
  refine gen_forLoop ?_
  have hiv : 0 < vs.toArray.size := by simp [hx.1]
  refine (Walks.list (prog := prog) (w := w) hh' s.heap.objs.size l ap.li vs.toArray).item 0 _ _ _ hiv ⟨g₀.it, g₀.lst⟩ fun v h₁ tk₁ hv hst hk₁ => ?_
  obtain ⟨t, hvt⟩ := hx.2 0 0 rfl
  rw [List.getElem?_toArray, hvt] at hv
  cases hv
  obtain ⟨mm₁, hn₁, hlast⟩ := g₀.ns
  have hn₂ : h₁.Ns ge.locals mm₁ := hn₁.at' fun o e => hk₁ _ o (by simpa using ap.ci) e
  have g₁ : GI H ge s.heap.objs.size l vs 1 none h₁ := ⟨fun b o e => hk₁ b o (fun q => ap.hi o (by simp at q; exact q ▸ e)) (g₀.ext b o e), ⟨mm₁, hn₂, hlast⟩, hst.1, hst.2⟩
  have k₂ : ∀ b o, b ≠ ge.locals → s.heap.get? b = some o → h₁.get? b = some o := fun b o hb e => hk₁ b o (by simpa using hIlt b o e) (Heap.get?_push_of_some _ (k₁ b o hb e))
  refine gen_store (s := { s with heap := h₁, toks := tk₁ }) G.env ap G.env.interval g₁ hn₂ fun s₂ a₂ hn₃ g₂ _ => ?_
  have g₂ : GI H ge s.heap.objs.size l vs 1 none s₂.heap := g₂ none (by rw [if_neg (by decide)]; exact hlast)
  have k₃ : ∀ b o, b ≠ ge.locals → s.heap.get? b = some o → s₂.heap.get? b = some o := fun b o hb e => a₂.heap b o (fun q => q.elim hb (hIlt b o e)) (k₂ b o hb e)
  have r₃ : Rst s s₂ := ⟨fun i x e => a₂.gens i x e, fun q => a₂.bare q, a₂.os⟩
  obtain ⟨tc, hcm⟩ := G.cmax
  refine seg_execs_cons (gen_if (gen_eq G.env hu' rfl hn₃ (by rw [if_pos rfl]) (fun Q' hQ => gen_global G G.env.cmax hcm g₂.ext (P 14) (hQ tc s₂ (.refl _ _))) fun s₃ ev₃ => ?_))
  have hn₄ := hn₃.keeps fun b o q => ev₃.ext b o q
  refine seg_execs_nil (seg_execs_cons (gen_if (gen_eq G.env hu' rfl hn₄ (by rw [if_pos rfl]) (fun Q' hQ => wpAny_Constant_int (hQ _ _ Evl.toks)) fun s₄ ev₄ => ?_)))
  have hn₅ := hn₄.keeps fun b o q => ev₄.ext b o q
  refine seg_execs_cons (gen_if (gen_is (last := none) G.env hu' hn₅ (by rw [if_neg (by decide)]; exact hlast) fun s₅ ev₅ => ?_))
  have ev : Evl s₂ s₅ := (ev₃.trans ev₄).trans ev₅
  have hn₆ := hn₅.keeps fun b o q => ev₅.ext b o q
  -- the raise
  have hv := G.verr
  have hve := G.env.verr
  simp only [globName, plainName, Bool.and_eq_true, beq_iff_eq, Bool.not_eq_true'] at hve
  have ext₅ : Ext H s₅.heap := g₂.ext.trans ev.ext
  refine seg_execs_cons (gen_stmt (wpAny_Raise_call PySem.F.excCall_ValueError PySem.F.excRaise_ValueError hh' rfl
    (Name_function_global G.env.kind hve.1 (loadGlobal_builtin (G.env.glob ▸ G.gl.g.keeps ext₅) hv.1 (G.env.bns ▸ G.gl.b.keeps ext₅) hv.2 ⟨rfl, ?_⟩) hve.2.1)))
  refine args_sound (es := [.Constant (.str "invalid grouping") (k 1) (P 4)]) rfl rfl (spliced_cons (wpAny_Constant_str (k := k 1) (pos := P 4) (spliced_nil ⟨rfl, by simp [sizeLine_eq], fun h₆ e hm => ?_⟩)))
  obtain ⟨ta, he, htn, hta⟩ := hm.there
  have r₆ : Rst s s₅ := ⟨fun i x e => ev.gens i x (r₃.gens i x e), fun q => ev.bare (r₃.bare q), ev.os.trans r₃.os⟩
  have k₆ : ∀ b o, b ≠ ge.locals → s.heap.get? b = some o → h₆.get? b = some o := fun b o hb e => hm.keeps b o (ev.ext b o (k₃ b o hb e))
  have alive : ∀ b o, s.heap.get? b = some o → ∃ o', s₅.heap.get? b = some o' := fun b o e => by
    by_cases hb : b = ge.locals
    · subst hb; obtain ⟨o', _, _, e', _⟩ := hn₆; exact ⟨o', e'⟩
    · exact ⟨o, ev.ext b o (k₃ b o hb e)⟩
  have enew : s.heap.get? e = none := by
    cases q : s.heap.get? e with
    | none => rfl
    | some o => obtain ⟨o', e'⟩ := alive e o q; have := hm.new; rw [show ({ s₅ with toks := s₅.toks + 1 } : Shared).heap = s₅.heap from rfl] at this; rw [e'] at this; cases this
  have tnew : s.heap.get? ta = none := by
    cases q : s.heap.get? ta with
    | none => rfl
    | some o => obtain ⟨o', e'⟩ := alive ta o q; rw [show ({ s₅ with toks := s₅.toks + 1 } : Shared).heap = s₅.heap from rfl] at htn; rw [e'] at htn; cases htn
  have hte : ta ≠ e := fun q => by subst q; rw [he] at hta; injection hta with hta; injection hta with _ _ q; cases q
  have hFr : Frs (ge :: outer) h₆ := fun y hy => by
    rcases List.mem_cons.mp hy with rfl | hy
    · obtain ⟨o, _, _, e', hd, _⟩ := hn₆
      exact ⟨by rw [G.env.kind]; decide, _, o, G.env.frame, hm.keeps _ o e', fun vs q => by rw [hd] at q; cases q⟩
    · obtain ⟨h1, L, o, hf, ho, hnf⟩ := hF y hy
      by_cases hL : L = ge.locals
      · subst hL
        obtain ⟨o, _, _, e', hd, _⟩ := hn₆
        exact ⟨h1, _, o, hf, hm.keeps _ o e', fun vs q => by rw [hd] at q; cases q⟩
      · exact ⟨h1, L, o, hf, k₆ L o hL ho, hnf⟩
  generalize hfrs : (ge :: outer).filterMap (·.frame) = frs
  have off : ∀ L ∈ frs, (eraseL h₆ (e :: frs)).get? L = none := fun L hL => by rw [get?_eraseL, if_pos (List.mem_cons_of_mem _ hL)]
  have hen : (eraseL h₆ (e :: frs)).get? e = none := by rw [get?_eraseL, if_pos (.head _)]
  have stays : (eraseL h₆ (e :: frs)).StaysIn h₆ := fun b o q => by
    rw [get?_eraseL] at q
    split at q
    · cases q
    · exact q
  have end_ : ∀ s₁ : Shared, Rst s s₁ → ExcF (eraseL h₆ (e :: frs)) (ge :: outer) e ta .none h₆ s₁.heap → R (m + 1) s (.error (.ref e)) s₁ := fun s₁ r x => by
    refine hR e ta s₅.toks _ h₆ s₁ ⟨x, fun b o h1 h2 h3 => ?_, ?_, k₆, enew, tnew, hta, hte, r⟩
    · rw [hfrs] at h2
      rw [get?_eraseL, if_neg (fun q => (List.mem_cons.mp q).elim h1 h2)]; exact h3
    · rw [hfrs]; exact off
  -- its way out of the generator
  have hFu : h₆.FunFrames (eraseL h₆ (e :: frs)) (ge :: outer) := hFr.fun fun L hL => off L (hfrs ▸ hL)
  unfold noteH
  refine seg_wrap (wpAny_bind (exc_note_new (h₀ := h₆) hfr' hFu G.env.frame stays hen (upto_refl _) he fun h₇ x₇ => wpAny_theTreesLotGoes ?_))
  rw [← hfs]
  refine seg_leaf (.error (.ref e)) ?_
  show Seg _ A R Y (m + 1) s _ (Sem.wrap _ _ _ _ ((do
      if (← field (.ref e) 1) == Value.none then unsupported "frame.own-activation:exception-without-traceback"
      setFlight (.ref e) ge.frame : Sem Unit) >>= fun _ => (Sem.raise (.ref e) : Sem Flow))) [] _
  refine seg_bind_wrap (wpAny_bind (exc_traced x₇ fun v hv => ?_))
  rw [if_neg (by simpa using hv)]
  refine exc_flight x₇ fun h₈ x₈ => ?_
  rw [G.env.frame] at x₈
  show Seg _ A R Y (m + 1) s _ ((leaving ge (.ref e)).wrap (fun _ => .raise (.ref e)) .raise id id) [] _
  rw [hcf] at hfr2
  refine seg_wrap ?_
  unfold leaving
  refine wpAny_bind (exc_note_in G.env.frame x₈ (exc_flight x₈ fun h₉ x₉ => ?_))
  exact seg_end (.error (.ref e)) (end_ _ ⟨r₆.gens, r₆.bare, r₆.os⟩ x₉)
end
end Mine
end
section
open PySem PySem.Calls PyProof.Rows
namespace Mine
section
variable {prog : Program} {w : World} {A : Around} {E : Value → Shared → Prop} {s s' s₂ : Shared} {s₀ : Base} {env : Env} {tbl : List Str} {N W W' N₀ : Addr → Prop} {ρ : Rho} {mg mb : Str → Option Value} {H : Heap}
theorem St.slots (S : St w prog env tbl s₀ N W ρ s) (hWl : W env.locals) (hk : ∀ b o, b ≠ env.locals → ¬ s₀.Z b → s.heap.get? b = some o → s'.heap.get? b = some o)
    (hl : ∀ o, s.heap.get? env.locals = some o → (∀ vs, o.data ≠ .fields vs) → ∃ sl, s'.heap.get? env.locals = some { o with slots := sl }) (hz : s₀.ZI s'.heap) (hzl : ∀ b, s₀.Z b → ∃ o, s'.heap.get? b = some o) (r : Rst s₀.toShared s') : St w prog env tbl s₀ N W ρ s' := by
  obtain ⟨m, cm, own, L, ZL, O1, O2, V⟩ := S.vals
  obtain ⟨ol, es, ep, hol, hdl, hrl⟩ := L.ns
  obtain ⟨sl, hsl⟩ := hl ol hol (fun vs q => by rw [hdl] at q; cases q)
  have hF : ∀ a o, ¬ (N a ∨ W a) → s.heap.get? a = some o → s'.heap.get? a = some o := fun a o hF e => hk a o (fun q => hF (.inr (q ▸ hWl))) (fun q => hF (.inr (S.zw a q))) e
  refine ⟨⟨fun b o _ e => hk b o (fun q => ?_) (fun q => ?_) (S.evl.heap b o id e), r.gens, r.bare, r.os⟩, fun a ha => ?_, S.fresh, S.zw, hz, m, cm, own, ⟨⟨_, es, ep, hsl, hdl, hrl⟩, fun n c hc => ?_, L.apart, L.ne⟩, ZL, O1, O2, fun i x lv ht hr => ?_⟩
  · have := S.fresh b (q ▸ hWl); rw [this] at e; cases e
  · have := S.fresh b (S.zw b q); rw [this] at e; cases e
  · by_cases q : a = env.locals
    · exact ⟨_, q ▸ hsl⟩
    · by_cases z : s₀.Z a
      · exact hzl a z
      · obtain ⟨o, e⟩ := S.live a ha; exact ⟨o, hk a o q z e⟩
  · obtain ⟨o, e, d⟩ := L.cell n c hc
    exact ⟨o, hk c o (L.ne n c hc) (fun z => (ZL c z).1.2 n c hc rfl) e, d⟩
  · obtain ⟨v, hv, rr⟩ := V i x lv ht hr
    exact ⟨v, hv, rr.go (fun a o hN e => ⟨hN, hF a o hN e⟩) fun ho a ha o e => hk a o (O1 i lv hr ho a ha).2.1 (fun z => (ZL a z).2 i lv hr ho ha) e⟩
theorem St.unbind {j : Nat} {n : Str} (S : St w prog env tbl s₀ N W ρ s) (R : Frm env tbl N W) (hx : tbl[j]? = some n) (hl : env.kindOf n = some .local) {Q : Unit → Shared → Prop} {pos : Pos}
    (h : ∀ s', St w prog env tbl s₀ N W (ρ.set j none) s' → Aft (fun b => b = env.locals) s s' → Q () s') : wpAny (model prog w) A (do bindName env n .none; unbindBehindTheSuite env n pos) Q E s := by
  obtain ⟨m, cm, own, L, ZL, O1, O2, V⟩ := S.vals
  have hWl : W env.locals := R.homeW n (List.mem_of_getElem? hx) _ (.loc hl)
  refine wpAny_nameGoes_keeps hl L.ns (by rw [R.kind]; rfl) fun h' v hn hs => ?_
  have af : Aft (fun b => b = env.locals) s { s with heap := h', toks := s.toks + 1 } := Aft.of fun b o hb e => hs.extBut b o hb e
  have hF : ∀ a o, ¬ (N a ∨ W a) → s.heap.get? a = some o → ¬ (N a ∨ W a) ∧ h'.get? a = some o := fun a o hF e => ⟨hF, hs.extBut a o (fun q => hF (.inr (q ▸ hWl))) e⟩
  refine h _ ⟨⟨fun b o _ e => hs.extBut b o (fun q => ?_) (S.evl.heap b o id e), S.evl.gens, S.evl.bare, S.evl.os⟩, fun a ha => ?_, S.fresh, S.zw, s₀.zs _ _ S.zi fun b o hb e => hs.extBut b o (ZL b hb).1.1 e, _, cm, own, ⟨hn, fun n c hc => (L.cell n c hc).sameBut hs (L.ne n c hc), L.apart, L.ne⟩, ?_, ?_, ?_, ?_⟩ af
  · have := S.fresh b (q ▸ hWl); rw [this] at e; cases e
  · by_cases q : a = env.locals
    · subst q; obtain ⟨o, _, _, e, _⟩ := hn; exact ⟨o, e⟩
    · obtain ⟨o, e⟩ := S.live a ha; exact ⟨o, hs.extBut a o q e⟩
  · refine fun a ha => ⟨(ZL a ha).1, fun i lv hr ho => ?_⟩
    rw [Rho.at_set] at hr
    split at hr
    · cases hr
    · exact (ZL a ha).2 i lv hr ho
  · intro i lv hr ho a ha
    rw [Rho.at_set] at hr
    split at hr
    · cases hr
    · refine ⟨(O1 i lv hr ho a ha).1, (O1 i lv hr ho a ha).2.1, (O1 i lv hr ho a ha).2.2.1, fun j' lv' hr' ho' ha' => ?_⟩
      rw [Rho.at_set] at hr'
      split at hr'
      · cases hr'
      · exact (O1 i lv hr ho a ha).2.2.2 j' lv' hr' ho' ha'
  · intro i lv hr ho
    rw [Rho.at_set] at hr
    split at hr
    · cases hr
    · exact O2 i lv hr ho
  · intro i y lv ht hr
    rw [Rho.at_set] at hr
    split at hr
    · cases hr
    · rename_i q
      have hij : j ≠ i := fun e => q ⟨e, Rho.at_lt hr⟩
      have hyn : y ≠ n := tbl_ne R.nodup hx ht hij
      obtain ⟨u, hu, rr⟩ := V i y lv ht hr
      refine ⟨u, ?_, rr.go hF fun ho a ha o e => hs.extBut a o (O1 i lv hr ho a ha).2.1 e⟩
      unfold val at hu ⊢
      split
      · rename_i hk; rw [if_pos hk] at hu
        show (if y = n then _ else _) = _
        rw [if_neg hyn]; exact hu
      · rename_i hk; rw [if_neg hk] at hu; exact hu
end
end Mine
end
section
open PySem PySem.Calls PyProof.Rows
namespace Mine
structure TryCx (A : Around) (env : Env) (s₀ : Base) (outer : List Env) : Prop where
  fr : A.frames = some (env :: outer)
  frame : env.frame = some env.locals
  zo : ∀ L, s₀.Z L ↔ L ∈ outer.filterMap (·.frame)
  frs : ∀ h, s₀.ZI h → Frs outer h
  keep : ∀ h h', s₀.ZI h → (∀ L o, L ∈ outer.filterMap (·.frame) → h.get? L = some o → (∀ vs, o.data ≠ .fields vs) → ∃ sl, h'.get? L = some { o with slots := sl }) → s₀.ZI h'
theorem sub_value_base : isSubtype (.type "ValueError") (.type "BaseException") = pure true := by rw [isSubtype_type]; kernel_rfl
theorem sub_value_value : isSubtype (.type "ValueError") (.type "ValueError") = pure true := by rw [isSubtype_type]; kernel_rfl
theorem sub_value_meta : isSubtype (.type ((Manifest.find? "ValueError").elim "type" fun x => x.metatype)) (.type "tuple") = pure false := by
  have e : ((Manifest.find? "ValueError").elim "type" fun x => x.metatype) = "type" := by decide +kernel
  rw [e, isSubtype_type]; kernel_rfl
section
variable {prog : Program} {w : World} {A : Around} {s₀ : Base} {env : Env} {tbl : List Str} {N₀ : Addr → Prop} {mg mb : Str → Option Value} {H : Heap} {outer : List Env} {k : Nat}
theorem try_sound (X : Fx mg mb H env s₀ N₀) (hA : Rm k A) {P : Nat → Pos} {kk : Nat → Nat} {gx : Str} (GF : GFn H mg mb P kk gx) (tc : TryCx A env s₀ outer) : TryLem prog w A env tbl s₀ N₀ gx := by
  intro e Pe t x n tp fp p q hp vp np pos body hs h Pb Ph kill j hgx he hst ht hb hve htn hhand N W ρ s E Q hN S R hq
  obtain ⟨n', _, en, hx, hw⟩ := tgtName_inv htn
  cases en
  have hl : env.kindOf n = some .local := by
    have : env.scope.names.lookup n = some .local := by simpa [writable] using hw
    exact this
  have hWl : W env.locals := R.homeW n (List.mem_of_getElem? hx) _ (.loc hl)
  have room : A.depth < recursionLimit := by have := hA.2.1; unfold recursionLimit; (first | lia | omega)
  refine wpAny_Try_except ?_
  show wpAny _ _ (do
    match ← exec (.For (.Name x tp) (.Call (.Name gx q) [e] [] p) body [] fp) env with
    | .next => execs [] env
    | f => pure f) _ _ _
  refine wpAny_bind (wpAny_mono (forgen_exec (kill := kill) (Q := Q) X hA GF hgx he hst ht hb hN S R hq fun s₁ s₂ ag C ge l vs rest ev₁ GN hlF el hia e1 hBd => ?_) (fun f s₁ h₁ => ?_) fun _ _ q => q)
  · obtain ⟨hjl, hPh⟩ := hBd
    have ev₂ : Evl s s₂ := ev₁.trans GN.ev
    have isg := GN.isg
    have gsg := GN.gs
    generalize hg : s₁.gens.size = g at isg gsg
    have llive : ∃ o, s₁.heap.get? l = some o := by obtain ⟨o, e, _⟩ := el; exact ⟨o, e⟩
    have lC : l ≠ C := fun q => by obtain ⟨o, e⟩ := llive; rw [q, GN.cn] at e; cases e
    have gnew : ∀ (i : Nat) (x : GenState), s.gens[i]? = some x → i ≠ g := fun i x e q => by
      have := ev₁.gens i x e
      rw [q, ← hg, Array.getElem?_eq_none (Nat.le_refl _)] at this; cases this
    have S₂ := S.step ev₂
    have Cnew : s.heap.get? C = none := ev₁.none GN.cn
    have hHC : ∀ o, H.get? C ≠ some o := fun o q => by rw [S.evl.heap C o id (X.ext C o q)] at Cnew; cases Cnew
    have Frs₂ : Frs (env :: outer) s₂.heap := fun y hy => by
      rcases List.mem_cons.mp hy with rfl | hy
      · obtain ⟨m, o, _, _, e, hd, _⟩ := S₂.ns
        exact ⟨by rw [R.kind]; decide, _, o, tc.frame, e, fun vs q => by rw [hd] at q; cases q⟩
      · exact tc.frs _ S₂.zi y hy
    have hl₂ : s₂.heap.NoLimit := GF.lim.keeps fun b o e => GN.ev.heap b o id (e1 b o e)
    obtain ⟨mm, hns, hgr⟩ := GN.ns
    refine wpAny_runOwn (codeAny_forLoop_any (A := A) (fun _ s' => s' = s₂) ?_ 0 rfl)
    rintro i s' rfl
    refine pyNext_gen (n := 1) (R := fun n s₀' r s₁' => ∃ e t tk base hr, r = .error (.ref e) ∧ BadEnd s₀' (ge :: env :: outer) ge.locals e t tk base hr s₁') (Y := fun _ _ _ _ _ => False) hA.1 hl₂ room isg gsg ⟨rfl, ?_⟩ (fun v s₁ gs' _ hv => hv.elim) (fun r s₃ hr => ?_)
    · exact seg_bad (A := A.in1) (s := s'.setGen g .running) (m := 0) GN.top hA.1 (by show A.units + 1 + 100 < cLine; have := hA.2.2; unfold cLine; (first | lia | omega)) tc.fr Frs₂ hia (fun b o e => GN.ev.heap b o id (e1 b o e)) (GN.c ▸ hns) hgr (el.at fun o e => GN.ev.heap _ o id e) (GN.c ▸ lC) (by rw [GN.c]; exact hHC)
        fun e t tk base hr s₁ B => ⟨e, t, tk, base, hr, rfl, B⟩
    · obtain ⟨e, t, tk, base, hr, rfl, B⟩ := hr
      have frames_eq : (ge :: env :: outer).filterMap (·.frame) = C :: env.locals :: outer.filterMap (·.frame) := by
        rw [List.filterMap_cons, GN.top.env.frame, List.filterMap_cons, tc.frame, GN.c]
      have B' := B
      -- what stood before, but the frames, stands
      have keepH : ∀ {h' : Heap} {l' : List Env} {f : Value}, ExcF base l' e t f hr h' → ∀ b o, s'.heap.get? b = some o → b ≠ C → b ≠ env.locals → b ∉ outer.filterMap (·.frame) → h'.get? b = some o := fun x b o hb h1 h2 h3 => by
        refine x.stays b o (B.bas b o (fun q => ?_) ?_ (B.old b o (by rw [GN.c]; exact h1) hb))
        · have := B.enew; rw [q] at hb; rw [show (s'.setGen g .running).heap = s'.heap from rfl, hb] at this; cases this
        · rw [frames_eq]; simp [h1, h2]; simpa using h3
      refine .inr ⟨.ref e, rfl, B.fly.typeIs, ?_, ?_⟩
      · obtain ⟨o, nm, qn, ho, r⟩ := isg
        refine ⟨o, nm, qn, keepH B.fly ag o ho GN.ne (fun q => ?_) (fun q => ?_), r⟩
        · have := GN.an; rw [q] at this
          obtain ⟨m, o', _, _, e', _⟩ := S.ns
          rw [ev₁.heap _ o' id e'] at this; cases this
        · obtain ⟨o', e'⟩ := S.live ag (.inr (S.zw ag ((tc.zo ag).mpr q)))
          have := GN.an; rw [ev₁.heap _ o' id e'] at this; cases this
      · -- the flight
        have x₀ : ExcF base (env :: outer) e t .none hr (s₃.setGen g .finished).heap := ⟨B.fly.stays, B.fly.new, B.fly.frames.2.2, B.fly.upto, B.fly.exc⟩
        refine exc_note_next tc.fr tc.frame x₀ fun h₄ x₄ => ?_
        show wpAny _ A (do
          if (← field (.ref e) 1) == Value.none then unsupported "frame.own-activation:exception-without-traceback"
          setFlight (.ref e) env.frame) _ _ _
        refine wpAny_bind (exc_traced x₄ fun v hv => ?_)
        rw [if_neg (by simpa using hv)]
        refine exc_flight x₄ fun h₅ x₅ => ?_
        rw [tc.frame] at x₅
        refine exc_note_in tc.frame x₅ (exc_flight x₅ fun h₆ x₆ => ?_)
        have Cne : C ≠ env.locals := fun q => by obtain ⟨m, o', _, _, e', _⟩ := S.ns; rw [← q, Cnew] at e'; cases e'
        have offO : ∀ L ∈ outer.filterMap (·.frame), ∃ o, s.heap.get? L = some o ∧ ∀ vs, o.data ≠ .fields vs := fun L hL => by
          obtain ⟨y, hy, hf⟩ := List.mem_filterMap.mp hL
          obtain ⟨_, L', o, hf', ho, hn⟩ := tc.frs _ S.zi y hy
          rw [hf] at hf'; cases hf'
          exact ⟨o, ho, hn⟩
        have hEx : ∀ {h' : Heap} {l' : List Env} {f : Value}, ExcF base l' e t f hr h' → Ext s₀.heap h' := fun x b o hb => by
          have hs : s'.heap.get? b = some o := ev₂.heap b o id (S.evl.heap b o id hb)
          refine keepH x b o hs (fun q => ?_) (fun q => ?_) fun q => ?_
          · have := S.evl.none Cnew; rw [q, this] at hb; cases hb
          · have := S.fresh b (q ▸ hWl); rw [this] at hb; cases hb
          · have := S.fresh b (S.zw b ((tc.zo b).mpr q)); rw [this] at hb; cases hb
        refine wpAny_handleBy_builtin_as (X := "ValueError") (T := "ValueError") (b := true) sub_value_base sub_value_meta sub_value_value ?_
        refine name_bi X hve (v := .type "ValueError") (List.mem_of_getElem? (i := 11) rfl) vp (hEx x₆) ⟨rfl, x₆.typeIs, ?_⟩
        rw [if_pos rfl]
        refine exc_flight x₆ fun h₇ x₇ => ?_
        -- the frame stands: without the exception's record, then with it
        have enew : s.heap.get? e = none := ev₂.none B.enew
        have enew₂ : s'.heap.get? e = none := B.enew
        have uplo : ∀ L o, L ≠ C → s.heap.get? L = some o → (∀ vs, o.data ≠ .fields vs) → ∃ sl, h₇.get? L = some { o with slots := sl } := fun L o hL ho hn => x₇.upto L o (B.old L o (by rw [GN.c]; exact hL) (ev₂.heap L o id ho)) hn
        have sne : ∀ {b : Addr} {o : Obj}, s.heap.get? b = some o → b ≠ C ∧ b ≠ e := fun {b o} hb => ⟨fun q => (by rw [q, Cnew] at hb; cases hb), fun q => (by rw [q, enew] at hb; cases hb)⟩
        have er : ∀ b o, b ≠ e → h₇.get? b = some o → (erase h₇ e).get? b = some o := fun b o hb hq => by rw [get?_erase, if_neg (Ne.symm hb)]; exact hq
        have Sv : St w prog env tbl s₀ N W ρ { s₃.setGen g .finished with heap := erase h₇ e } := by
          refine S.slots hWl (fun b o h1 h2 hb => er b o (sne hb).2 (keepH x₇ b o (ev₂.heap b o id hb) (sne hb).1 h1 fun q => h2 ((tc.zo b).mpr q))) (fun o ho hn => ?_) ?_ (fun b hb => ?_) ⟨fun i y hi => ?_, fun q => bare_setGen rfl (B.rst.bare (bare_setGen rfl (ev₂.bare (S.evl.bare q)))), ?_⟩
          · obtain ⟨sl, hq⟩ := uplo _ o (sne ho).1 ho hn
            exact ⟨sl, er _ _ (sne ho).2 hq⟩
          · refine tc.keep s.heap _ S.zi fun L o _ ho hn => ?_
            obtain ⟨sl, hq⟩ := uplo L o (sne ho).1 ho hn
            exact ⟨sl, er _ _ (sne ho).2 hq⟩
          · obtain ⟨o, ho, hn⟩ := offO b ((tc.zo b).mp hb)
            obtain ⟨sl, hq⟩ := uplo b o (sne ho).1 ho hn
            exact ⟨_, er _ _ (sne ho).2 hq⟩
          · have hi' := ev₂.gens i y (S.evl.gens i y hi)
            have hne := gnew i y (S.evl.gens i y hi)
            show (s₃.setGen g .finished).gens[i]? = some y
            rw [(GenOnly.setGen s₃ g .finished).2 i hne]
            refine B.rst.gens i y ?_
            rw [(GenOnly.setGen s' g .running).2 i hne]; exact hi'
          · exact B.rst.os.trans (ev₂.os.trans S.evl.os)
        have evv : Evl { s₃.setGen g .finished with heap := erase h₇ e } { s₃.setGen g .finished with heap := h₇ } := ⟨fun b o _ hb => by
            rw [get?_erase] at hb
            split at hb
            · cases hb
            · exact hb, fun _ _ q => q, id, rfl⟩
        obtain ⟨d, sl, T, oT, ts, he₇, _⟩ := x₇.exc
        have tnew : s.heap.get? t = none := ev₂.none B.tnew
        have htF : ∀ b, (N b ∨ W b) → b ≠ t := fun b hb q => by obtain ⟨o, e'⟩ := S.live b hb; rw [q, tnew] at e'; cases e'
        have ht₇ : h₇.get? t = some { cls := .type "tuple", data := .seq [Value.str "invalid grouping" tk].toArray } := by
          refine x₇.stays t _ (B.bas t _ B.te ?_ B.tup)
          rw [frames_eq]
          intro q
          rcases List.mem_cons.mp q with q | q
          · obtain ⟨o, _, _, e', _⟩ := hns
            have := B.tnew
            rw [q] at this
            rw [show (s'.setGen g .running).heap = s'.heap from rfl, e'] at this; cases this
          · rcases List.mem_cons.mp q with q | q
            · obtain ⟨m, o, _, _, e', _⟩ := S.ns; rw [← q, tnew] at e'; cases e'
            · obtain ⟨o, e', _⟩ := offO t q; rw [tnew] at e'; cases e'
        have eF : ∀ b, (N b ∨ W b) → b ≠ e := fun b hb q => by obtain ⟨o, e'⟩ := S.live b hb; rw [q, enew] at e'; cases e'
        -- everything but W is as it stood
        have a₇ : Aft W s { s₃.setGen g .finished with heap := h₇ } := by
          refine ⟨fun b o hb ho => keepH x₇ b o (ev₂.heap b o id ho) (sne ho).1 (fun q => hb (q ▸ hWl)) (fun q => hb (S.zw b ((tc.zo b).mpr q))), fun i y hi => ?_, fun q => bare_setGen rfl (B.rst.bare (bare_setGen rfl (ev₂.bare q))), B.rst.os.trans ev₂.os⟩
          have hne := gnew i y hi
          show (s₃.setGen g .finished).gens[i]? = some y
          rw [(GenOnly.setGen s₃ g .finished).2 i hne]
          refine B.rst.gens i y ?_
          rw [(GenOnly.setGen s' g .running).2 i hne]; exact ev₂.gens i y hi
        refine Sv.storeOwn (N' := N) (fp := [e]) (lv := .exc "invalid grouping") R evv hx hjl (.loc hl) (fun b hb => ?_) (by simp) (fun a => .inl) (fun a => id) (fun b hb q => ?_) ?_ fun s₈ S₈ a₈ => ?_
        · rw [List.mem_singleton.mp hb]
          exact ⟨by rw [get?_erase, if_pos rfl], _, he₇⟩
        · rw [List.mem_singleton.mp hb] at q; exact eF e (.inl q) rfl
        · refine ⟨e, t, tk, d, sl, #[.ref T, .none, .none, .bool false, .none], rfl, rfl, ?_, ⟨0, ht₇⟩, fun q => ?_⟩
          · rw [he₇]; rfl
          · rcases q with q | q | q
            · exact htF t (.inl q) rfl
            · exact htF t (.inr q) rfl
            · exact B.te (List.mem_singleton.mp q)
        have W8 : ∀ a, (W a ∨ a ∈ [e]) → W a ∨ s.heap.get? a = none := fun a ha => ha.imp id fun q => by rw [List.mem_singleton.mp q]; exact enew
        have a78 : Aft W s s₈ := a₇.trans a₈
        refine wpAny_mono (hhand (A.mark (some (.ref e))) (by show A.units + 20 < cLine; have := hA.2.2; unfold cLine; (first | lia | omega)) N _ _ s₈ _ _ hN S₈ (R.moreW fun a => .inl) hPh) (fun f s₉ ⟨ρ', fl, W₂, hq', hf, S₉, R₉, g₉, a₉⟩ => ?_) fun _ _ q => q
        have hWl₂ : W₂ env.locals := R₉.homeW n (List.mem_of_getElem? hx) _ (.loc hl)
        refine S₉.unbind R₉ hx hl fun s₁₀ S₁₀ a₁₀ => ⟨_, fl, W₂, hq', ?_, S₁₀, R₉, grow_trans W8 a78 g₉, ?_⟩
        · cases hf with
          | next => exact .next
          | brk => exact .brk
          | ret r => exact .ret (r.go fun a o hF e => ⟨hF, a₁₀.heap a o (fun q => hF (.inr (q ▸ hWl₂))) e⟩)
        · exact (Aft.trans' a78 a₉ W8).trans (a₁₀.mono fun b hb => hb ▸ hWl)
  · cases f with
    | next => exact wpAny_pure (wpAny_pure h₁)
    | cont => exact wpAny_pure h₁
    | brk => exact wpAny_pure h₁
    | ret v => exact wpAny_pure h₁
end
end Mine
end
section
open PySem PySem.Calls PyProof.Rows
namespace Mine
theorem call_zone {prog : Program} {w : World} {H : Heap} {mg mb : Str → Option Value} {k n : Nat} {name : Str} {as : List Arg} {scope : Scope} {tbl : List Str} {body : List Stmt} {pm cd doc : Value} {a : Addr} {o : Obj}
    {P : Rho → (Rho → Fl → Prop) → Prop} (G : Gl mg mb H) (hl : H.NoLimit) (ho : H.get? a = some o) (hd : o.data = .func (docDef name ⟨[], as, none, [], [], none, []⟩ body scope pm cd doc)) (hcd : H.CodeRec cd name)
    (hs : fnScope scope n tbl (as.map (·.arg)) = true) {A : Around} {s : Shared} {F : Addr → Prop} {vs : List Value} {ds : List D} {Q : D → Prop} {E : Value → Shared → Prop} (B : Base) (hBe : Evl B.toShared s) (hBz : ∀ a, B.Z a → B.heap.get? a = none ∧ ∃ o, s.heap.get? a = some o) (hBi : B.ZI s.heap)
    (hExt : Ext H B.heap) (hA : Rm (k + 1) A) (lF : Live F s) (sF : F sysModules) (r : Reps w prog F s.heap vs ds) (hn : ds.length = n) (hZF : ∀ a, B.Z a → F a) (hq : P (rho0 (tbl.length - n) ds) (retW Q))
    (hb : ∀ env : Env, env.scope = scope → env.frame = some env.locals → s.heap.get? env.locals = none → Fx mg mb H env B F → SndSs prog w (A.deeper env) env tbl B F body P) :
    wpAny (model prog w) A (call (.ref a) vs) (fun v s' => ∃ d, Q d ∧ Rep w prog F s'.heap v d ∧ Evl B.toShared s' ∧ B.ZI s'.heap ∧ Aft B.Z s s') E s := by
  simp only [fnScope, Bool.and_eq_true, beq_iff_eq, Bool.not_eq_true', decide_eq_true_eq, List.all_eq_true, Bool.or_eq_true] at hs
  obtain ⟨⟨⟨⟨⟨⟨h1, h2⟩, h3⟩, h4⟩, h5⟩, h6⟩, h7⟩ := hs
  have ext : Ext H s.heap := fun b o q => hBe.heap b o id (hExt b o q)
  have hlen : as.length = vs.length := by rw [r.length, hn]; simpa using h6
  have hps : (as.map (·.arg)).Nodup := by rw [← h5]; exact List.Nodup.sublist (List.take_sublist _ _) h4
  have hkind : ∀ x ∈ (as.map (·.arg)).zip vs, scope.names.lookup x.1 = some .local ∨ (scope.names.lookup x.1 = some .cell ∧ ((cellsFrom (s.heap.objs.size + 1) scope.names []).lookup x.1).isSome = true) := fun x hx => by
    have hm : x.1 ∈ tbl := by
      have := (List.of_mem_zip hx).1
      rw [← h5] at this
      exact List.mem_of_mem_take this
    rcases (h7 _ hm).2 with q | q
    · exact .inl q
    · exact .inr ⟨q, cellsFrom_some _ _ _ _ q⟩
  refine wpAny_call (call_cells_ret (by have := hA.2.1; unfold recursionLimit; (first | lia | omega)) (ext _ _ ho) hd (hl.keeps ext) (hcd.keeps ext) (bind_plain hps hlen) hkind (fun h₁ tk Ff X => ?_) h3 h2 h1)
  generalize henv : envOfC name scope s.heap.objs.size a cd = env at *
  have el : env.locals = s.heap.objs.size := by rw [← henv]; rfl
  have ec : env.cells = cellsFrom (s.heap.objs.size + 1) scope.names [] := by rw [← henv]; rfl
  have es : env.scope = scope := by rw [← henv]; rfl
  have hk : ∀ x, env.kindOf x = scope.names.lookup x := fun x => by rw [← henv]; rfl
  have hlive : ∀ b, (b = env.locals ∨ ∃ x, env.cells.lookup x = some b) → (∃ o, h₁.get? b = some o) ∧ s.heap.objs.size ≤ b := fun b hb => by
    rcases hb with q | ⟨x, q⟩
    · rw [q, el]
      obtain ⟨o, _, _, e, _⟩ := Ff.ns
      exact ⟨⟨o, e⟩, Nat.le_refl _⟩
    · rw [ec] at q
      obtain ⟨o, e, _⟩ := X.cell x b q
      exact ⟨⟨o, e⟩, Nat.le_of_lt (X.above x b (mem_of_lookup q))⟩
  have hfresh : ∀ b, (b = env.locals ∨ ∃ x, env.cells.lookup x = some b) → s.heap.get? b = none := fun b hb => by
    cases e : s.heap.get? b with
    | none => rfl
    | some o => exact absurd (Nat.lt_of_lt_of_le (Heap.lt_size e) (hlive b hb).2) (Nat.lt_irrefl _)
  have ev : Evl s { s with heap := h₁, toks := tk } := Evl.of Ff.keep
  let W : Addr → Prop := fun b => (b = env.locals ∨ ∃ x, env.cells.lookup x = some b) ∨ B.Z b
  have R : Frm env tbl F W := by
    refine ⟨by rw [es]; exact h1, h4, fun x hx => ?_, fun x hx => ?_, fun x hx b c Hm => ?_, fun x hx b Hm => ?_⟩
    · have := (h7 x hx).1
      simpa [plainName] using this
    · rcases (h7 x hx).2 with q | q
      · exact ⟨_, _, .loc (by rw [hk]; exact q)⟩
      · obtain ⟨c, hc⟩ := Option.isSome_iff_exists.mp (cellsFrom_some scope.names (s.heap.objs.size + 1) [] x q)
        exact ⟨c, _, .cel (by rw [hk]; exact q) (by rw [ec]; exact hc)⟩
    · cases Hm with
      | loc _ => exact .inr (.inl (.inl rfl))
      | cel _ hc => exact .inr (.inl (.inr ⟨x, hc⟩))
      | fre _ hc => exact .inr (.inl (.inr ⟨x, hc⟩))
    · cases Hm with
      | loc _ => exact .inl (.inl rfl)
      | cel _ hc => exact .inl (.inr ⟨x, hc⟩)
  have S : St w prog env tbl B F W (rho0 (tbl.length - n) ds) { s with heap := h₁, toks := tk } := by
    refine ⟨hBe.trans ev, fun b hb => ?_, fun b hb => ?_, fun b hb => .inr hb, B.zs _ _ hBi fun b o _ e => Ff.keep b o e, _, _, fun _ => [], ⟨el ▸ Ff.ns, fun x c hc => X.cell x c (ec ▸ hc), ec ▸ X.apart, fun x c hc => ?_⟩, fun b hb => ⟨⟨fun q => ?_, fun x c hc q => ?_⟩, fun i lv hr hown q => by simp at q⟩, fun i lv hr hown => ?_, fun i lv hr hown => ?_, fun i x lv ht hr => ?_⟩
    · rcases hb with q | q | q
      · obtain ⟨o, e⟩ := lF b q; exact ⟨o, Ff.keep b o e⟩
      · exact (hlive b q).1
      · obtain ⟨_, o, e⟩ := hBz b q; exact ⟨o, Ff.keep b o e⟩
    · rcases hb with q | q
      · exact hBe.none (hfresh b q)
      · exact (hBz b q).1
    · rw [el]; exact Nat.ne_of_gt (X.above x c (mem_of_lookup (ec ▸ hc)))
    · obtain ⟨_, o, e⟩ := hBz b hb; rw [hfresh b (.inl q)] at e; cases e
    · obtain ⟨_, o, e⟩ := hBz b hb; rw [hfresh b (.inr ⟨x, q ▸ hc⟩)] at e; cases e
    · obtain ⟨d, _, rfl⟩ := rho0_at hr; cases hown
    · obtain ⟨d, _, rfl⟩ := rho0_at hr; cases hown
    · obtain ⟨d, hd, rfl⟩ := rho0_at hr
      obtain ⟨hi, _⟩ := List.getElem?_eq_some_iff.mp hd
      have hx : (as.map (·.arg))[i]? = some x := by rw [← h5, List.getElem?_take, if_pos (by (first | lia | omega))]; exact ht
      obtain ⟨v, hv, rv⟩ := r.get hd
      refine ⟨v, bind_new hps hx hv, rv.go fun b o hF e => ⟨fun q => q.elim hF fun q => ?_, Ff.keep b o e⟩⟩
      rcases q with q | q
      · rw [hfresh b q] at e; cases e
      · exact hF (hZF b q)
  have fx : Fx mg mb H env B F := ⟨G, hExt, by rw [← henv]; rfl, by rw [← henv]; rfl, by rw [es]; exact h1, sF⟩
  refine wpAny_mono (hb env es (by rw [← henv]; rfl) (hfresh _ (.inl rfl)) fx F W _ _ _ _ (fun _ q => q) S R hq) (fun f s' ⟨ρ', fl, W', hq', hf, S', R', g', a'⟩ => ?_) fun _ _ q => q
  have af : Aft B.Z s s' := Aft.trans' (Aft.mono ev fun _ q => q.elim) a' fun b hb => hb.elim (fun q => .inr (hfresh b q)) .inl
  cases hf with
  | next => exact ⟨_, hq', .none, S'.evl, S'.zi, af⟩
  | brk => exact hq'.elim
  | ret r' => exact ⟨_, hq', r'.anti fun b q => .inl q, S'.evl, S'.zi, af⟩
end Mine
end
section
open PySem PySem.Calls PyProof.Rows
namespace Mine
section
variable {prog : Program} {w : World} {H : Heap} {mg mb : Str → Option Value} {fs : List Fn} {gen : Str}
theorem zfn_try (T : Tab prog w fs gen H mg mb) {k f : Nat} {g : Fn} (hg : fs[f]? = some g) (hz : g.zs = []) {A : Around} {lenv : Env} (hA : Rm (k + 1) A) (hfr : A.frames = some [lenv]) (hlf : lenv.frame = some lenv.locals) (hk : lenv.scope.kind = .function) {sl : Shared} {tbl : List Str} {N₀ : Addr → Prop}
    (X : Fx mg mb H lenv (Base.of sl) N₀) (hloc : ∃ x ∈ tbl, lenv.kindOf x = some .local) : ZFn prog w A lenv tbl (Base.of sl) N₀ H mg g.name (XN fs (k + 1) f) := by
  obtain ⟨d, as, hd, hpar, hder, ⟨a, o, pm, cd, doc, h1, h2, h3, h4⟩⟩ := T.fns g (List.mem_of_getElem? hg)
  obtain ⟨e, hsc, _⟩ := okFn_inv hd
  rw [hpar] at h3
  refine ⟨a, o, _, e ▸ h1, h2, h3, fun N W ρ s vs ds Q E hN S R r hq => ?_⟩
  rw [XN, hg] at hq
  obtain ⟨hn, hq⟩ := hq
  obtain ⟨x, hx, hxl⟩ := hloc
  have hWl : W lenv.locals := R.homeW x hx _ (.loc hxl)
  obtain ⟨m, ol, es, ep, hol, hdl, hrl⟩ := S.ns
  have hnf : ∀ vs, ol.data ≠ .fields vs := fun vs q => by rw [hdl] at q; cases q
  let B : Base := { s with heap := erase s.heap lenv.locals, Z := fun b => b = lenv.locals, ZI := fun h => ∃ sl, h.get? lenv.locals = some { ol with slots := sl }, zs := fun h h' ⟨sl, q⟩ kk => ⟨sl, kk _ _ rfl q⟩ }
  have hBe : Evl B.toShared s := ⟨fun b o _ q => by
    have q' : (erase s.heap lenv.locals).get? b = some o := q
    rw [get?_erase] at q'
    split at q'
    · cases q'
    · exact q', fun _ _ q => q, id, rfl⟩
  have hHl : ∀ b o, H.get? b = some o → b ≠ lenv.locals := fun b o q e' => by
    have := S.fresh b (e' ▸ hWl)
    rw [X.ext b o q] at this; cases this
  refine wpAny_mono (call_zone (k := k) (P := exSs (XN fs k) g.body) (Q := Q) (F := fun b => N b ∨ W b) T.gl T.lim h2 h3 h4 hsc B hBe (fun b hb => ?_) ⟨ol.slots, hol⟩ (fun b o q => ?_) hA S.live (.inl (hN _ X.sys)) r hn (fun b hb => .inr (hb ▸ hWl)) hq fun env he hef hen fx => ?_) (fun v s' ⟨d', hq', r', ev', zi', af'⟩ => ⟨d', hq', r', ?_, ?_⟩) fun _ _ q => q
  · subst hb
    exact ⟨by show (erase s.heap lenv.locals).get? lenv.locals = none; rw [get?_erase, if_pos rfl], ol, hol⟩
  · show (erase s.heap lenv.locals).get? b = some o
    rw [get?_erase, if_neg (Ne.symm (hHl b o q))]
    exact S.evl.heap b o id (X.ext b o q)
  · have hA' := hA.deeper env
    have K := ok_of (g := g) T (plain_ok T k) hA' he fx
    refine hder ⟨K, fun _ => ⟨⟨k, hA'⟩, T.gfn⟩, fun _ f' x hzz _ => ?_, fun _ => ?_⟩
    · have : g.zs.contains f' = true := hzz
      rw [hz] at this; cases this
    · obtain ⟨P, kk, GF⟩ := T.gfn
      refine try_sound (outer := [lenv]) fx hA' GF ⟨?_, hef, fun L => ?_, fun h ⟨sl', q⟩ y hy => ?_, fun h h' ⟨sl', q⟩ kp => ?_⟩
      · exact Around.frames_deeper hfr
      · rw [List.filterMap_cons, hlf]; simp; rfl
      · rw [List.mem_singleton.mp hy]
        exact ⟨by rw [hk]; decide, _, _, hlf, q, hnf⟩
      · obtain ⟨sl₂, q₂⟩ := kp lenv.locals _ (by rw [List.filterMap_cons, hlf]; simp) q hnf
        exact ⟨sl₂, q₂⟩
  · refine S.slots hWl (fun b o h1 _ hb => ?_) (fun o ho _ => ?_) trivial (fun _ q => q.elim) ⟨fun i y q => ev'.gens i y (S.evl.gens i y q), fun q => ev'.bare (S.evl.bare q), ev'.os.trans S.evl.os⟩
    · refine ev'.heap b o id ?_
      show (erase s.heap lenv.locals).get? b = some o
      rw [get?_erase, if_neg (Ne.symm h1)]; exact hb
    · rw [hol] at ho; cases ho
      exact zi'
  · exact af'.mono fun b hb => hb ▸ hWl
theorem law_call (T : Tab prog w fs gen H mg mb) {k f : Nat} {g : Fn} (hg : fs[f]? = some g) (htr : g.tr = false) (hzs : ∀ f' ∈ g.zs, ∀ g', fs[f']? = some g' → g'.zs = []) {A : Around} (hA : Rm (k + 2) A) (hfr : A.frames = some []) {s : Shared} (hE : Ext H s.heap) {F : Addr → Prop} (lF : Live F s) (sF : F sysModules)
    {a : Addr} (ha : mg g.name = some (.ref a)) {vs : List Value} {ds : List D} (r : Reps w prog F s.heap vs ds) {Q : D → Prop} {E : Value → Shared → Prop} (hq : XN fs (k + 2) f ds Q) : wpAny (model prog w) A (call (.ref a) vs) (Po w prog F s Q) E s := by
  obtain ⟨d, as, hd, hpar, hder, ⟨a', o, pm, cd, doc, h1, h2, h3, h4⟩⟩ := T.fns g (List.mem_of_getElem? hg)
  obtain ⟨e, hsc, hl⟩ := okFn_inv hd
  rw [← e, ha] at h1; cases h1
  rw [hpar] at h3
  rw [XN, hg] at hq
  obtain ⟨hn, hq⟩ := hq
  have ev : Evl (Base.of s).toShared s := .refl _ _
  refine wpAny_mono (call_zone (k := k + 1) (P := exSs (XN fs (k + 1)) g.body) (Q := Q) (F := F) T.gl T.lim h2 h3 h4 hsc (Base.of s) ev (fun _ q => q.elim) trivial hE hA lF sF r hn (fun _ q => q.elim) hq fun env he hef hen fx => ?_) (fun v s' ⟨d', hq', r', ev', _, _⟩ => ⟨d', hq', ev', r'⟩) fun _ _ q => q
  have hA' := hA.deeper env
  have K := ok_of (g := g) T (plain_ok T (k + 1)) hA' he fx
  refine hder ⟨K, fun _ => ⟨⟨k + 1, hA'⟩, T.gfn⟩, fun _ f' x hzz hfx => ?_, fun q => ?_⟩
  · have hm : f' ∈ g.zs := List.contains_iff_mem.mp hzz
    have hfx' : (fs.map (·.name))[f']? = some x := hfx
    rw [List.getElem?_map, Option.map_eq_some_iff] at hfx'
    obtain ⟨g', hg', rfl⟩ := hfx'
    have hloc := hl.resolve_left (fun q => by rw [List.isEmpty_iff] at q; rw [q] at hm; cases hm)
    obtain ⟨y, hy, hyl⟩ := hloc
    exact zfn_try T hg' (hzs f' hm g' hg') hA' (Around.frames_deeper hfr) hef (by rw [he]; simp only [fnScope, Bool.and_eq_true, beq_iff_eq] at hsc; exact hsc.1.1.1.1.1.1) fx ⟨y, hy, by show env.scope.names.lookup y = _; rw [he]; exact hyl⟩
  · have : g.tr = true := q
    rw [htr] at this; cases this
end
end Mine
end
section
open PySem PySem.Calls PyProof.Rows
namespace Mine
noncomputable def chkBi (p : Program) (loose : List Str) : Bool := biTab.all fun x => !startupNames.contains x.1 && !loose.contains x.1 && !((recsOf p).map (·.name)).contains x.1 && !((litsOf p).map (·.1)).contains x.1 && !((clssOf p loose).map (·.name)).contains x.1 && !(x.1 == ("__name__" : Str)) && bootBuiltins x.1 == some x.2
noncomputable def chkMax (p : Program) : Bool := match valOf p "CHAR_MAX" with
  | some (.int 127) => true
  | _ => false
theorem tab_of {p prog : Program} {w : World} {loose : List Str} {mean : ExcName → Option Value} {mg mb : Str → Option Value} {h : Heap} {fs : List Fn} {gen : Str} {gd : DefRec} (T : Top p loose mean mg mb h) (h1 : chkBi p loose = true) (h3 : chkMax p = true)
    (hg : gd ∈ recsOf p) (hgo : okGen gen gd = true) (hgp : ∃ ap, gd.params = ⟨[], [⟨"grouping", none, ap⟩], none, [], [], none, []⟩) (hgb : ∃ P k, gd.body = gAll P k)
    (hf : ∀ g ∈ fs, ∃ d as, okFn g d as = true ∧ d.params = ⟨[], as, none, [], [], none, []⟩ ∧ DerFn prog w h mg mb fs gen g d ∧ d ∈ recsOf p) : Tab prog w fs gen h mg mb := by
  have G : Gl mg mb h := ⟨T.g, T.b, fun x v hx => by
    have := List.all_eq_true.mp h1 (x, v) hx
    simp only [Bool.and_eq_true, Bool.not_eq_true', beq_iff_eq] at this
    obtain ⟨⟨⟨⟨⟨⟨k1, k2⟩, k3⟩, k4⟩, k5⟩, k6⟩, k7⟩ := this
    have nm : ∀ {l : List Str}, l.contains x = false → x ∉ l := fun q hm => by rw [List.contains_iff_mem.mpr hm] at q; cases q
    refine ⟨T.free x (nm k1) (nm k2) (nm k3) (nm k4) (nm k5), ?_⟩
    rw [T.builtins x (by simpa using k6)]; exact k7⟩
  have st : ∀ d ∈ recsOf p, Stands h mg d := fun d hd => ⟨T.fn d hd⟩
  refine ⟨G, T.nolimit, ?_, fun g hg => ?_⟩
  · refine gfn_of G T.nolimit ?_ (st gd hg) hgo hgp hgb
    unfold chkMax at h3
    split at h3
    · rename_i hv
      obtain ⟨v, e, hr⟩ := T.const "CHAR_MAX" _ hv
      have := hr h
      cases this
      exact ⟨_, e⟩
    · cases h3
  · obtain ⟨d, as, a, b, c, e⟩ := hf g hg
    exact ⟨d, as, a, b, c, st d e⟩
theorem reps_ints {w : World} {prog : Program} {F : Addr → Prop} {h : Heap} {vs : List Value} {is : List Int} (H : IntsAre vs is) : Reps w prog F h vs (is.map .int) := by
  induction H with
  | nil => exact .nil
  | cons n t _ ih => exact .cons (.int n t) ih
theorem goodWG_true {c : PySem.W.ClaimW} {cl : Str → Option Addr} {mean : PySem.ExcName → Option Value} {args : List PySem.W.WData} {s₁ s' : Shared} (ev : Evl s₁ s') (hg : s₁.gens = #[]) (hn : ∀ cls, c.raises args cls = false) (hp : c.post args (.bool true) args = true) :
    PySem.W.GoodWG c cl mean args s₁ (.ok (.ret (.bool true))) s' := by
  refine ⟨.inl ⟨_, .bool true, [], rfl, hn, .bool true, hp, fun _ => ⟨List.nodup_nil, fun a ha => by cases ha⟩⟩, .of_keep ev.ext, ev.os, ev.bare ?_⟩
  rw [hg]; intro x hx; simp at hx
theorem law_true {prog : Program} {w : World} {H : Heap} {mg mb : Str → Option Value} {fs : List Fn} {gen : Str} (T : Tab prog w fs gen H mg mb) {k f : Nat} {g : Fn} (hg : fs[f]? = some g) (htr : g.tr = false) (hzs : ∀ f' ∈ g.zs, ∀ g', fs[f']? = some g' → g'.zs = []) (hk : k + 2 < 100)
    {s : Shared} (hs : s.heap = H) {o : Obj} (hS : H.get? sysModules = some o) (hc : o.cls = .type "dict") {a l : Addr} (ha : mg g.name = some (.ref a)) {vs : List Value} {is : List Int} (hl : H.IsList l vs.toArray) (hi : IntsAre vs is)
    (hq : XN fs (k + 2) f [.lst (is.map .int)] (fun d => d = .bool true)) {Q E : Value → Shared → Prop} (h : ∀ s', Evl s s' → Q (.bool true) s') : wpAny (model prog w) callerA (call (.ref a) [.ref l]) Q E s := by
  subst hs
  have hA : Rm (k + 2) callerA := ⟨rfl, by show 1 + claimMargin + (k + 2) < 500; unfold claimMargin; (first | lia | omega), by show 4 + 10 * (k + 2) < 5000; (first | lia | omega)⟩
  have hne : ¬ l = sysModules := fun q => by
    obtain ⟨o', e, hc', _⟩ := hl
    rw [q, hS] at e; cases e
    rw [hc] at hc'; simp at hc'
  refine wpAny_mono (law_call (F := fun b => b = sysModules) T hg htr hzs hA rfl (Ext.refl _) (fun b hb => ⟨o, hb ▸ hS⟩) rfl ha (.cons (.lst hne hl (reps_ints hi)) .nil) hq) (fun v s' ⟨d, hd, ev, r⟩ => ?_) fun _ _ q => q
  subst hd
  cases r
  exact h s' ev
end Mine
end
section
open PySem PySem.Calls PyProof.Rows
namespace Mine
section
variable {prog : Program} {w : World} {H : Heap} {mg mb : Str → Option Value} {X : Fns} {c : Cx} {A : Around} {env : Env} {s₀ : Base} {N₀ : Addr → Prop}
theorem sZif (K : OkS prog w H mg mb X c A env s₀ N₀) {es : List E} {x : Str} {xs : List Expr} {c₁ c₂ : E} {y₁ y₂ : Expr} {b : List S} {z : List Stmt} {np bp p q pos : Pos} (hh : c.hn = true) (f : Nat) (hz : c.zs.contains f = true) (hf : c.fns[f]? = some x) (g : globName c.names x = true) (n1 : xs.isEmpty = false) (n2 : xs.all notStar = true)
    (hx : SndEs prog w A env c.tbl s₀ N₀ xs (evEs X es)) (h1 : SndC prog w A env c.tbl s₀ N₀ y₁ (evC X c₁)) (h2 : SndC prog w A env c.tbl s₀ N₀ y₂ (evC X c₂)) (hb : SndSs prog w A env c.tbl s₀ N₀ z (exSs X b)) :
    SndS prog w A env c.tbl s₀ N₀ (.If (.BoolOp .Or [y₁, y₂, .UnaryOp .Not (.Call (.Name x q) xs [] p) np] bp) z [] pos) (exS X (.zif c₁ c₂ f es b)) := sndS_zif K.ok.fx (K.zf hh f x hz hf) (K.ok.nm ▸ g) n1 n2 p q hx h1 h2 hb np bp pos
end
end Mine
end
section
open PySem PySem.Calls PyProof.Rows
namespace Mine
noncomputable def q1 : Program := PySem.W.view PySem.Challenge.pw_wn0011_01 [1,2,4,5,6,8,9,10,11,12,13,14,15,16]
noncomputable def sysObs (s : Shared) : Option Value := (s.heap.get? sysModules).map (·.cls)
noncomputable def sysSays (h : Heap) : Prop := ∃ o, h.get? sysModules = some o ∧ o.cls = .type "dict"
theorem sys_of {s : Shared} (e : sysObs s = some (.type "dict")) : sysSays s.heap := by
  unfold sysObs at e
  cases h : s.heap.get? sysModules with
  | none => rw [h] at e; cases e
  | some o => rw [h] at e; injection e with e; exact ⟨o, h, e⟩
set_option maxRecDepth 100000
theorem left1 : PySem.W.LeftO PySem.Challenge.pw_wn0011_01 q1 [] (fun _ => true) sysObs (fun _ => some (.type "dict")) 1000 := fun w => by kernel_rfl
theorem law1_said : PySem.Challenge.rw_wn0011_01.wellSaid = true := by kernel_rfl
theorem law1_def : (PySem.W.defOf q1 (PySem.Str.ofString "law")).isSome = true := by kernel_rfl
noncomputable def d1k : DefRec × List (PySem.Str × PySem.Expr) := (PySem.W.defOf q1 (PySem.Str.ofString "law")).get law1_def
theorem law1_name : d1k.1.name = PySem.Str.ofString "law" := by kernel_rfl
open PySem.W PySem.W.X PySem.W.ZRun
theorem law1_row (hcall : WalkO q1 [] (fun _ _ => True) (fun _ h => sysSays h) PySem.Challenge.rw_wn0011_01.row.toRowW d1k.1 d1k.2 fun f vs => PySem.call f vs) : PySem.Challenge.rw_wn0011_01.Holds :=
  holds_law law1_said fun said => holds_open (q := q1) (loose := []) (Xt := fun _ => true) (XP := fun _ _ => True) (Yf := sysObs) (Ya := fun _ => some (.type "dict")) (YP := fun _ h => sysSays h) (d := d1k.1) (kwd := d1k.2) (N := 1000)
    left1 (fun _ _ e => sys_of e) (fun _ _ _ ⟨o, e, c⟩ k => ⟨o, k _ _ e, c⟩) (fun _ _ => trivial) (fun _ _ _ _ _ => trivial) (by kernel_rfl) (by kernel_rfl) (by kernel_rfl) (fun s _ => recFacts_nil rfl) rfl
    said (by kernel_rfl) ⟨rfl, rfl, rfl, rfl, rfl, by decide +kernel⟩ (by w_witness2) hcall
end Mine
end
section
open PySem PySem.Calls PyProof.Rows
namespace Mine
noncomputable def b1_add_func_stats : List S := [
  .unpack [2, 3, 4, 5, 6] (.var 1),
  .unpack [7, 8, 9, 10, 11] (.var 0),
  .ret (.tup [(.bin .add (.var 2) (.var 7)), (.bin .add (.var 3) (.var 8)), (.bin .add (.var 4) (.var 9)), (.bin .add (.var 5) (.var 10)), (.call 1 [(.var 11), (.var 6)])])]
noncomputable def f1_add_func_stats : Fn := { name := "add_func_stats", n := 2, tbl := ["target", "source", "cc", "nc", "tt", "ct", "callers", "t_cc", "t_nc", "t_tt", "t_ct", "t_callers"], body := b1_add_func_stats }
noncomputable def b1_add_callers_1 : List S := [.setitem 2 (.var 3) (.var 4)]
noncomputable def b1_add_callers_2 : List S := [.ife (.oin false (.var 3) 2) [.ife (.bi .isTuple [(.var 4)]) [.dead] [.augitem 2 (.var 3) .add (.var 4)]] [.setitem 2 (.var 3) (.var 4)]]
noncomputable def b1_add_callers : List S := [
  .assignO 2 (.dct []),
  .fore (.tp [3, 4]) (.items (.var 0)) b1_add_callers_1 [3, 4],
  .fore (.tp [3, 4]) (.items (.var 1)) b1_add_callers_2 [3, 4],
  .freeze 2,
  .ret (.var 2)]
noncomputable def f1_add_callers : Fn := { name := "add_callers", n := 2, tbl := ["target", "source", "new_callers", "func", "caller"], body := b1_add_callers }
noncomputable def b1_count_calls_1 : List S := [.aug 1 .add (.var 2)]
noncomputable def b1_count_calls : List S := [
  .assign 1 (.int 0),
  .fore (.nm 2) (.values (.var 0)) b1_count_calls_1 [2],
  .ret (.var 1)]
noncomputable def f1_count_calls : Fn := { name := "count_calls", n := 1, tbl := ["callers", "nc", "calls"], body := b1_count_calls }
noncomputable def b1_law_draws_1 : List S := [.augitem 1 (.bin .mod (.var 2) (.int 6)) .add (.var 3)]
noncomputable def b1_law_draws : List S := [
  .assignO 1 (.lst [(.int 4), (.int 0), (.int 2), (.int 0), (.int 1), (.int 10)]),
  .fore (.tp [2, 3]) (.enum (.slice (.var 0) .none (.int 60))) b1_law_draws_1 [2, 3],
  .freeze 1,
  .ret (.lcomp (.bin .mod (.var 0) (.bin .pow (.int 10) (.int 6))) (.nm 0) (.ex (.var 1)) [] [] [none] ["draw"])]
noncomputable def f1_law_draws : Fn := { name := "_law_draws", n := 1, tbl := ["script", "draws", "place", "number"], body := b1_law_draws }
noncomputable def b1_law_told_1 : List S := [.append 2 (.bin .add (.osub 2 (.neg (.int 1))) (.var 3)), .ife (.cmp .eq (.olen 2) (.var 1)) [.brk] []]
noncomputable def b1_law_told : List S := [
  .assignO 2 (.lst [(.int 0)]),
  .forgen 3 (.var 0) b1_law_told_1 [3],
  .freeze 2,
  .ret (.var 2)]
noncomputable def f1_law_told : Fn := { name := "_law_told", n := 2, tbl := ["row", "many", "marks", "size"], body := b1_law_told }
noncomputable def b1_law_sums_1 : List S := [.ife (.cmp .lt (.var 4) (.bi .len [(.var 0)])) [.append 3 (.bin .add (.osub 3 (.neg (.int 1))) (.sub (.var 0) (.var 4)))] [.ife (.var 1) [.append 3 (.bin .add (.osub 3 (.neg (.int 1))) (.sub (.var 0) (.neg (.int 1))))] []]]
noncomputable def b1_law_sums : List S := [
  .assignO 3 (.lst [(.int 0)]),
  .fore (.nm 4) (.range [(.bin .sub (.var 2) (.int 1))]) b1_law_sums_1 [4],
  .freeze 3,
  .ret (.var 3)]
noncomputable def f1_law_sums : Fn := { name := "_law_sums", n := 3, tbl := ["sizes", "goes_on", "many", "marks", "place"], body := b1_law_sums }
noncomputable def b1_law_refused_1 : List S := [.ret (.bool false)]
noncomputable def b1_law_refused_2 : List S := [.ret (.bop true [(.cmp .eq (.strexc 3) (.str "invalid grouping")), (.cmp .eq (.var 1) (.bin .add (.lst [(.int 0)]) (.var 0)))])]
noncomputable def b1_law_refused : List S := [
  .assign 1 (.bin .add (.lst [(.int 0)]) (.var 0)),
  .trygen 2 (.var 1) b1_law_refused_1 [2] 3 b1_law_refused_2,
  .ret (.bool false)]
noncomputable def f1_law_refused : Fn := { name := "_law_refused", n := 1, tbl := ["row", "given", "size", "error"], body := b1_law_refused, tr := true }
noncomputable def b1_law_powers_1 : List S := [.aug 5 .fdiv (.var 1), .aug 6 .add (.int 1)]
noncomputable def b1_law_powers_2 : List S := [.assign 5 (.bin .sub (.sub (.var 0) (.var 3)) (.sub (.var 0) (.var 4))), .assign 6 (.int 0), .while (.cmp .eq (.bin .mod (.var 5) (.var 1)) (.int 0)) b1_law_powers_1 [], .ife (.oin true (.var 6) 2) [.append 2 (.var 6)] []]
noncomputable def b1_law_powers_3 : List S := [.fore (.nm 4) (.range [(.var 3)]) b1_law_powers_2 [4, 5, 6]]
noncomputable def b1_law_powers : List S := [
  .assignO 2 (.lst []),
  .fore (.nm 3) (.range [(.bi .len [(.var 0)])]) b1_law_powers_3 [3, 4, 5, 6],
  .freeze 2,
  .ret (.var 2)]
noncomputable def f1_law_powers : Fn := { name := "_law_powers", n := 2, tbl := ["marks", "prime", "powers", "high", "low", "gap", "power"], body := b1_law_powers }
noncomputable def b1_law_steps_1 : List S := [.ife (.cmp .notin (.var 3) (.var 0)) [.assign 2 (.lcomp (.bin .add (.var 2) (.bin .mul (.var 3) (.bin .pow (.var 0) (.var 1)))) (.nm 2) (.ex (.var 2)) [] [.mk (.nm 3) (.range [(.var 0)]) []] [some 1, some 3, none, none] ["prime", "power", "step", "figure"])] []]
noncomputable def b1_law_steps : List S := [
  .assign 2 (.lst [(.int 0)]),
  .fore (.nm 3) (.range [(.bi .max [(.var 0)])]) b1_law_steps_1 [3],
  .ret (.var 2)]
noncomputable def f1_law_steps : Fn := { name := "_law_steps", n := 2, tbl := ["powers", "prime", "steps", "power"], body := b1_law_steps }
noncomputable def b1_law_covers_the_line_1 : List S := [.aug 2 .add (.bin .pow (.int 2) (.var 3))]
noncomputable def b1_law_covers_the_line_2 : List S := [.aug 6 .fdiv (.int 2)]
noncomputable def b1_law_covers_the_line_3 : List S := [.ife (.cmp .eq (.bin .band (.var 5) (.var 2)) (.int 0)) [.assign 6 (.bin .add (.var 5) (.var 2)), .while (.cmp .eq (.bin .mod (.var 6) (.int 2)) (.int 1)) b1_law_covers_the_line_2 [], .setitem 4 (.var 5) (.var 6)] []]
noncomputable def b1_law_covers_the_line_4 : List S := [.setitem 7 (.var 9) (.var 8), .assign 9 (.sub (.var 4) (.var 9))]
noncomputable def b1_law_covers_the_line_5 : List S := [.ife (.oin true (.var 8) 7) [.assign 9 (.var 8), .while (.bop true [(.cmp .isin (.var 9) (.var 4)), (.oin true (.var 9) 7)]) b1_law_covers_the_line_4 [], .ife (.cmp .eq (.var 9) (.var 8)) [.ret (.bool true)] []] []]
noncomputable def b1_law_covers_the_line : List S := [
  .assign 1 (.sub (.var 0) (.neg (.int 1))),
  .assign 2 (.int 0),
  .fore (.nm 3) (.ex (.var 0)) b1_law_covers_the_line_1 [3],
  .assignO 4 (.dct []),
  .fore (.nm 5) (.range [(.int 0), (.bin .pow (.int 2) (.var 1)), (.int 2)]) b1_law_covers_the_line_3 [5, 6],
  .freeze 4,
  .assignO 7 (.dct []),
  .fore (.nm 8) (.ex (.var 4)) b1_law_covers_the_line_5 [8, 9],
  .freeze 7,
  .ret (.bool false)]
noncomputable def f1_law_covers_the_line : Fn := { name := "_law_covers_the_line", n := 1, tbl := ["marks", "wide", "tile", "mark", "after", "taken", "now", "seen", "start", "here"], body := b1_law_covers_the_line }
noncomputable def b1_law_laid_1 : List S := [.assign 5 (.dcomp (.bin .mod (.bin .add (.var 0) (.var 2)) (.var 1)) (.int 1) (.nm 2) (.ex (.var 2)) [] [] [some 4, some 3, none] ["begin", "ring", "mark"]), .assign 0 (.call 0 [(.var 0), (.tup [(.int 1), (.bi .len [(.var 2)]), (.var 4), (.bin .add (.var 4) (.sub (.var 2) (.neg (.int 1)))), (.var 5)])])]
noncomputable def b1_law_laid : List S := [
  .fore (.nm 4) (.ex (.var 1)) b1_law_laid_1 [4, 5],
  .ret (.var 0)]
noncomputable def f1_law_laid : Fn := { name := "_law_laid", n := 4, tbl := ["book", "begins", "marks", "ring", "begin", "places"], body := b1_law_laid }
noncomputable def b1_law_1 : List S := [.assign 18 (.bin .mod (.bin .add (.sub (.var 16) (.int 0)) (.var 17)) (.var 11)), .setitem 15 (.var 18) (.ite (.oin false (.var 18) 15) (.bin .add (.osub 15 (.var 18)) (.int 1)) (.int 1))]
noncomputable def b1_law : List S := [
  .assign 1 (.call 3 [(.var 0)]),
  .assign 2 (.bin .add (.int 3) (.bin .mod (.sub (.var 1) (.int 0)) (.int 3))),
  .assign 3 (.bin .add (.int 1) (.bin .mod (.bin .fdiv (.sub (.var 1) (.int 0)) (.int 3)) (.int 3))),
  .assign 4 (.lcomp (.bin .add (.int 1) (.bin .mod (.var 1) (.bin .sub (.int 7) (.var 0)))) (.nm 1) (.ex (.slice (.var 1) (.int 1) (.int 5))) [] [] [some 2, none] ["many", "draw"]),
  .assign 4 (.slice (.var 4) .none (.bin .add (.int 1) (.bin .mod (.sub (.var 1) (.int 5)) (.int 4)))),
  .assign 5 (.sub (.lst [(.lst []), (.lst [(.int 0)]), (.lst [(.int 127), (.int 1)]), (.lst [(.int 0), (.int 2)])]) (.bin .mod (.bin .fdiv (.sub (.var 1) (.int 5)) (.int 4)) (.int 4))),
  .assign 6 (.bin .add (.var 4) (.var 5)),
  .assign 7 (.call 4 [(.var 6), (.var 2)]),
  .zif (.cmp .ne (.var 7) (.call 5 [(.var 4), (.cmp .isin (.int 0) (.var 5)), (.var 2)])) (.cmp .ne (.var 6) (.bin .add (.var 4) (.var 5))) 6 [(.var 6)] [.ret (.bool false)],
  .assign 8 (.sub (.lst [(.int 2), (.int 2), (.int 2), (.int 3), (.int 2), (.int 5)]) (.bi .len [(.var 7)])),
  .assign 9 (.call 7 [(.var 7), (.var 8)]),
  .assign 10 (.call 8 [(.var 9), (.var 8)]),
  .assign 11 (.bin .pow (.var 8) (.bin .add (.bi .max [(.var 9)]) (.int 1))),
  .assign 12 (.bi .sum [(.slice (.var 0) .none (.int 60))]),
  .assignO 13 (.lcomp (.bin .add (.bin .add (.var 0) (.bin .mul (.var 1) (.var 3))) (.var 4)) (.nm 3) (.range [(.var 3)]) [] [.mk (.nm 4) (.ex (.var 2)) []] [some 12, some 11, some 10, none, none] ["first", "ring", "steps", "lap", "step"]),
  .assign 14 (.callo 10 (.tup [(.int 0), (.int 0), (.int 0), (.int 0), (.dct [])]) 13 [(.var 7), (.var 11)]),
  .ife (.call 9 [(.var 7)]) [.assignO 15 (.dcomp (.var 1) (.var 0) (.nm 1) (.range [(.var 11)]) [] [] [some 3, none] ["laps", "place"])] [.assign 16 (.lcomp (.var 1) (.nm 1) (.range [(.var 11)]) [(.cmp .notin (.var 1) (.sub (.var 0) (.int 4)))] [] [some 14, none] ["book", "place"]), .ife (.cmp .eq (.var 16) (.lst [])) [.ret (.bool false)] [], .append 13 (.sub (.var 16) (.int 0)), .assign 14 (.call 10 [(.var 14), (.slice (.var 16) .none (.int 1)), (.var 7), (.var 11)]), .assignO 15 (.dcomp (.bin .mod (.bin .add (.bin .add (.var 0) (.var 4)) (.var 5)) (.var 1)) (.var 2) (.nm 4) (.ex (.var 10)) [] [.mk (.nm 5) (.ex (.var 3)) []] [some 12, some 11, some 3, some 7, none, none] ["first", "ring", "laps", "marks", "step", "mark"]), .fore (.nm 17) (.ex (.var 7)) b1_law_1 [17, 18]],
  .freeze 13,
  .freeze 15,
  .assign 19 (.bi .len [(.var 13)]),
  .ife (.cmp .ne (.var 14) (.tup [(.var 19), (.bin .mul (.var 19) (.bi .len [(.var 7)])), (.bi .sum [(.var 13)]), (.bin .add (.bi .sum [(.var 13)]) (.bin .mul (.var 19) (.sub (.var 7) (.neg (.int 1))))), (.var 15)])) [.ret (.bool false)] [],
  .ret (.cmp .eq (.call 2 [(.sub (.var 14) (.int 4))]) (.bin .mul (.var 19) (.bi .len [(.var 7)])))]
noncomputable def f1_law : Fn := { name := "law", n := 1, tbl := ["script", "draws", "many", "laps", "sizes", "ending", "row", "marks", "prime", "powers", "steps", "ring", "first", "begins", "book", "called", "free", "mark", "place", "tiles"], body := b1_law, zs := [6] }
noncomputable def fs1 : List Fn := [f1_add_func_stats, f1_add_callers, f1_count_calls, f1_law_draws, f1_law_told, f1_law_sums, f1_law_refused, f1_law_powers, f1_law_steps, f1_law_covers_the_line, f1_law_laid, f1_law]
end Mine
end
section
open PySem PySem.Calls PyProof.Rows
set_option maxHeartbeats 4000000
namespace Mine
theorem d1_add_func_stats {prog : Program} {w : World} {H : Heap} {mg mb : Str → Option Value} : DerFn prog w H mg mb fs1 "_grouping_intervals" f1_add_func_stats (recAt PySem.Challenge.pw_wn0011_01 4) := fun {X A env s₀ N₀} K =>
  (sCons K (sUnp K rfl (by decide +kernel) rfl (swap_name _ _) (dVar rfl)) (sCons K (sUnp K rfl (by decide +kernel) rfl (swap_name _ _) (dVar rfl)) (sCons K (sRet K (dTup (dCons rfl (dBin .add (dVar rfl) (dVar rfl)) (dCons rfl (dBin .add (dVar rfl) (dVar rfl)) (dCons rfl (dBin .add (dVar rfl) (dVar rfl)) (dCons rfl (dBin .add (dVar rfl) (dVar rfl)) (dCons rfl (dCall K.ok 1 rfl rfl (by decide +kernel) (by decide +kernel) rfl rfl (dCons rfl (dVar rfl) (dCons rfl (dVar rfl) dNil))) dNil))))))) (sNil K))))
theorem d1_add_callers {prog : Program} {w : World} {H : Heap} {mg mb : Str → Option Value} : DerFn prog w H mg mb fs1 "_grouping_intervals" f1_add_callers (recAt PySem.Challenge.pw_wn0011_01 5) := fun {X A env s₀ N₀} K =>
  (sCons K (sAsgO K (by decide +kernel) rfl oDct0) (sCons K (sFor K rfl (iItems K.ok rfl rfl rfl) (by decide +kernel) rfl (sCons K (sSet K rfl rfl (dVar rfl) (dVar rfl)) (sNil K))) (sCons K (sFor K rfl (iItems K.ok rfl rfl rfl) (by decide +kernel) rfl (sCons K (sIf K (cIn K.ok rfl (dVar rfl)) (sCons K (sIf K (cIsT K.ok rfl (by decide +kernel) (by decide +kernel) rfl (dVar rfl)) (sCons K (sDead K) (sNil K)) (sCons K (sAugi K .add rfl rfl (dVar rfl) (dVar rfl)) (sNil K))) (sNil K)) (sCons K (sSet K rfl rfl (dVar rfl) (dVar rfl)) (sNil K))) (sNil K))) (sFrz K rfl (sCons K (sRet K (dVar rfl)) (sNil K))))))
theorem d1_count_calls {prog : Program} {w : World} {H : Heap} {mg mb : Str → Option Value} : DerFn prog w H mg mb fs1 "_grouping_intervals" f1_count_calls (recAt PySem.Challenge.pw_wn0011_01 6) := fun {X A env s₀ N₀} K =>
  (sCons K (sAsg K (by decide +kernel) rfl dInt) (sCons K (sFor K rfl (iValues K.ok rfl rfl rfl) (by decide +kernel) rfl (sCons K (sAug K .add (by decide +kernel) (dVar rfl)) (sNil K))) (sCons K (sRet K (dVar rfl)) (sNil K))))
theorem d1_law_draws {prog : Program} {w : World} {H : Heap} {mg mb : Str → Option Value} : DerFn prog w H mg mb fs1 "_grouping_intervals" f1_law_draws (recAt PySem.Challenge.pw_wn0011_01 8) := fun {X A env s₀ N₀} K =>
  (sCons K (sAsgO K (by decide +kernel) rfl (oLst (dCons rfl dInt (dCons rfl dInt (dCons rfl dInt (dCons rfl dInt (dCons rfl dInt (dCons rfl dInt dNil)))))))) (sCons K (sFor K rfl (iEnum K.ok rfl (by decide +kernel) rfl (dSlice (dVar rfl) dPn (dPs dInt))) (by decide +kernel) rfl (sCons K (sAugi K .add rfl rfl (dBin .mod (dVar rfl) dInt) (dVar rfl)) (sNil K))) (sFrz K rfl (sCons K (sRet K (dK (kLc1 K.ok rfl rfl (by decide +kernel) (iEx K.ok rfl rfl (dVar rfl)) rfl (by decide +kernel) rfl (by decide +kernel) (fun K => fNil) (fun K => (dBin .mod (dVar rfl) (dBin .pow dInt dInt)))))) (sNil K)))))
theorem d1_law_told {prog : Program} {w : World} {H : Heap} {mg mb : Str → Option Value} : DerFn prog w H mg mb fs1 "_grouping_intervals" f1_law_told (recAt PySem.Challenge.pw_wn0011_01 9) := fun {X A env s₀ N₀} K =>
  (sCons K (sAsgO K (by decide +kernel) rfl (oLst (dCons rfl dInt dNil))) (sCons K (sFgen K rfl (by decide +kernel) rfl (by decide +kernel) (dVar rfl) (sCons K (sApp K rfl rfl rfl (dBin .add (dOsub K.ok rfl rfl (dNeg dInt)) (dVar rfl))) (sCons K (sIf K (cCmp K.ok .eq (by decide) rfl (dOlen K.ok (by decide +kernel) rfl) (dVar rfl)) (sCons K (sBrk K) (sNil K)) (sNil K)) (sNil K)))) (sFrz K rfl (sCons K (sRet K (dVar rfl)) (sNil K)))))
theorem d1_law_sums {prog : Program} {w : World} {H : Heap} {mg mb : Str → Option Value} : DerFn prog w H mg mb fs1 "_grouping_intervals" f1_law_sums (recAt PySem.Challenge.pw_wn0011_01 10) := fun {X A env s₀ N₀} K =>
  (sCons K (sAsgO K (by decide +kernel) rfl (oLst (dCons rfl dInt dNil))) (sCons K (sFor K rfl (iRange K.ok rfl (by decide +kernel) rfl rfl (dCons rfl (dBin .sub (dVar rfl) dInt) dNil)) (by decide +kernel) rfl (sCons K (sIf K (cCmp K.ok .lt (by decide) rfl (dVar rfl) (dBi K.ok .len rfl (by decide +kernel) (by decide +kernel) rfl rfl (dCons rfl (dVar rfl) dNil))) (sCons K (sApp K rfl rfl rfl (dBin .add (dOsub K.ok rfl rfl (dNeg dInt)) (dSub rfl (dVar rfl) (dVar rfl)))) (sNil K)) (sCons K (sIf K (cVar rfl) (sCons K (sApp K rfl rfl rfl (dBin .add (dOsub K.ok rfl rfl (dNeg dInt)) (dSub rfl (dVar rfl) (dNeg dInt)))) (sNil K)) (sNil K)) (sNil K))) (sNil K))) (sFrz K rfl (sCons K (sRet K (dVar rfl)) (sNil K)))))
theorem d1_law_refused {prog : Program} {w : World} {H : Heap} {mg mb : Str → Option Value} : DerFn prog w H mg mb fs1 "_grouping_intervals" f1_law_refused (recAt PySem.Challenge.pw_wn0011_01 11) := fun {X A env s₀ N₀} K =>
  (sCons K (sAsg K (by decide +kernel) rfl (dBin .add (snd_own (oLst (dCons rfl dInt dNil))) (dVar rfl))) (sCons K (sTry K rfl (by decide +kernel) rfl (by decide +kernel) (dVar rfl) (sCons K (sRet K dBool) (sNil K)) (by decide +kernel) (by decide +kernel) (fun K => (sCons K (sRet K (dBop (dB2 true (dCmp K.ok .eq (by decide) rfl (dExc K.ok rfl (by decide +kernel)) dStr) (dB1 true (dCmp K.ok .eq (by decide) rfl (dVar rfl) (dBin .add (snd_own (oLst (dCons rfl dInt dNil))) (dVar rfl))))))) (sNil K)))) (sCons K (sRet K dBool) (sNil K))))
theorem d1_law_powers {prog : Program} {w : World} {H : Heap} {mg mb : Str → Option Value} : DerFn prog w H mg mb fs1 "_grouping_intervals" f1_law_powers (recAt PySem.Challenge.pw_wn0011_01 12) := fun {X A env s₀ N₀} K =>
  (sCons K (sAsgO K (by decide +kernel) rfl (oLst dNil)) (sCons K (sFor K rfl (iRange K.ok rfl (by decide +kernel) rfl rfl (dCons rfl (dBi K.ok .len rfl (by decide +kernel) (by decide +kernel) rfl rfl (dCons rfl (dVar rfl) dNil)) dNil)) (by decide +kernel) rfl (sCons K (sFor K rfl (iRange K.ok rfl (by decide +kernel) rfl rfl (dCons rfl (dVar rfl) dNil)) (by decide +kernel) rfl (sCons K (sAsg K (by decide +kernel) rfl (dBin .sub (dSub rfl (dVar rfl) (dVar rfl)) (dSub rfl (dVar rfl) (dVar rfl)))) (sCons K (sAsg K (by decide +kernel) rfl dInt) (sCons K (sWhile K (cCmp K.ok .eq (by decide) rfl (dBin .mod (dVar rfl) (dVar rfl)) dInt) (sCons K (sAug K .fdiv (by decide +kernel) (dVar rfl)) (sCons K (sAug K .add (by decide +kernel) dInt) (sNil K)))) (sCons K (sIf K (cNotin K.ok rfl (dVar rfl)) (sCons K (sApp K rfl rfl rfl (dVar rfl)) (sNil K)) (sNil K)) (sNil K)))))) (sNil K))) (sFrz K rfl (sCons K (sRet K (dVar rfl)) (sNil K)))))
theorem d1_law_steps {prog : Program} {w : World} {H : Heap} {mg mb : Str → Option Value} : DerFn prog w H mg mb fs1 "_grouping_intervals" f1_law_steps (recAt PySem.Challenge.pw_wn0011_01 13) := fun {X A env s₀ N₀} K =>
  (sCons K (sAsg K (by decide +kernel) rfl (snd_own (oLst (dCons rfl dInt dNil)))) (sCons K (sFor K rfl (iRange K.ok rfl (by decide +kernel) rfl rfl (dCons rfl (dBi K.ok .max rfl (by decide +kernel) (by decide +kernel) rfl rfl (dCons rfl (dVar rfl) dNil)) dNil)) (by decide +kernel) rfl (sCons K (sIf K (cCmp K.ok .notin (by decide) rfl (dVar rfl) (dVar rfl)) (sCons K (sAsgK K (by decide +kernel) (kLc2 K.ok rfl rfl (by decide +kernel) (iEx K.ok rfl rfl (dVar rfl)) rfl (by decide +kernel) rfl (by decide +kernel) (fun K => fNil) (fun K => (iRange K rfl (by decide +kernel) rfl rfl (dCons rfl (dVar rfl) dNil))) rfl (by decide +kernel) rfl (by decide +kernel) (by decide +kernel) (fun K => fNil) (fun K => (dBin .add (dVar rfl) (dBin .mul (dVar rfl) (dBin .pow (dVar rfl) (dVar rfl))))))) (sNil K)) (sNil K)) (sNil K))) (sCons K (sRet K (dVar rfl)) (sNil K))))
theorem d1_law_covers_the_line {prog : Program} {w : World} {H : Heap} {mg mb : Str → Option Value} : DerFn prog w H mg mb fs1 "_grouping_intervals" f1_law_covers_the_line (recAt PySem.Challenge.pw_wn0011_01 14) := fun {X A env s₀ N₀} K =>
  (sCons K (sAsg K (by decide +kernel) rfl (dSub rfl (dVar rfl) (dNeg dInt))) (sCons K (sAsg K (by decide +kernel) rfl dInt) (sCons K (sFor K rfl (iEx K.ok rfl rfl (dVar rfl)) (by decide +kernel) rfl (sCons K (sAug K .add (by decide +kernel) (dBin .pow dInt (dVar rfl))) (sNil K))) (sCons K (sAsgO K (by decide +kernel) rfl oDct0) (sCons K (sFor K rfl (iRange K.ok rfl (by decide +kernel) rfl rfl (dCons rfl dInt (dCons rfl (dBin .pow dInt (dVar rfl)) (dCons rfl dInt dNil)))) (by decide +kernel) rfl (sCons K (sIf K (cCmp K.ok .eq (by decide) rfl (dBin .band (dVar rfl) (dVar rfl)) dInt) (sCons K (sAsg K (by decide +kernel) rfl (dBin .add (dVar rfl) (dVar rfl))) (sCons K (sWhile K (cCmp K.ok .eq (by decide) rfl (dBin .mod (dVar rfl) dInt) dInt) (sCons K (sAug K .fdiv (by decide +kernel) dInt) (sNil K))) (sCons K (sSet K rfl rfl (dVar rfl) (dVar rfl)) (sNil K)))) (sNil K)) (sNil K))) (sFrz K rfl (sCons K (sAsgO K (by decide +kernel) rfl oDct0) (sCons K (sFor K rfl (iEx K.ok rfl rfl (dVar rfl)) (by decide +kernel) rfl (sCons K (sIf K (cNotin K.ok rfl (dVar rfl)) (sCons K (sAsg K (by decide +kernel) rfl (dVar rfl)) (sCons K (sWhile K (cBop true (cA true (cCmp K.ok .isin (by decide) rfl (dVar rfl) (dVar rfl)) (cA true (cNotin K.ok rfl (dVar rfl)) (cA0 true)))) (sCons K (sSet K rfl rfl (dVar rfl) (dVar rfl)) (sCons K (sAsg K (by decide +kernel) rfl (dSub rfl (dVar rfl) (dVar rfl))) (sNil K)))) (sCons K (sIf K (cCmp K.ok .eq (by decide) rfl (dVar rfl) (dVar rfl)) (sCons K (sRet K dBool) (sNil K)) (sNil K)) (sNil K)))) (sNil K)) (sNil K))) (sFrz K rfl (sCons K (sRet K dBool) (sNil K)))))))))))
theorem d1_law_laid {prog : Program} {w : World} {H : Heap} {mg mb : Str → Option Value} : DerFn prog w H mg mb fs1 "_grouping_intervals" f1_law_laid (recAt PySem.Challenge.pw_wn0011_01 15) := fun {X A env s₀ N₀} K =>
  (sCons K (sFor K rfl (iEx K.ok rfl rfl (dVar rfl)) (by decide +kernel) rfl (sCons K (sAsgK K (by decide +kernel) (kDc1 K.ok rfl rfl (by decide +kernel) (iEx K.ok rfl rfl (dVar rfl)) rfl (by decide +kernel) rfl (by decide +kernel) (fun K => fNil) (fun K => (dBin .mod (dBin .add (dVar rfl) (dVar rfl)) (dVar rfl))) (fun K => dInt))) (sCons K (sAsg K (by decide +kernel) rfl (dCall K.ok 0 rfl rfl (by decide +kernel) (by decide +kernel) rfl rfl (dCons rfl (dVar rfl) (dCons rfl (dTup (dCons rfl dInt (dCons rfl (dBi K.ok .len rfl (by decide +kernel) (by decide +kernel) rfl rfl (dCons rfl (dVar rfl) dNil)) (dCons rfl (dVar rfl) (dCons rfl (dBin .add (dVar rfl) (dSub rfl (dVar rfl) (dNeg dInt))) (dCons rfl (dVar rfl) dNil)))))) dNil)))) (sNil K)))) (sCons K (sRet K (dVar rfl)) (sNil K)))
theorem d1_law {prog : Program} {w : World} {H : Heap} {mg mb : Str → Option Value} : DerFn prog w H mg mb fs1 "_grouping_intervals" f1_law (recAt PySem.Challenge.pw_wn0011_01 16) := fun {X A env s₀ N₀} K =>
  (sCons K (sAsg K (by decide +kernel) rfl (dCall K.ok 3 rfl rfl (by decide +kernel) (by decide +kernel) rfl rfl (dCons rfl (dVar rfl) dNil))) (sCons K (sAsg K (by decide +kernel) rfl (dBin .add dInt (dBin .mod (dSub rfl (dVar rfl) dInt) dInt))) (sCons K (sAsg K (by decide +kernel) rfl (dBin .add dInt (dBin .mod (dBin .fdiv (dSub rfl (dVar rfl) dInt) dInt) dInt))) (sCons K (sAsgK K (by decide +kernel) (kLc1 K.ok rfl rfl (by decide +kernel) (iEx K.ok rfl rfl (dSlice (dVar rfl) (dPs dInt) (dPs dInt))) rfl (by decide +kernel) rfl (by decide +kernel) (fun K => fNil) (fun K => (dBin .add dInt (dBin .mod (dVar rfl) (dBin .sub dInt (dVar rfl))))))) (sCons K (sAsg K (by decide +kernel) rfl (dSlice (dVar rfl) dPn (dPs (dBin .add dInt (dBin .mod (dSub rfl (dVar rfl) dInt) dInt))))) (sCons K (sAsg K (by decide +kernel) rfl (dSub rfl (snd_own (oLst (dCons rfl (snd_own (oLst dNil)) (dCons rfl (snd_own (oLst (dCons rfl dInt dNil))) (dCons rfl (snd_own (oLst (dCons rfl dInt (dCons rfl dInt dNil)))) (dCons rfl (snd_own (oLst (dCons rfl dInt (dCons rfl dInt dNil)))) dNil)))))) (dBin .mod (dBin .fdiv (dSub rfl (dVar rfl) dInt) dInt) dInt))) (sCons K (sAsg K (by decide +kernel) rfl (dBin .add (dVar rfl) (dVar rfl))) (sCons K (sAsg K (by decide +kernel) rfl (dCall K.ok 4 rfl rfl (by decide +kernel) (by decide +kernel) rfl rfl (dCons rfl (dVar rfl) (dCons rfl (dVar rfl) dNil)))) (sCons K (sZif K rfl 6 (by decide +kernel) rfl (by decide +kernel) rfl rfl (dCons rfl (dVar rfl) dNil) (cCmp K.ok .ne (by decide) rfl (dVar rfl) (dCall K.ok 5 rfl rfl (by decide +kernel) (by decide +kernel) rfl rfl (dCons rfl (dVar rfl) (dCons rfl (dCmp K.ok .isin (by decide) rfl dInt (dVar rfl)) (dCons rfl (dVar rfl) dNil))))) (cCmp K.ok .ne (by decide) rfl (dVar rfl) (dBin .add (dVar rfl) (dVar rfl))) (sCons K (sRet K dBool) (sNil K))) (sCons K (sAsg K (by decide +kernel) rfl (dSub rfl (snd_own (oLst (dCons rfl dInt (dCons rfl dInt (dCons rfl dInt (dCons rfl dInt (dCons rfl dInt (dCons rfl dInt dNil)))))))) (dBi K.ok .len rfl (by decide +kernel) (by decide +kernel) rfl rfl (dCons rfl (dVar rfl) dNil)))) (sCons K (sAsg K (by decide +kernel) rfl (dCall K.ok 7 rfl rfl (by decide +kernel) (by decide +kernel) rfl rfl (dCons rfl (dVar rfl) (dCons rfl (dVar rfl) dNil)))) (sCons K (sAsg K (by decide +kernel) rfl (dCall K.ok 8 rfl rfl (by decide +kernel) (by decide +kernel) rfl rfl (dCons rfl (dVar rfl) (dCons rfl (dVar rfl) dNil)))) (sCons K (sAsg K (by decide +kernel) rfl (dBin .pow (dVar rfl) (dBin .add (dBi K.ok .max rfl (by decide +kernel) (by decide +kernel) rfl rfl (dCons rfl (dVar rfl) dNil)) dInt))) (sCons K (sAsg K (by decide +kernel) rfl (dBi K.ok .sum rfl (by decide +kernel) (by decide +kernel) rfl rfl (dCons rfl (dSlice (dVar rfl) dPn (dPs dInt)) dNil))) (sCons K (sAsgOK K (by decide +kernel) (kLc2 K.ok rfl rfl (by decide +kernel) (iRange K.ok rfl (by decide +kernel) rfl rfl (dCons rfl (dVar rfl) dNil)) rfl (by decide +kernel) rfl (by decide +kernel) (fun K => fNil) (fun K => (iEx K rfl rfl (dVar rfl))) rfl (by decide +kernel) rfl (by decide +kernel) (by decide +kernel) (fun K => fNil) (fun K => (dBin .add (dBin .add (dVar rfl) (dBin .mul (dVar rfl) (dVar rfl))) (dVar rfl))))) (sCons K (sAsg K (by decide +kernel) rfl (dCallo K.ok 10 rfl rfl (by decide +kernel) (by decide +kernel) rfl rfl rfl (dTup (dCons rfl dInt (dCons rfl dInt (dCons rfl dInt (dCons rfl dInt (dCons rfl (snd_own oDct0) dNil)))))) (dCons rfl (dVar rfl) (dCons rfl (dVar rfl) dNil)))) (sCons K (sIf K (cCall K.ok 9 rfl rfl (by decide +kernel) (by decide +kernel) rfl rfl (dCons rfl (dVar rfl) dNil)) (sCons K (sAsgOK K (by decide +kernel) (kDc1 K.ok rfl rfl (by decide +kernel) (iRange K.ok rfl (by decide +kernel) rfl rfl (dCons rfl (dVar rfl) dNil)) rfl (by decide +kernel) rfl (by decide +kernel) (fun K => fNil) (fun K => (dVar rfl)) (fun K => (dVar rfl)))) (sNil K)) (sCons K (sAsgK K (by decide +kernel) (kLc1 K.ok rfl rfl (by decide +kernel) (iRange K.ok rfl (by decide +kernel) rfl rfl (dCons rfl (dVar rfl) dNil)) rfl (by decide +kernel) rfl (by decide +kernel) (fun K => (fCons (cCmp K .notin (by decide) rfl (dVar rfl) (dSub rfl (dVar rfl) dInt)) fNil)) (fun K => (dVar rfl)))) (sCons K (sIf K (cCmp K.ok .eq (by decide) rfl (dVar rfl) (snd_own (oLst dNil))) (sCons K (sRet K dBool) (sNil K)) (sNil K)) (sCons K (sApp K rfl rfl rfl (dSub rfl (dVar rfl) dInt)) (sCons K (sAsg K (by decide +kernel) rfl (dCall K.ok 10 rfl rfl (by decide +kernel) (by decide +kernel) rfl rfl (dCons rfl (dVar rfl) (dCons rfl (dSlice (dVar rfl) dPn (dPs dInt)) (dCons rfl (dVar rfl) (dCons rfl (dVar rfl) dNil)))))) (sCons K (sAsgOK K (by decide +kernel) (kDc2 K.ok rfl rfl (by decide +kernel) (iEx K.ok rfl rfl (dVar rfl)) rfl (by decide +kernel) rfl (by decide +kernel) (fun K => fNil) (fun K => (iEx K rfl rfl (dVar rfl))) rfl (by decide +kernel) rfl (by decide +kernel) (by decide +kernel) (fun K => fNil) (fun K => (dBin .mod (dBin .add (dBin .add (dVar rfl) (dVar rfl)) (dVar rfl)) (dVar rfl))) (fun K => (dVar rfl)))) (sCons K (sFor K rfl (iEx K.ok rfl rfl (dVar rfl)) (by decide +kernel) rfl (sCons K (sAsg K (by decide +kernel) rfl (dBin .mod (dBin .add (dSub rfl (dVar rfl) dInt) (dVar rfl)) (dVar rfl))) (sCons K (sSet K rfl rfl (dVar rfl) (dIte (cIn K.ok rfl (dVar rfl)) (dBin .add (dOsub K.ok rfl rfl (dVar rfl)) dInt) dInt)) (sNil K)))) (sNil K)))))))) (sFrz K rfl (sFrz K rfl (sCons K (sAsg K (by decide +kernel) rfl (dBi K.ok .len rfl (by decide +kernel) (by decide +kernel) rfl rfl (dCons rfl (dVar rfl) dNil))) (sCons K (sIf K (cCmp K.ok .ne (by decide) rfl (dVar rfl) (dTup (dCons rfl (dVar rfl) (dCons rfl (dBin .mul (dVar rfl) (dBi K.ok .len rfl (by decide +kernel) (by decide +kernel) rfl rfl (dCons rfl (dVar rfl) dNil))) (dCons rfl (dBi K.ok .sum rfl (by decide +kernel) (by decide +kernel) rfl rfl (dCons rfl (dVar rfl) dNil)) (dCons rfl (dBin .add (dBi K.ok .sum rfl (by decide +kernel) (by decide +kernel) rfl rfl (dCons rfl (dVar rfl) dNil)) (dBin .mul (dVar rfl) (dSub rfl (dVar rfl) (dNeg dInt)))) (dCons rfl (dVar rfl) dNil))))))) (sCons K (sRet K dBool) (sNil K)) (sNil K)) (sCons K (sRet K (dCmp K.ok .eq (by decide) rfl (dCall K.ok 2 rfl rfl (by decide +kernel) (by decide +kernel) rfl rfl (dCons rfl (dSub rfl (dVar rfl) dInt) dNil)) (dBin .mul (dVar rfl) (dBi K.ok .len rfl (by decide +kernel) (by decide +kernel) rfl rfl (dCons rfl (dVar rfl) dNil))))) (sNil K)))))))))))))))))))))))
theorem fs1_ok {prog : Program} {w : World} {H : Heap} {mg mb : Str → Option Value} : ∀ g ∈ fs1, ∃ d as, okFn g d as = true ∧ d.params = ⟨[], as, none, [], [], none, []⟩ ∧ DerFn prog w H mg mb fs1 "_grouping_intervals" g d ∧ d ∈ recsOf q1 := by
  intro g hg
  simp only [fs1, List.mem_cons, List.not_mem_nil, or_false] at hg
  rcases hg with rfl | rfl | rfl | rfl | rfl | rfl | rfl | rfl | rfl | rfl | rfl | rfl
  · exact ⟨recAt PySem.Challenge.pw_wn0011_01 4, _, by decide +kernel, rfl, d1_add_func_stats, List.mem_of_getElem? (i := 1) (by kernel_rfl)⟩
  · exact ⟨recAt PySem.Challenge.pw_wn0011_01 5, _, by decide +kernel, rfl, d1_add_callers, List.mem_of_getElem? (i := 2) (by kernel_rfl)⟩
  · exact ⟨recAt PySem.Challenge.pw_wn0011_01 6, _, by decide +kernel, rfl, d1_count_calls, List.mem_of_getElem? (i := 3) (by kernel_rfl)⟩
  · exact ⟨recAt PySem.Challenge.pw_wn0011_01 8, _, by decide +kernel, rfl, d1_law_draws, List.mem_of_getElem? (i := 4) (by kernel_rfl)⟩
  · exact ⟨recAt PySem.Challenge.pw_wn0011_01 9, _, by decide +kernel, rfl, d1_law_told, List.mem_of_getElem? (i := 5) (by kernel_rfl)⟩
  · exact ⟨recAt PySem.Challenge.pw_wn0011_01 10, _, by decide +kernel, rfl, d1_law_sums, List.mem_of_getElem? (i := 6) (by kernel_rfl)⟩
  · exact ⟨recAt PySem.Challenge.pw_wn0011_01 11, _, by decide +kernel, rfl, d1_law_refused, List.mem_of_getElem? (i := 7) (by kernel_rfl)⟩
  · exact ⟨recAt PySem.Challenge.pw_wn0011_01 12, _, by decide +kernel, rfl, d1_law_powers, List.mem_of_getElem? (i := 8) (by kernel_rfl)⟩
  · exact ⟨recAt PySem.Challenge.pw_wn0011_01 13, _, by decide +kernel, rfl, d1_law_steps, List.mem_of_getElem? (i := 9) (by kernel_rfl)⟩
  · exact ⟨recAt PySem.Challenge.pw_wn0011_01 14, _, by decide +kernel, rfl, d1_law_covers_the_line, List.mem_of_getElem? (i := 10) (by kernel_rfl)⟩
  · exact ⟨recAt PySem.Challenge.pw_wn0011_01 15, _, by decide +kernel, rfl, d1_law_laid, List.mem_of_getElem? (i := 11) (by kernel_rfl)⟩
  · exact ⟨recAt PySem.Challenge.pw_wn0011_01 16, _, by decide +kernel, rfl, d1_law, List.mem_of_getElem? (i := 12) (by kernel_rfl)⟩
theorem gen1_in : recAt PySem.Challenge.pw_wn0011_01 2 ∈ recsOf q1 := List.mem_of_getElem? (i := 0) (by kernel_rfl)
end Mine
end
section
open PySem PySem.Calls PyProof.Rows
namespace Mine
@[reducible] def atR : List (Option LV) → Nat → Option LV
  | [], _ => none
  | x :: _, 0 => x
  | _ :: r, n + 1 => atR r n
@[reducible] def setR : List (Option LV) → Nat → Option LV → List (Option LV)
  | [], _, _ => []
  | _ :: r, 0, v => v :: r
  | x :: r, n + 1, v => x :: setR r n v
theorem at_R : Rho.at = atR := by
  funext ρ i
  unfold Rho.at
  induction ρ generalizing i with
  | nil => rfl
  | cons x r ih => cases i with
    | zero => cases x <;> rfl
    | succ n => exact ih n
theorem set_R : (List.set : Rho → Nat → Option LV → Rho) = setR := by
  funext ρ i v
  induction ρ generalizing i with
  | nil => rfl
  | cons x r ih => cases i with
    | zero => rfl
    | succ n => exact congrArg (x :: ·) (ih n)
theorem evE_varR (X : Fns) (i) (ρ) (Q) : evE X (.var i) ρ Q = (match atR ρ i with
    | some (.sh d) => Q d
    | _ => False) := by rw [← at_R]; rfl
theorem evE_osubR (X : Fns) (x) (i) (ρ) (Q) : evE X (.osub x i) ρ Q = (match atR ρ x with
    | some (.ol ds) => evE X i ρ fun b => subW (.lst ds) b Q
    | some (.od ds) => evE X i ρ fun b => subW (.dct ds) b Q
    | _ => False) := by rw [← at_R]; rfl
theorem evE_olenR (X : Fns) (x) (ρ) (Q) : evE X (.olen x) ρ Q = (match atR ρ x with
    | some (.ol ds) => fits ds.length ∧ Q (.int ds.length)
    | _ => False) := by rw [← at_R]; rfl
theorem evE_calloR (X : Fns) (f) (e) (x) (es₂) (ρ) (Q) : evE X (.callo f e x es₂) ρ Q = (evE X e ρ fun d => match atR ρ x with
    | some (.ol xs) => evEs X es₂ ρ fun ds₂ => X f (d :: .lst xs :: ds₂) fun d => noLst d = true ∧ Q d
    | _ => False) := by rw [← at_R]; rfl
theorem evE_strexcR (X : Fns) (x) (ρ) (Q) : evE X (.strexc x) ρ Q = (match atR ρ x with
    | some (.exc m) => Q (.str m)
    | _ => False) := by rw [← at_R]; rfl
theorem evC_oinR (X : Fns) (neg) (e) (x) (ρ) (Q) : evC X (.oin neg e x) ρ Q = (evE X e ρ fun a => match atR ρ x with
    | some (.ol ds) => cmpW (if neg then .notin else .isin) a (.lst ds) Q
    | some (.od ds) => cmpW (if neg then .notin else .isin) a (.dct ds) Q
    | _ => False) := by rw [← at_R]; rfl
theorem evC_varR (X : Fns) (i) (ρ) (Q) : evC X (.var i) ρ Q = (match atR ρ i with
    | some (.sh d) => truthW d Q
    | _ => False) := by rw [← at_R]; rfl
theorem exS_assignR (X : Fns) (i) (e) (ρ) (Q) : exS X (.assign i e) ρ Q = (evE X e ρ fun d => Q (setR ρ i (some (.sh d))) .next) := by rw [← set_R]; rfl
theorem exS_assignOR (X : Fns) (i) (e) (ρ) (Q) : exS X (.assignO i e) ρ Q = (evE X e ρ fun d => ∃ lv, toLV d = some lv ∧ i < ρ.length ∧ Q (setR ρ i (some lv)) .next) := by rw [← set_R]; rfl
theorem exS_setitemR (X : Fns) (x) (k) (v) (ρ) (Q) : exS X (.setitem x k v) ρ Q = (match atR ρ x with
    | some lv => evE X v ρ fun dv => evE X k ρ fun dk => setW lv dk dv fun lv' => Q (setR ρ x (some lv')) .next
    | none => False) := by rw [← at_R, ← set_R]; rfl
theorem exS_augR (X : Fns) (i) (op) (e) (ρ) (Q) : exS X (.aug i op e) ρ Q = (match atR ρ i with
    | some (.sh a) => evE X e ρ fun b => iopW op a b fun d => Q (setR ρ i (some (.sh d))) .next
    | _ => False) := by rw [← at_R, ← set_R]; rfl
theorem exS_augitemR (X : Fns) (x) (k) (op) (e) (ρ) (Q) : exS X (.augitem x k op e) ρ Q = (match atR ρ x with
    | some lv => evE X k ρ fun dk => getW lv dk fun a => evE X e ρ fun b => iopW op a b fun d => setW lv dk d fun lv' => Q (setR ρ x (some lv')) .next
    | none => False) := by rw [← at_R, ← set_R]; rfl
theorem exS_appendR (X : Fns) (x) (e) (ρ) (Q) : exS X (.append x e) ρ Q = (match atR ρ x with
    | some (.ol ds) => evE X e ρ fun d => fits (ds.length + 1) ∧ Q (setR ρ x (some (.ol (ds ++ [d])))) .next
    | _ => False) := by rw [← at_R, ← set_R]; rfl
theorem exS_trygenR (X : Fns) (t) (e) (body) (kill) (x) (hand) (ρ) (Q) : exS X (.trygen t e body kill x hand) ρ Q = (evE X e ρ fun d => match d with
    | .lst ds => ∃ is, ints? ds = some is ∧ match rowBad is with
      | false => ∃ n, genW t kill (exSs X body) n (.go none is) ρ Q
      | true => x < ρ.length ∧ exSs X hand (setR ρ x (some (.exc "invalid grouping"))) fun ρ' fl => Q (setR ρ' x none) fl
    | _ => False) := by rw [← set_R]; rfl
theorem exS_freezeR (X : Fns) (i) (ρ) (Q) : exS X (.freeze i) ρ Q = (match atR ρ i with
    | some lv => ∃ d, lv.froz = some d ∧ Q (setR ρ i (some (.sh d))) .next
    | none => False) := by rw [← at_R, ← set_R]; rfl
theorem asgW_nmR (i : Nat) (d : D) (ρ : Rho) (Q) : asgW (.nm i) d ρ Q = Q (setR ρ i (some (.sh d))) := by rw [← set_R]; rfl
theorem setAll_consR (ρ : Rho) (i : Nat) (is : List Nat) (d : D) (ds : List D) : ρ.setAll (i :: is) (d :: ds) = Rho.setAll (setR ρ i (some (.sh d))) is ds := by rw [← set_R]; rfl
theorem clr_consR (ρ : Rho) (i : Nat) (is : List Nat) : ρ.clr (i :: is) = Rho.clr (setR ρ i none) is := by rw [← set_R]; rfl
theorem rho_atR (ρ : Rho) (i : Nat) : ρ.at i = atR ρ i := congrFun (congrFun at_R ρ) i
end Mine
end
section
open PySem PySem.Calls PyProof.Rows
namespace Mine
theorem obS {α β : Type} {o : Option α} {f : α → Option β} {d : β} (h : o.bind f = some d) : ∃ a, o = some a ∧ f a = some d := by
  cases o with
  | none => cases h
  | some a => exact ⟨a, rfl, h⟩
noncomputable def gd {α : Type} (c : Bool) (a : α) : Option α := match c with
  | true => some a
  | false => none
theorem gdS {α : Type} {c : Bool} {a d : α} (h : gd c a = some d) : c = true ∧ a = d := by
  cases c with
  | false => cases h
  | true => exact ⟨rfl, Option.some.inj h⟩
noncomputable def fitB (n : Nat) : Bool := Nat.ble n 1048576
theorem fitS {n : Nat} (h : fitB n = true) : fits n := Nat.le_of_ble_eq_true h
noncomputable def nI {β : Type} (d : D) (k : Int → Option β) : Option β := match d with
  | .int i => k i
  | _ => none
theorem nI_ok {β : Type} {d : D} {k : Int → Option β} {x : β} (h : nI d k = some x) : ∃ i, d = .int i ∧ k i = some x := by
  cases d <;> first | exact ⟨_, rfl, h⟩ | cases h
noncomputable def nL {β : Type} (d : D) (k : List D → Option β) : Option β := match d with
  | .lst i => k i
  | _ => none
theorem nL_ok {β : Type} {d : D} {k : List D → Option β} {x : β} (h : nL d k = some x) : ∃ i, d = .lst i ∧ k i = some x := by
  cases d <;> first | exact ⟨_, rfl, h⟩ | cases h
noncomputable def nIL {β : Type} (d : D) (k : Int → Option β) (l : List D → Option β) : Option β := match d with
  | .int i => k i
  | .lst i => l i
  | _ => none
theorem nIL_ok {β : Type} {d : D} {k : Int → Option β} {l : List D → Option β} {x : β} (h : nIL d k l = some x) : (∃ i, d = .int i ∧ k i = some x) ∨ ∃ i, d = .lst i ∧ l i = some x := by
  cases d <;> first | exact .inl ⟨_, rfl, h⟩ | exact .inr ⟨_, rfl, h⟩ | cases h
noncomputable def nLK {β : Type} (d : D) (k : List D → Option β) (l : List (K × D) → Option β) : Option β := match d with
  | .lst i => k i
  | .dct i => l i
  | _ => none
theorem nLK_ok {β : Type} {d : D} {k : List D → Option β} {l : List (K × D) → Option β} {x : β} (h : nLK d k l = some x) : (∃ i, d = .lst i ∧ k i = some x) ∨ ∃ i, d = .dct i ∧ l i = some x := by
  cases d <;> first | exact .inl ⟨_, rfl, h⟩ | exact .inr ⟨_, rfl, h⟩ | cases h
theorem and2 {a b : Bool} (h : (a && b) = true) : a = true ∧ b = true := by
  cases a
  · cases h
  · exact ⟨rfl, h⟩
theorem decT {p : Prop} [Decidable p] (h : decide p = true) : p := of_decide_eq_true h
theorem ne0 {b : Int} (h : (!(b == 0)) = true) : b ≠ 0 := fun q => by subst q; cases h
noncomputable def binR (op : Bop) (a b : D) : Option D := match op with
  | .add => nIL a (fun a => nI b fun b => some (.int (a + b))) fun a => nL b fun b => gd (fitB (a.length + b.length)) (.lst (a ++ b))
  | .sub => nI a fun a => nI b fun b => some (.int (a - b))
  | .mul => nI a fun a => nI b fun b => gd (decide (a.natAbs < 2 ^ 64)) (.int (a * b))
  | .fdiv => nI a fun a => nI b fun b => gd (!(b == 0) && decide (b.natAbs < 1073741824)) (.int (a.fdiv b))
  | .mod => nI a fun a => nI b fun b => gd (!(b == 0)) (.int (a.fmod b))
  | .pow => nI a fun a => nI b fun b => gd (decide (0 ≤ b) && (decide (b ≤ 1000000) && decide (a.natAbs < 2 ^ 64))) (.int (a ^ b.toNat))
  | .band => nI a fun a => nI b fun b => some (.int (Builtin.bitAnd a b))
theorem binR_ok {op : Bop} {a b d : D} (h : binR op a b = some d) {Q : D → Prop} (k : Q d) : binW op a b Q := by
  cases op with
  | add =>
    rcases nIL_ok h with ⟨i, rfl, h⟩ | ⟨i, rfl, h⟩
    · obtain ⟨j, rfl, h⟩ := nI_ok h; cases h; exact k
    · obtain ⟨j, rfl, h⟩ := nL_ok h; obtain ⟨c, rfl⟩ := gdS h; exact ⟨fitS c, k⟩
  | sub => obtain ⟨i, rfl, h⟩ := nI_ok h; obtain ⟨j, rfl, h⟩ := nI_ok h; cases h; exact k
  | mul => obtain ⟨i, rfl, h⟩ := nI_ok h; obtain ⟨j, rfl, h⟩ := nI_ok h; obtain ⟨c, rfl⟩ := gdS h; exact ⟨.inl (decT (p := _ < _) c), k⟩
  | fdiv => obtain ⟨i, rfl, h⟩ := nI_ok h; obtain ⟨j, rfl, h⟩ := nI_ok h; obtain ⟨c, rfl⟩ := gdS h; exact ⟨⟨ne0 (and2 c).1, decT (and2 c).2⟩, k⟩
  | mod => obtain ⟨i, rfl, h⟩ := nI_ok h; obtain ⟨j, rfl, h⟩ := nI_ok h; obtain ⟨c, rfl⟩ := gdS h; exact ⟨ne0 c, k⟩
  | pow => obtain ⟨i, rfl, h⟩ := nI_ok h; obtain ⟨j, rfl, h⟩ := nI_ok h; obtain ⟨c, rfl⟩ := gdS h; exact ⟨⟨decT (and2 c).1, decT (and2 (and2 c).2).1, decT (p := _ < _) (and2 (and2 c).2).2⟩, k⟩
  | band => obtain ⟨i, rfl, h⟩ := nI_ok h; obtain ⟨j, rfl, h⟩ := nI_ok h; cases h; exact k
noncomputable def cmpR (op : Cop) (a b : D) : Option Bool := match op with
  | .eq => gd (eqP 4 a b) (eqv a b)
  | .ne => gd (eqOk a b) (!eqv a b)
  | .lt => nI a fun a => nI b fun b => some (decide (a < b))
  | .le => nI a fun a => nI b fun b => some (decide (a ≤ b))
  | .gt => nI a fun a => nI b fun b => some (decide (a > b))
  | .ge => nI a fun a => nI b fun b => some (decide (a ≥ b))
  | .isin => nLK b (fun ys => gd (ys.all fun y => eqP 4 y a) (ys.any fun y => eqv y a)) fun kvs => (a.key?).bind fun k => some (klook k kvs).isSome
  | .notin => nLK b (fun ys => gd (ys.all fun y => eqP 4 y a) (!ys.any fun y => eqv y a)) fun kvs => (a.key?).bind fun k => some (!(klook k kvs).isSome)
  | .isnone => none
theorem cmpR_ok {op : Cop} {a b : D} {d : Bool} (h : cmpR op a b = some d) {Q : Bool → Prop} (k : Q d) : cmpW op a b Q := by
  cases op with
  | eq => obtain ⟨c, rfl⟩ := gdS h; exact ⟨c, k⟩
  | ne => obtain ⟨c, rfl⟩ := gdS h; exact ⟨c, k⟩
  | lt => obtain ⟨i, rfl, h⟩ := nI_ok h; obtain ⟨j, rfl, h⟩ := nI_ok h; cases h; exact k
  | le => obtain ⟨i, rfl, h⟩ := nI_ok h; obtain ⟨j, rfl, h⟩ := nI_ok h; cases h; exact k
  | gt => obtain ⟨i, rfl, h⟩ := nI_ok h; obtain ⟨j, rfl, h⟩ := nI_ok h; cases h; exact k
  | ge => obtain ⟨i, rfl, h⟩ := nI_ok h; obtain ⟨j, rfl, h⟩ := nI_ok h; cases h; exact k
  | isin =>
    rcases nLK_ok h with ⟨i, rfl, h⟩ | ⟨i, rfl, h⟩
    · obtain ⟨c, rfl⟩ := gdS h; exact ⟨c, k⟩
    · obtain ⟨c, e, h⟩ := obS h; cases h; exact ⟨c, e, k⟩
  | notin =>
    rcases nLK_ok h with ⟨i, rfl, h⟩ | ⟨i, rfl, h⟩
    · obtain ⟨c, rfl⟩ := gdS h; exact ⟨c, k⟩
    · obtain ⟨c, e, h⟩ := obS h; cases h; exact ⟨c, e, k⟩
  | isnone => cases h
noncomputable def subR (a i : D) : Option D := match a with
  | .lst xs => nI i fun i => (idx xs.length i).bind fun j => xs[j]?
  | .tup xs => nI i fun i => (idx xs.length i).bind fun j => xs[j]?
  | .dct kvs => (i.key?).bind fun k => klook k kvs
  | _ => none
theorem subR_ok {a b d : D} (h : subR a b = some d) {Q : D → Prop} (k : Q d) : subW a b Q := by
  cases a with
  | lst xs => obtain ⟨i, rfl, h⟩ := nI_ok h; exact ⟨d, h, k⟩
  | tup xs => obtain ⟨i, rfl, h⟩ := nI_ok h; exact ⟨d, h, k⟩
  | dct kvs => obtain ⟨c, e, h⟩ := obS (o := b.key?) h; exact ⟨c, d, e, h, k⟩
  | _ => cases h
noncomputable def n1 {β : Type} (ds : List D) (k : D → Option β) : Option β := match ds with
  | d :: r => match r with
    | [] => k d
    | _ :: _ => none
  | [] => none
theorem n1_ok {β : Type} {ds : List D} {k : D → Option β} {x : β} (h : n1 ds k = some x) : ∃ d, ds = [d] ∧ k d = some x := by
  cases ds with
  | nil => cases h
  | cons d r => cases r with
    | nil => exact ⟨d, rfl, h⟩
    | cons _ _ => cases h
noncomputable def n2 {β : Type} (ds : List D) (k : D → Option β) (l : D → D → Option β) : Option β := match ds with
  | d :: r => match r with
    | [] => k d
    | e :: r => match r with
      | [] => l d e
      | _ :: _ => none
  | [] => none
theorem n2_ok {β : Type} {ds : List D} {k : D → Option β} {l : D → D → Option β} {x : β} (h : n2 ds k l = some x) : (∃ d, ds = [d] ∧ k d = some x) ∨ ∃ d e, ds = [d, e] ∧ l d e = some x := by
  cases ds with
  | nil => cases h
  | cons d r => cases r with
    | nil => exact .inl ⟨d, rfl, h⟩
    | cons e r => cases r with
      | nil => exact .inr ⟨d, e, rfl, h⟩
      | cons _ _ => cases h
noncomputable def isT : D → Option D
  | .tup _ => some (.bool true)
  | .int _ => some (.bool false)
  | _ => none
noncomputable def extR (f : Int → List Int → Int) : List Int → Option D
  | i :: is => some (.int (f i is))
  | [] => none
noncomputable def biR (b : Bi) (ds : List D) : Option D := match b with
  | .sum => n1 ds fun d => nL d fun xs => (ints? xs).bind fun is => gd (fitB is.length) (.int is.sum)
  | .len => n1 ds fun d => nLK d (fun xs => gd (fitB xs.length) (.int xs.length)) fun xs => gd (fitB xs.length) (.int xs.length)
  | .min => n2 ds (fun d => nL d fun xs => (ints? xs).bind (extR minL)) fun a b => nI a fun a => nI b fun b => some (.int (if b < a then b else a))
  | .max => n2 ds (fun d => nL d fun xs => (ints? xs).bind (extR maxL)) fun a b => nI a fun a => nI b fun b => some (.int (if b > a then b else a))
  | .abs => n1 ds fun d => nI d fun a => some (.int (if a < 0 then -a else a))
  | .isTuple => n1 ds isT
theorem extR_ok {f : Int → List Int → Int} {l : List Int} {d : D} (h : extR f l = some d) : ∃ i is, l = i :: is ∧ d = .int (f i is) := by
  cases l with
  | nil => cases h
  | cons i is => cases h; exact ⟨i, is, rfl, rfl⟩
theorem biR_ok {b : Bi} {ds : List D} {d : D} (h : biR b ds = some d) {Q : D → Prop} (k : Q d) : biW b ds Q := by
  cases b with
  | sum => obtain ⟨x, rfl, h⟩ := n1_ok h; obtain ⟨xs, rfl, h⟩ := nL_ok h; obtain ⟨is, e, h⟩ := obS h; obtain ⟨c, rfl⟩ := gdS h; exact ⟨is, e, fitS c, k⟩
  | len =>
    obtain ⟨x, rfl, h⟩ := n1_ok h
    rcases nLK_ok h with ⟨i, rfl, h⟩ | ⟨i, rfl, h⟩
    · obtain ⟨c, rfl⟩ := gdS h; exact ⟨fitS c, k⟩
    · obtain ⟨c, rfl⟩ := gdS h; exact ⟨fitS c, k⟩
  | min =>
    rcases n2_ok h with ⟨x, rfl, h⟩ | ⟨x, y, rfl, h⟩
    · obtain ⟨xs, rfl, h⟩ := nL_ok h; obtain ⟨l, e, h⟩ := obS h; obtain ⟨i, is, rfl, rfl⟩ := extR_ok h; exact ⟨i, is, e, k⟩
    · obtain ⟨i, rfl, h⟩ := nI_ok h; obtain ⟨j, rfl, h⟩ := nI_ok h; cases h; exact k
  | max =>
    rcases n2_ok h with ⟨x, rfl, h⟩ | ⟨x, y, rfl, h⟩
    · obtain ⟨xs, rfl, h⟩ := nL_ok h; obtain ⟨l, e, h⟩ := obS h; obtain ⟨i, is, rfl, rfl⟩ := extR_ok h; exact ⟨i, is, e, k⟩
    · obtain ⟨i, rfl, h⟩ := nI_ok h; obtain ⟨j, rfl, h⟩ := nI_ok h; cases h; exact k
  | abs => obtain ⟨x, rfl, h⟩ := n1_ok h; obtain ⟨i, rfl, h⟩ := nI_ok h; cases h; exact k
  | isTuple =>
    obtain ⟨x, rfl, h⟩ := n1_ok h
    cases x <;> first | (cases h; exact k) | cases h
noncomputable def truR : D → Option Bool
  | .bool b => some b
  | _ => none
theorem truR_ok {d : D} {b : Bool} (h : truR d = some b) {Q : Bool → Prop} (k : Q b) : truthW d Q := by
  cases d <;> first | cases h; exact k | cases h
noncomputable def intR : D → Option Int
  | .int i => some i
  | _ => none
theorem intR_ok {d : D} {i : Int} (h : intR d = some i) : d = .int i := by
  cases d <;> first | cases h; rfl | cases h
noncomputable def rngR (ds : List D) : Option (List D) := match ds with
  | a :: r => nI a fun a => match r with
    | [] => gd (decide (-1048576 ≤ a) && decide (a ≤ 1048576)) (rangeL 0 1 a.toNat)
    | b :: r => nI b fun b => match r with
      | [] => gd (decide (-1048576 ≤ a) && (decide (a ≤ 1048576) && (decide (-1048576 ≤ b) && decide (b ≤ 1048576)))) (rangeL a 1 (b - a).toNat)
      | c :: r => nI c fun c => match r with
        | [] => gd (decide (a = 0) && (decide (0 ≤ b) && (decide (b ≤ 1048576) && (decide (0 < c) && decide (c ≤ 1048576))))) (rangeL 0 c ((b + c - 1) / c).toNat)
        | _ :: _ => none
  | [] => none
theorem rngR_ok {ds xs : List D} (h : rngR ds = some xs) {Q : List D → Prop} (k : Q xs) : rangeW ds Q := by
  cases ds with
  | nil => cases h
  | cons a r =>
    obtain ⟨a, rfl, h⟩ := nI_ok h
    cases r with
    | nil => obtain ⟨c, rfl⟩ := gdS h; exact ⟨⟨decT (and2 c).1, decT (and2 c).2⟩, k⟩
    | cons b r =>
      obtain ⟨b, rfl, h⟩ := nI_ok h
      cases r with
      | nil => obtain ⟨c, rfl⟩ := gdS h; exact ⟨⟨decT (and2 c).1, decT (and2 (and2 c).2).1, decT (and2 (and2 (and2 c).2).2).1, decT (and2 (and2 (and2 c).2).2).2⟩, k⟩
      | cons e r =>
        obtain ⟨e, rfl, h⟩ := nI_ok h
        cases r with
        | nil => obtain ⟨c, rfl⟩ := gdS h; exact ⟨⟨decT (and2 c).1, decT (and2 (and2 c).2).1, decT (and2 (and2 (and2 c).2).2).1, decT (and2 (and2 (and2 (and2 c).2).2).2).1, decT (and2 (and2 (and2 (and2 c).2).2).2).2⟩, k⟩
        | cons _ _ => cases h
noncomputable def sAll : Rho → List Nat → List D → Rho
  | ρ, i :: is, d :: ds => sAll (setR ρ i (some (.sh d))) is ds
  | ρ, _, _ => ρ
theorem sAll_eq (ρ : Rho) (is : List Nat) (ds : List D) : ρ.setAll is ds = sAll ρ is ds := by
  induction is generalizing ρ ds with
  | nil => cases ds <;> rfl
  | cons i is ih => cases ds with
    | nil => rfl
    | cons d ds => rw [setAll_consR, ih]; rfl
noncomputable def kl : Rho → List Nat → Rho
  | ρ, [] => ρ
  | ρ, i :: is => kl (setR ρ i none) is
theorem kl_eq (ρ : Rho) (is : List Nat) : ρ.clr is = kl ρ is := by
  induction is generalizing ρ with
  | nil => rfl
  | cons i is ih => rw [clr_consR, ih]; rfl
noncomputable def asgR : Tgt → D → Rho → Option Rho
  | .nm i, d, ρ => some (setR ρ i (some (.sh d)))
  | .tp is, .tup ds, ρ => gd (Nat.beq is.length ds.length) (sAll ρ is ds)
  | _, _, _ => none
theorem asgR_ok {t : Tgt} {d : D} {ρ ρ' : Rho} (h : asgR t d ρ = some ρ') {Q : Rho → Prop} (k : Q ρ') : asgW t d ρ Q := by
  unfold asgR at h
  split at h
  · cases h; rw [asgW_nmR]; exact k
  · obtain ⟨c, rfl⟩ := gdS h; rw [asgW_tp, sAll_eq]; exact ⟨Nat.eq_of_beq_eq_true c, k⟩
  · cases h
noncomputable def pushR : D → D → Option D
  | .lst ds, d => gd (fitB (ds.length + 1)) (.lst (ds ++ [d]))
  | _, _ => none
theorem pushR_ok {a d x : D} (h : pushR a d = some x) {Q : D → Prop} (k : Q x) : pushW a d Q := by
  cases a <;> first | (obtain ⟨c, rfl⟩ := gdS h; exact ⟨fitS c, k⟩) | cases h
noncomputable def iopR (op : Bop) (a b : D) : Option D := match op with
  | .add => nI a fun a => nI b fun b => some (.int (a + b))
  | .sub => nI a fun a => nI b fun b => some (.int (a - b))
  | .fdiv => nI a fun a => nI b fun b => gd (!(b == 0) && decide (b.natAbs < 1073741824)) (.int (a.fdiv b))
  | _ => none
theorem iopR_ok {op : Bop} {a b d : D} (h : iopR op a b = some d) {Q : D → Prop} (k : Q d) : iopW op a b Q := by
  cases op with
  | add => obtain ⟨i, rfl, h⟩ := nI_ok h; obtain ⟨j, rfl, h⟩ := nI_ok h; cases h; exact k
  | sub => obtain ⟨i, rfl, h⟩ := nI_ok h; obtain ⟨j, rfl, h⟩ := nI_ok h; cases h; exact k
  | fdiv => obtain ⟨i, rfl, h⟩ := nI_ok h; obtain ⟨j, rfl, h⟩ := nI_ok h; obtain ⟨c, rfl⟩ := gdS h; exact ⟨⟨ne0 (and2 c).1, decT (and2 c).2⟩, k⟩
  | _ => cases h
noncomputable def stoR (l : LV) (k v : D) : Option LV := match l with
  | .ol ds => nI k fun i => gd (decide (0 ≤ i) && (decide (i < ds.length) && fitB ds.length)) (.ol (ds.set i.toNat v))
  | .od kvs => (k.key?).bind fun kk => gd (fitB kvs.length) (.od (kset kk v kvs))
  | _ => none
theorem stoR_ok {l x : LV} {a v : D} (h : stoR l a v = some x) {Q : LV → Prop} (k : Q x) : setW l a v Q := by
  cases l with
  | ol ds => obtain ⟨i, rfl, h⟩ := nI_ok h; obtain ⟨c, rfl⟩ := gdS h; exact ⟨⟨decT (and2 c).1, decT (and2 (and2 c).2).1⟩, fitS (and2 (and2 c).2).2, k⟩
  | od kvs => obtain ⟨kk, e, h⟩ := obS (o := a.key?) h; obtain ⟨c, rfl⟩ := gdS h; exact ⟨kk, e, fitS c, k⟩
  | _ => cases h
noncomputable def loopR (f : D → D → Option D) : List D → D → Option D
  | [], a => some a
  | d :: ds, a => (f d a).bind fun a' => loopR f ds a'
theorem loopR_ok {f : D → D → Option D} {g : D → D → (D → Prop) → Prop} (hf : ∀ d a x, f d a = some x → ∀ Q : D → Prop, Q x → g d a Q) : ∀ (ds : List D) (a x : D), loopR f ds a = some x → ∀ Q : D → Prop, Q x → loopW g ds a Q
  | [], a, x, h, Q, k => by cases h; exact k
  | d :: ds, a, x, h, Q, k => by
    obtain ⟨y, e, h⟩ := obS h
    exact hf d a y e _ (loopR_ok hf ds y x h Q k)
end Mine
end
section
open PySem PySem.Calls PyProof.Rows
namespace Mine
noncomputable abbrev Rns := Nat → List D → Option D
noncomputable def capR (ρ : Rho) : List (Option Nat) → Rho
  | [] => []
  | none :: r => none :: capR ρ r
  | some j :: r => atR ρ j :: capR ρ r
theorem capR_eq (ρ : Rho) (cap : List (Option Nat)) : capture ρ cap = capR ρ cap := by
  unfold capture
  rw [at_R]
  induction cap with
  | nil => rfl
  | cons a r ih => cases a <;> exact congrArg (_ :: ·) ih
noncomputable def shR : Option LV → Option D
  | some (.sh d) => some d
  | _ => none
theorem shR_ok {o : Option LV} {d : D} (h : shR o = some d) : o = some (.sh d) := by
  cases o with
  | none => cases h
  | some l => cases l <;> first | cases h; rfl | cases h
mutual
noncomputable def rE (X : Rns) : E → Rho → Option D
  | .int i, _ => some (.int i)
  | .str s, _ => some (.str s)
  | .bool b, _ => some (.bool b)
  | .none, _ => some .none
  | .var i, ρ => shR (atR ρ i)
  | .lst es, ρ => (rEs X es ρ).bind fun ds => gd (fitB ds.length) (.lst ds)
  | .dct kvs, ρ => (rKV X kvs ρ []).bind fun kvs => some (.dct kvs)
  | .bin op l r, ρ => (rE X l ρ).bind fun a => (rE X r ρ).bind fun b => binR op a b
  | .cmp op l r, ρ => (rE X l ρ).bind fun a => (rE X r ρ).bind fun b => (cmpR op a b).bind fun c => some (.bool c)
  | .neg e, ρ => (rE X e ρ).bind fun a => (intR a).bind fun i => some (.int (-i))
  | .bop and es, ρ => rB X and es ρ
  | .sub o i, ρ => (rE X o ρ).bind fun a => (rE X i ρ).bind fun b => subR a b
  | .osub x i, ρ => match atR ρ x with
    | some (.ol ds) => (rE X i ρ).bind fun b => subR (.lst ds) b
    | some (.od ds) => (rE X i ρ).bind fun b => subR (.dct ds) b
    | _ => none
  | .olen x, ρ => match atR ρ x with
    | some (.ol ds) => gd (fitB ds.length) (.int ds.length)
    | _ => none
  | .bi b es, ρ => (rEs X es ρ).bind fun ds => biR b ds
  | .lcomp elt t it ifs gs cap _, ρ => (rI X it ρ).bind fun ds =>
      loopR (fun d acc => (asgR t d (capR ρ cap)).bind fun ρ' => (rIfs X ifs ρ').bind fun b => match b with
        | true => rGs X gs ρ' (fun ρ'' acc => (rE X elt ρ'').bind fun d => pushR acc d) acc
        | false => some acc) ds (.lst [])
  | .strexc x, ρ => match atR ρ x with
    | some (.exc m) => some (.str m)
    | _ => none
  | _, _ => none
noncomputable def rEs (X : Rns) : List E → Rho → Option (List D)
  | [], _ => some []
  | e :: es, ρ => (rE X e ρ).bind fun d => (rEs X es ρ).bind fun ds => some (d :: ds)
noncomputable def rKV (X : Rns) : List KV → Rho → List (K × D) → Option (List (K × D))
  | .mk k v :: r, ρ, acc => (rE X k ρ).bind fun dk => (rE X v ρ).bind fun dv => (dk.key?).bind fun kk => rKV X r ρ (kset kk dv acc)
  | [], _, acc => some acc
noncomputable def rB (X : Rns) (and : Bool) : List E → Rho → Option D
  | [], _ => none
  | [e], ρ => rE X e ρ
  | e :: es, ρ => (rE X e ρ).bind fun a => (truR a).bind fun b => match and, b with
    | true, false => some a
    | false, true => some a
    | _, _ => rB X and es ρ
noncomputable def rC (X : Rns) : E → Rho → Option Bool
  | .bop and es, ρ => rA X and es ρ
  | .cmp op l r, ρ => (rE X l ρ).bind fun a => (rE X r ρ).bind fun b => cmpR op a b
  | .oin neg e x, ρ => (rE X e ρ).bind fun a => match atR ρ x with
    | some (.ol ds) => cmpR (if neg then .notin else .isin) a (.lst ds)
    | some (.od ds) => cmpR (if neg then .notin else .isin) a (.dct ds)
    | _ => none
  | .var i, ρ => (shR (atR ρ i)).bind truR
  | _, _ => none
noncomputable def rA (X : Rns) (and : Bool) : List E → Rho → Option Bool
  | [], _ => some and
  | e :: es, ρ => (rC X e ρ).bind fun b => match and, b with
    | true, false => some false
    | false, true => some true
    | _, _ => rA X and es ρ
noncomputable def rI (X : Rns) : I → Rho → Option (List D)
  | .ex e, ρ => (rE X e ρ).bind seqOf
  | .range es, ρ => (rEs X es ρ).bind rngR
  | _, _ => none
noncomputable def rIfs (X : Rns) : List E → Rho → Option Bool
  | [], _ => some true
  | e :: es, ρ => (rC X e ρ).bind fun b => match b with
    | true => rIfs X es ρ
    | false => some false
noncomputable def rGs (X : Rns) : List G → Rho → (Rho → D → Option D) → D → Option D
  | [], ρ, emit, acc => emit ρ acc
  | .mk t it ifs :: gs, ρ, emit, acc => (rI X it ρ).bind fun ds =>
      loopR (fun d acc => (asgR t d ρ).bind fun ρ' => (rIfs X ifs ρ').bind fun b => match b with
        | true => rGs X gs ρ' emit acc
        | false => some acc) ds acc
end
section
variable {X : Rns} {Y : Fns}
mutual
theorem rE_ok (hX : ∀ f ds d, X f ds = some d → ∀ Q : D → Prop, Q d → Y f ds Q) : ∀ (e : E) (ρ : Rho) (d : D), rE X e ρ = some d → ∀ Q : D → Prop, Q d → evE Y e ρ Q
  | .int i, ρ, d, h, Q, k => by cases h; exact k
  | .str s, ρ, d, h, Q, k => by cases h; exact k
  | .bool b, ρ, d, h, Q, k => by cases h; exact k
  | .none, ρ, d, h, Q, k => by cases h; exact k
  | .var i, ρ, d, h, Q, k => by
    rw [evE_varR, shR_ok h]; exact k
  | .tup _, _, _, h, _, _ => by cases h
  | .lst es, ρ, d, h, Q, k => by
    obtain ⟨ds, hs, h⟩ := obS (o := rEs X es ρ) h
    obtain ⟨c, rfl⟩ := gdS h
    rw [evE_lst]; exact rEs_ok hX es ρ ds hs _ ⟨fitS c, k⟩
  | .dct kvs, ρ, d, h, Q, k => by
    obtain ⟨ds, hs, h⟩ := obS (o := rKV X kvs ρ []) h
    cases h
    rw [evE_dct]; exact rKV_ok hX kvs ρ [] ds hs _ k
  | .bin op l r, ρ, d, h, Q, k => by
    obtain ⟨a, ha, h⟩ := obS (o := rE X l ρ) h
    obtain ⟨b, hb, h⟩ := obS (o := rE X r ρ) h
    rw [evE_bin]; exact rE_ok hX l ρ a ha _ (rE_ok hX r ρ b hb _ (binR_ok h k))
  | .cmp op l r, ρ, d, h, Q, k => by
    obtain ⟨a, ha, h⟩ := obS (o := rE X l ρ) h
    obtain ⟨b, hb, h⟩ := obS (o := rE X r ρ) h
    obtain ⟨c, hc, h⟩ := obS h
    cases h
    rw [evE_cmp]; exact rE_ok hX l ρ a ha _ (rE_ok hX r ρ b hb _ (cmpR_ok hc k))
  | .neg e, ρ, d, h, Q, k => by
    obtain ⟨a, ha, h⟩ := obS (o := rE X e ρ) h
    obtain ⟨i, hi, h⟩ := obS h
    cases h
    rw [evE_neg]; refine rE_ok hX e ρ a ha _ ?_
    rw [intR_ok hi]; exact k
  | .bop and es, ρ, d, h, Q, k => by
    rw [evE_bop]; exact rB_ok hX and es ρ d h Q k
  | .sub o i, ρ, d, h, Q, k => by
    obtain ⟨a, ha, h⟩ := obS (o := rE X o ρ) h
    obtain ⟨b, hb, h⟩ := obS (o := rE X i ρ) h
    rw [evE_sub]; exact rE_ok hX o ρ a ha _ (rE_ok hX i ρ b hb _ (subR_ok h k))
  | .slice _ _ _, _, _, h, _, _ => by cases h
  | .osub x i, ρ, d, h, Q, k => by
    rw [evE_osubR]
    change (match atR ρ x with
      | some (.ol ds) => (rE X i ρ).bind fun b => subR (.lst ds) b
      | some (.od ds) => (rE X i ρ).bind fun b => subR (.dct ds) b
      | _ => none) = some d at h
    generalize atR ρ x = o at h ⊢
    split at h
    · obtain ⟨b, hb, h⟩ := obS h
      exact rE_ok hX i ρ b hb _ (subR_ok h k)
    · obtain ⟨b, hb, h⟩ := obS h
      exact rE_ok hX i ρ b hb _ (subR_ok h k)
    · cases h
  | .olen x, ρ, d, h, Q, k => by
    rw [evE_olenR]
    change (match atR ρ x with
      | some (.ol ds) => gd (fitB ds.length) (.int ds.length)
      | _ => none) = some d at h
    generalize atR ρ x = o at h ⊢
    split at h
    · obtain ⟨c, rfl⟩ := gdS h
      exact ⟨fitS c, k⟩
    · cases h
  | .oin _ _ _, _, _, h, _, _ => by cases h
  | .call _ _, _, _, h, _, _ => by cases h
  | .bi b es, ρ, d, h, Q, k => by
    obtain ⟨ds, hs, h⟩ := obS (o := rEs X es ρ) h
    rw [evE_bi]; exact rEs_ok hX es ρ ds hs _ (biR_ok h k)
  | .lcomp elt t it ifs gs cap nt, ρ, d, h, Q, k => by
    obtain ⟨ds, hs, h⟩ := obS (o := rI X it ρ) h
    rw [evE_lcomp]; refine rI_ok hX it ρ ds hs _ (loopR_ok (fun d a x hx Q k => ?_) ds _ d h Q k)
    obtain ⟨ρ', h1, hx⟩ := obS hx
    rw [capR_eq]
    refine asgR_ok h1 ?_
    obtain ⟨b, h2, hx⟩ := obS hx
    refine rIfs_ok hX ifs ρ' b h2 _ ?_
    cases b with
    | false => cases hx; exact k
    | true =>
      exact rGs_ok hX gs ρ' _ _ a x (fun ρ'' a x he Q k => by
        obtain ⟨y, h3, he⟩ := obS he
        exact rE_ok hX elt ρ'' y h3 _ (pushR_ok he k)) hx Q k
  | .dcomp _ _ _ _ _ _ _ _, _, _, h, _, _ => by cases h
  | .strexc x, ρ, d, h, Q, k => by
    rw [evE_strexcR]
    change (match atR ρ x with
      | some (.exc m) => some (.str m)
      | _ => none) = some d at h
    generalize atR ρ x = o at h ⊢
    split at h
    · cases h; exact k
    · cases h
  | .ite _ _ _, _, _, h, _, _ => by cases h
  | .callo _ _ _ _, _, _, h, _, _ => by cases h
theorem rEs_ok (hX : ∀ f ds d, X f ds = some d → ∀ Q : D → Prop, Q d → Y f ds Q) : ∀ (es : List E) (ρ : Rho) (ds : List D), rEs X es ρ = some ds → ∀ Q : List D → Prop, Q ds → evEs Y es ρ Q
  | [], ρ, d, h, Q, k => by cases h; exact k
  | e :: es, ρ, d, h, Q, k => by
    obtain ⟨a, ha, h⟩ := obS (o := rE X e ρ) h
    obtain ⟨b, hb, h⟩ := obS (o := rEs X es ρ) h
    cases h
    rw [evEs_cons]; exact rE_ok hX e ρ a ha _ (rEs_ok hX es ρ b hb _ k)
theorem rKV_ok (hX : ∀ f ds d, X f ds = some d → ∀ Q : D → Prop, Q d → Y f ds Q) : ∀ (kvs : List KV) (ρ : Rho) (acc ds : List (K × D)), rKV X kvs ρ acc = some ds → ∀ Q : List (K × D) → Prop, Q ds → evKV Y kvs ρ acc Q
  | [], ρ, acc, d, h, Q, k => by cases h; exact k
  | .mk ke v :: r, ρ, acc, d, h, Q, k => by
    obtain ⟨a, ha, h⟩ := obS (o := rE X ke ρ) h
    obtain ⟨b, hb, h⟩ := obS (o := rE X v ρ) h
    obtain ⟨c, hc, h⟩ := obS h
    rw [evKV_mk]; exact rE_ok hX ke ρ a ha _ (rE_ok hX v ρ b hb _ ⟨c, hc, rKV_ok hX r ρ _ d h Q k⟩)
theorem rB_ok (hX : ∀ f ds d, X f ds = some d → ∀ Q : D → Prop, Q d → Y f ds Q) (and : Bool) : ∀ (es : List E) (ρ : Rho) (d : D), rB X and es ρ = some d → ∀ Q : D → Prop, Q d → evB Y and es ρ Q
  | [], ρ, d, h, Q, k => by cases h
  | [e], ρ, d, h, Q, k => by rw [evB_one]; exact rE_ok hX e ρ d h Q k
  | e :: e₂ :: es, ρ, d, h, Q, k => by
    obtain ⟨a, ha, h⟩ := obS (o := rE X e ρ) h
    obtain ⟨b, hb, h⟩ := obS h
    rw [evB_cons]; refine rE_ok hX e ρ a ha _ (truR_ok hb ?_)
    have IH := rB_ok hX and (e₂ :: es) ρ d
    cases and <;> cases b <;> first | exact IH h Q k | (cases h; exact k)
theorem rC_ok (hX : ∀ f ds d, X f ds = some d → ∀ Q : D → Prop, Q d → Y f ds Q) : ∀ (e : E) (ρ : Rho) (d : Bool), rC X e ρ = some d → ∀ Q : Bool → Prop, Q d → evC Y e ρ Q
  | .bop and es, ρ, d, h, Q, k => by rw [evC_bop]; exact rA_ok hX and es ρ d h Q k
  | .cmp op l r, ρ, d, h, Q, k => by
    obtain ⟨a, ha, h⟩ := obS (o := rE X l ρ) h
    obtain ⟨b, hb, h⟩ := obS (o := rE X r ρ) h
    rw [evC_cmp]; exact rE_ok hX l ρ a ha _ (rE_ok hX r ρ b hb _ (cmpR_ok h k))
  | .oin neg e x, ρ, d, h, Q, k => by
    rw [evC_oinR]
    obtain ⟨a, ha, h⟩ := obS (o := rE X e ρ) h
    refine rE_ok hX e ρ a ha _ ?_
    change (match atR ρ x with
      | some (.ol ds) => cmpR (if neg then .notin else .isin) a (.lst ds)
      | some (.od ds) => cmpR (if neg then .notin else .isin) a (.dct ds)
      | _ => none) = some d at h
    generalize atR ρ x = o at h ⊢
    split at h
    · exact cmpR_ok h k
    · exact cmpR_ok h k
    · cases h
  | .var i, ρ, d, h, Q, k => by
    obtain ⟨a, ha, h⟩ := obS (o := shR (atR ρ i)) h
    rw [evC_varR, shR_ok ha]; exact truR_ok h k
  | .sub _ _, _, _, h, _, _ => by cases h
  | .call _ _, _, _, h, _, _ => by cases h
  | .bi _ _, _, _, h, _, _ => by cases h
  | .int _, _, _, h, _, _ => by cases h
  | .str _, _, _, h, _, _ => by cases h
  | .bool _, _, _, h, _, _ => by cases h
  | .none, _, _, h, _, _ => by cases h
  | .tup _, _, _, h, _, _ => by cases h
  | .lst _, _, _, h, _, _ => by cases h
  | .dct _, _, _, h, _, _ => by cases h
  | .bin _ _ _, _, _, h, _, _ => by cases h
  | .neg _, _, _, h, _, _ => by cases h
  | .ite _ _ _, _, _, h, _, _ => by cases h
  | .slice _ _ _, _, _, h, _, _ => by cases h
  | .osub _ _, _, _, h, _, _ => by cases h
  | .olen _, _, _, h, _, _ => by cases h
  | .callo _ _ _ _, _, _, h, _, _ => by cases h
  | .lcomp _ _ _ _ _ _ _, _, _, h, _, _ => by cases h
  | .dcomp _ _ _ _ _ _ _ _, _, _, h, _, _ => by cases h
  | .strexc _, _, _, h, _, _ => by cases h
theorem rA_ok (hX : ∀ f ds d, X f ds = some d → ∀ Q : D → Prop, Q d → Y f ds Q) (and : Bool) : ∀ (es : List E) (ρ : Rho) (d : Bool), rA X and es ρ = some d → ∀ Q : Bool → Prop, Q d → evA Y and es ρ Q
  | [], ρ, d, h, Q, k => by cases h; exact k
  | e :: es, ρ, d, h, Q, k => by
    obtain ⟨b, hb, h⟩ := obS (o := rC X e ρ) h
    rw [evA_cons]; refine rC_ok hX e ρ b hb _ ?_
    have IH := rA_ok hX and es ρ d
    cases and <;> cases b <;> first | exact IH h Q k | (cases h; exact k)
theorem rI_ok (hX : ∀ f ds d, X f ds = some d → ∀ Q : D → Prop, Q d → Y f ds Q) : ∀ (it : I) (ρ : Rho) (ds : List D), rI X it ρ = some ds → ∀ Q : List D → Prop, Q ds → evI Y it ρ Q
  | .ex e, ρ, d, h, Q, k => by
    obtain ⟨a, ha, h⟩ := obS (o := rE X e ρ) h
    rw [evI_ex]; exact rE_ok hX e ρ a ha _ ⟨d, h, k⟩
  | .range es, ρ, d, h, Q, k => by
    obtain ⟨ds, hs, h⟩ := obS (o := rEs X es ρ) h
    rw [evI_range]; exact rEs_ok hX es ρ ds hs _ (rngR_ok h k)
  | .enum _, _, _, h, _, _ => by cases h
  | .zip _, _, _, h, _, _ => by cases h
  | .items _, _, _, h, _, _ => by cases h
  | .values _, _, _, h, _, _ => by cases h
theorem rIfs_ok (hX : ∀ f ds d, X f ds = some d → ∀ Q : D → Prop, Q d → Y f ds Q) : ∀ (es : List E) (ρ : Rho) (d : Bool), rIfs X es ρ = some d → ∀ Q : Bool → Prop, Q d → evIfs Y es ρ Q
  | [], ρ, d, h, Q, k => by cases h; exact k
  | e :: es, ρ, d, h, Q, k => by
    obtain ⟨b, hb, h⟩ := obS (o := rC X e ρ) h
    rw [evIfs_cons]; refine rC_ok hX e ρ b hb _ ?_
    have IH := rIfs_ok hX es ρ d
    cases b with
    | true => exact IH h Q k
    | false => cases h; exact k
theorem rGs_ok (hX : ∀ f ds d, X f ds = some d → ∀ Q : D → Prop, Q d → Y f ds Q) : ∀ (gs : List G) (ρ : Rho) (em : Rho → D → Option D) (ew : Rho → D → (D → Prop) → Prop) (acc d : D), (∀ ρ a x, em ρ a = some x → ∀ Q : D → Prop, Q x → ew ρ a Q) → rGs X gs ρ em acc = some d → ∀ Q : D → Prop, Q d → evGs Y gs ρ ew acc Q
  | [], ρ, em, ew, acc, d, he, h, Q, k => he ρ acc d h Q k
  | .mk t it ifs :: gs, ρ, em, ew, acc, d, he, h, Q, k => by
    obtain ⟨ds, hs, h⟩ := obS (o := rI X it ρ) h
    rw [evGs_mk]; refine rI_ok hX it ρ ds hs _ (loopR_ok (fun d a x hx Q k => ?_) ds _ d h Q k)
    obtain ⟨ρ', h1, hx⟩ := obS hx
    refine asgR_ok h1 ?_
    obtain ⟨b, h2, hx⟩ := obS hx
    refine rIfs_ok hX ifs ρ' b h2 _ ?_
    have IH := rGs_ok hX gs ρ' em ew a x he
    cases b with
    | false => cases hx; exact k
    | true => exact IH hx Q k
end
end
end Mine
end
section
open PySem PySem.Calls PyProof.Rows
namespace Mine
noncomputable abbrev Rs := Option (Rho × Fl)
noncomputable def forR (t : Tgt) (kill : List Nat) (body : Rho → Rs) : List D → Rho → Rs
  | [], ρ => some (kl ρ kill, .next)
  | d :: ds, ρ => (asgR t d ρ).bind fun ρ' => (body ρ').bind fun p => match p.2 with
    | .next => forR t kill body ds (kl p.1 kill)
    | .brk => some (kl p.1 kill, .next)
    | .ret d => some (kl p.1 kill, .ret d)
noncomputable def whileR (c : Rho → Option Bool) (kill : List Nat) (body : Rho → Rs) : Nat → Rho → Rs
  | 0, _ => none
  | n + 1, ρ => (c ρ).bind fun b => match b with
    | false => some (ρ, .next)
    | true => (body ρ).bind fun p => match p.2 with
      | .next => whileR c kill body n (kl p.1 kill)
      | .brk => some (kl p.1 kill, .next)
      | .ret d => some (kl p.1 kill, .ret d)
noncomputable def genR (t : Nat) (kill : List Nat) (body : Rho → Rs) : Nat → GS → Rho → Rs
  | 0, _, _ => none
  | n + 1, st, ρ => match st.pull with
    | none => some (kl ρ kill, .next)
    | some (x, st') => (body (setR ρ t (some (.sh (.int x))))).bind fun p => match p.2 with
      | .next => genR t kill body n st' (kl p.1 kill)
      | .brk => some (kl p.1 kill, .next)
      | .ret d => some (kl p.1 kill, .ret d)
theorem forR_ok {t : Tgt} {kill : List Nat} {f : Rho → Rs} {g : Rho → (Rho → Fl → Prop) → Prop} (hf : ∀ ρ p, f ρ = some p → ∀ Q : Rho → Fl → Prop, Q p.1 p.2 → g ρ Q) : ∀ (ds : List D) (ρ : Rho) (p : Rho × Fl), forR t kill f ds ρ = some p → ∀ Q : Rho → Fl → Prop, Q p.1 p.2 → forW t kill g ds ρ Q
  | [], ρ, p, h, Q, k => by cases h; rw [forW_nil, kl_eq]; exact k
  | d :: ds, ρ, p, h, Q, k => by
    obtain ⟨ρ', h1, h⟩ := obS h
    obtain ⟨⟨ρ₂, fl⟩, h2, h⟩ := obS h
    have IH := forR_ok (t := t) (kill := kill) hf ds (kl ρ₂ kill) p
    rw [forW_cons]; refine asgR_ok h1 (hf ρ' _ h2 _ ?_)
    cases fl with
    | next => dsimp only; rw [kl_eq]; exact IH h Q k
    | brk => cases h; dsimp only; rw [kl_eq]; exact k
    | ret d => cases h; dsimp only; rw [kl_eq]; exact k
theorem whileR_ok {c : Rho → Option Bool} {c' : Rho → (Bool → Prop) → Prop} {kill : List Nat} {f : Rho → Rs} {g : Rho → (Rho → Fl → Prop) → Prop} (hc : ∀ ρ b, c ρ = some b → ∀ Q : Bool → Prop, Q b → c' ρ Q) (hf : ∀ ρ p, f ρ = some p → ∀ Q : Rho → Fl → Prop, Q p.1 p.2 → g ρ Q) :
    ∀ (n : Nat) (ρ : Rho) (p : Rho × Fl), whileR c kill f n ρ = some p → ∀ Q : Rho → Fl → Prop, Q p.1 p.2 → whileW c' kill g n ρ Q
  | 0, ρ, p, h, Q, k => by cases h
  | n + 1, ρ, p, h, Q, k => by
    obtain ⟨b, h1, h⟩ := obS h
    refine hc ρ b h1 _ ?_
    cases b with
    | false => cases h; exact k
    | true =>
      obtain ⟨⟨ρ₂, fl⟩, h2, h⟩ := obS h
      have IH := whileR_ok (kill := kill) hc hf n (kl ρ₂ kill) p
      refine hf ρ _ h2 _ ?_
      cases fl with
      | next => dsimp only; rw [kl_eq]; exact IH h Q k
      | brk => cases h; dsimp only; rw [kl_eq]; exact k
      | ret d => cases h; dsimp only; rw [kl_eq]; exact k
theorem genR_ok {t : Nat} {kill : List Nat} {f : Rho → Rs} {g : Rho → (Rho → Fl → Prop) → Prop} (hf : ∀ ρ p, f ρ = some p → ∀ Q : Rho → Fl → Prop, Q p.1 p.2 → g ρ Q) :
    ∀ (n : Nat) (st : GS) (ρ : Rho) (p : Rho × Fl), genR t kill f n st ρ = some p → ∀ Q : Rho → Fl → Prop, Q p.1 p.2 → genW t kill g n st ρ Q
  | 0, st, ρ, p, h, Q, k => by cases h
  | n + 1, st, ρ, p, h, Q, k => by
    unfold genW
    unfold genR at h
    cases hp : st.pull with
    | none => rw [hp] at h; cases h; dsimp only; rw [kl_eq]; exact k
    | some y =>
      obtain ⟨x, st'⟩ := y
      rw [hp] at h
      obtain ⟨⟨ρ₂, fl⟩, h2, h⟩ := obS h
      have IH := genR_ok (t := t) (kill := kill) hf n st' (kl ρ₂ kill) p
      dsimp only
      rw [set_R]
      refine hf _ _ h2 _ ?_
      cases fl with
      | next => dsimp only; rw [kl_eq]; exact IH h Q k
      | brk => cases h; dsimp only; rw [kl_eq]; exact k
      | ret d => cases h; dsimp only; rw [kl_eq]; exact k
mutual
noncomputable def rS (X : Rns) : S → Rho → Rs
  | .assign i e, ρ => (rE X e ρ).bind fun d => some (setR ρ i (some (.sh d)), .next)
  | .assignO i e, ρ => (rE X e ρ).bind fun d => (toLV d).bind fun lv => gd (Nat.ble (i + 1) ρ.length) (setR ρ i (some lv), .next)
  | .setitem x k v, ρ => (atR ρ x).bind fun lv => (rE X v ρ).bind fun dv => (rE X k ρ).bind fun dk => (stoR lv dk dv).bind fun lv' => some (setR ρ x (some lv'), .next)
  | .aug i op e, ρ => (shR (atR ρ i)).bind fun a => (rE X e ρ).bind fun b => (iopR op a b).bind fun d => some (setR ρ i (some (.sh d)), .next)
  | .append x e, ρ => match atR ρ x with
    | some (.ol ds) => (rE X e ρ).bind fun d => gd (fitB (ds.length + 1)) (setR ρ x (some (.ol (ds ++ [d]))), .next)
    | _ => none
  | .ife c a b, ρ => (rC X c ρ).bind fun t => match t with
    | true => rSs X a ρ
    | false => rSs X b ρ
  | .fore t it body kill, ρ => (rI X it ρ).bind fun ds => forR t kill (rSs X body) ds ρ
  | .forgen t e body kill, ρ => (rE X e ρ).bind fun d => match d with
    | .lst ds => (ints? ds).bind fun is => match rowBad is with
      | false => genR t kill (rSs X body) 64 (.go none is) ρ
      | true => none
    | _ => none
  | .trygen t e body kill x hand, ρ => (rE X e ρ).bind fun d => match d with
    | .lst ds => (ints? ds).bind fun is => match rowBad is with
      | false => genR t kill (rSs X body) 64 (.go none is) ρ
      | true => (gd (Nat.ble (x + 1) ρ.length) ()).bind fun _ => (rSs X hand (setR ρ x (some (.exc "invalid grouping")))).bind fun p => some (setR p.1 x none, p.2)
    | _ => none
  | .while c body kill, ρ => whileR (rC X c) kill (rSs X body) 512 ρ
  | .ret e, ρ => (rE X e ρ).bind fun d => some (ρ, .ret d)
  | .brk, ρ => some (ρ, .brk)
  | .freeze i, ρ => (atR ρ i).bind fun lv => (lv.froz).bind fun d => some (setR ρ i (some (.sh d)), .next)
  | _, _ => none
noncomputable def rSs (X : Rns) : List S → Rho → Rs
  | [], ρ => some (ρ, .next)
  | st :: r, ρ => (rS X st ρ).bind fun p => match p.2 with
    | .next => rSs X r p.1
    | .brk => some (p.1, .brk)
    | .ret d => some (p.1, .ret d)
end
section
variable {X : Rns} {Y : Fns}
theorem lstM {d : D} {f : List D → Rs} {p : Rho × Fl} (h : (match d with | .lst ds => f ds | _ => none) = some p) : ∃ ds, d = .lst ds ∧ f ds = some p := by
  cases d <;> first | exact ⟨_, rfl, h⟩ | cases h
mutual
theorem rS_ok (hX : ∀ f ds d, X f ds = some d → ∀ Q : D → Prop, Q d → Y f ds Q) : ∀ (st : S) (ρ : Rho) (p : Rho × Fl), rS X st ρ = some p → ∀ Q : Rho → Fl → Prop, Q p.1 p.2 → exS Y st ρ Q
  | .assign i e, ρ, p, h, Q, k => by
    obtain ⟨d, h1, h⟩ := obS (o := rE X e ρ) h
    cases h
    rw [exS_assignR]; exact rE_ok hX e ρ d h1 _ k
  | .assignO i e, ρ, p, h, Q, k => by
    obtain ⟨d, h1, h⟩ := obS (o := rE X e ρ) h
    obtain ⟨lv, h2, h⟩ := obS h
    obtain ⟨c, rfl⟩ := gdS h
    rw [exS_assignOR]; exact rE_ok hX e ρ d h1 _ ⟨lv, h2, Nat.le_of_ble_eq_true c, k⟩
  | .unpack _ _, _, _, h, _, _ => by cases h
  | .setitem x ke v, ρ, p, h, Q, k => by
    obtain ⟨lv, h0, h⟩ := obS (o := atR ρ x) h
    obtain ⟨dv, h1, h⟩ := obS (o := rE X v ρ) h
    obtain ⟨dk, h2, h⟩ := obS (o := rE X ke ρ) h
    obtain ⟨lv', h3, h⟩ := obS h
    cases h
    rw [exS_setitemR, h0]; exact rE_ok hX v ρ dv h1 _ (rE_ok hX ke ρ dk h2 _ (stoR_ok h3 k))
  | .aug i op e, ρ, p, h, Q, k => by
    obtain ⟨a, h0, h⟩ := obS (o := shR (atR ρ i)) h
    obtain ⟨b, h1, h⟩ := obS (o := rE X e ρ) h
    obtain ⟨d, h2, h⟩ := obS h
    cases h
    rw [exS_augR, shR_ok h0]; exact rE_ok hX e ρ b h1 _ (iopR_ok h2 k)
  | .augitem _ _ _ _, _, _, h, _, _ => by cases h
  | .append x e, ρ, p, h, Q, k => by
    rw [exS_appendR]
    change (match atR ρ x with
      | some (.ol ds) => (rE X e ρ).bind fun d => gd (fitB (ds.length + 1)) (setR ρ x (some (.ol (ds ++ [d]))), Fl.next)
      | _ => none) = some p at h
    generalize atR ρ x = o at h ⊢
    split at h
    · obtain ⟨d, h1, h⟩ := obS h
      obtain ⟨c, rfl⟩ := gdS h
      exact rE_ok hX e ρ d h1 _ ⟨fitS c, k⟩
    · cases h
  | .ife c a b, ρ, p, h, Q, k => by
    obtain ⟨t, h1, h⟩ := obS (o := rC X c ρ) h
    have I1 := rSs_ok hX a ρ p
    have I2 := rSs_ok hX b ρ p
    rw [exS_ife]; refine rC_ok hX c ρ t h1 _ ?_
    cases t with
    | true => exact I1 h Q k
    | false => exact I2 h Q k
  | .fore t it body kill, ρ, p, h, Q, k => by
    obtain ⟨ds, h1, h⟩ := obS (o := rI X it ρ) h
    have I1 := rSs_ok hX body
    rw [exS_fore]; exact rI_ok hX it ρ ds h1 _ (forR_ok I1 ds ρ p h Q k)
  | .forgen t e body kill, ρ, p, h, Q, k => by
    obtain ⟨d, h1, h⟩ := obS (o := rE X e ρ) h
    have I1 := rSs_ok hX body
    rw [exS_forgen]; refine rE_ok hX e ρ d h1 _ ?_
    obtain ⟨ds, rfl, h⟩ := lstM h
    obtain ⟨is, h2, h⟩ := obS h
    refine ⟨is, h2, ?_⟩
    cases hb : rowBad is with
    | true => rw [hb] at h; cases h
    | false => rw [hb] at h; exact ⟨64, genR_ok I1 64 _ ρ p h Q k⟩
  | .trygen t e body kill x hand, ρ, p, h, Q, k => by
    obtain ⟨d, h1, h⟩ := obS (o := rE X e ρ) h
    have I1 := rSs_ok hX body
    have I2 := rSs_ok hX hand
    rw [exS_trygenR]; refine rE_ok hX e ρ d h1 _ ?_
    obtain ⟨ds, rfl, h⟩ := lstM h
    obtain ⟨is, h2, h⟩ := obS h
    refine ⟨is, h2, ?_⟩
    cases hb : rowBad is with
    | true =>
      rw [hb] at h
      obtain ⟨_, h3, h⟩ := obS h
      obtain ⟨c, _⟩ := gdS h3
      obtain ⟨p', h4, h⟩ := obS h
      cases h
      exact ⟨Nat.le_of_ble_eq_true c, I2 _ p' h4 _ k⟩
    | false => rw [hb] at h; exact ⟨64, genR_ok I1 64 _ ρ p h Q k⟩
  | .while c body kill, ρ, p, h, Q, k => by
    have I1 := rSs_ok hX body
    rw [exS_while]; exact ⟨512, whileR_ok (rC_ok hX c) I1 512 ρ p h Q k⟩
  | .ret e, ρ, p, h, Q, k => by
    obtain ⟨d, h1, h⟩ := obS (o := rE X e ρ) h
    cases h
    rw [exS_ret]; exact rE_ok hX e ρ d h1 _ k
  | .brk, ρ, p, h, Q, k => by cases h; exact k
  | .freeze i, ρ, p, h, Q, k => by
    obtain ⟨lv, h0, h⟩ := obS (o := atR ρ i) h
    obtain ⟨d, h1, h⟩ := obS h
    cases h
    rw [exS_freezeR, h0]; exact ⟨d, h1, k⟩
  | .dead, _, _, h, _, _ => by cases h
  | .zif _ _ _ _ _, _, _, h, _, _ => by cases h
theorem rSs_ok (hX : ∀ f ds d, X f ds = some d → ∀ Q : D → Prop, Q d → Y f ds Q) : ∀ (ss : List S) (ρ : Rho) (p : Rho × Fl), rSs X ss ρ = some p → ∀ Q : Rho → Fl → Prop, Q p.1 p.2 → exSs Y ss ρ Q
  | [], ρ, p, h, Q, k => by cases h; exact k
  | st :: r, ρ, p, h, Q, k => by
    obtain ⟨⟨ρ₂, fl⟩, h1, h⟩ := obS (o := rS X st ρ) h
    have I1 := rSs_ok hX r ρ₂ p
    rw [exSs_cons]; refine rS_ok hX st ρ _ h1 _ ?_
    cases fl with
    | next => exact I1 h Q k
    | brk => cases h; exact k
    | ret d => cases h; exact k
end
end
noncomputable def rN (fs : List Fn) : Nat → Rns
  | 0 => fun _ _ => none
  | k + 1 => fun f ds => (fs[f]?).bind fun g => (gd (Nat.beq ds.length g.n) ()).bind fun _ => (rSs (rN fs k) g.body (rho0 (g.tbl.length - g.n) ds)).bind fun p => match p.2 with
    | .ret d => some d
    | .next => some .none
    | .brk => none
theorem rN_ok (fs : List Fn) : ∀ (k f : Nat) (ds : List D) (d : D), rN fs k f ds = some d → ∀ Q : D → Prop, Q d → XN fs k f ds Q
  | 0, f, ds, d, h, Q, k => by cases h
  | n + 1, f, ds, d, h, Q, k => by
    obtain ⟨g, h1, h⟩ := obS (o := fs[f]?) h
    obtain ⟨_, h2, h⟩ := obS h
    obtain ⟨c, _⟩ := gdS h2
    obtain ⟨⟨ρ, fl⟩, h3, h⟩ := obS h
    show (match fs[f]? with
      | some g => ds.length = g.n ∧ exSs (XN fs n) g.body (rho0 (g.tbl.length - g.n) ds) (retW Q)
      | none => False)
    rw [h1]
    refine ⟨Nat.eq_of_beq_eq_true c, rSs_ok (rN_ok fs n) _ _ _ h3 _ ?_⟩
    cases fl with
    | next => cases h; exact k
    | brk => cases h
    | ret d => cases h; exact k
end Mine
end
section
open PySem PySem.Calls PyProof.Rows
set_option maxHeartbeats 1000000
namespace Mine
noncomputable abbrev KI := List (K × Int)
noncomputable def dKI (l : KI) : List (K × D) := l.map fun p => (p.1, .int p.2)
noncomputable def kget (k : K) : KI → Option Int
  | [] => none
  | (k', i) :: r => if k' = k then some i else kget k r
noncomputable def kput (k : K) (i : Int) : KI → KI
  | [] => [(k, i)]
  | (k', j) :: r => if k' = k then (k', i) :: r else (k', j) :: kput k i r
noncomputable def kbump (k : K) (i : Int) (l : KI) : KI := kput k ((kget k l).getD 0 + i) l
theorem klook_dKI (k : K) : ∀ l : KI, klook k (dKI l) = (kget k l).map .int
  | [] => rfl
  | (k', i) :: r => by
    show (if k' = k then some (.int i) else klook k (dKI r)) = _
    rw [klook_dKI k r, kget]
    split <;> rfl
theorem kset_dKI (k : K) (i : Int) : ∀ l : KI, kset k (.int i) (dKI l) = dKI (kput k i l)
  | [] => rfl
  | (k', j) :: r => by
    show (if k' = k then (k', D.int i) :: dKI r else (k', .int j) :: kset k (.int i) (dKI r)) = _
    rw [kset_dKI k i r, kput]
    split <;> rfl
theorem key_d : ∀ k : K, D.key? k.d = some k := fun k => by cases k <;> rfl
theorem dKI_cons (p : K × Int) (l : KI) : dKI (p :: l) = (p.1, .int p.2) :: dKI l := rfl
theorem dKI_length (l : KI) : (dKI l).length = l.length := by simp [dKI]
theorem kput_new {k : K} {i : Int} : ∀ {l : KI}, (∀ p ∈ l, p.1 ≠ k) → kput k i l = l ++ [(k, i)]
  | [], _ => rfl
  | (k', j) :: r, h => by
    rw [kput, if_neg (h _ (.head _)), kput_new fun p hp => h p (.tail _ hp)]; rfl
variable {X : Fns}
theorem addc1_step {T S : Option LV} {kv : List (K × D)} {kd vd : D} {kk : K} {Q : Rho → Fl → Prop} (hk : D.key? kd = some kk) (hf : fits kv.length) (h : Q [T, S, some (.od (kset kk vd kv)), some (.sh kd), some (.sh vd)] .next) :
    exSs X b1_add_callers_1 [T, S, some (.od kv), some (.sh kd), some (.sh vd)] Q := by
  simp only [b1_add_callers_1, fits, ↓evE_varR, ↓exS_setitemR, ↓exSs_nil, ↓exSs_cons, ↓setW_od]
  exact ⟨kk, hk, hf, h⟩
theorem addc1_loop (T S : Option LV) (Q : Rho → Fl → Prop) : ∀ (src acc : KI), acc.length + src.length ≤ 1000 → ((acc ++ src).map (·.1)).Nodup →
    Q [T, S, some (.od (dKI (acc ++ src))), none, none] .next →
    forW (.tp [3, 4]) [3, 4] (exSs X b1_add_callers_1) ((dKI src).map fun p => .tup [p.1.d, p.2]) [T, S, some (.od (dKI acc)), none, none] Q
  | [], acc, _, _, h => by
    rw [List.append_nil] at h
    exact h
  | p :: src, acc, hl, hn, h => by
    simp only [dKI_cons, ↓forW_cons, ↓asgW_tp, setAll_consR, setAll_nil, clr_consR, clr_nil, List.length_cons, List.length_nil, List.map_cons, Nat.reduceAdd, true_and]
    refine addc1_step (key_d _) (by rw [dKI_length]; show _ ≤ 1048576; simp at hl; (first | lia | omega)) ?_
    simp only []
    have hk : ∀ q ∈ acc, q.1 ≠ p.1 := fun q hq e => by
      simp only [List.map_append, List.map_cons, List.nodup_append] at hn
      exact hn.2.2 q.1 (List.mem_map_of_mem hq) p.1 (.head _) e
    rw [kset_dKI, kput_new hk]
    refine addc1_loop T S Q src (acc ++ [p]) (by simp at hl ⊢; (first | lia | omega)) (by simpa using hn) (by simpa using h)
theorem addc2_step {T S : Option LV} {l : KI} {k : K} {i : Int} {Q : Rho → Fl → Prop} (hf : l.length ≤ 1000) (h : Q [T, S, some (.od (dKI (kbump k i l))), some (.sh k.d), some (.sh (.int i))] .next) :
    exSs X b1_add_callers_2 [T, S, some (.od (dKI l)), some (.sh k.d), some (.sh (.int i))] Q := by
  simp only [b1_add_callers_2, fits, ↓evE_varR, ↓evEs_nil, ↓evEs_cons, ↓evC_oinR, ↓evC_bi, ↓exS_setitemR, ↓exS_augitemR, ↓exS_ife, ↓exSs_nil, ↓exSs_cons, ↓biW_isI, ↓truthW_b, ↓setW_od, ↓getW_od, ↓cmpW_inD, if_false, Bool.false_eq_true]
  refine ⟨k, key_d k, ?_⟩
  rw [klook_dKI]
  unfold kbump at h
  cases hg : kget k l with
  | none =>
    rw [hg] at h
    simp only [Option.map_none, Option.isSome_none]
    refine ⟨k, key_d k, by rw [dKI_length]; (first | lia | omega), ?_⟩
    rw [kset_dKI]
    simpa using h
  | some j =>
    rw [hg] at h
    simp only [Option.map_some, Option.isSome_some]
    refine ⟨k, .int j, key_d k, by rw [klook_dKI, hg]; rfl, ?_⟩
    refine ⟨k, key_d k, by rw [dKI_length]; (first | lia | omega), ?_⟩
    rw [kset_dKI]
    simpa using h
theorem kput_len (k : K) (i : Int) : ∀ l : KI, (kput k i l).length ≤ l.length + 1
  | [] => Nat.le_refl _
  | (k', j) :: r => by
    rw [kput]
    split
    · exact Nat.le_succ _
    · exact Nat.succ_le_succ (kput_len k i r)
noncomputable def addK (t s : KI) : KI := s.foldl (fun t p => kbump p.1 p.2 t) t
theorem addc2_loop (T S : Option LV) (Q : Rho → Fl → Prop) : ∀ (src l : KI), l.length + src.length ≤ 1000 →
    Q [T, S, some (.od (dKI (addK l src))), none, none] .next →
    forW (.tp [3, 4]) [3, 4] (exSs X b1_add_callers_2) ((dKI src).map fun p => .tup [p.1.d, p.2]) [T, S, some (.od (dKI l)), none, none] Q
  | [], l, _, h => h
  | p :: src, l, hl, h => by
    simp only [dKI_cons, ↓forW_cons, ↓asgW_tp, setAll_consR, setAll_nil, clr_consR, clr_nil, List.length_cons, List.length_nil, List.map_cons, Nat.reduceAdd, true_and]
    refine addc2_step (by simp at hl; (first | lia | omega)) ?_
    simp only []
    refine addc2_loop T S Q src (kbump p.1 p.2 l) ?_ h
    have := kput_len p.1 ((kget p.1 l).getD 0 + p.2) l
    show (kput _ _ l).length + _ ≤ _
    simp at hl
    (first | lia | omega)
theorem addc_spec {n : Nat} (t s : KI) (hl : t.length + s.length ≤ 900) (hn : (t.map (·.1)).Nodup) {Q : D → Prop} (h : Q (.dct (dKI (addK t s)))) :
    XN fs1 (n + 1) 1 [.dct (dKI t), .dct (dKI s)] Q := by
  show _ ∧ exSs _ (_ :: _ :: b1_add_callers.drop 2) _ _
  refine ⟨rfl, ?_⟩
  simp only [f1_add_callers, rho0, retW, List.replicate, List.cons_append, List.nil_append, Nat.reduceSub, ↓evE_varR, ↓evE_dct, ↓evKV_nil, ↓evI_items, ↓exS_assignOR, ↓exS_fore, ↓exSs_cons, List.length_cons, List.length_nil, ↓onK_d, ↓toLV_dct, List.map_cons, List.map_nil, Nat.reduceAdd, true_and, Nat.reduceLT]
  refine ⟨_, rfl, ?_⟩
  refine addc1_loop _ _ _ t [] (by simp; (first | lia | omega)) (by simpa using hn) ?_
  show exSs _ (_ :: b1_add_callers.drop 3) _ _
  simp only [retW, List.nil_append, ↓evE_varR, ↓evI_items, ↓exS_fore, ↓exSs_cons, ↓onK_d]
  refine addc2_loop _ _ _ s _ (by simpa using (show t.length + s.length ≤ 1000 by (first | lia | omega))) ?_
  show exSs _ [_, _] _ _
  simp only [retW, ↓evE_varR, ↓exS_ret, ↓exS_freezeR, ↓exSs_cons, ↓froz_od]
  refine ⟨_, rfl, ?_⟩
  exact h
theorem count_loop (C : Option LV) (Q : Rho → Fl → Prop) : ∀ (l : KI) (a : Int), Q [C, some (.sh (.int (a + (l.map (·.2)).sum))), none] .next →
    forW (.nm 2) [2] (exSs X b1_count_calls_1) ((dKI l).map fun p => p.2) [C, some (.sh (.int a)), none] Q
  | [], a, h => by
    simp only [List.map_nil, List.sum_nil, Int.add_zero] at h
    exact h
  | p :: l, a, h => by
    simp only [dKI_cons, b1_count_calls_1, ↓evE_varR, ↓exS_augR, ↓exSs_nil, ↓exSs_cons, ↓forW_cons, ↓asgW_nmR, clr_consR, clr_nil, ↓iopW_add, List.map_cons]
    refine count_loop C Q l (a + p.2) ?_
    simpa [Int.add_assoc] using h
theorem count_spec {n : Nat} (l : KI) {Q : D → Prop} (h : Q (.int (l.map (·.2)).sum)) : XN fs1 (n + 1) 2 [.dct (dKI l)] Q := by
  show _ ∧ exSs _ b1_count_calls _ _
  refine ⟨rfl, ?_⟩
  simp only [f1_count_calls, b1_count_calls, rho0, retW, List.replicate, List.cons_append, List.nil_append, Nat.reduceSub, ↓evE_int, ↓evE_varR, ↓evI_values, ↓exS_assignR, ↓exS_fore, ↓exS_ret, ↓exSs_cons, List.length_cons, List.length_nil, ↓onK_d, List.map_cons, List.map_nil, Nat.reduceAdd]
  refine count_loop _ _ l 0 ?_
  simp only []
  simpa using h
structure Ent where
  cc : Int
  nc : Int
  tt : Int
  ct : Int
  cs : KI
noncomputable def Ent.d (e : Ent) : D := .tup [.int e.cc, .int e.nc, .int e.tt, .int e.ct, .dct (dKI e.cs)]
noncomputable def Ent.add (e s : Ent) : Ent := ⟨s.cc + e.cc, s.nc + e.nc, s.tt + e.tt, s.ct + e.ct, addK e.cs s.cs⟩
theorem addf_spec {n : Nat} (e s : Ent) (hl : e.cs.length + s.cs.length ≤ 900) (hn : (e.cs.map (·.1)).Nodup) {Q : D → Prop} (h : Q (e.add s).d) :
    XN fs1 (n + 2) 0 [e.d, s.d] Q := by
  show _ ∧ exSs _ b1_add_func_stats _ _
  refine ⟨rfl, ?_⟩
  simp only [f1_add_func_stats, b1_add_func_stats, Ent.d, fits, rho0, retW, List.replicate, List.cons_append, List.nil_append, Nat.reduceSub, ↓evE_varR, ↓evE_tup, ↓evE_bin, ↓evE_call, ↓evEs_nil, ↓evEs_cons, ↓exS_unpack, ↓exS_ret, ↓exSs_cons, ↓asgW_tp, setAll_consR, setAll_nil, List.length_cons, List.length_nil, ↓binW_addI, List.map_cons, List.map_nil, Nat.reduceAdd, true_and, Nat.reduceLeDiff]
  refine addc_spec e.cs s.cs hl hn ?_
  exact h
end Mine
end
section
open PySem PySem.Calls PyProof.Rows
set_option maxHeartbeats 1000000
namespace Mine
theorem fm (a b : Int) (h : 0 < b) : 0 ≤ a.fmod b ∧ a.fmod b < b := ⟨Int.fmod_nonneg_of_pos a h, Int.fmod_lt_of_pos a h⟩
theorem ints_map : ∀ l : List Int, ints? (l.map .int) = some l
  | [] => rfl
  | i :: l => by rw [List.map_cons, ints?, ints_map l]; rfl
variable {X : Fns}
theorem draws_step {A : Option LV} {a b c d e f pl nm : Int} (R : Rho) (hp : 0 ≤ pl) : ∃ a' b' c' d' e' f' : Int, ∀ Q : Rho → Fl → Prop,
    Q (A :: some (.ol [.int a', .int b', .int c', .int d', .int e', .int f']) :: some (.sh (.int pl)) :: some (.sh (.int nm)) :: R) .next →
    exSs X b1_law_draws_1 (A :: some (.ol [.int a, .int b, .int c, .int d, .int e, .int f]) :: some (.sh (.int pl)) :: some (.sh (.int nm)) :: R) Q := by
  obtain ⟨h1, h2⟩ := fm pl 6 (by decide)
  simp only [b1_law_draws_1, fits, ne_eq, Int.reduceEq, not_false_eq_true, ↓evE_int, ↓evE_varR, ↓evE_bin, ↓exS_augitemR, ↓exSs_nil, ↓exSs_cons, List.length_cons, List.length_nil, ↓binW_mod, ↓setW_ol, ↓getW_ol, Nat.reduceAdd, true_and, Nat.reduceLeDiff]
  generalize pl.fmod 6 = k at *
  have hk : k = 0 ∨ k = 1 ∨ k = 2 ∨ k = 3 ∨ k = 4 ∨ k = 5 := by (first | lia | omega)
  rcases hk with rfl | rfl | rfl | rfl | rfl | rfl
  · exact ⟨a + nm, b, c, d, e, f, fun Q h => ⟨.int a, rfl, by decide, h⟩⟩
  · exact ⟨a, b + nm, c, d, e, f, fun Q h => ⟨.int b, rfl, by decide, h⟩⟩
  · exact ⟨a, b, c + nm, d, e, f, fun Q h => ⟨.int c, rfl, by decide, h⟩⟩
  · exact ⟨a, b, c, d + nm, e, f, fun Q h => ⟨.int d, rfl, by decide, h⟩⟩
  · exact ⟨a, b, c, d, e + nm, f, fun Q h => ⟨.int e, rfl, by decide, h⟩⟩
  · exact ⟨a, b, c, d, e, f + nm, fun Q h => ⟨.int f, rfl, by decide, h⟩⟩
theorem draws_loop (A : Option LV) (R : Rho) : ∀ (is : List Int) (i a b c d e f : Int), 0 ≤ i → ∃ a' b' c' d' e' f' : Int, ∀ Q : Rho → Fl → Prop,
    Q (A :: some (.ol [.int a', .int b', .int c', .int d', .int e', .int f']) :: none :: none :: R) .next →
    forW (.tp [2, 3]) [2, 3] (exSs X b1_law_draws_1) (enumL i (is.map .int)) (A :: some (.ol [.int a, .int b, .int c, .int d, .int e, .int f]) :: none :: none :: R) Q
  | [], i, a, b, c, d, e, f, _ => ⟨a, b, c, d, e, f, fun Q h => h⟩
  | n :: is, i, a, b, c, d, e, f, hi => by
    obtain ⟨a₁, b₁, c₁, d₁, e₁, f₁, h₁⟩ := draws_step (X := X) (A := A) (a := a) (b := b) (c := c) (d := d) (e := e) (f := f) (nm := n) R hi
    obtain ⟨a₂, b₂, c₂, d₂, e₂, f₂, h₂⟩ := draws_loop A R is (i + 1) a₁ b₁ c₁ d₁ e₁ f₁ (by (first | lia | omega))
    refine ⟨a₂, b₂, c₂, d₂, e₂, f₂, fun Q h => ?_⟩
    simp only [enumL_cons, ↓forW_cons, ↓asgW_tp, setAll_consR, setAll_nil, clr_consR, clr_nil, List.length_cons, List.length_nil, List.map_cons, Nat.reduceAdd, true_and]
    refine h₁ _ ?_
    simp only []
    exact h₂ Q h
theorem loop_fm {α : Type} {f : D → D → (D → Prop) → Prop} (enc : α → D) (h : α → List D) {Q : D → Prop} : ∀ (xs : List α) (acc : List D), (∀ x ∈ xs, ∀ (acc : List D) (C : D → Prop), acc.length ≤ 1000 → C (.lst (acc ++ h x)) → f (enc x) (.lst acc) C) → (∀ x, (h x).length ≤ 1) → acc.length + xs.length ≤ 1000 →
    Q (.lst (acc ++ xs.flatMap h)) → loopW f (xs.map enc) (.lst acc) Q
  | [], acc, _, _, _, q => by simpa [loopW_nil, loopW_cons] using q
  | x :: xs, acc, hf, hh, hl, q => by
    have h1 := hh x
    simp only [List.length_cons] at hl
    simp only [List.map_cons, loopW_cons]
    refine hf x (.head _) acc _ (by (first | lia | omega)) ?_
    refine loop_fm enc h xs (acc ++ h x) (fun y hy => hf y (.tail _ hy)) hh (by simp; (first | lia | omega)) ?_
    simpa [List.flatMap_cons] using q
theorem flatMap_filter {α : Type} (p : α → Bool) (v : α → D) : ∀ xs : List α, (xs.flatMap fun x => if p x = true then [v x] else []) = (xs.filter p).map v
  | [] => rfl
  | x :: xs => by
    rw [List.flatMap_cons, flatMap_filter p v xs, List.filter_cons]
    split <;> rfl
theorem flatMap_one {α : Type} (v : α → D) : ∀ xs : List α, (xs.flatMap fun x => [v x]) = xs.map v
  | [] => rfl
  | x :: xs => by rw [List.flatMap_cons, flatMap_one v xs]; rfl
theorem draws_spec (n : Nat) (is : List Int) (hi : is.length ≤ 63) : ∃ a b c d e f : Int, (0 ≤ a ∧ 0 ≤ b ∧ 0 ≤ c ∧ 0 ≤ d ∧ 0 ≤ e ∧ 0 ≤ f) ∧ ∀ Q : D → Prop, Q (.lst [.int a, .int b, .int c, .int d, .int e, .int f]) → XN fs1 (n + 1) 3 [.lst (is.map .int)] Q := by
  obtain ⟨a₁, b₁, c₁, d₁, e₁, f₁, h₁⟩ := draws_loop (X := XN fs1 n) (some (.sh (.lst (is.map .int)))) [] (is.take 60) 0 4 0 2 0 1 10 (by decide)
  have k : ∀ x : Int, 0 ≤ x.fmod (10 ^ (6 : Int).toNat) := fun x => (fm x (10 ^ (6 : Int).toNat) (by decide)).1
  refine ⟨_, _, _, _, _, _, ⟨k a₁, k b₁, k c₁, k d₁, k e₁, k f₁⟩, fun Q h => ?_⟩
  show _ ∧ exSs _ (_ :: _ :: b1_law_draws.drop 2) _ _
  refine ⟨rfl, ?_⟩
  simp only [f1_law_draws, fits, and_true, Int.reduceLE, rho0, retW, List.replicate, List.cons_append, List.nil_append, Nat.reduceSub, ↓evE_int, ↓evE_none, ↓evE_varR, ↓evE_lst, ↓evE_slice, ↓evEs_nil, ↓evEs_cons, ↓evI_enum, ↓exS_assignOR, ↓exS_fore, ↓exSs_cons, List.length_cons, List.length_nil, ↓onL_l, ↓toLV_lst, List.map_cons, List.map_nil, Nat.reduceAdd, true_and, Nat.reduceLeDiff, Nat.reduceLT, List.length_map, sliceW_to, ← List.map_take, List.length_take, Int.reduceToNat]
  refine ⟨_, rfl, by (first | lia | omega), by (first | lia | omega), ?_⟩
  refine h₁ _ ?_
  show exSs _ (_ :: b1_law_draws.drop 3) _ _
  simp only [↓exS_freezeR, ↓exSs_cons, ↓froz_ol]
  refine ⟨_, rfl, ?_⟩
  show exSs _ [_] _ _
  simp only [Int.reduceLE, retW, ↓evE_int, ↓evE_varR, ↓evE_bin, ↓evE_lcomp, ↓evI_ex, ↓evIfs_nil, ↓evGs_nil, ↓exS_ret, ↓exSs_cons, ↓asgW_nmR, rho_atR, ↓binW_pow, capture, List.map_cons, List.map_nil, true_and, seqOf]
  refine ⟨_, rfl, ?_⟩
  refine loop_fm D.int (fun x => [.int (x.fmod (10 ^ (6 : Int).toNat))]) [a₁, b₁, c₁, d₁, e₁, f₁] [] (fun x hx acc C ha hC => ?_) (fun x => Nat.le_refl _) (by simp) ?_
  · simp only [fits, ne_eq, ↓binW_mod, Nat.reduceLeDiff, pushW_l]
    exact ⟨(by unfold smallI; decide), by decide, by (first | lia | omega), hC⟩
  · exact h
end Mine
end
section
open PySem PySem.Calls PyProof.Rows
set_option maxRecDepth 100000
namespace Mine
noncomputable def ti (l : List Int) : D := .lst (l.map .int)
noncomputable def iL (o : Option D) : Option (List Int) := o.bind fun d => match d with
  | .lst ds => ints? ds
  | _ => none
theorem ints_inv1 : ∀ {ds : List D} {l : List Int}, ints? ds = some l → ds = l.map .int
  | [], l, h => by cases h; rfl
  | d :: ds, l, h => by
    cases d with
    | int i =>
      cases e : ints? ds with
      | none => rw [ints?, e] at h; cases h
      | some r => rw [ints?, e] at h; cases h; rw [ints_inv1 e]; rfl
    | _ => cases h
theorem iL_ok {o : Option D} {l : List Int} (h : iL o = some l) : o = some (ti l) := by
  obtain ⟨d, e, h⟩ := obS (o := o) h
  rw [e]
  cases d with
  | lst ds => rw [ti, ints_inv1 h]
  | _ => cases h
noncomputable def bL (o : Option D) : Option Bool := o.bind truR
theorem bL_ok {o : Option D} {b : Bool} (h : bL o = some b) : o = some (.bool b) := by
  obtain ⟨d, e, h⟩ := obS (o := o) h
  rw [e]
  cases d <;> first | cases h; rfl | cases h
noncomputable def listsOf (w : Nat) : Nat → List (List Int)
  | 0 => [[]]
  | n + 1 => (List.range w).flatMap fun x => (listsOf w n).map (((1 + x : Nat) : Int) :: ·)
theorem mem_listsOf {w : Nat} : ∀ {l : List Int}, (∀ x ∈ l, 1 ≤ x ∧ x ≤ w) → l ∈ listsOf w l.length
  | [], _ => .head _
  | x :: l, h => by
    obtain ⟨h1, h2⟩ := h x (.head _)
    refine List.mem_flatMap.mpr ⟨(x - 1).toNat, List.mem_range.mpr (by (first | lia | omega)), List.mem_map.mpr ⟨l, mem_listsOf fun y hy => h y (.tail _ hy), ?_⟩⟩
    rw [show ((1 + (x - 1).toNat : Nat) : Int) = x by (first | lia | omega)]
noncomputable def allSz (m : Nat) : List (List Int) := listsOf (4 - m) 1 ++ listsOf (4 - m) 2 ++ listsOf (4 - m) 3 ++ listsOf (4 - m) 4
noncomputable def endL : Nat → List Int
  | 0 => []
  | 1 => [0]
  | 2 => [127, 1]
  | _ => [0, 2]
noncomputable def allM : List (List Int) := [[0, 1], [0, 2], [0, 3], [0, 4], [0, 1, 2], [0, 1, 3], [0, 1, 4], [0, 1, 5], [0, 2, 3], [0, 2, 4], [0, 2, 5], [0, 2, 6], [0, 3, 4], [0, 3, 5], [0, 3, 6], [0, 3, 7], [0, 4, 5], [0, 4, 6], [0, 4, 7], [0, 4, 8], [0, 1, 2, 3], [0, 1, 2, 4], [0, 1, 2, 5], [0, 1, 3, 4], [0, 1, 3, 5], [0, 1, 3, 6], [0, 1, 4, 5], [0, 1, 4, 6], [0, 1, 4, 7], [0, 2, 3, 4], [0, 2, 3, 5], [0, 2, 3, 6], [0, 2, 4, 5], [0, 2, 4, 6], [0, 2, 4, 7], [0, 2, 5, 6], [0, 2, 5, 7], [0, 2, 5, 8], [0, 3, 4, 5], [0, 3, 4, 6], [0, 3, 4, 7], [0, 3, 5, 6], [0, 3, 5, 7], [0, 3, 5, 8], [0, 3, 6, 7], [0, 3, 6, 8], [0, 3, 6, 9], [0, 1, 2, 3, 4], [0, 1, 2, 3, 5], [0, 1, 2, 4, 5], [0, 1, 2, 4, 6], [0, 1, 3, 4, 5], [0, 1, 3, 4, 6], [0, 1, 3, 5, 6], [0, 1, 3, 5, 7], [0, 2, 3, 4, 5], [0, 2, 3, 4, 6], [0, 2, 3, 5, 6], [0, 2, 3, 5, 7], [0, 2, 4, 5, 6], [0, 2, 4, 5, 7], [0, 2, 4, 6, 7], [0, 2, 4, 6, 8]]
noncomputable def chk1 (m e : Nat) (sz : List Int) : Bool := match iL (rN fs1 3 4 [ti (sz ++ endL e), .int (3 + m)]) with
  | some M => (match iL (rN fs1 3 5 [ti sz, .bool ((endL e).any fun x => x == 0), .int (3 + m)]) with
    | some M' => decide (M = M')
    | none => false) && (match bL (rN fs1 3 6 [ti (sz ++ endL e)]) with
    | some b => b
    | none => false) && allM.contains M
  | none => false
noncomputable def primeOf (M : List Int) : Int := match M.length with
  | 3 => 3
  | 5 => 5
  | _ => 2
noncomputable def maxP : List Int → Int
  | [] => 0
  | i :: is => maxL i is
noncomputable def ringOf (M P : List Int) : Int := primeOf M ^ (maxP P + 1).toNat
noncomputable def resid (R : Int) (St M : List Int) : List Int := St.flatMap fun s => M.map fun m => (s + m).fmod R
structure Geo where
  P : List Int
  St : List Int
  cv : Bool
noncomputable def geoOf (M : List Int) : Option Geo := match iL (rN fs1 3 7 [ti M, .int (primeOf M)]) with
  | some P => match iL (rN fs1 3 8 [ti P, .int (primeOf M)]) with
    | some St => match bL (rN fs1 3 9 [ti M]) with
      | some cv => some ⟨P, St, cv⟩
      | none => none
    | none => none
  | none => none
noncomputable def lastOk (M : List Int) (la : Int) : Bool := match idx M.length (-1) with
  | some j => M[j]? == some la
  | none => false
noncomputable def chk2 (M : List Int) : Bool := match geoOf M with
  | some g => !g.P.isEmpty && decide (0 < ringOf M g.P) && decide (ringOf M g.P ≤ 25) && decide ((resid (ringOf M g.P) g.St M).Nodup) && Nat.ble g.St.length 25 && !g.St.isEmpty && (if g.cv then ((g.St.length * M.length : Nat) : Int) == ringOf M g.P else decide (((g.St.length * M.length : Nat) : Int) < ringOf M g.P)) &&
      decide (0 ≤ maxP g.P + 1) && decide (maxP g.P + 1 ≤ 1000000) && lastOk M (M.getLastD 0) && Nat.ble 2 M.length && Nat.ble M.length 5
  | none => false
theorem all2a : (allM.take 20).all chk2 = true := by decide +kernel
theorem all2b : ((allM.drop 20).take 6).all chk2 = true := by decide +kernel
theorem all2c : ((allM.drop 26).take 6).all chk2 = true := by decide +kernel
theorem all2d : ((allM.drop 32).take 6).all chk2 = true := by decide +kernel
theorem all2e : ((allM.drop 38).take 6).all chk2 = true := by decide +kernel
theorem all2f : ((allM.drop 44).take 6).all chk2 = true := by decide +kernel
theorem all2g : ((allM.drop 50).take 6).all chk2 = true := by decide +kernel
theorem all2h : ((allM.drop 56).take 6).all chk2 = true := by decide +kernel
theorem all2i : ((allM.drop 62).take 6).all chk2 = true := by decide +kernel
theorem all1_00 : (allSz 0).all (chk1 0 0) = true := by decide +kernel
theorem all1_01 : (allSz 0).all (chk1 0 1) = true := by decide +kernel
theorem all1_02 : (allSz 0).all (chk1 0 2) = true := by decide +kernel
theorem all1_03 : (allSz 0).all (chk1 0 3) = true := by decide +kernel
theorem all1_10 : (allSz 1).all (chk1 1 0) = true := by decide +kernel
theorem all1_11 : (allSz 1).all (chk1 1 1) = true := by decide +kernel
theorem all1_12 : (allSz 1).all (chk1 1 2) = true := by decide +kernel
theorem all1_13 : (allSz 1).all (chk1 1 3) = true := by decide +kernel
theorem all1_20 : (allSz 2).all (chk1 2 0) = true := by decide +kernel
theorem all1_21 : (allSz 2).all (chk1 2 1) = true := by decide +kernel
theorem all1_22 : (allSz 2).all (chk1 2 2) = true := by decide +kernel
theorem all1_23 : (allSz 2).all (chk1 2 3) = true := by decide +kernel
end Mine
end
section
open PySem PySem.Calls PyProof.Rows
namespace Mine
theorem kget_kput (k k' : K) (i : Int) : ∀ l : KI, kget k (kput k' i l) = if k' = k then some i else kget k l
  | [] => rfl
  | (a, j) :: r => by
    rw [kput]
    by_cases h : a = k'
    · rw [if_pos h, kget]
      by_cases h2 : k' = k
      · rw [if_pos (h.trans h2), if_pos h2]
      · rw [if_neg (fun q => h2 (h.symm.trans q)), if_neg h2, kget, if_neg (fun q => h2 (h.symm.trans q))]
    · rw [if_neg h, kget, kget_kput k k' i r]
      by_cases h2 : a = k
      · rw [if_pos h2, if_neg (fun q => h (h2.trans q.symm)), kget, if_pos h2]
      · rw [if_neg h2, kget, if_neg h2]
theorem keys_kput (k : K) (i : Int) : ∀ l : KI, ∀ x, x ∈ (kput k i l).map (·.1) ↔ x = k ∨ x ∈ l.map (·.1)
  | [], x => by simp [kput]
  | (a, j) :: r, x => by
    rw [kput]
    by_cases h : a = k
    · rw [if_pos h]; simp [h]
    · rw [if_neg h]
      have := keys_kput k i r x
      simp only [List.map_cons, List.mem_cons, this]
      constructor
      · rintro (q | q | q)
        · exact .inr (.inl q)
        · exact .inl q
        · exact .inr (.inr q)
      · rintro (q | q | q)
        · exact .inr (.inl q)
        · exact .inl q
        · exact .inr (.inr q)
theorem nodup_kput (k : K) (i : Int) : ∀ l : KI, (l.map (·.1)).Nodup → ((kput k i l).map (·.1)).Nodup
  | [], _ => by simp [kput]
  | (a, j) :: r, h => by
    rw [kput]
    rw [List.map_cons, List.nodup_cons] at h
    by_cases q : a = k
    · rw [if_pos q, List.map_cons, List.nodup_cons]; exact h
    · rw [if_neg q, List.map_cons, List.nodup_cons]
      exact ⟨fun m => ((keys_kput k i r a).mp m).elim q h.1, nodup_kput k i r h.2⟩
theorem kget_mem {k : K} {i : Int} : ∀ {l : KI}, (l.map (·.1)).Nodup → (kget k l = some i ↔ (k, i) ∈ l)
  | [], _ => by simp [kget]
  | (a, j) :: r, h => by
    rw [List.map_cons, List.nodup_cons] at h
    rw [kget]
    by_cases q : a = k
    · rw [if_pos q]
      subst q
      constructor
      · intro e; cases e; exact .head _
      · intro m
        rcases List.mem_cons.mp m with e | e
        · cases e; rfl
        · exact absurd (List.mem_map.mpr ⟨_, e, rfl⟩) h.1
    · rw [if_neg q, kget_mem h.2]
      constructor
      · exact .tail _
      · intro m
        rcases List.mem_cons.mp m with e | e
        · cases e; exact absurd rfl q
        · exact e
theorem kput_sum (k : K) (i : Int) : ∀ l : KI, ((kput k i l).map (·.2)).sum = (l.map (·.2)).sum - (kget k l).getD 0 + i
  | [] => by simp [kput, kget]
  | (a, j) :: r => by
    rw [kput, kget]
    by_cases q : a = k
    · rw [if_pos q, if_pos q]; simp only [List.map_cons, List.sum_cons, Option.getD_some]; (first | lia | omega)
    · rw [if_neg q, if_neg q]; simp only [List.map_cons, List.sum_cons, kput_sum k i r]; (first | lia | omega)
noncomputable def cnt (L : List Int) : K → Option Int
  | .int x => if L.count x = 0 then none else some (L.count x : Nat)
  | .str _ => none
structure Cnt (l : KI) (L : List Int) : Prop where
  nd : (l.map (·.1)).Nodup
  at_ : ∀ k, kget k l = cnt L k
  sum : (l.map (·.2)).sum = (L.length : Nat)
  len : l.length ≤ L.length
theorem Cnt.nil : Cnt [] [] := ⟨List.nodup_nil, fun k => by cases k <;> rfl, rfl, Nat.le_refl _⟩
theorem Cnt.bump {l : KI} {L : List Int} (c : Cnt l L) (x : Int) : Cnt (kbump (.int x) 1 l) (L ++ [x]) := by
  have e : (kget (.int x) l).getD 0 = (L.count x : Nat) := by
    rw [c.at_]
    show (if L.count x = 0 then none else some ((L.count x : Nat) : Int)).getD 0 = _
    by_cases h : L.count x = 0
    · rw [if_pos h, h]; rfl
    · rw [if_neg h]; rfl
  unfold kbump
  refine ⟨nodup_kput _ _ _ c.nd, fun k => ?_, ?_, ?_⟩
  · rw [kget_kput]
    cases k with
    | str s => rw [if_neg (fun q => by cases q), c.at_]; rfl
    | int y =>
      by_cases h : x = y
      · subst h
        rw [if_pos rfl, e]
        show _ = if (L ++ [x]).count x = 0 then none else some _
        rw [List.count_append, List.count_singleton_self, if_neg (by (first | lia | omega))]
        congr 1
      · rw [if_neg (fun q => h (by injection q)), c.at_]
        show (if L.count y = 0 then none else some _) = if (L ++ [x]).count y = 0 then none else some _
        have e0 : (L ++ [x]).count y = L.count y := by rw [List.count_append, List.count_singleton]; simp [h]
        rw [e0]
  · rw [kput_sum, c.sum, e, List.length_append, List.length_singleton]; (first | lia | omega)
  · have := kput_len (.int x) ((kget (.int x) l).getD 0 + 1) l
    have := c.len
    rw [List.length_append, List.length_singleton]; (first | lia | omega)
noncomputable def ones (xs : List Int) : KI := xs.map fun x => (.int x, 1)
theorem Cnt.addK : ∀ {xs : List Int} {l : KI} {L : List Int}, Cnt l L → Cnt (addK l (ones xs)) (L ++ xs)
  | [], l, L, c => by rw [List.append_nil]; exact c
  | x :: xs, l, L, c => by
    have := (c.bump x).addK (xs := xs)
    rw [List.append_assoc] at this
    exact this
theorem klook_mem {k : K} {i : Int} : ∀ {l : KI}, (l.map (·.1)).Nodup → (k, i) ∈ l → klook k (dKI l) = some (.int i)
  | (k', j) :: r, hn, h => by
    rw [dKI_cons, klook]
    rw [List.map_cons, List.nodup_cons] at hn
    by_cases e : k' = k
    · rw [if_pos e]
      rcases List.mem_cons.mp h with h | h
      · injection h with h1 h2; rw [h2]
      · exact absurd (List.mem_map_of_mem (f := (·.1)) h) (e ▸ hn.1)
    · rw [if_neg e]
      rcases List.mem_cons.mp h with h | h
      · injection h with h1 h2; exact absurd h1.symm e
      · exact klook_mem hn.2 h
theorem eqvk_KI {b : KI} (hn : (b.map (·.1)).Nodup) : ∀ {a : KI}, (∀ p ∈ a, p ∈ b) → eqvk (dKI a) (dKI b) = true ∧ eqK (dKI a) (dKI b) = true
  | [], _ => ⟨rfl, rfl⟩
  | (k, i) :: a, h => by
    obtain ⟨h1, h2⟩ := eqvk_KI hn (a := a) fun p hp => h p (.tail _ hp)
    rw [dKI_cons, eqvk, eqK, klook_mem hn (h _ (.head _)), h1, h2]
    exact ⟨by simp [eqv_int, eqv_str, eqv_bool, eqv_tup, eqv_lst, eqv_dct], by simp [eqP_int, eqP_str, eqP_bool, eqP_lst, eqP_tup, scal]⟩
theorem Cnt.eqv {a b : KI} {L L' : List Int} (ca : Cnt a L) (nb : (b.map (·.1)).Nodup) (hb : ∀ k, kget k b = cnt L' k) (h : ∀ x, L.count x = L'.count x) : eqv (.dct (dKI a)) (.dct (dKI b)) = true ∧ eqC (.dct (dKI a)) (.dct (dKI b)) = true := by
  have hg : ∀ k, kget k a = kget k b := fun k => by
    rw [ca.at_, hb]
    cases k with
    | str _ => rfl
    | int x => show (if _ then _ else _) = if _ then _ else _; rw [h x]
  have sub : ∀ p, p ∈ a ↔ p ∈ b := fun p => by
    rw [← kget_mem (k := p.1) (i := p.2) ca.nd, hg, kget_mem nb]
  have nda : a.Nodup := List.Pairwise.of_map _ (fun a b h q => h (q ▸ rfl)) ca.nd
  have ndb : b.Nodup := List.Pairwise.of_map _ (fun a b h q => h (q ▸ rfl)) nb
  have hl : a.length = b.length := ((List.perm_ext_iff_of_nodup nda ndb).mpr sub).length_eq
  obtain ⟨h1, h2⟩ := eqvk_KI nb (a := a) fun p hp => (sub p).mp hp
  rw [eqv_dct, eqC_dct, dKI_length, dKI_length, hl, h1, h2]
  exact ⟨by simp, rfl⟩
end Mine
end
section
open PySem PySem.Calls PyProof.Rows
set_option maxHeartbeats 1000000
namespace Mine
variable {X : Fns}
theorem dKI_ones_append (a : List Int) (x : Int) (h : x ∉ a) : kset (.int x) (.int 1) (dKI (ones a)) = dKI (ones (a ++ [x])) := by
  rw [kset_dKI, kput_new]
  · unfold ones; rw [List.map_append]; rfl
  · intro p hp q
    obtain ⟨y, hy, rfl⟩ := List.mem_map.mp hp
    injection q with q
    exact h (q ▸ hy)
theorem loop_places {f : D → D → (D → Prop) → Prop} {h : Int → Int} {Q : D → Prop} : ∀ (M acc : List Int), (∀ m ∈ M, ∀ (acc : List (K × D)) (C : D → Prop), acc.length ≤ 1000 → C (.dct (kset (.int (h m)) (.int 1) acc)) → f (.int m) (.dct acc) C) → (acc ++ M.map h).Nodup → acc.length + M.length ≤ 1000 →
    Q (.dct (dKI (ones (acc ++ M.map h)))) → loopW f (M.map .int) (.dct (dKI (ones acc))) Q
  | [], acc, _, _, _, q => by rw [List.map_nil, List.append_nil] at q; exact q
  | m :: M, acc, hf, hn, hl, q => by
    rw [List.map_cons, loopW_cons]
    rw [List.length_cons] at hl
    have hx : h m ∉ acc := fun hm => by
      rw [List.map_cons, List.nodup_append] at hn
      exact hn.2.2 _ hm _ (.head _) rfl
    refine hf m (.head _) _ _ (by rw [dKI_length]; unfold ones; rw [List.length_map]; (first | lia | omega)) ?_
    rw [dKI_ones_append acc (h m) hx]
    refine loop_places M (acc ++ [h m]) (fun y hy => hf y (.tail _ hy)) ?_ ?_ ?_
    · rw [List.append_assoc]; exact hn
    · rw [List.length_append, List.length_singleton]; (first | lia | omega)
    · rw [List.append_assoc]; exact q
structure Tile (M : List Int) (R la : Int) : Prop where
  R0 : 0 < R
  len : M.length ≤ 5
  j : ∃ j, idx M.length (-1) = some j ∧ M[j]? = some la
theorem Tile.last {M : List Int} {R la : Int} (T : Tile M R la) : ((idx (M.map D.int).length (-1)).bind fun j => (M.map D.int)[j]?) = some (.int la) := by
  obtain ⟨j, h1, h2⟩ := T.j
  rw [List.length_map, h1]
  show (M.map D.int)[j]? = _
  rw [List.getElem?_map, h2]; rfl
noncomputable def spots (R : Int) (M : List Int) (b : Int) : List Int := M.map fun m => (b + m).fmod R
noncomputable def tileE (M : List Int) (R la b : Int) : Ent := ⟨1, (M.length : Nat), b, b + la, ones (spots R M b)⟩
theorem laid_step {n : Nat} {M : List Int} {R la b : Int} (T : Tile M R la) (hx : (spots R M b).Nodup) {B : Option LV} {e : Ent} (hl : e.cs.length ≤ 800) (hn : (e.cs.map (·.1)).Nodup) {Q : Rho → Fl → Prop}
    (h : ∀ s5, Q [some (.sh (e.add (tileE M R la b)).d), B, some (.sh (ti M)), some (.sh (.int R)), some (.sh (.int b)), s5] .next) :
    exSs (XN fs1 (n + 2)) b1_law_laid_1 [some (.sh e.d), B, some (.sh (ti M)), some (.sh (.int R)), some (.sh (.int b)), none] Q := by
  have hR := T.R0
  have hL := T.len
  show exSs _ (_ :: b1_law_laid_1.drop 1) _ _
  simp only [↓evE_int, ↓evE_varR, ↓evE_bin, ↓evE_dcomp, ↓evI_ex, ↓evIfs_nil, ↓evGs_nil, ↓exS_assignR, ↓exSs_cons, ↓asgW_nmR, rho_atR, capture, List.map_cons, List.map_nil, seqOf, ti]
  refine ⟨_, rfl, ?_⟩
  refine loop_places (h := fun m => (b + m).fmod R) M [] (fun m hm acc C ha hC => ?_) (by rw [List.nil_append]; exact hx) (by simp; (first | lia | omega)) ?_
  · simp only [fits, ne_eq, ↓binW_addI, ↓binW_mod, Nat.reduceLeDiff, putW_d]
    exact ⟨by (first | lia | omega), _, rfl, by (first | lia | omega), hC⟩
  show exSs _ [_] _ _
  simp only [fits, List.nil_append, ↓evE_int, ↓evE_varR, ↓evE_tup, ↓evE_bin, ↓evE_neg, ↓evE_sub, ↓evE_call, ↓evE_bi, ↓evEs_nil, ↓evEs_cons, ↓exS_assignR, ↓exSs_nil, ↓exSs_cons, List.length_cons, List.length_nil, ↓biW_lenL, ↓subW_l, ↓onI_i, Nat.reduceAdd, true_and, Nat.reduceLeDiff]
  refine ⟨by rw [List.length_map]; (first | lia | omega), _, T.last, ?_⟩
  simp only [List.length_map]
  refine addf_spec e (tileE M R la b) ?_ hn ?_
  · show _ + (ones _).length ≤ 900
    unfold ones spots; rw [List.length_map, List.length_map]; (first | lia | omega)
  · exact h _
noncomputable def laidE (M : List Int) (R la : Int) (e : Ent) (bs : List Int) : Ent := bs.foldl (fun e b => e.add (tileE M R la b)) e
theorem laid_loop {n : Nat} {M : List Int} {R la : Int} (T : Tile M R la) {B : Option LV} {Q : Rho → Fl → Prop} : ∀ (bs : List Int) (e : Ent) (L : List Int), (∀ b ∈ bs, (spots R M b).Nodup) → Cnt e.cs L → L.length + 5 * bs.length ≤ 790 →
    Q [some (.sh (laidE M R la e bs).d), B, some (.sh (ti M)), some (.sh (.int R)), none, none] .next →
    forW (.nm 4) [4, 5] (exSs (XN fs1 (n + 2)) b1_law_laid_1) (bs.map .int) [some (.sh e.d), B, some (.sh (ti M)), some (.sh (.int R)), none, none] Q
  | [], e, L, _, _, _, h => h
  | b :: bs, e, L, hx, c, hl, h => by
    have hL := T.len
    rw [List.length_cons] at hl
    have hc := c.len
    simp only [List.map_cons, ↓forW_cons, ↓asgW_nmR, clr_consR, clr_nil, List.map_cons]
    refine laid_step T (hx b (.head _)) (by (first | lia | omega)) c.nd fun s5 => ?_
    simp only []
    refine laid_loop T bs (e.add (tileE M R la b)) (L ++ spots R M b) (fun y hy => hx y (.tail _ hy)) c.addK ?_ h
    rw [List.length_append]; unfold spots; rw [List.length_map]; (first | lia | omega)
theorem laid_spec {n : Nat} {M : List Int} {R la : Int} (T : Tile M R la) (bs : List Int) (e : Ent) {L : List Int} (hx : ∀ b ∈ bs, (spots R M b).Nodup) (c : Cnt e.cs L) (hl : L.length + 5 * bs.length ≤ 790) {Q : D → Prop} (h : Q (laidE M R la e bs).d) :
    XN fs1 (n + 3) 10 [e.d, ti bs, ti M, .int R] Q := by
  show _ ∧ exSs _ (_ :: b1_law_laid.drop 1) _ _
  refine ⟨rfl, ?_⟩
  simp only [f1_law_laid, rho0, retW, List.replicate, List.cons_append, List.nil_append, Nat.reduceSub, ↓evE_varR, ↓evI_ex, ↓exS_fore, ↓exSs_cons, List.length_cons, List.length_nil, List.map_cons, List.map_nil, Nat.reduceAdd, seqOf, ti]
  refine ⟨_, rfl, ?_⟩
  refine laid_loop T bs e L hx c hl ?_
  show exSs _ [_] _ _
  simp only [retW, ↓evE_varR, ↓exS_ret, ↓exSs_cons]
  exact h
theorem noLst_ent (e : Ent) : noLst e.d = true := by
  have h : ∀ l : KI, noLstK (dKI l) = true := fun l => by
    induction l with
    | nil => rfl
    | cons p l ih => exact ih
  show (true && (true && (true && (true && (noLstK (dKI e.cs) && true))))) = true
  rw [h]; rfl
structure Book (M : List Int) (R la : Int) (e : Ent) (bs : List Int) : Prop where
  cc : e.cc = (bs.length : Nat)
  nc : e.nc = (bs.length : Nat) * (M.length : Nat)
  tt : e.tt = bs.sum
  ct : e.ct = bs.sum + (bs.length : Nat) * la
  cs : Cnt e.cs (bs.flatMap (spots R M))
theorem Book.add {M : List Int} {R la : Int} {e : Ent} {bs : List Int} (k : Book M R la e bs) : ∀ cs : List Int, Book M R la (laidE M R la e cs) (bs ++ cs)
  | [] => by rw [List.append_nil]; exact k
  | c :: cs => by
    have : Book M R la (e.add (tileE M R la c)) (bs ++ [c]) := by
      refine ⟨?_, ?_, ?_, ?_, ?_⟩
      · show 1 + e.cc = _
        rw [k.cc, List.length_append, List.length_singleton]; (first | lia | omega)
      · show ((M.length : Nat) : Int) + e.nc = _
        rw [k.nc, List.length_append, List.length_singleton, Int.natCast_add, Int.add_mul]; (first | lia | omega)
      · show c + e.tt = _
        rw [k.tt, List.sum_append]; simp; (first | lia | omega)
      · show c + la + e.ct = _
        rw [k.ct, List.sum_append, List.length_append, List.length_singleton, Int.natCast_add, Int.add_mul]; simp; (first | lia | omega)
      · rw [List.flatMap_append, List.flatMap_cons, List.flatMap_nil, List.append_nil]
        exact k.cs.addK
    have h := this.add cs
    rw [List.append_assoc] at h
    exact h
theorem Book.nil (M : List Int) (R la : Int) : Book M R la ⟨0, 0, 0, 0, []⟩ [] := ⟨rfl, by simp, rfl, by simp, Cnt.nil⟩
end Mine
end
section
open PySem PySem.Calls PyProof.Rows
namespace Mine
theorem fm_add {R : Int} (a b : Int) : (a + b.fmod R).fmod R = (a + b).fmod R := by
  rw [Int.add_fmod, Int.fmod_fmod, ← Int.add_fmod]
theorem spots_mul (R : Int) (M : List Int) (b i : Int) : spots R M (b + R * i) = spots R M b := by
  unfold spots
  apply List.map_congr_left
  intro m _
  rw [show b + R * i + m = (b + m) + R * i by (first | lia | omega), Int.add_mul_fmod_self_left]
theorem fm_inj {R a b c : Int} (h : (c + a).fmod R = (c + b).fmod R) : a.fmod R = b.fmod R := by
  have h1 : (-c + (c + a).fmod R).fmod R = (-c + (c + b).fmod R).fmod R := by rw [h]
  rw [fm_add, fm_add, show -c + (c + a) = a by (first | lia | omega), show -c + (c + b) = b by (first | lia | omega)] at h1
  exact h1
theorem spots_shift {R : Int} {M : List Int} {s : Int} (h : (spots R M s).Nodup) (b : Int) : (spots R M b).Nodup := by
  unfold spots at *
  rw [List.Nodup, List.pairwise_map] at *
  refine h.imp fun {x y} q e => q ?_
  have := fm_inj e
  rw [← fm_add, this, fm_add]
noncomputable def ringT (R : Int) (St M : List Int) (f : Int) : List Int := St.flatMap fun s => spots R M (f + s)
theorem ringT_eq (R : Int) (St M : List Int) (f : Int) : ringT R St M f = (resid R St M).map fun t => (f + t).fmod R := by
  unfold ringT resid spots
  rw [List.map_flatMap]
  congr 1
  funext s
  rw [List.map_map]
  apply List.map_congr_left
  intro m _
  show _ = (f + (s + m).fmod R).fmod R
  rw [fm_add, Int.add_assoc]
theorem resid_lt {R : Int} (h : 0 < R) {St M : List Int} {t : Int} (ht : t ∈ resid R St M) : t.fmod R = t := by
  obtain ⟨s, _, ht⟩ := List.mem_flatMap.mp ht
  obtain ⟨m, _, rfl⟩ := List.mem_map.mp ht
  exact Int.fmod_fmod _ _
theorem ringT_nodup {R : Int} (h : 0 < R) {St M : List Int} (hn : (resid R St M).Nodup) (f : Int) : (ringT R St M f).Nodup := by
  rw [ringT_eq, List.Nodup, List.pairwise_map]
  have : (resid R St M).Pairwise fun a b => a ≠ b ∧ a ∈ resid R St M ∧ b ∈ resid R St M := by
    rw [List.pairwise_iff_forall_sublist]
    intro a b hs
    exact ⟨List.pairwise_iff_forall_sublist.mp hn hs, hs.subset (.head _), hs.subset (.tail _ (.head _))⟩
  refine this.imp fun {a b} ⟨q, ha, hb⟩ e => q ?_
  have := fm_inj e
  rw [resid_lt h ha, resid_lt h hb] at this
  exact this
theorem ringT_range {R : Int} (h : 0 < R) {St M : List Int} {f x : Int} (hx : x ∈ ringT R St M f) : 0 ≤ x ∧ x < R := by
  obtain ⟨s, _, hx⟩ := List.mem_flatMap.mp hx
  obtain ⟨m, _, rfl⟩ := List.mem_map.mp hx
  exact fm _ _ h
theorem ringT_len (R : Int) (St M : List Int) (f : Int) : (ringT R St M f).length = St.length * M.length := by
  unfold ringT
  induction St with
  | nil => simp
  | cons s St ih => rw [List.flatMap_cons, List.length_append, ih]; unfold spots; rw [List.length_map, List.length_cons, Nat.succ_mul]; (first | lia | omega)
noncomputable def begs (R : Int) (St : List Int) (f : Int) (l : Nat) : List Int := (List.range l).flatMap fun i => St.map fun s => f + R * (i : Nat) + s
theorem begs_spots (R : Int) (St M : List Int) (f : Int) (l : Nat) : (begs R St f l).flatMap (spots R M) = (List.range l).flatMap fun _ => ringT R St M f := by
  unfold begs
  rw [List.flatMap_assoc]
  congr 1
  funext i
  unfold ringT
  rw [List.flatMap_map]
  congr 1
  funext s
  rw [show f + R * (i : Nat) + s = (f + s) + R * (i : Nat) by (first | lia | omega), spots_mul]
theorem sum_const {α : Type} (c : Nat) : ∀ L : List α, (L.map fun _ => c).sum = L.length * c
  | [] => by simp
  | x :: L => by rw [List.map_cons, List.sum_cons, sum_const c L, List.length_cons, Nat.succ_mul]; (first | lia | omega)
theorem begs_len (R : Int) (St : List Int) (f : Int) (l : Nat) : (begs R St f l).length = l * St.length := by
  unfold begs
  rw [List.length_flatMap]
  simp only [List.length_map]
  rw [sum_const, List.length_range]
theorem count_laps (x : Int) (T : List Int) (l : Nat) : ((List.range l).flatMap fun _ => T).count x = l * T.count x := by
  rw [List.count_flatMap]
  simp only [Function.comp_def]
  rw [sum_const, List.length_range]
theorem ring_full {R : Int} (h : 0 < R) {T : List Int} (hn : T.Nodup) (hr : ∀ x ∈ T, 0 ≤ x ∧ x < R) (hl : ((T.length : Nat) : Int) = R) (x : Int) (h0 : 0 ≤ x) (h1 : x < R) : x ∈ T := by
  apply Classical.byContradiction
  intro hx
  have hc : (x :: T).Nodup := List.nodup_cons.mpr ⟨hx, hn⟩
  have := hc.length_le_of_subset (l₂ := (List.range R.toNat).map fun i => ((i : Nat) : Int)) fun y hy => by
    have : 0 ≤ y ∧ y < R := by
      rcases List.mem_cons.mp hy with rfl | hy
      · exact ⟨h0, h1⟩
      · exact hr y hy
    exact List.mem_map.mpr ⟨y.toNat, List.mem_range.mpr (by (first | lia | omega)), by (first | lia | omega)⟩
  rw [List.length_map, List.length_range, List.length_cons] at this
  (first | lia | omega)
theorem ring_free {R : Int} (h : 0 < R) {T : List Int} (hl : ((T.length : Nat) : Int) < R) : ∃ x : Nat, (x : Int) < R ∧ (x : Int) ∉ T := by
  apply Classical.byContradiction
  intro hx
  have hn : ((List.range R.toNat).map fun i => ((i : Nat) : Int)).Nodup := by
    rw [List.Nodup, List.pairwise_map]
    exact List.nodup_range.imp fun q e => q (by (first | lia | omega))
  have := hn.length_le_of_subset (l₂ := T) fun y hy => by
    obtain ⟨i, hi, rfl⟩ := List.mem_map.mp hy
    rw [List.mem_range] at hi
    apply Classical.byContradiction
    intro q
    exact hx ⟨i, by (first | lia | omega), q⟩
  rw [List.length_map, List.length_range] at this
  (first | lia | omega)
end Mine
end
section
open PySem PySem.Calls PyProof.Rows
namespace Mine
theorem allM2 : allM.all chk2 = true := by
  rw [show allM = allM.take 20 ++ ((allM.drop 20).take 6 ++ ((allM.drop 26).take 6 ++ ((allM.drop 32).take 6 ++ ((allM.drop 38).take 6 ++ ((allM.drop 44).take 6 ++ ((allM.drop 50).take 6 ++ ((allM.drop 56).take 6 ++ (allM.drop 62).take 6))))))) from rfl]
  simp only [List.all_append, all2a, all2b, all2c, all2d, all2e, all2f, all2g, all2h, all2i, Bool.and_self]
theorem all1 {m e : Nat} (hm : m < 3) (he : e < 4) : (allSz m).all (chk1 m e) = true := by
  match m, hm with
  | 0, _ => match e, he with
    | 0, _ => exact all1_00
    | 1, _ => exact all1_01
    | 2, _ => exact all1_02
    | 3, _ => exact all1_03
  | 1, _ => match e, he with
    | 0, _ => exact all1_10
    | 1, _ => exact all1_11
    | 2, _ => exact all1_12
    | 3, _ => exact all1_13
  | 2, _ => match e, he with
    | 0, _ => exact all1_20
    | 1, _ => exact all1_21
    | 2, _ => exact all1_22
    | 3, _ => exact all1_23
structure Told (m e : Nat) (sz M : List Int) : Prop where
  szl : sz.length ≤ 100
  mem : M ∈ allM
  told : ∀ Q : D → Prop, Q (ti M) → XN fs1 3 4 [ti (sz ++ endL e), .int (3 + m)] Q
  sums : ∀ Q : D → Prop, Q (ti M) → XN fs1 3 5 [ti sz, .bool ((endL e).any fun x => x == 0), .int (3 + m)] Q
  ref : ∀ Q : D → Prop, Q (.bool true) → XN fs1 3 6 [ti (sz ++ endL e)] Q
theorem told_ok {m e : Nat} {sz : List Int} (hl : sz.length ≤ 100) (h : chk1 m e sz = true) : ∃ M, Told m e sz M := by
  unfold chk1 at h
  cases h1 : iL (rN fs1 3 4 [ti (sz ++ endL e), .int (3 + m)]) with
  | none => rw [h1] at h; cases h
  | some M =>
    rw [h1] at h
    cases h2 : iL (rN fs1 3 5 [ti sz, .bool ((endL e).any fun x => x == 0), .int (3 + m)]) with
    | none => rw [h2] at h; simp at h
    | some M' =>
      rw [h2] at h
      cases h3 : bL (rN fs1 3 6 [ti (sz ++ endL e)]) with
      | none => rw [h3] at h; simp at h
      | some b =>
        rw [h3] at h
        simp only [Bool.and_eq_true, decide_eq_true_eq, List.contains_iff_mem] at h
        obtain ⟨⟨rfl, rfl⟩, hm⟩ := h
        exact ⟨M, hl, hm, rN_ok _ _ _ _ _ (iL_ok h1), rN_ok _ _ _ _ _ (iL_ok h2), rN_ok _ _ _ _ _ (bL_ok h3)⟩
structure GeoOk (M P St : List Int) (cv : Bool) (la : Int) : Prop where
  pow : ∀ Q : D → Prop, Q (ti P) → XN fs1 3 7 [ti M, .int (primeOf M)] Q
  stp : ∀ Q : D → Prop, Q (ti St) → XN fs1 3 8 [ti P, .int (primeOf M)] Q
  cov : ∀ Q : D → Prop, Q (.bool cv) → XN fs1 3 9 [ti M] Q
  P0 : ∃ i is, P = i :: is
  R0 : 0 < ringOf M P
  R1 : ringOf M P ≤ 25
  nd : (resid (ringOf M P) St M).Nodup
  sl : St.length ≤ 25
  s0 : ∃ s ss, St = s :: ss
  c1 : cv = true → ((St.length * M.length : Nat) : Int) = ringOf M P
  c0 : cv = false → ((St.length * M.length : Nat) : Int) < ringOf M P
  p0 : 0 ≤ maxP P + 1
  p1 : maxP P + 1 ≤ 1000000
  la : ∃ j, idx M.length (-1) = some j ∧ M[j]? = some la
  m2 : 2 ≤ M.length
  m5 : M.length ≤ 5
theorem geo_ok {M : List Int} (hM : M ∈ allM) : ∃ P St cv la, GeoOk M P St cv la := by
  have h := List.all_eq_true.mp allM2 M hM
  unfold chk2 at h
  cases hg : geoOf M with
  | none => rw [hg] at h; cases h
  | some g =>
    rw [hg] at h
    obtain ⟨P, St, cv⟩ := g
    unfold geoOf at hg
    cases h1 : iL (rN fs1 3 7 [ti M, .int (primeOf M)]) with
    | none => rw [h1] at hg; cases hg
    | some P' =>
      rw [h1] at hg
      dsimp only at hg
      cases h2 : iL (rN fs1 3 8 [ti P', .int (primeOf M)]) with
      | none => rw [h2] at hg; cases hg
      | some St' =>
        rw [h2] at hg
        dsimp only at hg
        cases h3 : bL (rN fs1 3 9 [ti M]) with
        | none => rw [h3] at hg; cases hg
        | some cv' =>
          rw [h3] at hg
          cases hg
          simp only [Bool.and_eq_true, decide_eq_true_eq, Bool.not_eq_true', Nat.ble_eq] at h
          obtain ⟨⟨⟨⟨⟨⟨⟨⟨⟨⟨⟨a1, a2⟩, a3⟩, a4⟩, a5⟩, a6⟩, a7⟩, a8⟩, a9⟩, a10⟩, a11⟩, a12⟩ := h
          refine ⟨P, St, cv, M.getLastD 0, rN_ok _ _ _ _ _ (iL_ok h1), rN_ok _ _ _ _ _ (iL_ok h2), rN_ok _ _ _ _ _ (bL_ok h3), ?_, a2, a3, a4, a5, ?_, ?_, ?_, a8, a9, ?_, a11, a12⟩
          · cases P with
            | nil => cases a1
            | cons i is => exact ⟨i, is, rfl⟩
          · cases St with
            | nil => cases a6
            | cons i is => exact ⟨i, is, rfl⟩
          · rintro rfl; simpa using a7
          · rintro rfl; simpa using a7
          · unfold lastOk at a10
            cases hj : idx M.length (-1) with
            | none => rw [hj] at a10; cases a10
            | some j => rw [hj] at a10; exact ⟨j, rfl, by simpa using a10⟩
theorem eqvs_ints : ∀ l : List Int, eqvs (l.map .int) (l.map .int) = true
  | [] => rfl
  | i :: l => by rw [List.map_cons, eqvs_cons, eqvs_ints l, eqv_int]; simp
theorem all2_ints {f : D → D → Bool} (hf : ∀ i j : Int, f (.int i) (.int j) = true) : ∀ l l' : List Int, all2 f (l.map .int) (l'.map .int) = true
  | [], _ => rfl
  | i :: l, [] => rfl
  | i :: l, j :: l' => by rw [List.map_cons, List.map_cons, all2_cons, hf, all2_ints hf l l']; rfl
theorem eqv_ti (M : List Int) : eqv (ti M) (ti M) = true := eqvs_ints M
theorem eqOk_ti (M M' : List Int) : eqOk (ti M) (ti M') = true := all2_ints (f := eqP 3) (fun _ _ => rfl) M M'
theorem end_any (e : Nat) : ((endL e).map D.int).any (fun y => eqv y (.int 0)) = (endL e).any fun x => x == 0 := by
  rw [List.any_map]; rfl
theorem end_all (e : Nat) : (((endL e).map D.int).all fun y => eqP 4 y (.int 0)) = true := by
  rw [List.all_map]; exact List.all_eq_true.mpr fun _ _ => rfl
theorem end_sub {e : Nat} (he : e < 4) : ((idx 4 (e : Int)).bind fun j => [D.lst [], .lst [.int 0], .lst [.int 127, .int 1], .lst [.int 0, .int 2]][j]?) = some (ti (endL e)) := by
  match e, he with
  | 0, _ => rfl
  | 1, _ => rfl
  | 2, _ => rfl
  | 3, _ => rfl
theorem prime_sub {M : List Int} (h2 : 2 ≤ M.length) (h5 : M.length ≤ 5) : ((idx 6 ((M.length : Nat) : Int)).bind fun j => [D.int 2, .int 2, .int 2, .int 3, .int 2, .int 5][j]?) = some (.int (primeOf M)) := by
  unfold primeOf
  generalize M.length = n at *
  match n, h2, h5 with
  | 2, _, _ => rfl
  | 3, _, _ => rfl
  | 4, _, _ => rfl
  | 5, _, _ => rfl
end Mine
end
section
open PySem PySem.Calls PyProof.Rows
set_option maxHeartbeats 1000000
namespace Mine
noncomputable def lawS (k : Nat) : List S := b1_law.drop k
theorem mod_nat (x : Int) (k : Nat) (h : 0 < k) : ∃ m : Nat, m < k ∧ x.fmod (k : Int) = (m : Int) := by
  obtain ⟨h1, h2⟩ := fm x (k : Int) (by (first | lia | omega))
  exact ⟨(x.fmod k).toNat, by (first | lia | omega), by (first | lia | omega)⟩
theorem law1_head {X : Fns} (is : List Int) (a b c d e f : Int) : ∃ (m l q : Nat) (sz : List Int), m < 3 ∧ 1 ≤ l ∧ l ≤ 3 ∧ q < 4 ∧ sz ∈ allSz m ∧ ∀ Q : Rho → Fl → Prop,
    exSs X (lawS 7) [some (.sh (ti is)), some (.sh (.lst [.int a, .int b, .int c, .int d, .int e, .int f])), some (.sh (.int (3 + m))), some (.sh (.int (l : Nat))), some (.sh (ti sz)), some (.sh (ti (endL q))), some (.sh (ti (sz ++ endL q))), none, none, none, none, none, none, none, none, none, none, none, none, none] Q →
    exSs X (lawS 1) [some (.sh (ti is)), some (.sh (.lst [.int a, .int b, .int c, .int d, .int e, .int f])), none, none, none, none, none, none, none, none, none, none, none, none, none, none, none, none, none, none] Q := by
  obtain ⟨m, hm, em⟩ := mod_nat a 3 (by decide)
  obtain ⟨l, hl, el⟩ := mod_nat (a.fdiv 3) 3 (by decide)
  obtain ⟨n, hn, en⟩ := mod_nat f 4 (by decide)
  obtain ⟨q, hq, eq⟩ := mod_nat (f.fdiv 4) 4 (by decide)
  have hw : (7 : Int) - (3 + m) = ((4 - m : Nat) : Int) := by (first | lia | omega)
  let g : Int → Int := fun x => 1 + x.fmod (7 - (3 + m))
  have hg : ∀ x, 1 ≤ g x ∧ g x ≤ ((4 - m : Nat) : Int) := fun x => by
    have := fm x (7 - (3 + m)) (by (first | lia | omega))
    show 1 ≤ 1 + x.fmod _ ∧ 1 + x.fmod _ ≤ _
    (first | lia | omega)
  refine ⟨m, l + 1, q, ([b, c, d, e].map g).take (n + 1), hm, by (first | lia | omega), by (first | lia | omega), hq, ?_, fun Q h => ?_⟩
  · have key : ([b, c, d, e].map g).take (n + 1) ∈ listsOf (4 - m) (([b, c, d, e].map g).take (n + 1)).length := mem_listsOf fun x hx => by
      obtain ⟨y, _, rfl⟩ := List.mem_map.mp (List.mem_of_mem_take hx)
      exact hg y
    unfold allSz
    match n, hn with
    | 0, _ => exact List.mem_append_left _ (List.mem_append_left _ (List.mem_append_left _ key))
    | 1, _ => exact List.mem_append_left _ (List.mem_append_left _ (List.mem_append_right _ key))
    | 2, _ => exact List.mem_append_left _ (List.mem_append_right _ key)
    | 3, _ => exact List.mem_append_right _ key
  show exSs _ (_ :: lawS 2) _ _
  simp only [↓evE_int, ↓evE_varR, ↓evE_bin, ↓evE_sub, ↓exS_assignR, ↓exSs_cons, List.length_cons, List.length_nil, ↓subW_l, Nat.reduceAdd]
  refine ⟨_, rfl, ?_⟩
  simp only [ne_eq, Int.reduceEq, not_false_eq_true, ↓binW_addI, ↓binW_mod, true_and]
  rw [show a.fmod 3 = (m : Int) from em]
  show exSs _ (_ :: lawS 3) _ _
  simp only [↓evE_int, ↓evE_varR, ↓evE_bin, ↓evE_sub, ↓exS_assignR, ↓exSs_cons, List.length_cons, List.length_nil, ↓subW_l, Nat.reduceAdd]
  refine ⟨_, rfl, ?_⟩
  simp only [ne_eq, Int.reduceEq, not_false_eq_true, ↓binW_addI, ↓binW_fdiv, ↓binW_mod, true_and]
  refine ⟨by decide, ?_⟩
  rw [show (a.fdiv 3).fmod 3 = (l : Int) from el, show 1 + (l : Int) = ((l + 1 : Nat) : Int) by (first | lia | omega)]
  show exSs _ (_ :: lawS 4) _ _
  simp only [fits, and_true, Int.reduceLE, ↓evE_int, ↓evE_varR, ↓evE_bin, ↓evE_slice, ↓evE_lcomp, ↓evI_ex, ↓evIfs_nil, ↓evGs_nil, ↓exS_assignR, ↓exSs_cons, ↓asgW_nmR, rho_atR, List.length_cons, List.length_nil, ↓binW_sub, capture, List.map_cons, List.map_nil, Nat.reduceAdd, true_and, Nat.reduceLeDiff, seqOf, sliceW_cut]
  refine ⟨_, rfl, ?_⟩
  refine loop_fm D.int (fun x => [.int (g x)]) [b, c, d, e] [] (fun x hx acc C ha hC => ?_) (fun x => Nat.le_refl _) (by simp) ?_
  · simp only [fits, ne_eq, ↓binW_addI, ↓binW_mod, Nat.reduceLeDiff, pushW_l]
    exact ⟨by (first | lia | omega), by (first | lia | omega), hC⟩
  rw [show D.lst ([] ++ [b, c, d, e].flatMap fun x => [D.int (g x)]) = ti ([b, c, d, e].map g) from rfl]
  generalize hs : [b, c, d, e].map g = s4 at h
  have hs4 : s4.length ≤ 4 := by rw [← hs]; exact Nat.le_refl _
  show exSs _ (_ :: lawS 5) _ _
  simp only [↓evE_int, ↓evE_none, ↓evE_varR, ↓evE_bin, ↓evE_sub, ↓evE_slice, ↓exS_assignR, ↓exSs_cons, List.length_cons, List.length_nil, ↓subW_l, Nat.reduceAdd]
  refine ⟨_, rfl, ?_⟩
  simp only [fits, ne_eq, Int.reduceEq, not_false_eq_true, ↓binW_addI, ↓binW_mod, true_and, sliceW_to, ti]
  rw [show f.fmod 4 = (n : Int) from en, show (1 + (n : Int)).toNat = n + 1 by (first | lia | omega), ← List.map_take]
  refine ⟨⟨by rw [List.length_map]; (first | lia | omega), by (first | lia | omega)⟩, ?_⟩
  generalize hsz : s4.take (n + 1) = sz at h
  have hszl : sz.length ≤ 4 := by rw [← hsz, List.length_take]; (first | lia | omega)
  show exSs _ (_ :: lawS 6) _ _
  simp only [fits, ↓evE_int, ↓evE_varR, ↓evE_lst, ↓evE_bin, ↓evE_sub, ↓evEs_nil, ↓evEs_cons, ↓exS_assignR, ↓exSs_cons, List.length_cons, List.length_nil, ↓subW_l, Nat.reduceAdd, true_and, Nat.reduceLeDiff]
  refine ⟨_, rfl, ?_⟩
  simp only [ne_eq, Int.reduceEq, not_false_eq_true, List.length_cons, List.length_nil, ↓binW_fdiv, ↓binW_mod, ↓subW_l, Nat.reduceAdd, true_and]
  rw [show (f.fdiv 4).fmod 4 = (q : Int) from eq]
  refine ⟨by decide, _, end_sub hq, ?_⟩
  show exSs _ (_ :: lawS 7) _ _
  simp only [fits, ↓evE_varR, ↓evE_bin, ↓exS_assignR, ↓exSs_cons, ↓binW_addL, ti]
  rw [← List.map_append]
  refine ⟨?_, h⟩
  rw [List.length_map, List.length_map]
  have : (endL q).length ≤ 2 := by
    match q, hq with
    | 0, _ => decide
    | 1, _ => decide
    | 2, _ => decide
    | 3, _ => decide
  (first | lia | omega)
end Mine
end
section
open PySem PySem.Calls PyProof.Rows
set_option maxHeartbeats 1000000
namespace Mine
theorem loop_fl {α : Type} {f : D → D → (D → Prop) → Prop} (enc : α → D) (h : α → List D) (w : Nat) {Q : D → Prop} : ∀ (xs : List α) (acc : List D), (∀ x ∈ xs, ∀ (acc : List D) (C : D → Prop), acc.length + w ≤ 1000 → C (.lst (acc ++ h x)) → f (enc x) (.lst acc) C) → (∀ x, (h x).length = w) → acc.length + xs.length * w ≤ 1000 →
    Q (.lst (acc ++ xs.flatMap h)) → loopW f (xs.map enc) (.lst acc) Q
  | [], acc, _, _, _, q => by simpa [loopW_nil, loopW_cons] using q
  | x :: xs, acc, hf, hh, hl, q => by
    have h1 := hh x
    rw [List.length_cons, Nat.succ_mul] at hl
    simp only [List.map_cons, loopW_cons]
    refine hf x (.head _) acc _ (by (first | lia | omega)) ?_
    refine loop_fl enc h w xs (acc ++ h x) (fun y hy => hf y (.tail _ hy)) hh (by rw [List.length_append, h1]; (first | lia | omega)) ?_
    simpa [List.flatMap_cons] using q
theorem rangeL_range : ∀ (n : Nat) (a : Int), rangeL a 1 n = (List.range n).map fun i => D.int (a + (i : Nat))
  | 0, a => rfl
  | n + 1, a => by
    rw [rangeL, rangeL_range n (a + 1), List.range_succ_eq_map, List.map_cons, List.map_map]
    congr 1
    · simp
    · apply List.map_congr_left
      intro i _
      show D.int _ = D.int _
      congr 1
      show a + 1 + (i : Int) = a + ((i + 1 : Nat) : Int)
      (first | lia | omega)
theorem range_n (n : Nat) : rangeL 0 1 n = (List.range n).map fun i => D.int (i : Nat) := by
  rw [rangeL_range]; simp
theorem end_len : ∀ q : Nat, (endL q).length ≤ 2
  | 0 => by decide
  | 1 => by decide
  | 2 => by decide
  | _ + 3 => Nat.le_refl _
noncomputable def pre (is : List Int) (dr : D) (m : Nat) (l : Nat) (sz en row : List Int) (r : Rho) : Rho := some (.sh (ti is)) :: some (.sh dr) :: some (.sh (.int (3 + m))) :: some (.sh (.int (l : Nat))) :: some (.sh (ti sz)) :: some (.sh (ti en)) :: some (.sh (ti row)) :: r
theorem law1_mid {is : List Int} (h63 : is.length ≤ 63) {dr : D} {m l q : Nat} {sz M P St : List Int} {cv : Bool} {la : Int} (hl : 1 ≤ l) (hl3 : l ≤ 3) (T : Told m q sz M) (G : GeoOk M P St cv la) {Q : Rho → Fl → Prop}
    (h : exSs (XN fs1 3) (lawS 14) (pre is dr m l sz (endL q) (sz ++ endL q) [some (.sh (ti M)), some (.sh (.int (primeOf M))), some (.sh (ti P)), some (.sh (ti St)), some (.sh (.int (ringOf M P))), some (.sh (.int (is.take 60).sum)), none, none, none, none, none, none, none]) Q) :
    exSs (XN fs1 3) (lawS 7) (pre is dr m l sz (endL q) (sz ++ endL q) [none, none, none, none, none, none, none, none, none, none, none, none, none]) Q := by
  show exSs _ (_ :: lawS 8) _ _
  simp only [pre, ↓evE_varR, ↓evE_call, ↓evEs_nil, ↓evEs_cons, ↓exS_assignR, ↓exSs_cons]
  refine T.told _ ?_
  show exSs _ (_ :: lawS 9) _ _
  simp only [↓evE_int, ↓evE_bool, ↓evE_varR, ↓evE_bin, ↓evE_cmp, ↓evE_call, ↓evEs_nil, ↓evEs_cons, ↓evC_cmp, ↓exS_ret, ↓exS_zif, ↓exSs_cons]
  refine ⟨end_all q, ?_⟩
  rw [end_any]
  refine T.sums _ ?_
  simp only [↓cmpW_ne]
  refine ⟨eqOk_ti M M, ?_⟩
  rw [eqv_ti]
  simp only [fits, ↓binW_addL, Bool.not_true, ti]
  rw [← List.map_append]
  refine ⟨?_, eqOk_ti _ _, ?_⟩
  · rw [List.length_map, List.length_map]
    have := end_len q
    have := T.szl
    (first | lia | omega)
  rw [show eqv (D.lst ((sz ++ endL q).map D.int)) (D.lst ((sz ++ endL q).map D.int)) = true from eqv_ti _]
  simp only [Bool.not_true]
  refine T.ref _ ?_
  simp only [↓truthW_b]
  show exSs _ (_ :: lawS 10) _ _
  simp only [fits, ↓evE_int, ↓evE_varR, ↓evE_lst, ↓evE_sub, ↓evE_bi, ↓evEs_nil, ↓evEs_cons, ↓exS_assignR, ↓exSs_cons, List.length_cons, List.length_nil, ↓biW_lenL, ↓subW_l, Nat.reduceAdd, true_and, Nat.reduceLeDiff]
  have hpr : ((idx 6 (((M.map D.int).length : Nat) : Int)).bind fun j => [D.int 2, .int 2, .int 2, .int 3, .int 2, .int 5][j]?) = some (.int (primeOf M)) := by rw [List.length_map]; exact prime_sub G.m2 G.m5
  refine ⟨by rw [List.length_map]; exact Nat.le_trans G.m5 (by decide), _, hpr, ?_⟩
  show exSs _ (_ :: lawS 11) _ _
  simp only [↓evE_varR, ↓evE_call, ↓evEs_nil, ↓evEs_cons, ↓exS_assignR, ↓exSs_cons]
  refine G.pow _ ?_
  show exSs _ (_ :: lawS 12) _ _
  simp only [↓evE_varR, ↓evE_call, ↓evEs_nil, ↓evEs_cons, ↓exS_assignR, ↓exSs_cons]
  refine G.stp _ ?_
  show exSs _ (_ :: lawS 13) _ _
  simp only [↓evE_int, ↓evE_varR, ↓evE_bin, ↓evE_bi, ↓evEs_nil, ↓evEs_cons, ↓exS_assignR, ↓exSs_cons, ↓binW_addI, ↓binW_pow, ↓biW_max1, ti]
  obtain ⟨i, rest, rfl⟩ := G.P0
  refine ⟨i, rest, ints_map _, ?_⟩
  have p0 := G.p0
  have p1 := G.p1
  refine ⟨⟨p0, p1, ?_⟩, ?_⟩
  · unfold smallI primeOf; split <;> decide
  show exSs _ (_ :: lawS 14) _ _
  simp only [fits, and_true, Int.reduceLE, ↓evE_int, ↓evE_none, ↓evE_varR, ↓evE_slice, ↓evE_bi, ↓evEs_nil, ↓evEs_cons, ↓exS_assignR, ↓exSs_cons, ↓biW_sum, List.map_cons, sliceW_to]
  refine ⟨by rw [List.length_map]; (first | lia | omega), ?_⟩
  rw [← List.map_take]
  refine ⟨_, ints_map _, by rw [List.length_take]; (first | lia | omega), ?_⟩
  exact h
end Mine
end
section
open PySem PySem.Calls PyProof.Rows
set_option maxHeartbeats 1000000
namespace Mine
theorem GeoOk.tile {M P St : List Int} {cv : Bool} {la : Int} (G : GeoOk M P St cv la) : Tile M (ringOf M P) la := ⟨G.R0, G.m5, G.la⟩
theorem GeoOk.spots {M P St : List Int} {cv : Bool} {la : Int} (G : GeoOk M P St cv la) (b : Int) : (spots (ringOf M P) M b).Nodup := by
  obtain ⟨s, ss, rfl⟩ := G.s0
  have h := G.nd
  have : (Mine.spots (ringOf M P) M s).Nodup := by
    refine List.Nodup.sublist ?_ h
    unfold resid
    rw [List.flatMap_cons]
    exact List.sublist_append_left _ _
  exact spots_shift this b
theorem begs_ti (R : Int) (St : List Int) (f : Int) (l : Nat) : D.lst ([] ++ (List.range l).flatMap fun i => St.map fun s => D.int (f + R * (i : Nat) + s)) = ti (begs R St f l) := by
  unfold ti begs
  rw [List.nil_append, List.map_flatMap]
  simp only [List.map_map]
  rfl
theorem law1_book {is : List Int} {dr : D} {m l : Nat} {sz en row M P St : List Int} {cv : Bool} {la f p : Int} (hl3 : l ≤ 3) (G : GeoOk M P St cv la) {Q : Rho → Fl → Prop}
    (h : ∀ e : Ent, Book M (ringOf M P) la e (begs (ringOf M P) St f l) → exSs (XN fs1 3) (lawS 16) (pre is dr m l sz en row [some (.sh (ti M)), some (.sh (.int p)), some (.sh (ti P)), some (.sh (ti St)), some (.sh (.int (ringOf M P))), some (.sh (.int f)), some (.ol ((begs (ringOf M P) St f l).map .int)), some (.sh e.d), none, none, none, none, none]) Q) :
    exSs (XN fs1 3) (lawS 14) (pre is dr m l sz en row [some (.sh (ti M)), some (.sh (.int p)), some (.sh (ti P)), some (.sh (ti St)), some (.sh (.int (ringOf M P))), some (.sh (.int f)), none, none, none, none, none, none, none]) Q := by
  have R0 := G.R0
  have R1 := G.R1
  have sl := G.sl
  have m5 := G.m5
  generalize hR : ringOf M P = R at *
  show exSs _ (_ :: lawS 15) _ _
  simp only [pre, ↓evE_varR, ↓evE_bin, ↓evE_lcomp, ↓evEs_nil, ↓evEs_cons, ↓evI_ex, ↓evI_range, ↓evIfs_nil, ↓evGs_nil, ↓evGs_mk, ↓exS_assignOR, ↓exSs_cons, ↓asgW_nmR, rho_atR, List.length_cons, List.length_nil, capture, List.map_cons, List.map_nil, Nat.reduceAdd, true_and, Nat.reduceLT, rangeW_1, Int.toNat_natCast, range_n]
  refine ⟨⟨by (first | lia | omega), by (first | lia | omega)⟩, ?_⟩
  have hlw : l * St.length ≤ 75 := Nat.le_trans (Nat.mul_le_mul hl3 sl) (by decide)
  refine loop_fl (fun i : Nat => D.int (i : Nat)) (fun i => St.map fun s => D.int (f + R * (i : Nat) + s)) St.length (List.range l) [] (fun i hi acc C ha hC => ?_) (fun i => by rw [List.length_map]) (by rw [List.length_range]; simp; (first | lia | omega)) ?_
  · simp only [↓binW_addI, ↓binW_mulI, seqOf, ti]
    refine ⟨_, rfl, ?_⟩
    refine loop_fl D.int (fun s => [D.int (f + R * (i : Nat) + s)]) 1 St acc (fun s hs acc C ha hC => ?_) (fun s => rfl) (by (first | lia | omega)) ?_
    · simp only [fits, ↓binW_addI, Nat.reduceLeDiff, pushW_l]
      exact ⟨.inl (by unfold smallI; (first | lia | omega)), by (first | lia | omega), hC⟩
    · rw [flatMap_one]; exact hC
  rw [begs_ti]
  simp only [↓toLV_lst, ti]
  refine ⟨_, rfl, ?_⟩
  show exSs _ (_ :: lawS 16) _ _
  simp only [fits, ↓evE_int, ↓evE_varR, ↓evE_tup, ↓evE_dct, ↓evE_calloR, ↓evEs_nil, ↓evEs_cons, ↓evKV_nil, ↓exS_assignR, ↓exSs_cons, List.length_cons, List.length_nil, Nat.reduceAdd, true_and, Nat.reduceLeDiff]
  have hbl := begs_len R St f l
  refine laid_spec (n := 0) (hR ▸ G.tile) (begs R St f l) ⟨0, 0, 0, 0, []⟩ (L := []) (fun b _ => hR ▸ G.spots b) Cnt.nil (by rw [hbl]; simp; (first | lia | omega)) ?_
  refine ⟨noLst_ent _, ?_⟩
  exact h _ (by simpa using (Book.nil M R la).add (begs R St f l))
end Mine
end
section
open PySem PySem.Calls PyProof.Rows
set_option maxHeartbeats 1000000
namespace Mine
theorem flat_len (R : Int) (M bs : List Int) : (bs.flatMap (spots R M)).length = bs.length * M.length := by
  induction bs with
  | nil => simp
  | cons b bs ih => rw [List.flatMap_cons, List.length_append, ih]; unfold spots; rw [List.length_map, List.length_cons, Nat.succ_mul]; (first | lia | omega)
theorem law1_end {is : List Int} {dr : D} {m l : Nat} {sz en row M P St : List Int} {R la f p : Int} (T : Tile M R la) {bs : List Int} (hb : bs.length ≤ 80) {e : Ent} (B : Book M R la e bs) {c : KI} {L' : List Int} (nb : (c.map (·.1)).Nodup) (hc : ∀ k, kget k c = cnt L' k)
    (hL : ∀ x, (bs.flatMap (spots R M)).count x = L'.count x) {x16 x17 x18 : Option LV} :
    exSs (XN fs1 3) (lawS 17) (pre is dr m l sz en row [some (.sh (ti M)), some (.sh (.int p)), some (.sh (ti P)), some (.sh (ti St)), some (.sh (.int R)), some (.sh (.int f)), some (.ol (bs.map .int)), some (.sh e.d), some (.od (dKI c)), x16, x17, x18, none]) (retW fun d => d = .bool true) := by
  have m5 := T.len
  show exSs _ (_ :: _ :: _ :: lawS 20) _ _
  simp only [pre, ↓evE_varR, ↓evE_bi, ↓evEs_nil, ↓evEs_cons, ↓exS_assignR, ↓exS_freezeR, ↓exSs_cons, ↓froz_ol, ↓froz_od, ti]
  refine ⟨_, rfl, _, rfl, ?_⟩
  simp only [fits, ↓biW_lenL]
  rw [List.length_map]
  refine ⟨by (first | lia | omega), ?_⟩
  show exSs _ (_ :: lawS 21) _ _
  simp only [fits, retW, ↓evE_int, ↓evE_bool, ↓evE_varR, ↓evE_tup, ↓evE_bin, ↓evE_neg, ↓evE_sub, ↓evE_bi, ↓evEs_nil, ↓evEs_cons, ↓evC_cmp, ↓exS_ife, ↓exS_ret, ↓exSs_nil, ↓exSs_cons, List.length_cons, List.length_nil, ↓binW_mulI, ↓biW_sum, ↓biW_lenL, ↓subW_l, ↓onI_i, Nat.reduceAdd, true_and, Nat.reduceLeDiff]
  rw [List.length_map]
  refine ⟨by (first | lia | omega), .inl (by unfold smallI; (first | lia | omega)), bs, ints_map bs, by (first | lia | omega), bs, ints_map bs, by (first | lia | omega), ?_⟩
  have hla := T.last
  rw [List.length_map] at hla
  refine ⟨_, hla, ?_⟩
  simp only [↓binW_addI, ↓binW_mulI]
  refine ⟨.inl (by unfold smallI; (first | lia | omega)), ?_⟩
  obtain ⟨k1, k2, k3, k4, cs⟩ := B
  obtain ⟨e1, e2⟩ := cs.eqv nb hc hL
  have E1 : eqv e.d (D.tup [D.int ((bs.length : Nat) : Int), D.int (((bs.length : Nat) : Int) * ((M.length : Nat) : Int)), D.int bs.sum, D.int (bs.sum + ((bs.length : Nat) : Int) * la), D.dct (dKI c)]) = true := by
    unfold Ent.d
    rw [eqv_tup, k1, k2, k3, k4]
    simp only [eqvs_cons, eqvs_nil, eqv_int, e1, beq_self_eq_true, Bool.and_self]
  have E2 : eqOk e.d (D.tup [D.int ((bs.length : Nat) : Int), D.int (((bs.length : Nat) : Int) * ((M.length : Nat) : Int)), D.int bs.sum, D.int (bs.sum + ((bs.length : Nat) : Int) * la), D.dct (dKI c)]) = true := by
    unfold Ent.d
    rw [eqOk_tup]
    simp only [all2_cons, all2_nil, eqC_int, e2, Bool.and_self]
  rw [cmpW_ne, E1]
  refine ⟨E2, ?_⟩
  show exSs _ [_] _ _
  simp only [fits, retW, ↓evE_int, ↓evE_varR, ↓evE_bin, ↓evE_cmp, ↓evE_sub, ↓evE_call, ↓evE_bi, ↓evEs_nil, ↓evEs_cons, ↓exS_ret, ↓exSs_cons, List.length_cons, List.length_nil, ↓binW_mulI, ↓biW_lenL, ↓subW_t, Nat.reduceAdd, Ent.d]
  refine ⟨_, rfl, ?_⟩
  refine count_spec (n := 2) e.cs ?_
  rw [cs.sum, flat_len]
  rw [List.length_map]
  refine ⟨by (first | lia | omega), .inl (by unfold smallI; (first | lia | omega)), ?_⟩
  rw [cmpW_eq]
  refine ⟨rfl, ?_⟩
  rw [eqv_int]
  simp
end Mine
end
section
open PySem PySem.Calls PyProof.Rows
namespace Mine
noncomputable def vals (v : Int) (xs : List Int) : KI := xs.map fun x => (.int x, v)
theorem vals_append (v : Int) (a : List Int) (x : Int) (h : x ∉ a) : kset (.int x) (.int v) (dKI (vals v a)) = dKI (vals v (a ++ [x])) := by
  rw [kset_dKI, kput_new]
  · unfold vals; rw [List.map_append]; rfl
  · intro p hp q
    obtain ⟨y, hy, rfl⟩ := List.mem_map.mp hp
    injection q with q
    exact h (q ▸ hy)
theorem vals_len (v : Int) (a : List Int) : (dKI (vals v a)).length = a.length := by rw [dKI_length]; unfold vals; rw [List.length_map]
theorem loop_kv {α : Type} (enc : α → D) (k : α → Int) (v : Int) {f : D → D → (D → Prop) → Prop} {Q : D → Prop} : ∀ (xs : List α) (acc : List Int), (∀ x ∈ xs, ∀ (acc : List (K × D)) (C : D → Prop), acc.length ≤ 1000 → C (.dct (kset (.int (k x)) (.int v) acc)) → f (enc x) (.dct acc) C) → (acc ++ xs.map k).Nodup → acc.length + xs.length ≤ 1000 →
    Q (.dct (dKI (vals v (acc ++ xs.map k)))) → loopW f (xs.map enc) (.dct (dKI (vals v acc))) Q
  | [], acc, _, _, _, q => by rw [List.map_nil, List.append_nil] at q; exact q
  | x :: xs, acc, hf, hn, hl, q => by
    rw [List.map_cons, loopW_cons]
    rw [List.length_cons] at hl
    have hx : k x ∉ acc := fun hm => by
      rw [List.map_cons, List.nodup_append] at hn
      exact hn.2.2 _ hm _ (.head _) rfl
    refine hf x (.head _) _ _ (by rw [vals_len]; (first | lia | omega)) ?_
    rw [vals_append v acc (k x) hx]
    refine loop_kv enc k v xs (acc ++ [k x]) (fun y hy => hf y (.tail _ hy)) ?_ ?_ ?_
    · rw [List.append_assoc]; exact hn
    · rw [List.length_append, List.length_singleton]; (first | lia | omega)
    · rw [List.append_assoc]; exact q
theorem loop_kl {α : Type} (enc : α → D) (h : α → List Int) (w : Nat) (v : Int) {f : D → D → (D → Prop) → Prop} {Q : D → Prop} : ∀ (xs : List α) (acc : List Int), (∀ x ∈ xs, ∀ (acc : List Int) (C : D → Prop), acc.length + w ≤ 1000 → (acc ++ h x).Nodup → C (.dct (dKI (vals v (acc ++ h x)))) → f (enc x) (.dct (dKI (vals v acc))) C) → (∀ x, (h x).length = w) →
    (acc ++ xs.flatMap h).Nodup → acc.length + xs.length * w ≤ 1000 → Q (.dct (dKI (vals v (acc ++ xs.flatMap h)))) → loopW f (xs.map enc) (.dct (dKI (vals v acc))) Q
  | [], acc, _, _, _, _, q => by rw [List.flatMap_nil, List.append_nil] at q; exact q
  | x :: xs, acc, hf, hh, hn, hl, q => by
    rw [List.map_cons, loopW_cons]
    rw [List.length_cons, Nat.succ_mul] at hl
    rw [List.flatMap_cons, ← List.append_assoc] at hn q
    refine hf x (.head _) acc _ (by (first | lia | omega)) (hn.sublist (List.sublist_append_left _ _)) ?_
    exact loop_kl enc h w v xs (acc ++ h x) (fun y hy => hf y (.tail _ hy)) hh hn (by rw [List.length_append, hh]; (first | lia | omega)) q
theorem kget_vals (v : Int) (x : Int) : ∀ xs : List Int, kget (.int x) (vals v xs) = if x ∈ xs then some v else none
  | [] => rfl
  | y :: xs => by
    show (if K.int y = K.int x then some v else kget (.int x) (vals v xs)) = _
    rw [kget_vals v x xs]
    by_cases h : y = x
    · subst h; simp
    · rw [if_neg (fun q => h (by injection q))]
      by_cases h2 : x ∈ xs
      · rw [if_pos h2, if_pos (.tail _ h2)]
      · rw [if_neg h2, if_neg (fun q => by
          rcases List.mem_cons.mp q with q | q
          · exact h q.symm
          · exact h2 q)]
theorem kget_vals_str (v : Int) (s : Str) : ∀ xs : List Int, kget (.str s) (vals v xs) = none
  | [] => rfl
  | y :: xs => by
    show (if K.int y = K.str s then some v else kget (.str s) (vals v xs)) = _
    rw [if_neg (fun q => by cases q), kget_vals_str v s xs]
theorem flat_const_len (T : List Int) (l : Nat) : ((List.range l).flatMap fun _ => T).length = l * T.length := by
  rw [List.length_flatMap, sum_const, List.length_range]
theorem Cnt.vals {T : List Int} (hn : T.Nodup) {l : Nat} (hl : 1 ≤ l) : Cnt (vals (l : Nat) T) ((List.range l).flatMap fun _ => T) := by
  refine ⟨?_, fun k => ?_, ?_, ?_⟩
  · unfold Mine.vals
    rw [List.map_map, List.Nodup, List.pairwise_map]
    exact hn.imp fun q e => q (by injection e)
  · cases k with
    | str s => rw [kget_vals_str]; rfl
    | int x =>
      show _ = if ((List.range l).flatMap fun _ => T).count x = 0 then none else some _
      rw [kget_vals, count_laps, hn.count]
      by_cases h : x ∈ T
      · rw [if_pos h, if_pos h, Nat.mul_one, if_neg (by (first | lia | omega))]
      · rw [if_neg h, if_neg h]; simp
  · rw [flat_const_len]
    unfold Mine.vals
    rw [List.map_map]
    clear hn
    induction T with
    | nil => simp
    | cons t T ih => rw [List.map_cons, List.sum_cons, ih, List.length_cons, Nat.mul_succ]; show (l : Int) + _ = _; (first | lia | omega)
  · rw [flat_const_len]
    unfold Mine.vals
    rw [List.length_map]
    exact Nat.le_mul_of_pos_left _ hl
theorem nodup_range (n : Nat) : ((List.range n).map fun i => ((i : Nat) : Int)).Nodup := by
  rw [List.Nodup, List.pairwise_map]
  exact List.nodup_range.imp fun q e => q (by (first | lia | omega))
end Mine
end
section
open PySem PySem.Calls PyProof.Rows
set_option maxHeartbeats 1000000
namespace Mine
theorem law1_full {is : List Int} {dr : D} {m l : Nat} {sz en row M P St : List Int} {la f p : Int} (hl : 1 ≤ l) (hl3 : l ≤ 3) (G : GeoOk M P St true la) {e : Ent} (B : Book M (ringOf M P) la e (begs (ringOf M P) St f l)) :
    exSs (XN fs1 3) (lawS 16) (pre is dr m l sz en row [some (.sh (ti M)), some (.sh (.int p)), some (.sh (ti P)), some (.sh (ti St)), some (.sh (.int (ringOf M P))), some (.sh (.int f)), some (.ol ((begs (ringOf M P) St f l).map .int)), some (.sh e.d), none, none, none, none, none]) (retW fun d => d = .bool true) := by
  have R0 := G.R0
  have R1 := G.R1
  have sl := G.sl
  have m5 := G.m5
  have nd := ringT_nodup R0 G.nd f
  have hc1 := G.c1 rfl
  have hfull := ring_full R0 nd (fun x hx => ringT_range R0 hx) (by rw [ringT_len]; exact hc1)
  have hbl := begs_len (ringOf M P) St f l
  have hlw : l * St.length ≤ 75 := Nat.le_trans (Nat.mul_le_mul hl3 sl) (by decide)
  have T := G.tile
  generalize hR : ringOf M P = R at *
  show exSs _ (_ :: lawS 17) _ _
  simp only [pre, fits, retW, ↓evE_int, ↓evE_bool, ↓evE_none, ↓evE_varR, ↓evE_lst, ↓evE_bin, ↓evE_sub, ↓evE_slice, ↓evE_call, ↓evE_lcomp, ↓evE_dcomp, ↓evEs_nil, ↓evEs_cons, ↓evC_cmp, ↓evC_call, ↓evI_ex, ↓evI_range, ↓evIfs_nil, ↓evIfs_cons, ↓evGs_nil, ↓evGs_mk, ↓exS_assignR, ↓exS_assignOR, ↓exS_appendR, ↓exS_ife, ↓exS_fore, ↓exS_ret, ↓exSs_nil, ↓exSs_cons, ↓asgW_nmR, rho_atR, List.length_cons, List.length_nil, capture, List.map_cons, List.map_nil, Nat.reduceAdd, true_and, Nat.reduceLeDiff, Nat.reduceLT, ti]
  refine G.cov _ ?_
  simp only [↓truthW_b, rangeW_1, range_n]
  refine ⟨⟨by (first | lia | omega), by (first | lia | omega)⟩, ?_⟩
  refine loop_kv (fun i : Nat => D.int (i : Nat)) (fun i : Nat => (i : Int)) (l : Nat) (List.range R.toNat) [] (fun i hi acc C ha hC => ?_) (by rw [List.nil_append]; exact nodup_range _) (by rw [List.length_range]; simp; (first | lia | omega)) ?_
  · simp only [fits, Nat.reduceLeDiff, putW_d]
    exact ⟨_, rfl, by (first | lia | omega), hC⟩
  simp only [List.nil_append, ↓toLV_dct]
  refine ⟨_, rfl, ?_⟩
  have C := Cnt.vals (nodup_range R.toNat) hl
  refine law1_end T (by rw [hbl]; (first | lia | omega)) B C.nd C.at_ fun x => ?_
  rw [begs_spots, count_laps, count_laps, nd.count, (nodup_range R.toNat).count]
  congr 1
  have : x ∈ ringT R St M f ↔ x ∈ (List.range R.toNat).map fun i => ((i : Nat) : Int) := by
    constructor
    · intro h
      have := ringT_range R0 h
      exact List.mem_map.mpr ⟨x.toNat, List.mem_range.mpr (by (first | lia | omega)), by (first | lia | omega)⟩
    · intro h
      obtain ⟨i, hi, rfl⟩ := List.mem_map.mp h
      rw [List.mem_range] at hi
      exact hfull _ (by (first | lia | omega)) (by (first | lia | omega))
  by_cases h : x ∈ ringT R St M f
  · rw [if_pos h, if_pos (this.mp h)]
  · rw [if_neg h, if_neg (fun q => h (this.mpr q))]
end Mine
end
section
open PySem PySem.Calls PyProof.Rows
set_option maxHeartbeats 1000000
namespace Mine
noncomputable def ifS : S → List S
  | .ife _ _ b => b
  | _ => []
noncomputable def elseS (k : Nat) : List S := (ifS (b1_law.getD 16 .brk)).drop k
theorem more_step {n : Nat} {R fr mk : Int} (hR : 0 < R) {s0 s1 s2 s3 s4 s5 s6 s7 s8 s9 s10 s12 s13 s14 s19 : Option LV} {c : KI} (hl : c.length ≤ 900) {fs : List Int} {Q : Rho → Fl → Prop}
    (h : ∀ s18, Q [s0, s1, s2, s3, s4, s5, s6, s7, s8, s9, s10, some (.sh (.int R)), s12, s13, s14, some (.od (dKI (kbump (.int ((fr + mk).fmod R)) 1 c))), some (.sh (ti (fr :: fs))), some (.sh (.int mk)), s18, s19] .next) :
    exSs (XN fs1 n) b1_law_1 [s0, s1, s2, s3, s4, s5, s6, s7, s8, s9, s10, some (.sh (.int R)), s12, s13, s14, some (.od (dKI c)), some (.sh (ti (fr :: fs))), some (.sh (.int mk)), none, s19] Q := by
  show exSs _ (_ :: b1_law_1.drop 1) _ _
  simp only [↓evE_int, ↓evE_varR, ↓evE_bin, ↓evE_sub, ↓exS_assignR, ↓exSs_cons, List.length_cons, ↓subW_l, List.map_cons, ti]
  refine ⟨_, rfl, ?_⟩
  simp only [ne_eq, ↓binW_addI, ↓binW_mod]
  refine ⟨by (first | lia | omega), ?_⟩
  show exSs _ [_] _ _
  simp only [fits, ↓evE_int, ↓evE_varR, ↓evE_bin, ↓evE_ite, ↓evE_osubR, ↓evC_oinR, ↓exS_setitemR, ↓exSs_nil, ↓exSs_cons, ↓subW_d, ↓setW_od]
  refine ⟨_, rfl, ?_⟩
  rw [klook_dKI]
  unfold kbump at h
  cases hg : kget (.int ((fr + mk).fmod R)) c with
  | none =>
    rw [hg] at h
    simp only [Option.map_none, Option.isSome_none]
    refine ⟨_, rfl, by rw [dKI_length]; (first | lia | omega), ?_⟩
    rw [kset_dKI]
    exact h _
  | some j =>
    rw [hg] at h
    simp only [Option.map_some, Option.isSome_some]
    refine ⟨_, .int j, rfl, by rw [klook_dKI, hg]; rfl, ?_⟩
    simp only [↓binW_addI]
    refine ⟨_, rfl, by rw [dKI_length]; (first | lia | omega), ?_⟩
    rw [kset_dKI]
    exact h _
theorem more_loop {n : Nat} {R fr : Int} (hR : 0 < R) {s0 s1 s2 s3 s4 s5 s6 s7 s8 s9 s10 s12 s13 s14 s19 : Option LV} {fs : List Int} {Q : Rho → Fl → Prop} : ∀ (M : List Int) (c : KI), c.length + M.length ≤ 900 →
    Q [s0, s1, s2, s3, s4, s5, s6, s7, s8, s9, s10, some (.sh (.int R)), s12, s13, s14, some (.od (dKI (addK c (ones (spots R M fr))))), some (.sh (ti (fr :: fs))), none, none, s19] .next →
    forW (.nm 17) [17, 18] (exSs (XN fs1 n) b1_law_1) (M.map .int) [s0, s1, s2, s3, s4, s5, s6, s7, s8, s9, s10, some (.sh (.int R)), s12, s13, s14, some (.od (dKI c)), some (.sh (ti (fr :: fs))), none, none, s19] Q
  | [], c, _, h => h
  | mk :: M, c, hl, h => by
    rw [List.length_cons] at hl
    simp only [List.map_cons, ↓forW_cons, ↓asgW_nmR, clr_consR, clr_nil, List.map_cons]
    refine more_step hR (by (first | lia | omega)) fun s18 => ?_
    simp only []
    refine more_loop hR M _ ?_ h
    have := kput_len (.int ((fr + mk).fmod R)) ((kget (.int ((fr + mk).fmod R)) c).getD 0 + 1) c
    show (kput _ _ c).length + _ ≤ _
    (first | lia | omega)
end Mine
end
section
open PySem PySem.Calls PyProof.Rows
set_option maxHeartbeats 1000000
namespace Mine
theorem law1_else {is : List Int} {dr : D} {m l : Nat} {sz en row M P St : List Int} {la f p : Int} (hl : 1 ≤ l) (hl3 : l ≤ 3) (G : GeoOk M P St false la) {e : Ent} (B : Book M (ringOf M P) la e (begs (ringOf M P) St f l)) :
    exSs (XN fs1 3) (lawS 16) (pre is dr m l sz en row [some (.sh (ti M)), some (.sh (.int p)), some (.sh (ti P)), some (.sh (ti St)), some (.sh (.int (ringOf M P))), some (.sh (.int f)), some (.ol ((begs (ringOf M P) St f l).map .int)), some (.sh e.d), none, none, none, none, none]) (retW fun d => d = .bool true) := by
  have R0 := G.R0
  have R1 := G.R1
  have sl := G.sl
  have m5 := G.m5
  have nd := ringT_nodup R0 G.nd f
  have hc0 := G.c0 rfl
  obtain ⟨y, hy1, hy2⟩ := ring_free R0 (T := ringT (ringOf M P) St M f) (by rw [ringT_len]; exact hc0)
  have hbl := begs_len (ringOf M P) St f l
  have hlw : l * St.length ≤ 75 := Nat.le_trans (Nat.mul_le_mul hl3 sl) (by decide)
  have T := G.tile
  have hsp := G.spots
  generalize hR : ringOf M P = R at *
  show exSs _ (.ife (.call 9 [.var 7]) _ (elseS 0) :: lawS 17) _ _
  simp only [pre, retW, ↓evE_varR, ↓evE_dcomp, ↓evEs_nil, ↓evEs_cons, ↓evC_call, ↓evI_range, ↓evIfs_nil, ↓evGs_nil, ↓exS_assignOR, ↓exS_ife, ↓exSs_nil, ↓exSs_cons, ↓asgW_nmR, rho_atR, List.length_cons, List.length_nil, capture, List.map_cons, List.map_nil, Nat.reduceAdd, true_and, Nat.reduceLT, ti]
  refine G.cov _ ?_
  show exSs _ (_ :: elseS 1) _ _
  simp only [↓evE_int, ↓evE_varR, ↓evE_sub, ↓evE_lcomp, ↓evEs_nil, ↓evEs_cons, ↓evC_cmp, ↓evI_range, ↓evIfs_nil, ↓evIfs_cons, ↓evGs_nil, ↓exS_assignR, ↓exSs_cons, ↓asgW_nmR, rho_atR, capture, List.map_cons, List.map_nil, rangeW_1, range_n]
  refine ⟨⟨by (first | lia | omega), by (first | lia | omega)⟩, ?_⟩
  refine loop_fm (fun i : Nat => D.int (i : Nat)) (fun i : Nat => if (!(kget (.int (i : Nat)) e.cs).isSome) = true then [D.int (i : Nat)] else []) (List.range R.toNat) [] (fun i hi acc C ha hC => ?_) (fun i => by split <;> simp) (by rw [List.length_range]; simp; (first | lia | omega)) ?_
  · simp only [List.length_cons, List.length_nil, ↓subW_t, Nat.reduceAdd, Ent.d]
    refine ⟨_, rfl, ?_⟩
    simp only [↓cmpW_niD, klook_dKI]
    refine ⟨_, rfl, ?_⟩
    cases hk : kget (.int (i : Nat)) e.cs with
    | none =>
      rw [hk] at hC
      simp only [Option.map_none, Option.isSome_none, Bool.not_false, fits, Nat.reduceLeDiff, pushW_l]
      exact ⟨by (first | lia | omega), by simpa using hC⟩
    | some j =>
      rw [hk] at hC
      simp only [Option.map_some, Option.isSome_some, Bool.not_true]
      simpa using hC
  rw [List.nil_append, flatMap_filter (fun i : Nat => !(kget (.int (i : Nat)) e.cs).isSome)]
  have hyF : y ∈ (List.range R.toNat).filter fun i : Nat => !(kget (.int (i : Nat)) e.cs).isSome := by
    refine List.mem_filter.mpr ⟨List.mem_range.mpr (by (first | lia | omega)), ?_⟩
    rw [B.cs.at_]
    show (!(if (_ : List Int).count (y : Int) = 0 then none else some _ : Option Int).isSome) = true
    rw [begs_spots, count_laps, List.count_eq_zero_of_not_mem hy2, Nat.mul_zero, if_pos rfl]
    rfl
  have hFr : ∀ i ∈ (List.range R.toNat).filter fun i : Nat => !(kget (.int (i : Nat)) e.cs).isSome, i < R.toNat := fun i hi => List.mem_range.mp (List.mem_filter.mp hi).1
  have hFl : ((List.range R.toNat).filter fun i : Nat => !(kget (.int (i : Nat)) e.cs).isSome).length ≤ 25 := Nat.le_trans (List.length_filter_le _ _) (by rw [List.length_range]; (first | lia | omega))
  generalize (List.range R.toNat).filter (fun i : Nat => !(kget (.int (i : Nat)) e.cs).isSome) = F at hyF hFr hFl
  cases F with
  | nil => cases hyF
  | cons fr fs =>
  have hti : (fr :: fs).map (fun i : Nat => D.int (i : Nat)) = ((fr : Int) :: fs.map fun i : Nat => (i : Int)).map D.int := by
    rw [List.map_cons, List.map_cons, List.map_map]; rfl
  rw [hti]
  generalize hbs : begs R St f l = bs at *
  have hLl : (bs.flatMap (spots R M)).length ≤ 375 := by
    rw [flat_len, hbl]
    exact Nat.le_trans (Nat.mul_le_mul hlw m5) (by decide)
  show exSs _ (_ :: elseS 2) _ _
  simp only [fits, ↓evE_bool, ↓evE_varR, ↓evE_lst, ↓evEs_nil, ↓evC_cmp, ↓exS_ife, ↓exS_ret, ↓exSs_nil, ↓exSs_cons, List.length_nil, List.map_cons, true_and, Nat.reduceLeDiff]
  rw [cmpW_eq]
  refine ⟨rfl, ?_⟩
  show exSs _ (_ :: elseS 3) _ _
  simp only [fits, ↓evE_int, ↓evE_varR, ↓evE_sub, ↓exS_appendR, ↓exSs_cons, List.length_cons, ↓subW_l, Nat.reduceLeDiff]
  refine ⟨_, rfl, ?_⟩
  refine ⟨by rw [List.length_map]; (first | lia | omega), ?_⟩
  show exSs _ (_ :: elseS 4) _ _
  simp only [fits, and_true, Int.reduceLE, ↓evE_int, ↓evE_none, ↓evE_varR, ↓evE_slice, ↓evE_call, ↓evEs_nil, ↓evEs_cons, ↓exS_assignR, ↓exSs_cons, List.length_cons, Nat.reduceLeDiff, sliceW_to]
  refine ⟨?_, ?_⟩
  · simp; simp at hFl; (first | lia | omega)
  refine laid_spec (n := 0) T [(fr : Int)] e (fun b _ => hsp b) B.cs (by show _ + 5 * 1 ≤ _; (first | lia | omega)) ?_
  have B2 := B.add [(fr : Int)]
  generalize laidE M R la e [(fr : Int)] = e2 at B2 ⊢
  show exSs _ (_ :: elseS 5) _ _
  simp only [↓evE_varR, ↓evE_bin, ↓evE_dcomp, ↓evI_ex, ↓evIfs_nil, ↓evGs_nil, ↓evGs_mk, ↓exS_assignOR, ↓exSs_cons, ↓asgW_nmR, rho_atR, List.length_cons, List.length_nil, capture, List.map_cons, List.map_nil, Nat.reduceAdd, true_and, Nat.reduceLT, seqOf]
  refine ⟨_, rfl, ?_⟩
  refine loop_kl D.int (fun s => spots R M (f + s)) M.length (l : Nat) St [] (fun s hs acc C ha hn hC => ?_) (fun s => by unfold spots; rw [List.length_map]) (by rw [List.nil_append]; exact nd) ?_ ?_
  · simp only [↓binW_addI]
    refine ⟨_, rfl, ?_⟩
    refine loop_kv D.int (fun mk => (f + s + mk).fmod R) (l : Nat) M acc (fun mk hm acc C ha hC => ?_) hn ha hC
    simp only [fits, ne_eq, ↓binW_addI, ↓binW_mod, Nat.reduceLeDiff, putW_d]
    exact ⟨by (first | lia | omega), _, rfl, by (first | lia | omega), hC⟩
  · have := Nat.mul_le_mul sl m5
    simp; (first | lia | omega)
  rw [List.nil_append]
  simp only [↓toLV_dct]
  refine ⟨_, rfl, ?_⟩
  show exSs _ [_] _ _
  simp only [↓evE_varR, ↓evI_ex, ↓exS_fore, ↓exSs_nil, ↓exSs_cons, seqOf]
  refine ⟨_, rfl, ?_⟩
  have hrl : (ringT R St M f).length ≤ 125 := by
    rw [ringT_len]; exact Nat.mul_le_mul sl m5
  refine more_loop R0 (fs := fs.map fun i : Nat => (i : Int)) M (vals (l : Nat) (ringT R St M f)) (by unfold vals; rw [List.length_map]; (first | lia | omega)) ?_
  show exSs _ (lawS 17) _ _
  have C := (Cnt.vals nd hl).addK (xs := spots R M fr)
  have hcs : ((bs ++ [(fr : Int)]).map D.int) = bs.map D.int ++ [D.int fr] := by rw [List.map_append]; rfl
  have fin := law1_end (is := is) (dr := dr) (m := m) (l := l) (sz := sz) (en := en) (row := row) (P := P) (St := St) (f := f) (p := p) T (bs := bs ++ [(fr : Int)]) (by rw [List.length_append, hbl]; simp; (first | lia | omega)) B2 C.nd C.at_ (fun x => by rw [List.flatMap_append, ← hbs, begs_spots]; simp) (x16 := some (.sh (ti ((fr : Int) :: fs.map fun i : Nat => (i : Int))))) (x17 := none) (x18 := none)
  rw [hcs] at fin
  exact fin
end Mine
end
section
open PySem PySem.Calls PyProof.Rows
set_option maxHeartbeats 1000000
namespace Mine
theorem allSz_len {m : Nat} (hm : m < 3) {sz : List Int} (h : sz ∈ allSz m) : sz.length ≤ 100 := by
  have : (allSz m).all (fun l => Nat.ble l.length 100) = true := by
    match m, hm with
    | 0, _ => decide +kernel
    | 1, _ => decide +kernel
    | 2, _ => decide +kernel
  exact Nat.le_of_ble_eq_true (List.all_eq_true.mp this sz h)
theorem plain1 (is : List Int) (h : is.length ≤ 63) : XN fs1 4 11 [.lst (is.map .int)] (fun d => d = .bool true) := by
  obtain ⟨a, b, c, d, e, f, hp, hdr⟩ := draws_spec 2 is h
  obtain ⟨m, l, q, sz, hm, hl, hl3, hq, hsz, hd⟩ := law1_head (X := XN fs1 3) is a b c d e f
  obtain ⟨M, T⟩ := told_ok (allSz_len hm hsz) (List.all_eq_true.mp (all1 hm hq) sz hsz)
  obtain ⟨P, St, cv, la, G⟩ := geo_ok T.mem
  show _ ∧ exSs _ (_ :: lawS 1) _ _
  refine ⟨rfl, ?_⟩
  simp only [f1_law, rho0, List.replicate, List.cons_append, List.nil_append, Nat.reduceSub, ↓evE_varR, ↓evE_call, ↓evEs_nil, ↓evEs_cons, ↓exS_assignR, ↓exSs_cons, List.length_cons, List.length_nil, List.map_cons, List.map_nil, Nat.reduceAdd]
  refine hdr _ ?_
  refine hd _ ?_
  refine law1_mid h hl hl3 T G ?_
  refine law1_book hl3 G fun e B => ?_
  cases cv with
  | true => exact law1_full hl hl3 G B
  | false => exact law1_else hl hl3 G B
end Mine
end
open PySem PySem.Calls PyProof.Rows
set_option maxRecDepth 100000
namespace Mine
open PySem.W PySem.W.X PySem.W.ZRun
theorem law1_call : WalkO q1 [] (fun _ _ => True) (fun _ h => sysSays h) PySem.Challenge.rw_wn0011_01.row.toRowW d1k.1 d1k.2 fun f vs => PySem.call f vs := by
  intro w s₀ s₁ mg mb G Y fa o pm cd doc dV kV ho hd hcd hD hmg hg args vals as hpre hlay hrd hwl hlo
  obtain ⟨om, hom, hoc⟩ := Y
  refine Ground.open G ?_
  intro T B D TE TW
  rw [law1_name] at hmg
  clear ho hd hcd hD
  wrow_args hpre hlay hrd hwl hlo
  rename IntsAre _ _ => hI
  rename Heap.IsList _ _ _ => hL
  rename ¬ (_ < _) => hlen
  have hT : Mine.Tab PySem.Challenge.rw_wn0011_01.row.prog w Mine.fs1 "_grouping_intervals" s₁.heap mg mb := Mine.tab_of (gd := Mine.recAt PySem.Challenge.pw_wn0011_01 2) T (by decide +kernel) (by decide +kernel) Mine.gen1_in (by decide +kernel) ⟨_, rfl⟩ Mine.gen_lit Mine.fs1_ok
  refine Mine.law_true (k := 2) (f := 11) (g := Mine.f1_law) hT rfl rfl (by decide) (by decide) rfl hom hoc hmg hL hI (Mine.plain1 _ (by (first | lia | omega))) fun s' ev => ?_
  exact Mine.goodWG_true ev hg (fun _ => rfl) (postW_of rfl (w_eq_bool (w_res rfl) w_lit) rfl)
end Mine
theorem PySem.Challenge.cw_wn0011_01_holds : PySem.Challenge.rw_wn0011_01.Holds :=
  Mine.law1_row Mine.law1_call