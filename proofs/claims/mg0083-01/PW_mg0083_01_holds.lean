import PyProof.Rows.All
import Wide.All
import OpenK.AllK
import Wide.FinOn
import KE.KEqDict
import PySem.Challenge.RW_mg0083_01
open PySem PySem.W PyProof.Rows
set_option Elab.async false
-- part Top83
namespace Mine
set_option maxRecDepth 100000 in
set_option maxHeartbeats 8000000 in
open_top hd for PySem.Challenge.rw_mg0083_01
end Mine

-- part A1
namespace Mine

/-- plain data -/
inductive D where
  | int (i : Int)
  | bool (b : Bool)
  | str (x : Str)
  | tup (l : List D)
  | lst (l : List D)
  | dic (l : List (Str × D))

section
variable (prog : Program) (w : World) (X : Addr → Prop) (h : Heap)
mutual
/-- the heap bears the datum at the value, and no address on the way is hot -/
inductive Rep : D → Value → Prop
  | int (i t) : Rep (.int i) (.int i t)
  | bool (b) : Rep (.bool b) (.bool b)
  | str (x t) : Rep (.str x) (.str x t)
  | tup {a vs ds} : ¬ X a → h.IsTuple a vs.toArray → Reps ds vs → Rep (.tup ds) (.ref a)
  | lst {a vs ds} : ¬ X a → h.PlainList a vs.toArray → Reps ds vs → Rep (.lst ds) (.ref a)
  | dic {a kvs kds} : ¬ X a → (a == sysModules) = false → h.DictOf (strKind prog w) a kvs → Repk kds kvs → Rep (.dic kds) (.ref a)
inductive Reps : List D → List Value → Prop
  | nil : Reps [] []
  | cons {d v ds vs} : Rep d v → Reps ds vs → Reps (d :: ds) (v :: vs)
inductive Repk : List (Str × D) → List (Str × Value) → Prop
  | nil : Repk [] []
  | cons {k d v kds kvs} : Rep d v → Repk kds kvs → Repk ((k, d) :: kds) ((k, v) :: kvs)
end
end

section
variable {prog : Program} {w : World} {X X' : Addr → Prop} {h h' : Heap}
mutual
theorem Rep.mono {d v} (r : Rep prog w X h d v) (k : ∀ b o, ¬ X b → h.get? b = some o → ¬ X' b ∧ h'.get? b = some o) : Rep prog w X' h' d v :=
  match r with
  | .int i t => .int i t
  | .bool b => .bool b
  | .str x t => .str x t
  | .tup hx ht hr => by
    obtain ⟨o, ho, r⟩ := ht
    obtain ⟨y, z⟩ := k _ _ hx ho
    exact .tup y ⟨o, z, r⟩ (Reps.mono hr k)
  | .lst hx ht hr => by
    obtain ⟨n, ho⟩ := ht
    obtain ⟨y, z⟩ := k _ _ hx ho
    exact .lst y ⟨n, z⟩ (Reps.mono hr k)
  | .dic hx hs ht hr => by
    obtain ⟨o, es, ep, ho, r⟩ := ht
    obtain ⟨y, z⟩ := k _ _ hx ho
    exact .dic y hs ⟨o, es, ep, z, r⟩ (Repk.mono hr k)
theorem Reps.mono {d v} (r : Reps prog w X h d v) (k : ∀ b o, ¬ X b → h.get? b = some o → ¬ X' b ∧ h'.get? b = some o) : Reps prog w X' h' d v :=
  match r with
  | .nil => .nil
  | .cons a b => .cons (Rep.mono a k) (Reps.mono b k)
theorem Repk.mono {d v} (r : Repk prog w X h d v) (k : ∀ b o, ¬ X b → h.get? b = some o → ¬ X' b ∧ h'.get? b = some o) : Repk prog w X' h' d v :=
  match r with
  | .nil => .nil
  | .cons a b => .cons (Rep.mono a k) (Repk.mono b k)
end

/-- every object of h stands in h' -/
def Ext (h h' : Heap) : Prop := ∀ b o, h.get? b = some o → h'.get? b = some o
theorem Ext.refl (h : Heap) : Ext h h := fun _ _ e => e
theorem Ext.trans {a b c : Heap} (x : Ext a b) (y : Ext b c) : Ext a c := fun p o e => y p o (x p o e)
theorem Rep.ext {d v} (r : Rep prog w X h d v) (k : Ext h h') : Rep prog w X h' d v := r.mono fun b o hx e => ⟨hx, k b o e⟩
theorem Reps.ext {d v} (r : Reps prog w X h d v) (k : Ext h h') : Reps prog w X h' d v := r.mono fun b o hx e => ⟨hx, k b o e⟩
theorem Repk.ext {d v} (r : Repk prog w X h d v) (k : Ext h h') : Repk prog w X h' d v := r.mono fun b o hx e => ⟨hx, k b o e⟩

theorem Reps.length {ds vs} (r : Reps prog w X h ds vs) : vs.length = ds.length := by
  induction vs generalizing ds with
  | nil => cases r; rfl
  | cons v vs ih => cases r with | cons _ b => simp [ih b]
theorem Reps.get {ds vs} (r : Reps prog w X h ds vs) {i : Nat} {d : D} (e : ds[i]? = some d) : ∃ v, vs[i]? = some v ∧ Rep prog w X h d v := by
  induction vs generalizing ds i with
  | nil => cases r; simp at e
  | cons v vs ih =>
    cases r with
    | cons a b =>
      cases i with
      | zero => simp at e; subst e; exact ⟨v, rfl, a⟩
      | succ i => simp at e; simpa using ih b e
theorem Reps.append {ds vs es ws} (r : Reps prog w X h ds vs) (r' : Reps prog w X h es ws) : Reps prog w X h (ds ++ es) (vs ++ ws) := by
  induction vs generalizing ds with
  | nil => cases r; exact r'
  | cons v vs ih => cases r with | cons a b => exact .cons a (ih b)
theorem Reps.take {ds vs} (r : Reps prog w X h ds vs) (n : Nat) : Reps prog w X h (ds.take n) (vs.take n) := by
  induction vs generalizing ds n with
  | nil => cases r; simpa using Reps.nil
  | cons v vs ih =>
    cases r with
    | cons a b => cases n with
      | zero => simpa using Reps.nil
      | succ n => simpa using Reps.cons a (ih b n)
theorem Reps.reverse {ds vs} (r : Reps prog w X h ds vs) : Reps prog w X h ds.reverse vs.reverse := by
  induction vs generalizing ds with
  | nil => cases r; simpa using Reps.nil
  | cons v vs ih => cases r with | cons a b => simpa using (ih b).append (.cons a .nil)

/-- the same, but the topmost address may be hot -/
def Rep1 (prog : Program) (w : World) (X : Addr → Prop) (h : Heap) : D → Value → Prop
  | .int i, v => ∃ t, v = .int i t
  | .bool b, v => v = .bool b
  | .str x, v => ∃ t, v = .str x t
  | .tup ds, v => ∃ a vs, v = .ref a ∧ h.IsTuple a vs.toArray ∧ Reps prog w X h ds vs
  | .lst ds, v => ∃ a vs, v = .ref a ∧ h.PlainList a vs.toArray ∧ Reps prog w X h ds vs
  | .dic kds, v => ∃ a kvs, v = .ref a ∧ (a == sysModules) = false ∧ h.DictOf (strKind prog w) a kvs ∧ Repk prog w X h kds kvs
theorem Rep.one {d v} (r : Rep prog w X h d v) : Rep1 prog w X h d v := by
  cases r with
  | int i t => exact ⟨t, rfl⟩
  | bool b => rfl
  | str x t => exact ⟨t, rfl⟩
  | tup _ a b => exact ⟨_, _, rfl, a, b⟩
  | lst _ a b => exact ⟨_, _, rfl, a, b⟩
  | dic _ s a b => exact ⟨_, _, rfl, s, a, b⟩
theorem Rep1.ext {d v} (r : Rep1 prog w X h d v) (k : Ext h h') : Rep1 prog w X h' d v := by
  cases d with
  | int i => exact r
  | bool b => exact r
  | str x => exact r
  | tup ds => obtain ⟨a, vs, e, ⟨o, ho, r⟩, b⟩ := r; exact ⟨a, vs, e, ⟨o, k _ _ ho, r⟩, b.ext k⟩
  | lst ds => obtain ⟨a, vs, e, ⟨n, ho⟩, b⟩ := r; exact ⟨a, vs, e, ⟨n, k _ _ ho⟩, b.ext k⟩
  | dic ds => obtain ⟨a, vs, e, s, ⟨o, es, ep, ho, r⟩, b⟩ := r; exact ⟨a, vs, e, s, ⟨o, es, ep, k _ _ ho, r⟩, b.ext k⟩
/-- from the hot to the cold: the topmost address is not hot -/
theorem Rep1.cold {d v} (r : Rep1 prog w X h d v) (hx : ∀ a, v = .ref a → ¬ X a) : Rep prog w X h d v := by
  cases d with
  | int i => obtain ⟨t, rfl⟩ := r; exact .int i t
  | bool b => cases r; exact .bool b
  | str x => obtain ⟨t, rfl⟩ := r; exact .str x t
  | tup ds => obtain ⟨a, vs, rfl, c, b⟩ := r; exact .tup (hx a rfl) c b
  | lst ds => obtain ⟨a, vs, rfl, c, b⟩ := r; exact .lst (hx a rfl) c b
  | dic ds => obtain ⟨a, vs, rfl, s, c, b⟩ := r; exact .dic (hx a rfl) s c b
def RepB (prog : Program) (w : World) (X : Addr → Prop) (h : Heap) : Bool → D → Value → Prop
  | true => Rep prog w X h
  | false => Rep1 prog w X h
theorem RepB.one {b d v} (r : RepB prog w X h b d v) : Rep1 prog w X h d v := by cases b with
  | true => exact Rep.one r
  | false => exact r
theorem RepB.ext {b d v} (r : RepB prog w X h b d v) (k : Ext h h') : RepB prog w X h' b d v := by cases b with
  | true => exact Rep.ext r k
  | false => exact Rep1.ext r k

/-- a frame: what its names bear -/
structure Fm (env : Env) (m : Str → Option Value) (h : Heap) : Prop where
  kind : env.scope.kind = .function
  gl : env.globals = mainGlobals
  bu : env.builtins = builtinsNs
  ns : ∃ ml, h.Ns env.locals ml ∧ ∀ x, env.kindOf x = some .local → ml x = m x
  cell : ∀ x, env.kindOf x = some .cell ∨ env.kindOf x = some .free → ∃ c, env.cells.lookup x = some c ∧ h.IsCell c (m x)
  inj : ∀ x y c, env.cells.lookup x = some c → env.cells.lookup y = some c → x = y
theorem Fm.ext {env m} (f : Fm env m h) (k : Ext h h') : Fm env m h' :=
  ⟨f.kind, f.gl, f.bu, let ⟨ml, a, b⟩ := f.ns; ⟨ml, a.keeps k, b⟩, fun x e => let ⟨c, a, b⟩ := f.cell x e; ⟨c, a, b.keeps k⟩, f.inj⟩

abbrev Ctx0 := List (Str × Bool × D)
def Knows (prog : Program) (w : World) (X : Addr → Prop) (h : Heap) (m : Str → Option Value) (σ : Ctx0) : Prop :=
  ∀ x b d, σ.lookup x = some (b, d) → ∃ v, m x = some v ∧ RepB prog w X h b d v

/-- all but the code table of add_callers stands as at the start -/
def Stands (h₀ h : Heap) : Prop := ∀ b o, b ≠ 23 → h₀.get? b = some o → h.get? b = some o
theorem Stands.ext {h₀ : Heap} (x : Stands h₀ h) (k : Ext h h') : Stands h₀ h' := fun b o hb e => k _ _ (x b o hb e)

structure See (prog : Program) (w : World) (h₀ : Heap) (env : Env) (X : Addr → Prop) (σ : Ctx0) (s : Shared) : Prop where
  st : Stands h₀ s.heap
  live : ∀ a, X a → ∃ o, s.heap.get? a = some o
  fm : ∃ m, Fm env m s.heap ∧ Knows prog w X s.heap m σ
/-- all that stood stands; heap and tokens alone are new -/
def Kp (s s' : Shared) : Prop := ∃ h' tk, s' = { s with heap := h', toks := tk } ∧ Ext s.heap h'
theorem Kp.ext {s s' : Shared} (k : Kp s s') : Ext s.heap s'.heap := by obtain ⟨h', tk, rfl, k⟩ := k; exact k
theorem Kp.rfl' (s : Shared) : Kp s s := ⟨s.heap, s.toks, rfl, fun _ _ e => e⟩
theorem Kp.trans {a b c : Shared} (x : Kp a b) (y : Kp b c) : Kp a c := by
  obtain ⟨h1, t1, rfl, k1⟩ := x
  obtain ⟨h2, t2, rfl, k2⟩ := y
  exact ⟨h2, t2, rfl, fun b o e => k2 b o (k1 b o e)⟩
theorem Kp.tok (s : Shared) (t : Nat) : Kp s { s with toks := t } := ⟨s.heap, t, rfl, fun _ _ e => e⟩
theorem Kp.push (s : Shared) (o : Obj) (t : Nat) : Kp s { s with heap := s.heap.push o, toks := t } := ⟨_, t, rfl, fun _ _ e => Heap.get?_push_of_some o e⟩
theorem Kp.of {s : Shared} {h' : Heap} {t : Nat} (k : Ext s.heap h') : Kp s { s with heap := h', toks := t } := ⟨_, t, rfl, k⟩
theorem See.keeps {h₀ env σ} {s s' : Shared} (x : See prog w h₀ env X σ s) (k : Kp s s') : See prog w h₀ env X σ s' :=
  ⟨x.st.ext k.ext, fun a ha => let ⟨o, ho⟩ := x.live a ha; ⟨o, k.ext _ _ ho⟩,
   let ⟨m, f, n⟩ := x.fm; ⟨m, f.ext k.ext, fun y b d e => let ⟨v, a, r⟩ := n y b d e; ⟨v, a, r.ext k.ext⟩⟩⟩

/-- room: no exception at hand, far from the limits -/
structure Room (A : Around) (k : Nat) : Prop where
  handled : A.handled = none
  depth : A.depth + k < 600
  units : A.units + 50 * k + 500 < cLine
theorem Room.le {A : Around} {k j : Nat} (r : Room A k) (h : j ≤ k) : Room A j := ⟨r.handled, by have := r.depth; omega, by have := r.units; omega⟩

/-- the expression gives the datum, and all that stood stands -/
def Ev (prog : Program) (w : World) (h₀ : Heap) (k : Nat) (sc : Scope) (σ : Ctx0) (e : Expr) (b : Bool) (d : D) : Prop :=
  ∀ (A : Around) (env : Env) (X : Addr → Prop) (s : Shared) (Q : Value → Shared → Prop) (E : Value → Shared → Prop),
    env.scope = sc → Room A k → See prog w h₀ env X σ s →
    (∀ v s', Kp s s' → RepB prog w X s'.heap b d v → Q v s') → wpAny (model prog w) A (eval e env) Q E s
end
end Mine

-- part A2
namespace Mine

section
variable {prog : Program} {w : World} {h₀ : Heap} {k : Nat} {sc : Scope} {σ : Ctx0}

theorem Ev.le {e b d j} (h : Ev prog w h₀ j sc σ e b d) (hj : j ≤ k) : Ev prog w h₀ k sc σ e b d :=
  fun A env X s Q E he hr hs hq => h A env X s Q E he (hr.le hj) hs hq
theorem Ev.warm {e d b} (h : Ev prog w h₀ k sc σ e b d) : Ev prog w h₀ k sc σ e false d :=
  fun A env X s Q E he hr hs hq => h A env X s Q E he hr hs fun v s' hk r => hq v s' hk r.one

/-- an operation of two values, upon data -/
def Op2 (prog : Program) (w : World) (h₀ : Heap) (k : Nat) (f : Value → Value → Sem Value) (b1 : Bool) (d1 : D) (b2 : Bool) (d2 : D) (b : Bool) (d : D) : Prop :=
  ∀ (A : Around) (X : Addr → Prop) (s : Shared) (v1 v2 : Value) (Q : Value → Shared → Prop) (E : Value → Shared → Prop),
    Room A k → Stands h₀ s.heap → (∀ a, X a → ∃ o, s.heap.get? a = some o) → RepB prog w X s.heap b1 d1 v1 → RepB prog w X s.heap b2 d2 v2 →
    (∀ v s', Kp s s' → RepB prog w X s'.heap b d v → Q v s') → wpAny (model prog w) A (f v1 v2) Q E s
def Op1 (prog : Program) (w : World) (h₀ : Heap) (k : Nat) (f : Value → Sem Value) (b1 : Bool) (d1 : D) (b : Bool) (d : D) : Prop :=
  ∀ (A : Around) (X : Addr → Prop) (s : Shared) (v1 : Value) (Q : Value → Shared → Prop) (E : Value → Shared → Prop),
    Room A k → Stands h₀ s.heap → (∀ a, X a → ∃ o, s.heap.get? a = some o) → RepB prog w X s.heap b1 d1 v1 →
    (∀ v s', Kp s s' → RepB prog w X s'.heap b d v → Q v s') → wpAny (model prog w) A (f v1) Q E s

-- names
theorem Ev.name {x : Str} {pos b d} (hl : σ.lookup x = some (b, d)) (hk : sc.names.lookup x = some .local ∨ sc.names.lookup x = some .cell ∨ sc.names.lookup x = some .free)
    (hd : (x == ("__debug__" : Str)) = false := by decide) (hn : (x == ("__classdict__" : Str)) = false := by decide) : Ev prog w h₀ k sc σ (.Name x pos) b d := by
  intro A env X s Q E he hr hs hq
  obtain ⟨m, f, n⟩ := hs.fm
  obtain ⟨v, hm, r⟩ := n x b d hl
  refine wpAny_Name ?_ hd
  have fin := hq v s (Kp.rfl' s) r
  rcases hk with hk | hk | hk
  · obtain ⟨ml, hns, hml⟩ := f.ns
    have hk' : env.kindOf x = some .local := by unfold Env.kindOf; rw [he]; exact hk
    exact wpAny_loadName_local f.kind hk' hns ((hml x hk').trans hm) fin
  · have hk' : env.kindOf x = some .cell := by unfold Env.kindOf; rw [he]; exact hk
    obtain ⟨c, hc, hi⟩ := f.cell x (.inl hk')
    rw [hm] at hi
    exact wpAny_loadName_cell f.kind hk' hc hi fin
  · have hk' : env.kindOf x = some .free := by unfold Env.kindOf; rw [he]; exact hk
    obtain ⟨c, hc, hi⟩ := f.cell x (.inr hk')
    rw [hm] at hi
    exact wpAny_loadName_free f.kind hk' hc hi fin hn

-- constants
theorem Ev.cint {i q pos} : Ev prog w h₀ k sc σ (.Constant (.int i) q pos) true (.int i) :=
  fun _ _ _ s _ _ _ _ _ hq => wpAny_Constant_int (hq _ _ (Kp.tok s _) (.int i _))
theorem Ev.cbool {i q pos} : Ev prog w h₀ k sc σ (.Constant (.bool i) q pos) true (.bool i) :=
  fun _ _ _ s _ _ _ _ _ hq => wpAny_Constant_bool (hq _ _ (Kp.rfl' s) (.bool i))
theorem Ev.cstr {x q pos} : Ev prog w h₀ k sc σ (.Constant (.str x) q pos) true (.str x) :=
  fun _ _ _ s _ _ _ _ _ hq => wpAny_Constant_str (hq _ _ (Kp.tok s _) (.str x _))

-- operators
theorem Ev.bin {l r op pos b1 b2 d1 d2 b d} (h1 : Ev prog w h₀ k sc σ l b1 d1) (h2 : Ev prog w h₀ k sc σ r b2 d2) (ho : Op2 prog w h₀ k (binaryOp op) b1 d1 b2 d2 b d) :
    Ev prog w h₀ k sc σ (.BinOp l op r pos) b d := by
  intro A env X s Q E he hr hs hq
  refine wpAny_BinOp (h1 A env X s _ E he hr hs fun v1 s1 k1 r1 => h2 A env X s1 _ E he hr (hs.keeps k1) fun v2 s2 k2 r2 => ?_)
  have hs2 := (hs.keeps k1).keeps k2
  exact ho A X s2 v1 v2 Q E hr hs2.st hs2.live (r1.ext k2.ext) r2 fun v s' k3 r3 => hq v s' ((k1.trans k2).trans k3) r3
theorem Ev.cmp {l r op pos b1 b2 d1 d2 b d} (h1 : Ev prog w h₀ k sc σ l b1 d1) (h2 : Ev prog w h₀ k sc σ r b2 d2) (ho : Op2 prog w h₀ k (compareOp op) b1 d1 b2 d2 b d)
    (hm : behindInMarks op r = false := by with_unfolding_all rfl) : Ev prog w h₀ k sc σ (.Compare l [op] [r] pos) b d := by
  intro A env X s Q E he hr hs hq
  refine wpAny_Compare1 (h1 A env X s _ E he hr hs fun v1 s1 k1 r1 => h2 A env X s1 _ E he hr (hs.keeps k1) fun v2 s2 k2 r2 => ?_) hm
  have hs2 := (hs.keeps k1).keeps k2
  exact ho A X s2 v1 v2 Q E hr hs2.st hs2.live (r1.ext k2.ext) r2 fun v s' k3 r3 => hq v s' ((k1.trans k2).trans k3) r3
/-- the subscript with its road -/
theorem Ev.sub {value slice pos b1 b2 d1 d2 b d} (h1 : Ev prog w h₀ k sc σ value b1 d1) (h2 : Ev prog w h₀ k sc σ slice b2 d2) (ho : Op2 prog w h₀ k (subscriptTail value slice) b1 d1 b2 d2 b d) :
    Ev prog w h₀ k sc σ (.Subscript value slice pos) b d := by
  intro A env X s Q E he hr hs hq
  refine Subscript_ (h1 A env X s _ E he hr hs fun v1 s1 k1 r1 => h2 A env X s1 _ E he hr (hs.keeps k1) fun v2 s2 k2 r2 => ?_)
  have hs2 := (hs.keeps k1).keeps k2
  exact ho A X s2 v1 v2 Q E hr hs2.st hs2.live (r1.ext k2.ext) r2 fun v s' k3 r3 => hq v s' ((k1.trans k2).trans k3) r3

-- ints
variable {b1 b2 : Bool}
theorem op_add_int {a b : Int} : Op2 prog w h₀ k (binaryOp .Add) b1 (.int a) b2 (.int b) true (.int (a + b)) := by
  intro A X s _ _ Q E hr hs hl r1 r2 hq
  obtain ⟨t, rfl⟩ := r1.one; obtain ⟨u, rfl⟩ := r2.one
  exact P.add_int (hq _ _ (Kp.tok s _) (.int _ _))
theorem op_sub_int {a b : Int} : Op2 prog w h₀ k (binaryOp .Sub) b1 (.int a) b2 (.int b) true (.int (a - b)) := by
  intro A X s _ _ Q E hr hs hl r1 r2 hq
  obtain ⟨t, rfl⟩ := r1.one; obtain ⟨u, rfl⟩ := r2.one
  exact P.sub_int (hq _ _ (Kp.tok s _) (.int _ _))
theorem op_mul_int {a b : Int} (hm : IntMulOk a b) : Op2 prog w h₀ k (binaryOp .Mult) b1 (.int a) b2 (.int b) true (.int (a * b)) := by
  intro A X s _ _ Q E hr hs hl r1 r2 hq
  obtain ⟨t, rfl⟩ := r1.one; obtain ⟨u, rfl⟩ := r2.one
  exact P.mul_int (hq _ _ (Kp.tok s _) (.int _ _)) hm
theorem op_div_int {a b : Int} (hb : b ≠ 0) (hp : Builtin.divisionGoesByPylong a b = false) : Op2 prog w h₀ k (binaryOp .FloorDiv) b1 (.int a) b2 (.int b) true (.int (a.fdiv b)) := by
  intro A X s _ _ Q E hr hs hl r1 r2 hq
  obtain ⟨t, rfl⟩ := r1.one; obtain ⟨u, rfl⟩ := r2.one
  exact floordiv_int hb (hq _ _ (Kp.tok s _) (.int _ _)) (.inl hp)
theorem op_mod_int {a b : Int} (hb : b ≠ 0) : Op2 prog w h₀ k (binaryOp .Mod) b1 (.int a) b2 (.int b) true (.int (a.fmod b)) := by
  intro A X s _ _ Q E hr hs hl r1 r2 hq
  obtain ⟨t, rfl⟩ := r1.one; obtain ⟨u, rfl⟩ := r2.one
  exact mod_int' hb (hq _ _ (Kp.tok s _) (.int _ _))
theorem op_pow_int {a n : Int} (hn : 0 ≤ n) (hsz : (Builtin.Int.intBits a : Int) * n ≤ 2 ^ 27) : Op2 prog w h₀ k (binaryOp .Pow) b1 (.int a) b2 (.int n) true (.int (a ^ n.toNat)) := by
  intro A X s _ _ Q E hr hs hl r1 r2 hq
  obtain ⟨t, rfl⟩ := r1.one; obtain ⟨u, rfl⟩ := r2.one
  exact pow_int hn hsz (hq _ _ (Kp.tok s _) (.int _ _))
theorem op_lt_int {a b : Int} : Op2 prog w h₀ k (compareOp .Lt) b1 (.int a) b2 (.int b) true (.bool (decide (a < b))) := by
  intro A X s _ _ Q E hr hs hl r1 r2 hq
  obtain ⟨t, rfl⟩ := r1.one; obtain ⟨u, rfl⟩ := r2.one
  exact P.lt_int (hq _ _ (Kp.rfl' s) (.bool _))
theorem op_eq_int {a b : Int} : Op2 prog w h₀ k (compareOp .Eq) b1 (.int a) b2 (.int b) true (.bool (a == b)) := by
  intro A X s _ _ Q E hr hs hl r1 r2 hq
  obtain ⟨t, rfl⟩ := r1.one; obtain ⟨u, rfl⟩ := r2.one
  exact P.eq_int (hq _ _ (Kp.rfl' s) (.bool _))
-- strs
theorem op_add_str {x y : Str} (hsz : x.length + y.length ≤ sizeLine) : Op2 prog w h₀ k (binaryOp .Add) b1 (.str x) b2 (.str y) true (.str (x ++ y)) := by
  intro A X s _ _ Q E hr hs hl r1 r2 hq
  obtain ⟨t, rfl⟩ := r1.one; obtain ⟨u, rfl⟩ := r2.one
  exact SB.add (fun t' k' => hq _ _ (Kp.tok s _) (.str _ _)) hsz
theorem op_mul_str {x : Str} {n : Int} (hok : MulOk x n) : Op2 prog w h₀ k (binaryOp .Mult) b1 (.str x) b2 (.int n) true (.str (Txt.mul x n)) := by
  intro A X s _ _ Q E hr hs hl r1 r2 hq
  obtain ⟨t, rfl⟩ := r1.one; obtain ⟨u, rfl⟩ := r2.one
  exact SB.mul hok (fun t' k' => hq _ _ (Kp.tok s _) (.str _ _))
-- tuples, lists
theorem Kp.obj {s : Shared} (o : Obj) : Kp s { s with heap := s.heap.push o } := ⟨_, s.toks, rfl, fun _ _ e => Heap.get?_push_of_some o e⟩
theorem fresh_cold {X : Addr → Prop} {h : Heap} (hl : ∀ a, X a → ∃ o, h.get? a = some o) : ¬ X h.objs.size := fun hx => by
  obtain ⟨o, ho⟩ := hl _ hx
  exact Nat.lt_irrefl _ (Heap.lt_size ho)
theorem op_add_lst {xs ys : List D} (hsz : xs.length + ys.length ≤ sizeLine) : Op2 prog w h₀ k (binaryOp .Add) b1 (.lst xs) b2 (.lst ys) true (.lst (xs ++ ys)) := by
  intro A X s _ _ Q E hr hs hl r1 r2 hq
  obtain ⟨l, vs, rfl, hl1', q1⟩ := r1.one; obtain ⟨b, ws, rfl, hl2', q2⟩ := r2.one
  have hl1 := hl1'.isList
  have hl2 := hl2'.isList
  obtain ⟨⟨cls, dd, data, sl⟩, ho, hc, n, hd⟩ := id hl1
  obtain ⟨⟨cls2, dd2, data2, sl2⟩, ho2, hc2, n2, hd2⟩ := id hl2
  simp only at hc hd hc2 hd2
  subst hc hd hc2 hd2
  have e : vs.toArray ++ ws.toArray = (vs ++ ws).toArray := by simp
  refine concat_meets ⟨_, ho, rfl⟩ ⟨_, ho2, rfl⟩ noFill_list_add seq_list_add PySem.F.slot_list_add PySem.F.entry_list_add (PySem.F.args_list_add_2 _ _) (list_addW l b vs.toArray ws.toArray n n2 dd dd2 sl sl2 (by simpa [q1.length, q2.length] using hsz)) ⟨ho, ho2, ?_⟩
  rw [e]
  have kk : Ext s.heap _ := fun _ _ e => Heap.get?_push_of_some { cls := .type "list", data := .seq (vs ++ ws).toArray } e
  exact hq _ _ (Kp.obj _) (.lst (fresh_cold hl) ⟨_, Heap.get?_push_size _ rfl⟩ ((q1.ext kk).append (q2.ext kk)))
theorem op_add_tup {xs ys : List D} (hsz : xs.length + ys.length ≤ sizeLine) : Op2 prog w h₀ k (binaryOp .Add) true (.tup xs) true (.tup ys) true (.tup (xs ++ ys)) := by
  intro A X s v1 v2 Q E hr hs hl r1 r2 hq
  have r1' : Rep prog w X s.heap (.tup xs) v1 := r1
  have r2' : Rep prog w X s.heap (.tup ys) v2 := r2
  cases r1' with
  | @tup t vs _ hx1 hl1 q1 => cases r2' with
    | @tup b ws _ hx2 hl2 q2 =>
      obtain ⟨⟨cls, dd, data, sl⟩, ho, hc, n, hd⟩ := id hl1
      obtain ⟨⟨cls2, dd2, data2, sl2⟩, ho2, hc2, n2, hd2⟩ := id hl2
      simp only at hc hd hc2 hd2
      subst hc hd hc2 hd2
      have e : vs.toArray ++ ws.toArray = (vs ++ ws).toArray := by simp
      by_cases hv : vs = []
      · have hxs : xs = [] := by have := q1.length; rw [hv] at this; exact List.eq_nil_of_length_eq_zero this.symm
        refine concat_meets ⟨_, ho, rfl⟩ ⟨_, ho2, rfl⟩ noFill_tuple_add seq_tuple_add PySem.F.slot_tuple_add PySem.F.entry_tuple_add (PySem.F.args_tuple_add_2 _ _)
          (tuple_addW0 t b vs.toArray ws.toArray n n2 dd dd2 sl sl2 (by simp [hv])) ⟨ho, ho2, hq _ _ (Kp.rfl' s) ?_⟩
        rw [hxs]; exact r2
      · by_cases hw : ws = []
        · have hys : ys = [] := by have := q2.length; rw [hw] at this; exact List.eq_nil_of_length_eq_zero this.symm
          refine concat_meets ⟨_, ho, rfl⟩ ⟨_, ho2, rfl⟩ noFill_tuple_add seq_tuple_add PySem.F.slot_tuple_add PySem.F.entry_tuple_add (PySem.F.args_tuple_add_2 _ _)
            (tuple_addW1 t b vs.toArray ws.toArray n n2 dd dd2 sl sl2 (by simpa using hv) (by simp [hw])) ⟨ho, ho2, hq _ _ (Kp.rfl' s) ?_⟩
          rw [hys, List.append_nil]; exact r1
        · refine concat_meets ⟨_, ho, rfl⟩ ⟨_, ho2, rfl⟩ noFill_tuple_add seq_tuple_add PySem.F.slot_tuple_add PySem.F.entry_tuple_add (PySem.F.args_tuple_add_2 _ _)
            (tuple_addW2 t b vs.toArray ws.toArray n n2 dd dd2 sl sl2 (by simpa using hv) (by simpa using hw) (by rw [List.size_toArray, List.size_toArray, q1.length, q2.length]; exact hsz)) ⟨ho, ho2, ?_⟩
          rw [e]
          have kk : Ext s.heap _ := fun _ _ e => Heap.get?_push_of_some { cls := .type "tuple", data := .seq (vs ++ ws).toArray } e
          exact hq _ _ (Kp.obj _) (.tup (fresh_cold hl) ⟨_, Heap.get?_push_size _ rfl, rfl, _, rfl⟩ ((q1.ext kk).append (q2.ext kk)))
end
end Mine

-- part A3
namespace Mine

mutual
def toP : D → PyData
  | .int i => .int i
  | .bool b => .bool b
  | .str x => .str x
  | .tup l => .tuple (toPs l)
  | .lst l => .list (toPs l)
  | .dic _ => .dict []
def toPs : List D → List PyData
  | [] => []
  | d :: r => toP d :: toPs r
end
theorem toPs_map : ∀ l : List D, toPs l = l.map toP
  | [] => rfl
  | d :: r => by rw [toPs, toPs_map r]; rfl

section
variable {prog : Program} {w : World} {X X' : Addr → Prop} {h h' : Heap}
mutual
theorem Rep.reads {d v} (r : Rep prog w X h d v) (ok : (toP d).canLay0 = true) : ∃ as, Reads h v (toP d) as :=
  match r with
  | .int i t => ⟨_, .int i t⟩
  | .bool b => ⟨_, .bool b⟩
  | .str x t => ⟨_, .str x t⟩
  | .tup hx ht hr => by
    obtain ⟨o, ho, hc, n, hd⟩ := ht
    rw [toP] at ok ⊢
    obtain ⟨as, ra⟩ := Reps.reads hr (by simpa only [PyData.canLay0] using ok)
    exact ⟨_, .tuple ho hc hd ra⟩
  | .lst hx ht hr => by
    obtain ⟨o, ho, hc, n, hd⟩ := ht.isList
    rw [toP] at ok ⊢
    obtain ⟨as, ra⟩ := Reps.reads hr (by simpa only [PyData.canLay0] using ok)
    exact ⟨_, .list ho hc hd ra⟩
  | .dic hx hs ht hr => by
    rw [toP] at ok; simp [PyData.canLay0] at ok
theorem Reps.reads {ds vs} (r : Reps prog w X h ds vs) (ok : PyData.canLayAll0 (toPs ds) = true) : ∃ as, ReadsAll h vs (toPs ds) as :=
  match r with
  | .nil => ⟨_, .nil⟩
  | .cons a b => by
    rw [toPs] at ok ⊢
    simp only [PyData.canLayAll0, Bool.and_eq_true] at ok
    obtain ⟨as, ra⟩ := Rep.reads a ok.1
    obtain ⟨bs, rb⟩ := Reps.reads b ok.2
    exact ⟨_, .cons ra rb⟩
end
theorem Rep1.reads {d v} (r : Rep1 prog w X h d v) (ok : (toP d).canLay0 = true) : ∃ as, Reads h v (toP d) as := by
  cases d with
  | int i => obtain ⟨t, rfl⟩ := r; exact ⟨_, .int i t⟩
  | bool b => cases r; exact ⟨_, .bool b⟩
  | str x => obtain ⟨t, rfl⟩ := r; exact ⟨_, .str x t⟩
  | tup ds =>
    obtain ⟨a, vs, rfl, ⟨o, ho, hc, n, hd⟩, b⟩ := r
    rw [toP] at ok ⊢
    obtain ⟨as, ra⟩ := Reps.reads b (by simpa only [PyData.canLay0] using ok)
    exact ⟨_, .tuple ho hc hd ra⟩
  | lst ds =>
    obtain ⟨a, vs, rfl, hpl, b⟩ := r
    obtain ⟨o, ho, hc, n, hd⟩ := hpl.isList
    rw [toP] at ok ⊢
    obtain ⟨as, ra⟩ := Reps.reads b (by simpa only [PyData.canLay0] using ok)
    exact ⟨_, .list ho hc hd ra⟩
  | dic ds => rw [toP] at ok; simp [PyData.canLay0] at ok
end

section
variable {prog : Program} {w : World} {h₀ : Heap} {k : Nat} {sc : Scope} {σ : Ctx0} {b1 b2 : Bool}

-- comparisons of plain data
theorem op_eq_data {d e : D} (hd : (toP d).canLay0 = true) (he : (toP e).canLay0 = true) (hn : (toP d).depth ≤ 60) :
    Op2 prog w h₀ k (compareOp .Eq) b1 d b2 e true (.bool (PyData.eqv (toP d) (toP e))) := by
  intro A X s _ _ Q E hr hs hl r1 r2 hq
  obtain ⟨as, ra⟩ := r1.one.reads hd; obtain ⟨bs, rb⟩ := r2.one.reads he
  have := hr.units
  exact SeqAt.compareEq_reads ra rb hd he (by have := Nat.min_le_left (toP d).depth (toP e).depth; omega) (hq _ _ (Kp.rfl' s) (.bool _))
theorem op_ne_data {d e : D} (hd : (toP d).canLay0 = true) (he : (toP e).canLay0 = true) (hn : (toP d).depth ≤ 60) :
    Op2 prog w h₀ k (compareOp .NotEq) b1 d b2 e true (.bool (!PyData.eqv (toP d) (toP e))) := by
  intro A X s _ _ Q E hr hs hl r1 r2 hq
  obtain ⟨as, ra⟩ := r1.one.reads hd; obtain ⟨bs, rb⟩ := r2.one.reads he
  have := hr.units
  exact SeqAt.compareNe_reads ra rb hd he (by have := Nat.min_le_left (toP d).depth (toP e).depth; omega) (hq _ _ (Kp.rfl' s) (.bool _))
theorem op_in_lst {d : D} {xs : List D} (hd : (toP d).canLay0 = true) (he : PyData.canLayAll0 (toPs xs) = true) (hn : (toP d).depth ≤ 60) :
    Op2 prog w h₀ k (compareOp .In) b1 d b2 (.lst xs) true (.bool ((toPs xs).any fun y => PyData.eqv y (toP d))) := by
  intro A X s _ _ Q E hr hs hl r1 r2 hq
  obtain ⟨as, ra⟩ := r1.one.reads hd; obtain ⟨bs, rb⟩ := r2.one.reads (d := .lst xs) (by rw [toP]; simpa only [PyData.canLay0] using he)
  have := hr.units
  rw [toP] at rb
  exact SeqAt.in_list_reads rb ra he hd (by have := Nat.min_le_right (PyData.depthAll (toPs xs)) (toP d).depth; omega) (hq _ _ (Kp.rfl' s) (.bool _))
theorem op_notIn_lst {d : D} {xs : List D} (hd : (toP d).canLay0 = true) (he : PyData.canLayAll0 (toPs xs) = true) (hn : (toP d).depth ≤ 60) :
    Op2 prog w h₀ k (compareOp .NotIn) b1 d b2 (.lst xs) true (.bool (!(toPs xs).any fun y => PyData.eqv y (toP d))) := by
  intro A X s _ _ Q E hr hs hl r1 r2 hq
  obtain ⟨as, ra⟩ := r1.one.reads hd; obtain ⟨bs, rb⟩ := r2.one.reads (d := .lst xs) (by rw [toP]; simpa only [PyData.canLay0] using he)
  have := hr.units
  rw [toP] at rb
  exact SeqAt.notIn_list_reads rb ra he hd (by have := Nat.min_le_right (PyData.depthAll (toPs xs)) (toP d).depth; omega) (hq _ _ (Kp.rfl' s) (.bool _))

-- dicts
def look (l : List (Str × D)) (x : Str) : Option D := (l.find? fun p => p.1 = x).map (·.2)
theorem Repk.valueAt {X : Addr → Prop} {h : Heap} {kds kvs} (r : Repk prog w X h kds kvs) (x : Str) :
    (∃ d v, look kds x = some d ∧ valueAt kvs x = some v ∧ Rep prog w X h d v) ∨ (look kds x = none ∧ valueAt kvs x = none) := by
  induction kvs generalizing kds with
  | nil => cases r; exact .inr ⟨rfl, rfl⟩
  | cons p kvs ih =>
    cases r with
    | @cons k d v kds _ a b =>
      by_cases hk : k = x
      · subst hk
        exact .inl ⟨d, v, by simp [look], by simp [PySem.valueAt], a⟩
      · have := ih b
        simpa [look, PySem.valueAt, hk] using this
theorem Repk.keys {X : Addr → Prop} {h : Heap} {kds kvs} (r : Repk prog w X h kds kvs) : kvs.map (·.1) = kds.map (·.1) := by
  induction kvs generalizing kds with
  | nil => cases r; rfl
  | cons p kvs ih => cases r with | cons a b => simp [ih b]
theorem isStr_self (x : Str) (t : Tok) : (strKind prog w).is x (.str x t) = true := by simp [PySem.strKind, Value.isStrOf]
theorem op_in_dic {x : Str} {kds : List (Str × D)} : Op2 prog w h₀ k (compareOp .In) b1 (.str x) b2 (.dic kds) true (.bool (look kds x).isSome) := by
  intro A X s _ _ Q E hr hs hl r1 r2 hq
  obtain ⟨t, rfl⟩ := r1.one; obtain ⟨a, kvs, rfl, hsy, hd, rk⟩ := r2.one
  refine wpAny_in_of (isStr_self x t) hsy hd.mapOf ?_
  rcases rk.valueAt x with ⟨d, v, e1, e2, _⟩ | ⟨e1, e2⟩
  · rw [e1] at hq; rw [e2]; exact hq _ _ (Kp.tok s _) (.bool _)
  · rw [e1] at hq; rw [e2]; exact hq _ _ (Kp.tok s _) (.bool _)
theorem getItem_dic {A : Around} {E : Value → Shared → Prop} {X : Addr → Prop} {s : Shared} {x : Str} {t : Tok} {kds : List (Str × D)} {d : D} {v : Value} {Q : Value → Shared → Prop} (r : Rep1 prog w X s.heap (.dic kds) v) (hx : look kds x = some d)
    (hq : ∀ v s', Kp s s' → Rep prog w X s'.heap d v → Q v s') : wpAny (model prog w) A (getItem v (.str x t)) Q E s := by
  obtain ⟨a, kvs, rfl, hsy, hd, rk⟩ := r
  rcases rk.valueAt x with ⟨d', v', e1, e2, q⟩ | ⟨e1, e2⟩
  · rw [hx] at e1; cases e1
    exact wpAny_getItem_of (isStr_self x t) hd.mapOf e2 (hq _ _ (Kp.tok s _) q)
  · rw [hx] at e1; cases e1
theorem op_item_dic {value slice : Expr} {x : Str} {kds : List (Str × D)} {d : D} (hx : look kds x = some d)
    (hs : ∀ o i, subscripted slice false o i = operate [o, i] (getItem o i) := by intro _ _; with_unfolding_all rfl) :
    Op2 prog w h₀ k (subscriptTail value slice) b1 (.dic kds) b2 (.str x) true d := by
  intro A X s _ _ Q E hr hs' hl r1 r2 hq
  obtain ⟨t, rfl⟩ := r2.one
  have r1' := r1.one
  obtain ⟨a, kvs, rfl, hsy, hd, rk⟩ := id r1'
  exact tail_any hd.typeIs slot_dict_getitem.lookup (getItem_dic r1' hx hq) (hs _ _)
-- items
theorem op_item_tup {value slice : Expr} {i : Int} {ds : List D} {d : D} (h0 : 0 ≤ i) (hi : i < 2 ^ 62) (hx : ds[i.toNat]? = some d)
    (hs : ∀ o j, subscripted slice false o j = operate [o, j] (getItem o j) := by intro _ _; with_unfolding_all rfl) :
    Op2 prog w h₀ k (subscriptTail value slice) b1 (.tup ds) b2 (.int i) true d := by
  intro A X s _ _ Q E hr hs' hl r1 r2 hq
  obtain ⟨t, rfl⟩ := r2.one
  obtain ⟨a, vs, rfl, ht, rs⟩ := r1.one
  obtain ⟨v, hv, rv⟩ := rs.get hx
  have hlt : i.toNat < vs.length := by
    rcases Nat.lt_or_ge i.toNat vs.length with q | q
    · exact q
    · rw [List.getElem?_eq_none q] at hv; cases hv
  have hix : seqIndex? i vs.toArray.size = some i.toNat := by
    unfold seqIndex?
    simp only [List.size_toArray]
    have : ¬ i < 0 := by omega
    simp [this]
    omega
  exact tail_any (T := "tuple") (let ⟨o, ho, hc, _⟩ := ht; ⟨o, ho, hc⟩) slot_tuple_getitem.lookup (PyProof.Rows.getItem_tuple (j := i.toNat) ht (by omega) (by omega) hix (by simpa using hv) (hq _ _ (Kp.rfl' s) rv)) (hs _ _)
theorem op_item_lst {value slice : Expr} {i : Int} {ds : List D} {d : D} (h0 : 0 ≤ i) (hi : i < 2 ^ 62) (hx : ds[i.toNat]? = some d)
    (hs : ∀ o j, subscripted slice false o j = operate [o, j] (getItem o j) := by intro _ _; with_unfolding_all rfl) :
    Op2 prog w h₀ k (subscriptTail value slice) b1 (.lst ds) b2 (.int i) true d := by
  intro A X s _ _ Q E hr hs' hl r1 r2 hq
  obtain ⟨t, rfl⟩ := r2.one
  obtain ⟨a, vs, rfl, ht, rs⟩ := r1.one
  obtain ⟨v, hv, rv⟩ := rs.get hx
  exact tail_any ht.isList.typeIs slot_list_getitem.lookup (wpAny_getItem_list ht.isList h0 (by omega) (by simpa using hv) (hq _ _ (Kp.rfl' s) rv)) (hs _ _)
theorem op_item_str {value slice : Expr} {i : Int} {x : Str} (h0 : 0 ≤ i) (hi : i < 2 ^ 62) (hx : (Txt.charAt x i).isSome = true)
    (hs : ∀ o j, subscripted slice false o j = operate [o, j] (getItem o j) := by intro _ _; with_unfolding_all rfl) :
    Op2 prog w h₀ k (subscriptTail value slice) b1 (.str x) b2 (.int i) true (.str (Txt.item x i)) := by
  intro A X s _ _ Q E hr hs' hl r1 r2 hq
  obtain ⟨t, rfl⟩ := r2.one
  obtain ⟨u, rfl⟩ := r1.one
  exact tail_any (typeIs_str s x u) slot_str_getitem.lookup (SB.getItem (by simp [fitsSsize]; omega) hx (hq _ _ (Kp.tok s _) (.str _ _))) (hs _ _)
end
end Mine

-- part A4
namespace Mine

def upd (m : Str → Option Value) (x : Str) (v : Value) : Str → Option Value := fun y => if y = x then some v else m y
def upds (m : Str → Option Value) : List Str → List Value → Str → Option Value
  | x :: xs, v :: vs => upds (upd m x v) xs vs
  | _, _ => m
def extC : List Str → List D → Ctx0 → Ctx0
  | x :: xs, d :: ds, σ => extC xs ds ((x, true, d) :: σ)
  | _, _, σ => σ
/-- the address at which the frame stores the name -/
def Slot (env : Env) (x : Str) (b : Addr) : Prop := (env.kindOf x = some .local ∧ b = env.locals) ∨ (env.kindOf x = some .cell ∧ env.cells.lookup x = some b)

section
variable {prog : Program} {w : World} {A : Around} {E : Value → Shared → Prop} {X : Addr → Prop}

theorem ns_ne_cell {h : Heap} {a c : Addr} {m v} (n : h.Ns a m) (i : h.IsCell c v) : c ≠ a := by
  rintro rfl
  obtain ⟨o, es, ep, ho, hd, _⟩ := n
  obtain ⟨o', ho', hd'⟩ := i
  rw [ho] at ho'; cases ho'
  rw [hd] at hd'; cases hd'

theorem Fm.store {env : Env} {m : Str → Option Value} {s : Shared} {x : Str} {v : Value} {Q : Unit → Shared → Prop} (f : Fm env m s.heap)
    (hk : env.kindOf x = some .local ∨ env.kindOf x = some .cell)
    (hQ : ∀ h' tk, Fm env (upd m x v) h' → (∀ b o, ¬ Slot env x b → s.heap.get? b = some o → h'.get? b = some o) → Q () { s with heap := h', toks := tk }) :
    wpAny (model prog w) A (storeName env x v) Q E s := by
  rcases hk with hk | hk
  · obtain ⟨ml, hn, hm⟩ := f.ns
    refine wpAny_storeName_local hk hn (fun h' hn' hs' => ?_) (by rw [f.kind]; rfl)
    refine hQ h' _ ⟨f.kind, f.gl, f.bu, ⟨_, hn', fun y hy => ?_⟩, fun y hy => ?_, f.inj⟩ fun b o hb e => hs'.extBut b o (fun q => hb (.inl ⟨hk, q⟩)) e
    · unfold upd; by_cases q : y = x
      · simp [q]
      · simp [q, hm y hy]
    · obtain ⟨c, hc, hi⟩ := f.cell y hy
      have : y ≠ x := by rintro rfl; rcases hy with hy | hy <;> rw [hk] at hy <;> cases hy
      exact ⟨c, hc, by unfold upd; rw [if_neg this]; exact hi.sameBut hs' (ns_ne_cell hn hi)⟩
  · obtain ⟨c, hc, hi⟩ := f.cell x (.inl hk)
    refine wpAny_storeName_cell f.kind hk hc hi fun h' hi' hs' => ?_
    obtain ⟨ml, hn, hm⟩ := f.ns
    refine hQ h' s.toks ⟨f.kind, f.gl, f.bu, ⟨ml, hn.sameBut hs' (Ne.symm (ns_ne_cell hn hi)), fun y hy => ?_⟩, fun y hy => ?_, f.inj⟩ fun b o hb e => hs'.extBut b o (fun q => hb (.inr ⟨hk, by rw [q]; exact hc⟩)) e
    · have : y ≠ x := by rintro rfl; rw [hk] at hy; cases hy
      unfold upd; rw [if_neg this]; exact hm y hy
    · obtain ⟨c', hc', hi2⟩ := f.cell y hy
      by_cases q : y = x
      · subst q
        rw [hc] at hc'; cases hc'
        exact ⟨c, hc, by unfold upd; simpa using hi'⟩
      · exact ⟨c', hc', by unfold upd; rw [if_neg q]; exact hi2.sameBut hs' fun e => q (f.inj y x c' hc' (e ▸ hc))⟩

/-- an address that the frame's names hang on -/
def FmAddr (env : Env) (b : Addr) : Prop := b = env.locals ∨ ∃ x, env.cells.lookup x = some b
theorem Fm.mono {env : Env} {m : Str → Option Value} {h h' : Heap} (f : Fm env m h) (k : ∀ b o, FmAddr env b → h.get? b = some o → h'.get? b = some o) : Fm env m h' :=
  ⟨f.kind, f.gl, f.bu, let ⟨ml, ⟨o, es, ep, ho, r⟩, b⟩ := f.ns; ⟨ml, ⟨o, es, ep, k _ _ (.inl rfl) ho, r⟩, b⟩,
   fun x e => let ⟨c, a, ⟨o, ho, hd⟩⟩ := f.cell x e; ⟨c, a, ⟨o, k _ _ (.inr ⟨x, a⟩) ho, hd⟩⟩, f.inj⟩
theorem Fm.slotAlive {env : Env} {m : Str → Option Value} {h : Heap} (f : Fm env m h) {x : Str} {b : Addr} (sl : Slot env x b) : ∃ o, h.get? b = some o := by
  rcases sl with ⟨_, rfl⟩ | ⟨hk, hc⟩
  · obtain ⟨ml, ⟨o, _, _, ho, _⟩, _⟩ := f.ns; exact ⟨o, ho⟩
  · obtain ⟨c, hc', ⟨o, ho, _⟩⟩ := f.cell x (.inl hk)
    rw [hc] at hc'; cases hc'; exact ⟨o, ho⟩
theorem Knows.mono {h h' : Heap} {X' : Addr → Prop} {m σ} (n : Knows prog w X h m σ) (k : ∀ b o, ¬ X b → h.get? b = some o → ¬ X' b ∧ h'.get? b = some o) (hσ : ∀ x b d, σ.lookup x = some (b, d) → b = true) : Knows prog w X' h' m σ := by
  intro x b d e
  obtain ⟨v, hm, r⟩ := n x b d e
  obtain rfl := hσ x b d e
  exact ⟨v, hm, Rep.mono r k⟩
theorem Knows.upd {h : Heap} {m σ x d v} (n : Knows prog w X h m σ) {b : Bool} (r : RepB prog w X h b d v) : Knows prog w X h (upd m x v) ((x, b, d) :: σ) := by
  intro y b' d' e
  unfold Mine.upd
  rw [List.lookup_cons] at e
  by_cases q : y = x
  · subst q; simp at e; obtain ⟨rfl, rfl⟩ := e; exact ⟨v, by simp, r⟩
  · have : (y == x) = false := by simpa using q
    rw [this] at e
    rw [if_neg q]; exact n y b' d' e
theorem Knows.upds {h : Heap} : ∀ {xs ds cs m σ}, Knows prog w X h m σ → Reps prog w X h ds cs → xs.length = ds.length → Knows prog w X h (upds m xs cs) (extC xs ds σ)
  | [], [], [], _, _, n, .nil, _ => n
  | x :: xs, d :: ds, c :: cs, _, _, n, .cons a b, hl => Knows.upds (xs := xs) (n.upd (b := true) a) b (by simpa using hl)

/-- what a turn hands on -/
def Got (pr : Bool) (h : Heap) (v : Value) (cs : List Value) : Prop := if pr then ∃ T, v = .ref T ∧ h.IsTuple T cs.toArray else cs = [v]
inductive Tgt : Expr → Bool → List Str → Prop
  | name (x pos) : Tgt (.Name x pos) false [x]
  | pair (x y p1 p2 k pos) : Tgt (.Tuple [.Name x p1, .Name y p2] k pos) true [x, y]

theorem assign_tgt {tg : Expr} {pr : Bool} {xs : List Str} (t : Tgt tg pr xs) {env : Env} {m : Str → Option Value} {s : Shared} {v : Value} {cs : List Value} {Q : Unit → Shared → Prop} (hh : A.handled = none)
    (f : Fm env m s.heap) (hk : ∀ x ∈ xs, env.kindOf x = some .local ∨ env.kindOf x = some .cell) (g : Got pr s.heap v cs) (hl : cs.length = xs.length)
    (hQ : ∀ h' tk, Fm env (upds m xs cs) h' → (∀ b o, (∀ x ∈ xs, ¬ Slot env x b) → s.heap.get? b = some o → h'.get? b = some o) → Q () { s with heap := h', toks := tk }) :
    wpAny (model prog w) A (assign tg env v) Q E s := by
  cases t with
  | name x pos =>
    obtain rfl : cs = [v] := g
    exact wpAny_assign_Name (f.store (hk x (by simp)) fun h' tk f' k => hQ h' tk f' fun b o hb e => k b o (hb x (by simp)) e)
  | pair x y p1 p2 k pos =>
    obtain ⟨T, rfl, ht⟩ := g
    match cs, hl with
    | [v1, v2], _ =>
      refine wpAny_assign_Tuple hh ht (by rfl) (by rfl) fun h' hx => ?_
      have k1 : Ext s.heap h' := fun b o e => hx b o (fun q => by rw [q] at e; exact Nat.lt_irrefl _ (Heap.lt_size e)) e
      show wpAny _ A (do holding [v2] (assign (.Name x p1) env v1); assignInOrder [assign (.Name y p2) env] [v2]) _ _ _
      refine wpAny_bind (wpAny_holding (wpAny_assign_Name (Fm.store (s := { s with heap := h' }) (f.ext k1) (hk x (by simp)) fun h2 t2 f2 k2 => ?_)))
      show wpAny _ A (do holding [] (assign (.Name y p2) env v2); assignInOrder [] []) _ _ _
      refine wpAny_bind (wpAny_holding (wpAny_assign_Name (Fm.store (s := { s with heap := h2, toks := t2 }) f2 (hk y (by simp)) fun h3 t3 f3 k3 => ?_)))
      exact wpAny_pure (hQ h3 t3 f3 fun b o hb e => k3 b o (hb y (by simp)) (k2 b o (hb x (by simp)) (k1 b o e)))
end

-- the environment of a comprehension
def clo (cells : List (Str × Addr)) : List (Str × NameKind) → List (Str × Addr) → List (Str × Addr)
  | [], acc => acc
  | (n, k) :: r, acc => if k == .free then clo cells r ((n, (cells.lookup n).getD 0) :: acc) else clo cells r acc

theorem closure_is {env : Env} {scope : Scope} (h : ∀ n k, (n, k) ∈ scope.names → k = .free → ∃ c, env.cells.lookup n = some c) : closureFor scope env = pure (clo env.cells scope.names []) := by
  unfold closureFor
  have key : ∀ (names : List (Str × NameKind)) (acc : List (Str × Addr)), (∀ n k, (n, k) ∈ names → k = .free → ∃ c, env.cells.lookup n = some c) →
      (forIn names acc fun (x : Str × NameKind) r => if (x.2 == NameKind.free) = true then do let c ← cellOf env x.1; pure (ForInStep.yield ((x.1, c) :: r)) else pure (ForInStep.yield r) : Sem (List (Str × Addr))) = pure (clo env.cells names acc) := by
    intro names
    induction names with
    | nil => intro acc _; rfl
    | cons p r ih =>
      intro acc h
      obtain ⟨n, k⟩ := p
      rw [List.forIn_cons]
      by_cases hk : k = .free
      · obtain ⟨c, hc⟩ := h n k (by simp) hk
        subst hk
        have e : (NameKind.free == NameKind.free) = true := rfl
        simp only [e, if_true, cellOf, hc, clo, Option.getD_some]
        show (pure (ForInStep.yield ((n, c) :: acc)) >>= _ : Sem _) = _
        rw [pure_bind]
        exact ih _ fun n' k' hm => h n' k' (by simp [hm])
      · have e : (k == NameKind.free) = false := by simpa using hk
        simp only [e, clo, Bool.false_eq_true, if_false, pure_bind]
        exact ih _ fun n' k' hm => h n' k' (by simp [hm])
  have := key scope.names [] h
  simp only [bind_pure_comp] at this ⊢
  exact (bind_pure _).trans this
end Mine

-- part A5
namespace Mine

-- cells laid for a block
theorem beq_cell : (NameKind.cell == NameKind.cell) = true := rfl
theorem beq_free : (NameKind.free == NameKind.free) = true := rfl
theorem pushCells_ext (names : List (Str × NameKind)) (h : Heap) : Ext h (pushCells h names) := fun b o e => pushCells_keeps names h b o e
theorem cf_other : ∀ (names : List (Str × NameKind)) (n : Nat) (acc : List (Str × Addr)) (x : Str), (x, NameKind.cell) ∉ names → (cellsFrom n names acc).lookup x = acc.lookup x
  | [], _, _, _, _ => rfl
  | (y, k) :: r, n, acc, x, hx => by
    unfold cellsFrom
    have hr : (x, NameKind.cell) ∉ r := fun q => hx (by simp [q])
    by_cases hk : k = .cell
    · subst hk
      have hne : x ≠ y := fun q => hx (by simp [q])
      rw [if_pos beq_cell, cf_other r (n + 1) _ x hr, List.lookup_cons]
      have : (x == y) = false := by simpa using hne
      rw [this]
    · have : (k == NameKind.cell) = false := by simpa using hk
      rw [this]
      simp only [Bool.false_eq_true, if_false]
      exact cf_other r n acc x hr
theorem cf_own : ∀ (names : List (Str × NameKind)) (h : Heap) (acc : List (Str × Addr)) (x : Str), (x, NameKind.cell) ∈ names →
    ∃ c, (cellsFrom h.objs.size names acc).lookup x = some c ∧ h.objs.size ≤ c ∧ (pushCells h names).IsCell c none
  | (y, k) :: r, h, acc, x, hx => by
    unfold cellsFrom pushCells
    by_cases hk : k = .cell
    · subst hk
      rw [if_pos beq_cell, if_pos beq_cell]
      have hsz : (h.push { cls := .type "cell", data := .cell none }).objs.size = h.objs.size + 1 := Heap.size_push ..
      by_cases hr : (x, NameKind.cell) ∈ r
      · obtain ⟨c, h1, h2, h3⟩ := cf_own r (h.push { cls := .type "cell", data := .cell none }) ((y, h.objs.size) :: acc) x hr
        rw [hsz] at h1 h2
        exact ⟨c, h1, by omega, h3⟩
      · have hxy : x = y := by
          rcases List.mem_cons.mp hx with q | q
          · exact (Prod.mk.inj q).1
          · exact absurd q hr
        subst hxy
        refine ⟨h.objs.size, ?_, Nat.le_refl _, ?_⟩
        · rw [cf_other _ _ _ _ hr]; simp
        · exact ⟨_, pushCells_ext _ _ _ _ (Heap.get?_push_size _ rfl), rfl⟩
    · have e : (k == NameKind.cell) = false := by simpa using hk
      rw [e]
      simp only [Bool.false_eq_true, if_false]
      refine cf_own r h acc x ?_
      rcases List.mem_cons.mp hx with q | q
      · exact absurd (Prod.mk.inj q).2.symm hk
      · exact q
theorem cf_inj : ∀ (names : List (Str × NameKind)) (n : Nat) (acc : List (Str × Addr)), (∀ x c, acc.lookup x = some c → c < n) → (∀ x y c, acc.lookup x = some c → acc.lookup y = some c → x = y) →
    ∀ x y c, (cellsFrom n names acc).lookup x = some c → (cellsFrom n names acc).lookup y = some c → x = y
  | [], _, _, _, hi => hi
  | (z, k) :: r, n, acc, hl, hi => by
    unfold cellsFrom
    by_cases hk : k = .cell
    · subst hk
      rw [if_pos beq_cell]
      refine cf_inj r (n + 1) _ (fun x c e => ?_) (fun x y c e1 e2 => ?_)
      · rw [List.lookup_cons] at e
        split at e
        · cases e; exact Nat.lt_succ_self _
        · exact Nat.lt_succ_of_lt (hl x c e)
      · rw [List.lookup_cons] at e1 e2
        split at e1 <;> split at e2
        · rename_i q1 _ q2; rw [beq_iff_eq.mp q1, beq_iff_eq.mp q2]
        · cases e1; exact absurd (hl y _ e2) (Nat.lt_irrefl _)
        · cases e2; exact absurd (hl x _ e1) (Nat.lt_irrefl _)
        · exact hi x y c e1 e2
    · have e : (k == NameKind.cell) = false := by simpa using hk
      rw [e]
      simp only [Bool.false_eq_true, if_false]
      exact cf_inj r n acc hl hi

theorem cf_cases : ∀ (names : List (Str × NameKind)) (n : Nat) (acc : List (Str × Addr)) (x : Str) (c : Addr), (cellsFrom n names acc).lookup x = some c → acc.lookup x = some c ∨ n ≤ c
  | [], _, _, _, _, h => .inl h
  | (y, k) :: r, n, acc, x, c, h => by
    unfold cellsFrom at h
    by_cases hk : k = .cell
    · subst hk
      rw [if_pos beq_cell] at h
      rcases cf_cases r (n + 1) _ x c h with q | q
      · rw [List.lookup_cons] at q
        split at q
        · cases q; exact .inr (Nat.le_refl _)
        · exact .inl q
      · exact .inr (Nat.le_of_succ_le q)
    · have e : (k == NameKind.cell) = false := by simpa using hk
      rw [e] at h
      simp only [Bool.false_eq_true, if_false] at h
      exact cf_cases r n acc x c h
theorem clo_look (cells : List (Str × Addr)) : ∀ (names : List (Str × NameKind)) (acc : List (Str × Addr)) (x : Str) (c : Addr), (clo cells names acc).lookup x = some c → acc.lookup x = some c ∨ ((x, NameKind.free) ∈ names ∧ c = (cells.lookup x).getD 0)
  | [], _, _, _, h => .inl h
  | (y, k) :: r, acc, x, c, h => by
    unfold clo at h
    by_cases hk : k = .free
    · subst hk
      rw [if_pos beq_free] at h
      rcases clo_look cells r _ x c h with q | q
      · rw [List.lookup_cons] at q
        split at q
        · rename_i e; cases q; rw [beq_iff_eq.mp e]; exact .inr ⟨by simp, rfl⟩
        · exact .inl q
      · exact .inr ⟨by simp [q.1], q.2⟩
    · have e : (k == NameKind.free) = false := by simpa using hk
      rw [e] at h
      simp only [Bool.false_eq_true, if_false] at h
      rcases clo_look cells r _ x c h with q | q
      · exact .inl q
      · exact .inr ⟨by simp [q.1], q.2⟩
theorem clo_has (cells : List (Str × Addr)) : ∀ (names : List (Str × NameKind)) (acc : List (Str × Addr)) (x : Str), ((x, NameKind.free) ∈ names ∨ acc.lookup x = some ((cells.lookup x).getD 0)) → (clo cells names acc).lookup x = some ((cells.lookup x).getD 0)
  | [], _, _, h => by rcases h with h | h; (· simp at h); exact h
  | (y, k) :: r, acc, x, h => by
    unfold clo
    by_cases hk : k = .free
    · subst hk
      rw [if_pos beq_free]
      refine clo_has cells r _ x ?_
      by_cases q : x = y
      · subst q; exact .inr (by simp)
      · rcases h with h | h
        · rcases List.mem_cons.mp h with e | e
          · exact absurd (Prod.mk.inj e).1 q
          · exact .inl e
        · exact .inr (by rw [List.lookup_cons, show (x == y) = false by simpa using q]; exact h)
    · have e : (k == NameKind.free) = false := by simpa using hk
      rw [e]
      simp only [Bool.false_eq_true, if_false]
      refine clo_has cells r acc x ?_
      rcases h with h | h
      · rcases List.mem_cons.mp h with e' | e'
        · exact absurd (Prod.mk.inj e').2.symm hk
        · exact .inl e'
      · exact .inr h

theorem lookup_mapped (g : Str → NameKind → NameKind) (x : Str) : ∀ names : List (Str × NameKind), (names.map fun p => (p.1, g p.1 p.2)).lookup x = (names.lookup x).map (g x)
  | [] => rfl
  | (y, k) :: r => by
    simp only [List.map_cons, List.lookup_cons]
    by_cases hx : (x == y) = true
    · obtain rfl := beq_iff_eq.mp hx
      simp
    · have : (x == y) = false := by simpa using hx
      rw [this]
      exact lookup_mapped g x r
theorem relabel_look (scope : Scope) (env : Env) (x : Str) : (relabel scope env).names.lookup x = (scope.names.lookup x).map fun k => if (k == .free && env.scope.kind == .function && env.kindOf x == some .cell) = true then .cell else k := by
  rw [← lookup_mapped (fun x k => if (k == .free && env.scope.kind == .function && env.kindOf x == some .cell) = true then .cell else k)]
  show (scope.names.map _).lookup x = _
  congr 1
  apply List.map_congr_left
  rintro ⟨n, k⟩ _
  show (if _ then _ else _) = _
  split <;> rename_i hc <;> simp only [hc] <;> rfl

/-- the environment of a comprehension over that of its frame -/
def cenvOf (scope : Scope) (env : Env) (C : Addr) : Env :=
  { scope := relabel scope env, locals := C, globals := env.globals, cells := cellsFrom (C + 1) scope.names (clo env.cells scope.names []), qual := env.qual, func := none, code := env.code, frame := env.frame, builtins := env.builtins }

theorem newComp {M : Model} {A : Around} {E : Value → Shared → Prop} {s : Shared} {scope : Scope} {env : Env} {cl : List (Str × Addr)} {Q : Env → Shared → Prop}
    (h : Q { scope, locals := s.heap.objs.size, globals := env.globals, cells := cellsFrom (s.heap.objs.size + 1) scope.names cl, qual := env.qual, func := none, code := env.code, frame := env.frame, builtins := env.builtins }
      { s with heap := pushCells (s.heap.push { cls := .type "dict", data := .dict #[] }) scope.names }) :
    wpAny M A (newFunctionEnv scope env.globals cl [] env.qual none .none (some env)) Q E s := by
  simp only [newFunctionEnv, Option.isSome_some, if_true]
  refine wpAny_bind (wpAny_alloc ?_)
  refine wpAny_bind (wpAny_layCells _ (fun name kind cells => by cases hkc : kind == NameKind.cell <;> simp [hkc]) _ _ _ _ ?_)
  rw [show ({ s with heap := s.heap.push { cls := .type "dict", data := .dict #[] } } : Shared).heap.objs.size = s.heap.objs.size + 1 from Heap.size_push ..]
  exact wpAny_pure h

/-- what the block around must bear for the scope of the comprehension -/
structure CompOk (sc scope : Scope) : Prop where
  kind : scope.kind = .function
  free : ∀ n, (n, NameKind.free) ∈ scope.names → sc.names.lookup n = some .cell ∨ sc.names.lookup n = some .free
  once : (scope.names.map (·.1)).Nodup

theorem mem_of_look {l : List (Str × NameKind)} {x : Str} {k : NameKind} (h : l.lookup x = some k) : (x, k) ∈ l := mem_of_lookup h
theorem look_of_mem {l : List (Str × NameKind)} (hn : (l.map (·.1)).Nodup) {x : Str} {k : NameKind} (h : (x, k) ∈ l) : l.lookup x = some k := by
  induction l with
  | nil => simp at h
  | cons p r ih =>
    obtain ⟨y, k'⟩ := p
    simp only [List.map_cons, List.nodup_cons] at hn
    rw [List.lookup_cons]
    rcases List.mem_cons.mp h with q | q
    · cases q; simp
    · have : x ≠ y := by rintro rfl; exact hn.1 (List.mem_map_of_mem (f := (·.1)) q)
      have e : (x == y) = false := by simpa using this
      rw [e]; exact ih hn.2 q

theorem comp_frame {env : Env} {m : Str → Option Value} {h : Heap} {scope : Scope} {sc : Scope} (he : env.scope = sc) (ok : CompOk sc scope) (f : Fm env m h) :
    closureFor scope env = pure (clo env.cells scope.names []) ∧
    Fm (cenvOf scope env h.objs.size) (fun x => if scope.names.lookup x = some .free then m x else none) (pushCells (h.push { cls := .type "dict", data := .dict #[] }) scope.names) := by
  have hfree : ∀ n, (n, NameKind.free) ∈ scope.names → env.kindOf n = some .cell ∨ env.kindOf n = some .free := fun n hn => by unfold Env.kindOf; rw [he]; exact ok.free n hn
  have hcell : ∀ n, (n, NameKind.free) ∈ scope.names → ∃ c, env.cells.lookup n = some c ∧ h.IsCell c (m n) := fun n hn => f.cell n (hfree n hn)
  refine ⟨closure_is fun n k hm hk => by subst hk; obtain ⟨c, hc, _⟩ := hcell n hm; exact ⟨c, hc⟩, ?_⟩
  have hsz : (h.push { cls := .type "dict", data := .dict #[] }).objs.size = h.objs.size + 1 := Heap.size_push ..
  have k1 : Ext h (pushCells (h.push { cls := .type "dict", data := .dict #[] }) scope.names) := fun b o e => pushCells_ext _ _ b o (Heap.get?_push_of_some _ e)
  have hcl : ∀ x c, (clo env.cells scope.names []).lookup x = some c → (x, NameKind.free) ∈ scope.names ∧ env.cells.lookup x = some c := fun x c e => by
    rcases clo_look _ _ _ _ _ e with q | ⟨q1, q2⟩
    · simp at q
    · obtain ⟨c', hc', _⟩ := hcell x q1
      rw [hc'] at q2; exact ⟨q1, q2 ▸ hc'⟩
  refine ⟨ok.kind, f.gl, f.bu, ⟨_, (Heap.Ns.new h (.type "dict")).keeps (pushCells_ext _ _), fun x hx => ?_⟩, fun x hx => ?_, ?_⟩
  · have hx' : (relabel scope env).names.lookup x = some .local := hx
    rw [relabel_look] at hx'
    have : scope.names.lookup x ≠ some .free := fun q => by
      rw [q] at hx'; simp at hx'; split at hx' <;> cases hx'
    simp [this]
  · have hx' : (relabel scope env).names.lookup x = some .cell ∨ (relabel scope env).names.lookup x = some .free := hx
    rw [relabel_look] at hx'
    cases hk : scope.names.lookup x with
    | none => rw [hk] at hx'; simp at hx'
    | some k =>
      rw [hk] at hx'
      by_cases hf : k = .free
      · subst hf
        have hm := mem_of_look hk
        obtain ⟨c, hc, hi⟩ := hcell x hm
        have hnc : (x, NameKind.cell) ∉ scope.names := fun q => by have := look_of_mem ok.once q; rw [hk] at this; cases this
        refine ⟨c, ?_, by simp only [if_true]; exact hi.keeps k1⟩
        show (cellsFrom (h.objs.size + 1) scope.names (clo env.cells scope.names [])).lookup x = some c
        rw [cf_other _ _ _ _ hnc, clo_has env.cells scope.names [] x (.inl hm), hc]; rfl
      · have hkc : k = .cell := by
          simp only [Option.map_some, Option.some.injEq] at hx'
          have e : (k == NameKind.free) = false := by simpa using hf
          rw [e] at hx'
          simp only [Bool.false_and, Bool.false_eq_true, if_false] at hx'
          rcases hx' with q | q
          · exact q
          · exact absurd q hf
        subst hkc
        obtain ⟨c, h1, h2, h3⟩ := cf_own scope.names (h.push { cls := .type "dict", data := .dict #[] }) (clo env.cells scope.names []) x (mem_of_look hk)
        rw [hsz] at h1
        exact ⟨c, h1, by simpa [hf] using h3⟩
  · refine cf_inj scope.names (h.objs.size + 1) _ (fun x c e => ?_) (fun x y c e1 e2 => ?_)
    · obtain ⟨q, e'⟩ := hcl x c e
      obtain ⟨c', hc', hi⟩ := hcell x q
      rw [e'] at hc'; cases hc'
      exact Nat.lt_succ_of_lt hi.lt
    · exact f.inj x y c (hcl x c e1).2 (hcl y c e2).2
end Mine

-- part A6
namespace Mine

section
variable (prog : Program) (w : World)
/-- a source of values: an iterator at I, its footprint, what it writes, what it hands on -/
structure Src (A : Around) (I : Addr) (fp wr : Addr → Prop) (n : Nat) (dat : Nat → List D) (pr : Bool) (St : (Addr → Prop) → Nat → Heap → Prop) : Prop where
  mono : ∀ X X' i h h', St X i h → (∀ b o, ¬ X b → h.get? b = some o → ¬ X' b ∧ h'.get? b = some o) → (∀ b o, fp b → h.get? b = some o → h'.get? b = some o) → St X' i h'
  item : ∀ X i (s : Shared) (tg : Expr) (Q : Value → Shared → Prop) (E : Value → Shared → Prop), (∀ b, wr b → X b) → (∃ xs, Tgt tg pr xs) → i < n → St X i s.heap →
    (∀ v cs h' tk, Got pr h' v cs → Reps prog w X h' (dat i) cs → St X (i + 1) h' → (∀ b o, ¬ wr b → s.heap.get? b = some o → h'.get? b = some o) → Q v { s with heap := h', toks := tk }) →
    wpAny (model prog w) A (pyNext (.ref I)) (fun r s₁ => ∃ v, r = some v ∧ wpAny (model prog w) A (letOwnedTupleGo tg (.ref I) v) (fun _ s₂ => Q v s₂) E s₁) E s
  done : ∀ X (s : Shared) (Q : Option Value → Shared → Prop) (E : Value → Shared → Prop), (∀ b, wr b → X b) → St X n s.heap →
    (∀ h' tk, (∀ b o, ¬ wr b → s.heap.get? b = some o → h'.get? b = some o) → Q none { s with heap := h', toks := tk }) → wpAny (model prog w) A (pyNext (.ref I)) Q E s
  sub : ∀ b, wr b → fp b
  alive : ∀ X i h, St X i h → ∀ b, wr b → ∃ o, h.get? b = some o
  self : ∀ X i (s : Shared) (Q : Value → Shared → Prop) (E : Value → Shared → Prop), St X i s.heap → Q (.ref I) s → wpAny (model prog w) A (pyIter (.ref I)) Q E s

/-- the expression, iterated, hands on those data; cl: what it walks over is not hot -/
def It (h₀ : Heap) (k : Nat) (sc : Scope) (σ : Ctx0) (e : Expr) (n : Nat) (dat : Nat → List D) (pr cl : Bool) : Prop :=
  ∀ (A : Around) (env : Env) (X : Addr → Prop) (s : Shared) (Q : Value → Shared → Prop) (E : Value → Shared → Prop),
    env.scope = sc → Room A k → See prog w h₀ env X σ s →
    (∀ I s' fp wr St, Kp s s' → Src prog w A I fp wr n dat pr St → St (fun a => X a ∨ wr a) 0 s'.heap → (∀ b, wr b → s.heap.get? b = none ∧ ∃ o, s'.heap.get? b = some o) →
      (∀ b, fp b → ∃ o, s'.heap.get? b = some o) → (cl = true → ∀ b, fp b → wr b ∨ ¬ X b) → Q (.ref I) s') →
    wpAny (model prog w) A (eval e env) (fun v s₁ => wpAny (model prog w) A (pyIter v) Q E s₁) E s

/-- the test comes out so -/
def Tr (h₀ : Heap) (k : Nat) (sc : Scope) (σ : Ctx0) (e : Expr) (p : Bool) : Prop :=
  ∀ (A : Around) (env : Env) (X : Addr → Prop) (s : Shared) (Q : Bool → Shared → Prop) (E : Value → Shared → Prop),
    env.scope = sc → Room A k → See prog w h₀ env X σ s → (∀ s', Kp s s' → Q p s') → wpAny (model prog w) A (isTrue e env (eval e env)) Q E s
def Tst (h₀ : Heap) (k : Nat) (sc : Scope) (σ : Ctx0) (ifs : List Expr) (p : Bool) : Prop :=
  ∀ (A : Around) (env : Env) (X : Addr → Prop) (s : Shared) (Q : Bool → Shared → Prop) (E : Value → Shared → Prop),
    env.scope = sc → Room A k → See prog w h₀ env X σ s → (∀ s', Kp s s' → Q p s') →
    wpAny (model prog w) A (forIn ifs true fun c r => if r = true then do let ok ← isTrue c env (eval c env); pure (ForInStep.yield ok) else pure (ForInStep.yield r)) Q E s
end

section
variable {prog : Program} {w : World} {h₀ : Heap} {k : Nat} {sc : Scope} {σ : Ctx0}
theorem Tst.nil : Tst prog w h₀ k sc σ [] true := fun _ _ _ s _ _ _ _ _ hq => wpAny_tests_nil (hq s (Kp.rfl' s))
theorem Tst.one {c p} (h : Tr prog w h₀ k sc σ c p) : Tst prog w h₀ k sc σ [c] p := fun A env X s _ E he hr hs hq => wpAny_tests_one (h A env X s _ E he hr hs hq)

/-- a turn of a comprehension behind its store -/
def turnRest (prog : Program) (w : World) (A : Around) (env : Env) (ifs : List Expr) (elt : Expr) (acc : Value) (J : Shared → Prop) (E : Value → Shared → Prop) (s₂ : Shared) : Prop :=
  wpAny (model prog w) A (forIn ifs true fun c r => if r = true then do let ok ← isTrue c env (eval c env); pure (ForInStep.yield ok) else pure (ForInStep.yield r)) (fun ok s₃ =>
    if ok = true then wpAny (model prog w) A (eval elt env) (fun x s₄ => wpAny (model prog w) A (call (.builtin "list.append") [acc, x]) (fun _ s₅ => J s₅) E s₄) E s₃ else J s₃) E s₂
theorem comp_turns {A : Around} {R : Result → Shared → Prop} {s : Shared} {elt target iter : Expr} {ifs : List Expr} {scope : Scope} {pos : Pos} {it acc : Value} {env : Env} (I : Nat → Shared → Prop)
    (turn : ∀ n s, I n s → wpAny (model prog w) A (pyNext it) (fun r s₁ => (r = none ∧ R (.ok .next) s₁) ∨ ∃ v, r = some v ∧
      wpAny (model prog w) A (letOwnedTupleGo target it v) (fun _ s₁' => wpAny (model prog w) A (assign target env v) (fun _ s₂ =>
        turnRest prog w A env ifs elt acc (fun s₅ => ∃ m, m < n ∧ I m s₅) (notedBy (model prog w) A env fun e s' => R (.error e) s') s₂)
          (notedBy (model prog w) A env fun e s' => R (.error e) s') s₁') (notedBy (model prog w) A env fun e s' => R (.error e) s') s₁) (notedBy (model prog w) A env fun e s' => R (.error e) s') s)
    (n : Nat) (h : I n s) :
    codeAny (model prog w) A (.compLoop (.ListComp elt [⟨target, iter, ifs, 0⟩] scope pos) 0 it acc env) R s := by
  refine codeAny_loop rfl I (fun n s hI => ?_) n h
  show wpAny _ A ((compTurn (.ListComp elt [⟨target, iter, ifs, 0⟩] scope pos) 0 it acc env).onRaise (fun x => do noteFrame x env; theTreesLotGoes x)) _ _ s
  refine wpAny_noted ?_
  rw [compTurn_list]
  refine wpAny_bind (wpAny_standAt (wpAny_bind (wpAny_mono (turn n s hI) (fun r s₁ h₁ => ?_) fun _ _ h' => h')))
  rcases h₁ with ⟨rfl, h₁⟩ | ⟨v, rfl, h₁⟩
  · exact wpAny_pure h₁
  · refine wpAny_bind (wpAny_mono h₁ (fun _ s₁' h₁' => ?_) fun _ _ h' => h')
    refine wpAny_bind (wpAny_mono h₁' (fun _ s₂ h₂ => wpAny_bind (wpAny_mono h₂ (fun ok s₃ h₃ => ?_) fun _ _ h' => h')) fun _ _ h' => h')
    cases ok with
    | false => exact wpAny_pure ⟨rfl, h₃⟩
    | true =>
      exact wpAny_bind (wpAny_bind (wpAny_mono h₃ (fun x s₄ h₄ => wpAny_bind (wpAny_mono h₄ (fun _ s₅ h₅ => wpAny_pure (wpAny_pure ⟨rfl, h₅⟩)) fun _ _ h' => h')) fun _ _ h' => h'))

/-- what of the context the comprehension's own block sees -/
def seen (scope : Scope) (σ : Ctx0) : Ctx0 := σ.filter fun p => scope.names.lookup p.1 == some .free
theorem seen_look {scope : Scope} : ∀ {σ : Ctx0} {x : Str} {y : Bool × D}, (seen scope σ).lookup x = some y → σ.lookup x = some y ∧ scope.names.lookup x = some .free
  | [], _, _, h => by simp [seen] at h
  | (z, q) :: r, x, y, h => by
    unfold seen at h
    rw [List.filter_cons] at h
    by_cases hc : (scope.names.lookup z == some NameKind.free) = true
    · rw [if_pos hc, List.lookup_cons] at h
      rw [List.lookup_cons]
      cases hx : x == z with
      | true => rw [hx] at h; obtain rfl := beq_iff_eq.mp hx; exact ⟨h, by simpa using hc⟩
      | false => rw [hx] at h; exact seen_look (σ := r) h
    · rw [if_neg hc] at h
      obtain ⟨h1, h2⟩ := seen_look (σ := r) h
      refine ⟨?_, h2⟩
      rw [List.lookup_cons]
      cases hx : x == z with
      | true => obtain rfl := beq_iff_eq.mp hx; rw [h2] at hc; simp at hc
      | false => exact h1
theorem upds_other {x : Str} : ∀ (xs : List Str) (vs : List Value) (m : Str → Option Value), x ∉ xs → upds m xs vs x = m x
  | [], _, _, _ => rfl
  | _ :: _, [], _, _ => rfl
  | y :: xs, v :: vs, m, hx => by
    rw [upds, upds_other xs vs _ fun q => hx (by simp [q])]
    unfold upd; rw [if_neg fun q => hx (by simp [q])]
theorem Rep1.mono {X X' : Addr → Prop} {h h' : Heap} {d v} (r : Rep1 prog w X h d v) (e : ∀ a, v = .ref a → ∀ o, h.get? a = some o → h'.get? a = some o)
    (k : ∀ b o, ¬ X b → h.get? b = some o → ¬ X' b ∧ h'.get? b = some o) : Rep1 prog w X' h' d v := by
  cases d with
  | int i => exact r
  | bool b => exact r
  | str x => exact r
  | tup ds => obtain ⟨a, vs, rfl, ⟨o, ho, r⟩, b⟩ := r; exact ⟨a, vs, rfl, ⟨o, e a rfl _ ho, r⟩, b.mono k⟩
  | lst ds => obtain ⟨a, vs, rfl, ⟨n, ho⟩, b⟩ := r; exact ⟨a, vs, rfl, ⟨n, e a rfl _ ho⟩, b.mono k⟩
  | dic ds => obtain ⟨a, vs, rfl, s, ⟨o, es, ep, ho, r⟩, b⟩ := r; exact ⟨a, vs, rfl, s, ⟨o, es, ep, e a rfl _ ho, r⟩, b.mono k⟩
theorem RepB.mono {X X' : Addr → Prop} {h h' : Heap} {b d v} (r : RepB prog w X h b d v) (e : ∀ a, v = .ref a → ∀ o, h.get? a = some o → h'.get? a = some o)
    (k : ∀ b o, ¬ X b → h.get? b = some o → ¬ X' b ∧ h'.get? b = some o) : RepB prog w X' h' b d v := by
  cases b with
  | true => exact Rep.mono r k
  | false => exact Rep1.mono r e k

def picks (n : Nat) (p : Nat → Bool) (f : Nat → D) : List D := ((List.range n).filter p).map f
theorem picks_succ (n : Nat) (p : Nat → Bool) (f : Nat → D) : picks (n + 1) p f = if p n then picks n p f ++ [f n] else picks n p f := by
  unfold picks
  rw [List.range_succ, List.filter_append, List.map_append]
  cases h : p n <;> simp [h]
theorem picks_le (n : Nat) (p : Nat → Bool) (f : Nat → D) : (picks n p f).length ≤ n := by
  unfold picks
  rw [List.length_map]
  exact Nat.le_trans (List.length_filter_le _ _) (by simp)
end
end Mine

-- part A7
namespace Mine
section
variable {prog : Program} {w : World} {h₀ : Heap} {k : Nat} {sc : Scope} {σ : Ctx0}

def relab (scope sc : Scope) : Scope := relabel scope { (default : Env) with scope := sc }
theorem relab_is {scope sc : Scope} {env : Env} (h : env.scope = sc) : relabel scope env = relab scope sc := by subst h; rfl

/-- the state within a comprehension's turns -/
structure CompAt (prog : Program) (w : World) (X X' : Addr → Prop) (σ' : Ctx0) (cenv : Env) (D' : Addr) (St : (Addr → Prop) → Nat → Heap → Prop) (p : Nat → Bool) (f : Nat → D) (s : Shared) (i : Nat) (s' : Shared) : Prop where
  same : ∃ h' tk, s' = { s with heap := h', toks := tk }
  src : St X' i s'.heap
  fm : ∃ m', Fm cenv m' s'.heap ∧ ∀ y b d, σ'.lookup y = some (b, d) → ∃ v, m' y = some v ∧ RepB prog w X s.heap b d v
  acc : ∃ ys, s'.heap.PlainList D' ys ∧ Reps prog w X' s'.heap (picks i p f) ys.toList
  live : ∀ a, X' a → ∃ o, s'.heap.get? a = some o
  keep : Ext s.heap s'.heap

theorem comp_core {elt tg iter : Expr} {ifs : List Expr} {scope : Scope} {pos : Pos} {pr cl : Bool} {xs : List Str} {n : Nat} {dat : Nat → List D} {p : Nat → Bool} {f : Nat → D}
    (hit : It prog w h₀ k sc σ iter n dat pr cl) (ht : Tgt tg pr xs) (hok : CompOk sc scope) (hx : ∀ x ∈ xs, scope.names.lookup x = some .local ∨ scope.names.lookup x = some .cell)
    (hlen : ∀ i, i < n → (dat i).length = xs.length)
    (htest : ∀ i, i < n → Tst prog w h₀ k (relab scope sc) (extC xs (dat i) (seen scope σ)) ifs (p i))
    (helt : ∀ i, i < n → p i = true → Ev prog w h₀ k (relab scope sc) (extC xs (dat i) (seen scope σ)) elt true (f i))
    (hn : n ≤ 2 ^ 20) {A : Around} {env : Env} {X : Addr → Prop} {s : Shared} {E : Value → Shared → Prop} {RR : Value → Addr → Result → Shared → Prop} (he : env.scope = sc) (hr : Room A k) (hsee : See prog w h₀ env X σ s)
    (hRR : ∀ D C h1 t1 ml, h1.Ns C ml → Ext s.heap h1 → s.heap.get? D = none → s.heap.get? C = none → D ≠ C →
      Rep prog w (fun a => X a ∨ a = C) h1 (.lst (picks n p f)) (.ref D) → RR (.ref D) C (.ok .next) { s with heap := h1, toks := t1 }) :
    wpAny (model prog w) A (eval iter env) (fun x s₁ => wpAny (model prog w) A (pyIter x) (fun it s₂ => wpAny (model prog w) A (newList []) (fun acc s₃ =>
      wpAny (model prog w) A (newFunctionEnv scope env.globals (clo env.cells scope.names []) [] env.qual none .none (some env)) (fun cenv s₄ =>
        codeAny (model prog w) A (.compStart (.ListComp elt [⟨tg, iter, ifs, 0⟩] scope pos) 0 it acc { cenv with scope := relabel scope env }) (RR acc cenv.locals) s₄) E s₃) E s₂) E s₁) E s := by
  obtain ⟨m₀, f₀, kn₀⟩ := hsee.fm
  refine hit A env X s _ E he hr hsee fun I s₂ fp wr St hk W hst hwr hfp _ => ?_
  have hsee2 := hsee.keeps hk
  have fm2 := f₀.ext hk.ext
  refine wpAny_newObj_type (newComp ?_)
  dsimp only
  rw [show (s₂.heap.push { cls := Value.type "list", dict := none, data := Data.seq ([] : List Value).toArray }).objs.size = s₂.heap.objs.size + 1 from Heap.size_push ..]
  -- the heap with the accumulator, the block's names and cells
  generalize hH3 : s₂.heap.push { cls := Value.type "list", dict := none, data := Data.seq ([] : List Value).toArray } = H3
  have hz3 : H3.objs.size = s₂.heap.objs.size + 1 := by rw [← hH3]; exact Heap.size_push ..
  have e3 : Ext s₂.heap H3 := fun b o e => by rw [← hH3]; exact Heap.get?_push_of_some _ e
  obtain ⟨hcl3, fm4⟩ := comp_frame he hok (fm2.ext e3)
  have e4 : Ext H3 (pushCells (H3.push { cls := .type "dict", data := .dict #[] }) scope.names) := fun b o e => pushCells_ext _ _ b o (Heap.get?_push_of_some _ e)
  rw [hz3] at fm4
  generalize hH4 : pushCells (H3.push { cls := .type "dict", data := .dict #[] }) scope.names = H4 at fm4 e4
  have hDl : H4.PlainList s₂.heap.objs.size #[] := ⟨_, e4 _ _ (by rw [← hH3]; exact Heap.get?_push_size _ rfl)⟩
  have hcenv : cenvOf scope env (s₂.heap.objs.size + 1) = { scope := relabel scope env, locals := s₂.heap.objs.size + 1, globals := env.globals, cells := cellsFrom (s₂.heap.objs.size + 1 + 1) scope.names (clo env.cells scope.names []), qual := env.qual, func := none, code := env.code, frame := env.frame, builtins := env.builtins } := rfl
  show codeAny _ A (.compStart _ 0 (.ref I) (.ref s₂.heap.objs.size) { scope := relabel scope env, locals := s₂.heap.objs.size + 1, globals := env.globals, cells := cellsFrom (s₂.heap.objs.size + 1 + 1) scope.names (clo env.cells scope.names []), qual := env.qual, func := none, code := env.code, frame := env.frame, builtins := env.builtins })
    (RR (.ref s₂.heap.objs.size) (s₂.heap.objs.size + 1)) { s₂ with heap := H4 }
  rw [← hcenv]
  generalize hC : cenvOf scope env (s₂.heap.objs.size + 1) = cenv at fm4
  have hCl : cenv.locals = s₂.heap.objs.size + 1 := by rw [← hC]; rfl
  have hCs : cenv.scope = relab scope sc := by rw [← hC]; exact relab_is he
  generalize hD' : s₂.heap.objs.size = D' at hDl hCl
  have e24 : Ext s₂.heap H4 := e3.trans e4
  have newNone : ∀ a, D' ≤ a → s₂.heap.get? a = none := fun a ha => by
    cases q : s₂.heap.get? a with
    | none => rfl
    | some o => exact absurd (Heap.lt_size q) (Nat.not_lt.mpr (hD' ▸ ha))
  -- the hot ones
  let X' : Addr → Prop := fun a => (X a ∨ wr a) ∨ (s₂.heap.get? a = none ∧ ∃ o, H4.get? a = some o)
  have hX' : X' = fun a => (X a ∨ wr a) ∨ (s₂.heap.get? a = none ∧ ∃ o, H4.get? a = some o) := rfl
  have cold : ∀ b o, ¬ (X b ∨ wr b) → s₂.heap.get? b = some o → ¬ X' b ∧ H4.get? b = some o := fun b o hb e => ⟨fun q => q.elim hb (fun q => by rw [e] at q; cases q.1), e24 _ _ e⟩
  have cold0 : ∀ b o, ¬ X b → s.heap.get? b = some o → ¬ (X b ∨ wr b) := fun b o hb e q => q.elim hb fun q => by rw [(hwr b q).1] at e; cases e
  have live' : ∀ a, X' a → ∃ o, H4.get? a = some o := fun a ha => by
    rcases ha with (ha | ha) | ⟨_, ha⟩
    · obtain ⟨o, ho⟩ := hsee2.live a ha; exact ⟨o, e24 _ _ ho⟩
    · obtain ⟨o, ho⟩ := (hwr a ha).2; exact ⟨o, e24 _ _ ho⟩
    · exact ha
  have hDX : X' D' := .inr ⟨newNone _ (Nat.le_refl _), let ⟨_, ho⟩ := hDl; ⟨_, ho⟩⟩
  have slotNew : ∀ x ∈ xs, ∀ b, Slot cenv x b → D' < b ∧ X' b := by
    intro x hxs b hb
    rcases hb with ⟨_, rfl⟩ | ⟨hkc, hcb⟩
    · refine ⟨by rw [hCl]; exact Nat.lt_succ_self _, .inr ⟨newNone _ (by rw [hCl]; exact Nat.le_succ _), ?_⟩⟩
      obtain ⟨ml, ⟨o, _, _, ho, _⟩, _⟩ := fm4.ns
      exact ⟨o, ho⟩
    · have hkx : scope.names.lookup x = some .cell := by
        rcases hx x hxs with q | q
        · have : cenv.kindOf x = some .local := by
            rw [← hC]; show (relabel scope env).names.lookup x = _; rw [relabel_look, q]; rfl
          rw [hkc] at this; cases this
        · exact q
      obtain ⟨c, h1, h2, h3⟩ := cf_own scope.names (H3.push { cls := .type "dict", data := .dict #[] }) (clo env.cells scope.names []) x (mem_of_look hkx)
      rw [Heap.size_push, hz3] at h1 h2
      have : cenv.cells.lookup x = some c := by rw [← hC]; exact h1
      rw [hcb] at this; cases this
      rw [hH4] at h3
      have hb' : D' < b := by rw [← hD']; exact Nat.lt_of_lt_of_le (Nat.lt_succ_of_lt (Nat.lt_succ_self _)) h2
      exact ⟨hb', .inr ⟨newNone _ (Nat.le_of_lt hb'), let ⟨o, ho, _⟩ := h3; ⟨o, ho⟩⟩⟩
  have fpOld : ∀ b, fp b → b < D' := fun b hb => by obtain ⟨o, ho⟩ := hfp b hb; exact hD' ▸ Heap.lt_size ho
  have hkx : ∀ x ∈ xs, cenv.kindOf x = some .local ∨ cenv.kindOf x = some .cell := fun x hxs => by
    have e : cenv.kindOf x = (relabel scope env).names.lookup x := by rw [← hC]; rfl
    rw [e, relabel_look]
    rcases hx x hxs with q | q <;> rw [q]
    · exact .inl rfl
    · exact .inr rfl
  have notSeen : ∀ y z, (seen scope σ).lookup y = some z → y ∉ xs := fun y z e hy => by
    have := (seen_look e).2
    rcases hx y hy with q | q <;> rw [q] at this <;> cases this
  have wrNew : ∀ b, D' ≤ b → ¬ wr b := fun b hb q => by obtain ⟨o, ho⟩ := (hwr _ q).2; rw [newNone _ hb] at ho; cases ho
  have wrOld : ∀ b o, s.heap.get? b = some o → ¬ wr b := fun b o e q => by rw [(hwr b q).1] at e; cases e
  have fmAddr : ∀ b, FmAddr cenv b → (D' < b ∨ ∃ o, s.heap.get? b = some o) := by
    rintro b (rfl | ⟨x, hxc⟩)
    · exact .inl (by rw [hCl]; exact Nat.lt_succ_self _)
    · rw [← hC] at hxc
      rcases cf_cases _ _ _ _ _ hxc with q | q
      · rcases clo_look _ _ _ _ _ q with q | ⟨q1, q2⟩
        · simp at q
        · have : env.kindOf x = some .cell ∨ env.kindOf x = some .free := by unfold Env.kindOf; rw [he]; exact hok.free x q1
          obtain ⟨c, hc, ⟨o, ho, _⟩⟩ := f₀.cell x this
          rw [hc] at q2; rw [q2]; exact .inr ⟨o, ho⟩
      · exact .inl (by rw [← hD']; exact Nat.lt_of_succ_le (Nat.le_of_succ_le q))
  have fmAddrW : ∀ b, FmAddr cenv b → ¬ wr b := fun b hb => (fmAddr b hb).elim (fun q => wrNew b (Nat.le_of_lt q)) fun ⟨o, ho⟩ => wrOld b o ho
  have fmAddrD : ∀ b, FmAddr cenv b → b ≠ D' := fun b hb e => by
    rcases fmAddr b hb with q | ⟨o, ho⟩
    · rw [e] at q; exact Nat.lt_irrefl _ q
    · rw [e] at ho; have := hk.ext _ _ ho; rw [newNone _ (Nat.le_refl _)] at this; cases this
  have hXX : ∀ b o, ¬ X b → s.heap.get? b = some o → ¬ X' b := fun b o hb e => (cold b o (cold0 b o hb e) (hk.ext _ _ e)).1
  have start : CompAt prog w X X' (seen scope σ) cenv D' St p f s 0 { s₂ with heap := H4 } := by
    refine ⟨?_, W.mono _ _ _ _ _ hst cold (fun b o hb e => e24 _ _ e), ⟨_, fm4, fun y b d e => ?_⟩, ⟨#[], hDl, .nil⟩, live', hk.ext.trans e24⟩
    · obtain ⟨h2, t2, rfl, _⟩ := hk; exact ⟨H4, t2, rfl⟩
    · obtain ⟨e1, e2⟩ := seen_look e
      obtain ⟨v, hv, rv⟩ := kn₀ y b d e1
      exact ⟨v, by simp only [e2, if_true]; exact hv, rv⟩
  have turns : codeAny (model prog w) A (.compLoop (.ListComp elt [⟨tg, iter, ifs, 0⟩] scope pos) 0 (.ref I) (.ref D') cenv) (RR (.ref D') cenv.locals) { s₂ with heap := H4 } := by
    refine comp_turns (fun k s' => ∃ i, i ≤ n ∧ k = n + 1 - i ∧ CompAt prog w X X' (seen scope σ) cenv D' St p f s i s') ?_ (n + 1) ⟨0, Nat.zero_le _, rfl, start⟩
    rintro _ s' ⟨i, hi, rfl, c⟩
    generalize hE' : (notedBy (model prog w) A cenv fun e s' => RR (Value.ref D') cenv.locals (Except.error e) s') = E'
    have hwX : ∀ b, wr b → X' b := fun b hb => .inl (.inr hb)
    obtain ⟨hs0, ts0, rfl⟩ := c.same
    obtain ⟨m', fm', kn'⟩ := c.fm
    obtain ⟨ys, hys, ry⟩ := c.acc
    have ckeep := c.keep
    have clive := c.live
    have csrc := c.src
    dsimp only at fm' hys ry ckeep clive csrc
    by_cases hlt : i < n
    · refine wpAny_mono (W.item X' i _ tg (fun v s9 => wpAny (model prog w) A (assign tg cenv v) (fun _ s₂' => turnRest prog w A cenv ifs elt (.ref D') (fun s₅ => ∃ m, m < n + 1 - i ∧ ∃ i, i ≤ n ∧ m = n + 1 - i ∧ CompAt prog w X X' (seen scope σ) cenv D' St p f s i s₅) E' s₂') E' s9) E'
        hwX ⟨xs, ht⟩ hlt csrc ?_) (fun r s₁ h₁ => .inr h₁) fun _ _ e => e
      intro v cs h1 t1 hgot hreps hst1 hk1
      dsimp only at hk1
      have hD1 : h1.PlainList D' ys := let ⟨n, ho⟩ := hys; ⟨n, hk1 _ _ (wrNew _ (Nat.le_refl _)) ho⟩
      have fm1 : Fm cenv m' h1 := fm'.mono fun b o hb e => hk1 b o (fmAddrW b hb) e
      refine assign_tgt (s := { s with heap := h1, toks := t1 }) ht hr.handled fm1 hkx hgot (hreps.length.trans (hlen i hlt)) fun h2 t2 fm2' hk2 => ?_
      dsimp only at hk2
      have hk2' : ∀ b o, ¬ X' b → h1.get? b = some o → h2.get? b = some o := fun b o hb e => hk2 b o (fun x hx q => hb (slotNew x hx b q).2) e
      have hk2d : ∀ b o, b ≤ D' → h1.get? b = some o → h2.get? b = some o := fun b o hb e => hk2 b o (fun x hx q => Nat.lt_irrefl _ (Nat.lt_of_lt_of_le (slotNew x hx b q).1 hb)) e
      have keep2 : Ext s.heap h2 := fun b o e => hk2d b o (by rw [← hD']; exact Nat.le_of_lt (Heap.lt_size (hk.ext _ _ e))) (hk1 b o (wrOld b o e) (ckeep b o e))
      have live2 : ∀ a, X' a → ∃ o, h2.get? a = some o := fun a ha => by
        by_cases hsl : ∃ x ∈ xs, Slot cenv x a
        · obtain ⟨x, _, sl⟩ := hsl; exact fm2'.slotAlive sl
        · have hsl' : ∀ x ∈ xs, ¬ Slot cenv x a := fun x hx q => hsl ⟨x, hx, q⟩
          by_cases hw : wr a
          · obtain ⟨o, ho⟩ := W.alive _ _ _ hst1 a hw; exact ⟨o, hk2 a o hsl' ho⟩
          · obtain ⟨o, ho⟩ := clive a ha; exact ⟨o, hk2 a o hsl' (hk1 a o hw ho)⟩
      have cold2 : ∀ b o, ¬ X' b → hs0.get? b = some o → ¬ X' b ∧ h2.get? b = some o := fun b o hb e => ⟨hb, hk2' b o hb (hk1 b o (fun q => hb (hwX b q)) e)⟩
      have kn2 : ∀ y b d, (seen scope σ).lookup y = some (b, d) → ∃ v, upds m' xs cs y = some v ∧ RepB prog w X s.heap b d v := fun y b d e => by
        obtain ⟨v, hv, rv⟩ := kn' y b d e
        exact ⟨v, by rw [upds_other _ _ _ (notSeen y _ e)]; exact hv, rv⟩
      have hreps2 : Reps prog w X' h2 (dat i) cs := hreps.mono fun b o hb e => ⟨hb, hk2' b o hb e⟩
      have see2 : See prog w h₀ cenv X' (extC xs (dat i) (seen scope σ)) { s with heap := h2, toks := t2 } := by
        refine ⟨hsee.st.ext keep2, live2, upds m' xs cs, fm2', Knows.upds (fun y b d e => ?_) hreps2 (hlen i hlt).symm⟩
        obtain ⟨v, hv, rv⟩ := kn' y b d e
        exact ⟨v, hv, rv.mono (fun a _ o e => keep2 _ _ e) fun b o hb e => ⟨hXX b o hb e, keep2 _ _ e⟩⟩
      have src2 : St X' (i + 1) h2 := W.mono _ _ _ _ _ hst1 (fun b o hb e => ⟨hb, hk2' b o hb e⟩) fun b o hb e => hk2d b o (Nat.le_of_lt (fpOld b hb)) e
      have hD2 : h2.PlainList D' ys := let ⟨n, ho⟩ := hD1; ⟨n, hk2d _ _ (Nat.le_refl _) ho⟩
      have ry2 : Reps prog w X' h2 (picks i p f) ys.toList := ry.mono cold2
      refine htest i hlt A cenv X' _ _ E' hCs hr see2 fun s3 k3 => ?_
      have see3 := see2.keeps k3
      obtain ⟨h3, t3, rfl, x3⟩ := k3
      dsimp only at x3
      have oldD : ∀ b o, s.heap.get? b = some o → b ≠ D' := fun b o e q => by
        have := hk.ext _ _ e; rw [q, newNone _ (Nat.le_refl _)] at this; cases this
      have next : ∀ (h5 : Heap) (t5 : Nat) (ys' : Array Value), (∀ b o, b ≠ D' → h3.get? b = some o → h5.get? b = some o) → h5.PlainList D' ys' → Reps prog w X' h5 (picks (i + 1) p f) ys'.toList →
          ∃ m, m < n + 1 - i ∧ ∃ i, i ≤ n ∧ m = n + 1 - i ∧ CompAt prog w X X' (seen scope σ) cenv D' St p f s i { s with heap := h5, toks := t5 } := by
        intro h5 t5 ys' x5 hl5 r5
        refine ⟨n + 1 - (i + 1), by omega, i + 1, hlt, rfl, ⟨h5, t5, rfl⟩, ?_, ⟨_, (fm2'.ext x3).mono fun b o hb e => x5 b o (fmAddrD b hb) e, kn2⟩, ⟨ys', hl5, r5⟩, fun a ha => ?_, fun b o e => x5 b o (oldD b o e) (x3 _ _ (keep2 _ _ e))⟩
        · exact W.mono _ _ _ _ _ src2 (fun b o hb e => ⟨hb, x5 b o (fun q => hb (q ▸ hDX)) (x3 _ _ e)⟩) fun b o hb e => x5 b o (Nat.ne_of_lt (fpOld b hb)) (x3 _ _ e)
        · by_cases q : a = D'
          · subst q; obtain ⟨n, ho⟩ := hl5; exact ⟨_, ho⟩
          · obtain ⟨o, ho⟩ := live2 a ha; exact ⟨o, x5 a o q (x3 _ _ ho)⟩
      cases hp : p i with
      | false =>
        show ∃ m, _
        exact next h3 t3 ys (fun _ _ _ e => e) (let ⟨n, ho⟩ := hD2; ⟨n, x3 _ _ ho⟩) (by rw [picks_succ, hp]; exact ry2.ext x3)
      | true =>
        rw [if_pos rfl]
        refine helt i hlt hp A cenv X' _ _ E' hCs hr see3 fun v' s4 k4 r4 => ?_
        obtain ⟨h4, t4, rfl, x4⟩ := k4
        dsimp only at x4
        have hD4 : h4.PlainList D' ys := let ⟨n, ho⟩ := hD2; ⟨n, x4 _ _ (x3 _ _ ho)⟩
        have hsz : ys.size ≤ sizeLine := by
          have h1 := ry.length
          have h2 := picks_le i p f
          rw [Array.length_toList] at h1
          rw [sizeLine_eq]; omega
        refine wpAny_list_append_plain (hsz := hsz) hD4 fun h5 hl5 hs5 => ?_
        have x5 : ∀ b o, b ≠ D' → h4.get? b = some o → h5.get? b = some o := fun b o hb e => hs5.extBut b o hb e
        refine next h5 t4 _ (fun b o hb e => x5 b o hb (x4 _ _ e)) hl5 ?_
        rw [picks_succ, hp, if_pos rfl, Array.toList_push]
        have c5 : ∀ b o, ¬ X' b → h4.get? b = some o → ¬ X' b ∧ h5.get? b = some o := fun b o hb e => ⟨hb, x5 b o (fun q => hb (q ▸ hDX)) e⟩
        exact ((ry2.ext (x3.trans x4)).mono c5).append (.cons (Rep.mono r4 c5) .nil)
    · have hin : i = n := Nat.le_antisymm hi (Nat.not_lt.mp hlt)
      subst hin
      refine W.done X' _ _ E' hwX csrc fun h1 t1 hk1 => .inl ⟨rfl, ?_⟩
      dsimp only at hk1
      have fm1 : Fm cenv m' h1 := fm'.mono fun b o hb e => hk1 b o (fmAddrW b hb) e
      obtain ⟨ml, hml, _⟩ := fm1.ns
      have hDC : D' ≠ cenv.locals := by rw [hCl]; exact Nat.ne_of_lt (Nat.lt_succ_self _)
      have hCX : X' cenv.locals := .inr ⟨newNone _ (by rw [hCl]; exact Nat.le_succ _), by obtain ⟨ml, ⟨o, _, _, ho, _⟩, _⟩ := fm4.ns; exact ⟨o, ho⟩⟩
      have old : ∀ a, D' ≤ a → s.heap.get? a = none := fun a ha => by
        cases q : s.heap.get? a with
        | none => rfl
        | some o => have := hk.ext _ _ q; rw [newNone _ ha] at this; cases this
      refine hRR D' cenv.locals h1 t1 ml hml (fun b o e => hk1 b o (wrOld b o e) (ckeep b o e)) (old _ (Nat.le_refl _)) (old _ (by rw [hCl]; exact Nat.le_succ _)) hDC ?_
      refine Rep.lst (vs := ys.toList) (fun q => ?_) ?_ (ry.mono fun b o hb e => ⟨fun q => hb (q.elim (fun q => .inl (.inl q)) fun q => q ▸ hCX), hk1 b o (fun q => hb (hwX b q)) e⟩)
      · rcases q with q | q
        · obtain ⟨o, ho⟩ := hsee2.live _ q; rw [newNone _ (Nat.le_refl _)] at ho; cases ho
        · exact hDC q
      · obtain ⟨n, ho⟩ := hys
        exact ⟨n, hk1 _ _ (wrNew _ (Nat.le_refl _)) ho⟩
  have hpost : RR (.ref D') (D' + 1) = RR (.ref D') cenv.locals := by rw [hCl]
  subst hD'
  rw [hpost]
  exact codeAny_compStart_list turns (W.self X' 0 _ _ _ start.src turns)

theorem Ev.comp {elt tg iter : Expr} {ifs : List Expr} {scope : Scope} {pos : Pos} {pr cl : Bool} {xs : List Str} {n : Nat} {dat : Nat → List D} {p : Nat → Bool} {f : Nat → D}
    (hit : It prog w h₀ k sc σ iter n dat pr cl) (ht : Tgt tg pr xs) (hok : CompOk sc scope) (hx : ∀ x ∈ xs, scope.names.lookup x = some .local ∨ scope.names.lookup x = some .cell)
    (hlen : ∀ i, i < n → (dat i).length = xs.length)
    (htest : ∀ i, i < n → Tst prog w h₀ k (relab scope sc) (extC xs (dat i) (seen scope σ)) ifs (p i))
    (helt : ∀ i, i < n → p i = true → Ev prog w h₀ k (relab scope sc) (extC xs (dat i) (seen scope σ)) elt true (f i))
    (hn : n ≤ 2 ^ 20) (hs : ∀ env x, foldedSetIterable iter env x = pure x := by intro _ _; rfl) :
    Ev prog w h₀ k sc σ (.ListComp elt [⟨tg, iter, ifs, 0⟩] scope pos) true (.lst (picks n p f)) := by
  intro A env X s Q E he hr hsee hq
  rw [eval_ListComp]
  obtain ⟨m₀, f₀, kn₀⟩ := hsee.fm
  refine wpAny_comprehension_free (use := none) rfl (hs env) (comp_frame he hok f₀).1 hok.kind (fun x hx hl => by obtain ⟨y, q⟩ := x; subst hl; exact look_of_mem hok.once hx) ?_
  refine comp_core (RR := fun acc C => compPost (model prog w) A E none Q acc C) hit ht hok hx hlen htest helt hn he hr hsee fun D C h1 t1 ml hml x1 hD hC hDC hrep => ⟨ml, hml, fun h2 hs2 => ?_⟩
  have x2 : ∀ b o, b ≠ C → h1.get? b = some o → h2.get? b = some o := fun b o hb e => hs2.extBut b o hb e
  exact hq _ _ ⟨h2, t1, rfl, fun b o e => x2 b o (fun q => by rw [q, hC] at e; cases e) (x1 _ _ e)⟩ (hrep.mono fun b o hb e => ⟨fun q => hb (.inl q), x2 b o (fun q => hb (.inr q)) e⟩)
end
end Mine

-- part A8
namespace Mine

/-- the top: its names, and the recursion limit left alone -/
structure Bs (h₀ : Heap) (mg mb : Str → Option Value) : Prop where
  g : h₀.Ns mainGlobals mg
  b : h₀.Ns builtinsNs mb
  lim : h₀.NoLimit
theorem ns_stands {h₀ h : Heap} {a : Addr} {m} (n : h₀.Ns a m) (s : Stands h₀ h) (ha : a ≠ 23) : h.Ns a m := let ⟨o, es, ep, e, r⟩ := n; ⟨o, es, ep, s _ _ ha e, r⟩
theorem lim_stands {h₀ h : Heap} (n : h₀.NoLimit) (s : Stands h₀ h) : h.NoLimit := let ⟨mc, a, b⟩ := n; ⟨mc, ns_stands a s (by decide), b⟩

section
variable {prog : Program} {w : World} {h₀ : Heap} {k : Nat} {sc : Scope} {σ : Ctx0} {mg mb : Str → Option Value}

/-- a name of the module or a built-in -/
def Gv (prog : Program) (w : World) (h₀ : Heap) (sc : Scope) (e : Expr) (v : Value) : Prop :=
  ∀ (A : Around) (env : Env) (X : Addr → Prop) (σ : Ctx0) (s : Shared) (Q : Value → Shared → Prop) (E : Value → Shared → Prop), env.scope = sc → See prog w h₀ env X σ s → Q v s → wpAny (model prog w) A (eval e env) Q E s
theorem gname (B : Bs h₀ mg mb) {x : Str} {v : Value} {pos : Pos} (hk : sc.names.lookup x = some .globalImplicit) (hv : mg x = some v) (hd : (x == ("__debug__" : Str)) = false := by decide) : Gv prog w h₀ sc (.Name x pos) v := by
  intro A env X σ s Q E he hs hq
  obtain ⟨m, f, _⟩ := hs.fm
  refine Calls.Name_function_global f.kind (by unfold Env.kindOf; rw [he]; exact hk) (Calls.loadGlobal_global (mg := mg) ?_ hv hq) hd
  rw [f.gl]; exact ns_stands B.g hs.st (by decide)
theorem bname (B : Bs h₀ mg mb) {x : Str} {v : Value} {pos : Pos} (hk : sc.names.lookup x = some .globalImplicit) (hm : mg x = none) (hv : mb x = some v) (hd : (x == ("__debug__" : Str)) = false := by decide) : Gv prog w h₀ sc (.Name x pos) v := by
  intro A env X σ s Q E he hs hq
  obtain ⟨m, f, _⟩ := hs.fm
  refine Calls.Name_function_global f.kind (by unfold Env.kindOf; rw [he]; exact hk) (Calls.loadGlobal_builtin (mg := mg) (mb := mb) ?_ hm ?_ hv hq) hd
  · rw [f.gl]; exact ns_stands B.g hs.st (by decide)
  · rw [f.bu]; exact ns_stands B.b hs.st (by decide)

/-- a value that may be called in the plain way -/
def Plainly (prog : Program) (w : World) (h₀ : Heap) (f : Value) : Prop := ∀ h, Stands h₀ h → ∃ k, (k = Keeper.frame ∨ k = Keeper.machine ∨ k = Keeper.boundFrame) ∧ Looks (model prog w) h (keeperOf f) k
theorem plainly_builtin (id : String) : Plainly prog w h₀ (.builtin id) := fun _ _ => ⟨.machine, .inr (.inl rfl), Looks.of_pure rfl⟩
theorem plainly_type (id : String) : Plainly prog w h₀ (.type id) := fun _ _ => ⟨.machine, .inr (.inl rfl), Looks.of_pure rfl⟩

theorem call_one {A : Around} {env : Env} {X : Addr → Prop} {s : Shared} {Q : Value → Shared → Prop} {E : Value → Shared → Prop} {x : Str} {np pos : Pos} {e : Expr} {fv : Value} {b d}
    (hg : Gv prog w h₀ sc (.Name x np) fv) (hp : Plainly prog w h₀ fv) (h1 : Ev prog w h₀ k sc σ e b d) (hst : ∀ env, starEach [e] env = [(false, eval e env)])
    (he : env.scope = sc) (hr : Room A k) (hs : See prog w h₀ env X σ s)
    (h : ∀ v s', Kp s s' → RepB prog w X s'.heap b d v → wpAny (model prog w) A (call fv [v]) Q E s') : wpAny (model prog w) A (eval (.Call (.Name x np) [e] [] pos) env) Q E s := by
  refine wpAny_Call_NameR (hg A env X σ s _ E he hs ?_)
  refine callWith_of (P := Stands h₀) (by rw [hst]; rfl) hp ?_
  rw [hst]
  refine Calls.evalArgs_plain (x := eval e env) (rest := []) ?_
  have := wpAny_items_cons (M := model prog w) (A := A) (E := E) (s := s) (env := env) (pos := pos) (e := e) (rest := []) (Q := fun vs s' => Stands h₀ s'.heap ∧ wpAny (model prog w) A (call fv ([] ++ vs)) Q E s') ?_ (hst env)
  · rw [hst] at this; exact this
  · exact h1 A env X s _ E he hr hs fun v s' k' r => wpAny_items_nil ⟨(hs.keeps k').st, h v s' k' r⟩
theorem call_two {A : Around} {env : Env} {X : Addr → Prop} {s : Shared} {Q : Value → Shared → Prop} {E : Value → Shared → Prop} {x : Str} {np pos : Pos} {e e' : Expr} {fv : Value} {b d b' d'}
    (hg : Gv prog w h₀ sc (.Name x np) fv) (hp : Plainly prog w h₀ fv) (h1 : Ev prog w h₀ k sc σ e b d) (h2 : Ev prog w h₀ k sc σ e' b' d') (hst : ∀ env, starEach [e, e'] env = [(false, eval e env), (false, eval e' env)])
    (he : env.scope = sc) (hr : Room A k) (hs : See prog w h₀ env X σ s)
    (h : ∀ v v' s', Kp s s' → RepB prog w X s'.heap b d v → RepB prog w X s'.heap b' d' v' → wpAny (model prog w) A (call fv [v, v']) Q E s') : wpAny (model prog w) A (eval (.Call (.Name x np) [e, e'] [] pos) env) Q E s := by
  refine wpAny_Call_NameR (hg A env X σ s _ E he hs ?_)
  refine callWith_of (P := Stands h₀) (by rw [hst]; rfl) hp ?_
  have hst1 : starEach [e'] env = [(false, eval e' env)] := by
    have := hst env
    cases e <;> first | (cases this; done) | exact (List.cons.inj this).2
  rw [hst]
  refine Calls.evalArgs_plain (x := eval e env) (rest := backTo pos [(false, eval e' env)]) ?_
  have := wpAny_items_cons (M := model prog w) (A := A) (E := E) (s := s) (env := env) (pos := pos) (e := e) (rest := [e']) (Q := fun vs s' => Stands h₀ s'.heap ∧ wpAny (model prog w) A (call fv ([] ++ vs)) Q E s') ?_ (by rw [hst, hst1])
  · rw [hst] at this; exact this
  · refine h1 A env X s _ E he hr hs fun v s1 k1 r1 => ?_
    refine wpAny_items_cons ?_ hst1
    refine h2 A env X s1 _ E he hr (hs.keeps k1) fun v2 s2 k2 r2 => wpAny_items_nil ⟨((hs.keeps k1).keeps k2).st, h v v2 s2 (k1.trans k2) (r1.ext k2.ext) r2⟩
theorem Ev.call1 {x : Str} {np pos : Pos} {e : Expr} {fv : Value} {b1 d1 b d} (hg : Gv prog w h₀ sc (.Name x np) fv) (hp : Plainly prog w h₀ fv) (h1 : Ev prog w h₀ k sc σ e b1 d1) (ho : Op1 prog w h₀ k (fun v => call fv [v]) b1 d1 b d)
    (hst : ∀ env, starEach [e] env = [(false, eval e env)] := by intro _; rfl) : Ev prog w h₀ k sc σ (.Call (.Name x np) [e] [] pos) b d := by
  intro A env X s Q E he hr hs hq
  exact call_one hg hp h1 hst he hr hs fun v s' k' r => ho A X s' v Q E hr (hs.keeps k').st (hs.keeps k').live r fun v2 s2 k2 r2 => hq v2 s2 (k'.trans k2) r2
theorem Ev.call2 {x : Str} {np pos : Pos} {e e' : Expr} {fv : Value} {b1 d1 b2 d2 b d} (hg : Gv prog w h₀ sc (.Name x np) fv) (hp : Plainly prog w h₀ fv) (h1 : Ev prog w h₀ k sc σ e b1 d1) (h2 : Ev prog w h₀ k sc σ e' b2 d2) (ho : Op2 prog w h₀ k (fun v v' => call fv [v, v']) b1 d1 b2 d2 b d)
    (hst : ∀ env, starEach [e, e'] env = [(false, eval e env), (false, eval e' env)] := by intro _; rfl) : Ev prog w h₀ k sc σ (.Call (.Name x np) [e, e'] [] pos) b d := by
  intro A env X s Q E he hr hs hq
  exact call_two hg hp h1 h2 hst he hr hs fun v v' s' k' r r' => ho A X s' v v' Q E hr (hs.keeps k').st (hs.keeps k').live r r' fun v2 s2 k2 r2 => hq v2 s2 (k'.trans k2) r2
end
end Mine

-- part A9
namespace Mine
section
variable {prog : Program} {w : World} {h₀ : Heap} {k : Nat} {sc : Scope} {σ : Ctx0} {mg mb : Str → Option Value}

theorem Tgt.isName {tg : Expr} {xs : List Str} (t : Tgt tg false xs) : ∃ x pos, tg = .Name x pos := by cases t; exact ⟨_, _, rfl⟩
theorem Tgt.isPair {tg : Expr} {xs : List Str} (t : Tgt tg true xs) : ∃ elts k pos, tg = .Tuple elts k pos := by cases t; exact ⟨_, _, _, rfl⟩
theorem only {wr : Addr → Prop} {I : Addr} {h h' : Heap} (hs : Heap.SameBut I h h') (hw : wr I) : ∀ b o, ¬ wr b → h.get? b = some o → h'.get? b = some o := fun b o hb e => hs.extBut b o (fun q => hb (q ▸ hw)) e
theorem onlyE {wr : Addr → Prop} {I : Addr} {h h' : Heap} (hs : Heap.ExtBut I h h') (hw : wr I) : ∀ b o, ¬ wr b → h.get? b = some o → h'.get? b = some o := fun b o hb e => hs b o (fun q => hb (q ▸ hw)) e

theorem src_list {A : Around} (hh : A.handled = none) (I a : Addr) (hne : a ≠ I) (ds : List D) (vs : List Value) :
    Src prog w A I (fun b => b = I ∨ b = a) (fun b => b = I) ds.length (fun i => (ds[i]?).toList) false
      (fun X i h => h.IsListIter I a i ∧ h.IsList a vs.toArray ∧ Reps prog w X h ds vs) where
  mono := fun X X' i h h' ⟨⟨o, ho, r⟩, ⟨o2, ho2, r2⟩, q⟩ hc hf => ⟨⟨o, hf _ _ (.inl rfl) ho, r⟩, ⟨o2, hf _ _ (.inr rfl) ho2, r2⟩, q.mono hc⟩
  item := fun X i s tg Q E hw ht hi ⟨h1, h2, h3⟩ hq => by
    obtain ⟨xs, ht⟩ := ht
    obtain ⟨x, pos, rfl⟩ := ht.isName
    obtain ⟨v, hv, rv⟩ := h3.get (i := i) (d := ds[i]) (by simp [hi])
    refine wpAny_pyNext_list_item h1 h2 (by simpa using hv) fun h' hit hs => ⟨v, rfl, ?_⟩
    have hc : ∀ b o, ¬ X b → s.heap.get? b = some o → ¬ X b ∧ h'.get? b = some o := fun b o hb e => ⟨hb, hs.extBut b o (fun q => hb (q ▸ hw I rfl)) e⟩
    refine wpAny_pure (hq v [v] h' s.toks rfl ?_ ⟨hit, h2.extBut hs.extBut hne, h3.mono hc⟩ (only hs rfl))
    have : (ds[i]?).toList = [ds[i]] := by simp [hi]
    rw [this]; exact .cons (rv.mono hc) .nil
  done := fun X s Q E hw ⟨h1, h2, h3⟩ hq => wpAny_pyNext_list_end hh h1 h2 (by have := h3.length; simp [this]) fun h' hs => hq h' s.toks (onlyE hs rfl)
  sub := fun b hb => .inl hb
  alive := fun X i h ⟨⟨o, ho, _⟩, _⟩ b hb => by subst hb; exact ⟨o, ho⟩
  self := fun X i s Q E ⟨h1, _⟩ hq => wpAny_pyIter_listiter h1 hq

theorem It.lst {e : Expr} {b : Bool} {ds : List D} (h : Ev prog w h₀ k sc σ e b (.lst ds)) : It prog w h₀ k sc σ e ds.length (fun i => (ds[i]?).toList) false b := by
  intro A env X s Q E he hr hs hq
  refine h A env X s _ E he hr hs fun v s1 k1 r => ?_
  obtain ⟨a, vs, rfl, hl', rs⟩ := r.one
  have hl := hl'.isList
  have hs1 := hs.keeps k1
  have hne : a ≠ s1.heap.objs.size := by obtain ⟨o, ho, _⟩ := hl; exact Nat.ne_of_lt (Heap.lt_size ho)
  have e1 : Ext s1.heap (s1.heap.push { cls := .type "list_iterator", data := .fields #[.ref a, .int 0 0] }) := fun _ _ e => Heap.get?_push_of_some _ e
  have hI : (s1.heap.push { cls := .type "list_iterator", data := .fields #[.ref a, .int 0 0] }).get? s1.heap.objs.size = some { cls := .type "list_iterator", data := .fields #[.ref a, .int 0 0] } := Heap.get?_push_size _ rfl
  refine wpAny_pyIter_list hl (hq _ _ _ _ _ (k1.trans (Kp.obj _)) (src_list hr.handled _ a hne ds vs) ⟨⟨_, hI, rfl, rfl⟩, let ⟨o, ho, q⟩ := hl; ⟨o, e1 _ _ ho, q⟩, ?_⟩ ?_ ?_ ?_)
  · exact rs.mono fun b o hb e => ⟨fun q => q.elim hb fun q => by rw [q] at e; exact Nat.lt_irrefl _ (Heap.lt_size e), e1 _ _ e⟩
  · rintro b rfl
    refine ⟨?_, _, hI⟩
    cases q : s.heap.get? s1.heap.objs.size with
    | none => rfl
    | some o => exact absurd (Heap.lt_size (k1.ext _ _ q)) (Nat.lt_irrefl _)
  · rintro b (rfl | rfl)
    · exact ⟨_, hI⟩
    · obtain ⟨o, ho, _⟩ := hl; exact ⟨o, e1 _ _ ho⟩
  · intro hb c hc
    subst hb
    rcases hc with rfl | rfl
    · exact .inl rfl
    · cases r with | lst hx _ _ => exact .inr hx

theorem src_tup {A : Around} (hh : A.handled = none) (I a : Addr) (hne : a ≠ I) (ds : List D) (vs : List Value) :
    Src prog w A I (fun b => b = I ∨ b = a) (fun b => b = I) ds.length (fun i => (ds[i]?).toList) false
      (fun X i h => h.IsTupleIter I a i ∧ h.IsTuple a vs.toArray ∧ Reps prog w X h ds vs) where
  mono := fun X X' i h h' ⟨⟨o, ho, r⟩, ⟨o2, ho2, r2⟩, q⟩ hc hf => ⟨⟨o, hf _ _ (.inl rfl) ho, r⟩, ⟨o2, hf _ _ (.inr rfl) ho2, r2⟩, q.mono hc⟩
  item := fun X i s tg Q E hw ht hi ⟨h1, h2, h3⟩ hq => by
    obtain ⟨xs, ht⟩ := ht
    obtain ⟨x, pos, rfl⟩ := ht.isName
    obtain ⟨v, hv, rv⟩ := h3.get (i := i) (d := ds[i]) (by simp [hi])
    refine wpAny_pyNext_tuple_item h1 h2 (by simpa using hv) fun h' hit hs => ⟨v, rfl, ?_⟩
    have hc : ∀ b o, ¬ X b → s.heap.get? b = some o → ¬ X b ∧ h'.get? b = some o := fun b o hb e => ⟨hb, hs.extBut b o (fun q => hb (q ▸ hw I rfl)) e⟩
    refine wpAny_pure (hq v [v] h' s.toks rfl ?_ ⟨hit, (let ⟨o, ho, q⟩ := h2; ⟨o, hs.extBut _ _ hne ho, q⟩), h3.mono hc⟩ (only hs rfl))
    have : (ds[i]?).toList = [ds[i]] := by simp [hi]
    rw [this]; exact .cons (rv.mono hc) .nil
  done := fun X s Q E hw ⟨h1, h2, h3⟩ hq => wpAny_pyNext_tuple_end hh h1 h2 (by have := h3.length; simp [this]) fun h' hs => hq h' s.toks (onlyE hs rfl)
  sub := fun b hb => .inl hb
  alive := fun X i h ⟨⟨o, ho, _⟩, _⟩ b hb => by subst hb; exact ⟨o, ho⟩
  self := fun X i s Q E ⟨h1, _⟩ hq => wpAny_pyIter_tupleiter h1 hq

theorem It.tup {e : Expr} {b : Bool} {ds : List D} (h : Ev prog w h₀ k sc σ e b (.tup ds)) : It prog w h₀ k sc σ e ds.length (fun i => (ds[i]?).toList) false b := by
  intro A env X s Q E he hr hs hq
  refine h A env X s _ E he hr hs fun v s1 k1 r => ?_
  obtain ⟨a, vs, rfl, hl, rs⟩ := r.one
  have hs1 := hs.keeps k1
  have hne : a ≠ s1.heap.objs.size := by obtain ⟨o, ho, _⟩ := hl; exact Nat.ne_of_lt (Heap.lt_size ho)
  have e1 : Ext s1.heap (s1.heap.push { cls := .type "tuple_iterator", data := .fields #[.ref a, .int 0 0] }) := fun _ _ e => Heap.get?_push_of_some _ e
  have hI : (s1.heap.push { cls := .type "tuple_iterator", data := .fields #[.ref a, .int 0 0] }).get? s1.heap.objs.size = some { cls := .type "tuple_iterator", data := .fields #[.ref a, .int 0 0] } := Heap.get?_push_size _ rfl
  refine wpAny_pyIter_tuple hl (hq _ _ _ _ _ (k1.trans (Kp.obj _)) (src_tup hr.handled _ a hne ds vs) ⟨⟨_, hI, rfl, rfl⟩, let ⟨o, ho, q⟩ := hl; ⟨o, e1 _ _ ho, q⟩, ?_⟩ ?_ ?_ ?_)
  · exact rs.mono fun b o hb e => ⟨fun q => q.elim hb fun q => by rw [q] at e; exact Nat.lt_irrefl _ (Heap.lt_size e), e1 _ _ e⟩
  · rintro b rfl
    refine ⟨?_, _, hI⟩
    cases q : s.heap.get? s1.heap.objs.size with
    | none => rfl
    | some o => exact absurd (Heap.lt_size (k1.ext _ _ q)) (Nat.lt_irrefl _)
  · rintro b (rfl | rfl)
    · exact ⟨_, hI⟩
    · obtain ⟨o, ho, _⟩ := hl; exact ⟨o, e1 _ _ ho⟩
  · intro hb c hc
    subst hb
    rcases hc with rfl | rfl
    · exact .inl rfl
    · cases r with | tup hx _ _ => exact .inr hx
end
end Mine

-- part A10
namespace Mine
section
variable {prog : Program} {w : World} {h₀ : Heap} {k : Nat} {sc : Scope} {σ : Ctx0} {mg mb : Str → Option Value}

theorem none_new {s s1 : Shared} (k1 : Kp s s1) {a : Addr} (ha : s1.heap.objs.size ≤ a) : s.heap.get? a = none := by
  cases q : s.heap.get? a with
  | none => rfl
  | some o => exact absurd (Heap.lt_size (k1.ext _ _ q)) (Nat.not_lt.mpr ha)
theorem size_ne {h : Heap} {a : Addr} {o : Obj} (e : h.get? a = some o) : a ≠ h.objs.size := Nat.ne_of_lt (Heap.lt_size e)

-- the keys of a dict
theorem src_keys {A : Around} (hh : A.handled = none) (I a : Addr) (hne : a ≠ I) (kvs : List (Str × Value)) (ep : Nat) (ks : List Str) (hks : kvs.map (·.1) = ks) :
    Src prog w A I (fun b => b = I ∨ b = a) (fun b => b = I) ks.length (fun i => ((ks[i]?).map D.str).toList) false
      (fun _ i h => h.IsKeyIter I a i kvs.length ep ∧ h.DictAt (PySem.strKind prog w) a kvs ep) where
  mono := fun X X' i h h' ⟨⟨o, ho, r⟩, ⟨o2, es, ho2, r2⟩⟩ hc hf => ⟨⟨o, hf _ _ (.inl rfl) ho, r⟩, ⟨o2, es, hf _ _ (.inr rfl) ho2, r2⟩⟩
  item := fun X i s tg Q E hw ht hi ⟨h1, h2⟩ hq => by
    obtain ⟨xs, ht⟩ := ht
    obtain ⟨x, pos, rfl⟩ := ht.isName
    subst hks
    rw [List.length_map] at hi
    refine wpAny_pyNext_dict_item (k := kvs[i].1) (v := kvs[i].2) h1 h2 (by simp [hi]) fun key h' hkey hit hs => ⟨key, rfl, ?_⟩
    obtain ⟨t, rfl⟩ := Value.isStrOf_shape (v := key) hkey
    refine wpAny_pure (hq _ [_] h' s.toks rfl ?_ ⟨hit, h2.extBut hs.extBut hne⟩ (only hs rfl))
    have : (((kvs.map (·.1))[i]?).map D.str).toList = [D.str kvs[i].1] := by simp [hi]
    rw [this]; exact .cons (.str _ _) .nil
  done := fun X s Q E hw ⟨h1, h2⟩ hq => by
    subst hks
    rw [List.length_map] at h1
    exact wpAny_pyNext_dict_end hh h1 h2 (by simp) fun h' hs => hq h' s.toks (onlyE hs rfl)
  sub := fun b hb => .inl hb
  alive := fun X i h ⟨⟨o, ho, _⟩, _⟩ b hb => by subst hb; exact ⟨o, ho⟩
  self := fun X i s Q E ⟨h1, _⟩ hq => wpAny_pyIter_keyiter h1 hq

theorem It.keys {e : Expr} {b : Bool} {kds : List (Str × D)} (h : Ev prog w h₀ k sc σ e b (.dic kds)) : It prog w h₀ k sc σ e (kds.map (·.1)).length (fun i => (((kds.map (·.1))[i]?).map D.str).toList) false b := by
  intro A env X s Q E he hr hs hq
  refine h A env X s _ E he hr hs fun v s1 k1 r => ?_
  obtain ⟨a, kvs, rfl, hsy, hl, rs⟩ := r.one
  have hs1 := hs.keeps k1
  obtain ⟨ep, hd⟩ := hl.dictAt
  have hne : a ≠ s1.heap.objs.size := by obtain ⟨o, _, ho, _⟩ := hd; exact size_ne ho
  refine wpAny_pyIter_dict hsy hd ?_
  generalize hh1 : s1.heap.push { cls := .type "dict_keyiterator", data := .fields #[.ref a, .int 0 0, .int kvs.length 0, .int ep 0] } = h1
  have e1 : Ext s1.heap h1 := fun _ _ e => by rw [← hh1]; exact Heap.get?_push_of_some _ e
  have hI : h1.get? s1.heap.objs.size = some { cls := .type "dict_keyiterator", data := .fields #[.ref a, .int 0 0, .int kvs.length 0, .int ep 0] } := by rw [← hh1]; exact Heap.get?_push_size _ rfl
  refine hq _ _ _ _ _ (k1.trans ⟨h1, s1.toks, rfl, e1⟩) (src_keys hr.handled _ a hne kvs ep _ rs.keys) ⟨⟨_, hI, rfl, rfl⟩, hd.keep e1⟩ ?_ ?_ ?_
  · rintro b rfl; exact ⟨none_new k1 (Nat.le_refl _), _, hI⟩
  · rintro b (rfl | rfl)
    · exact ⟨_, hI⟩
    · obtain ⟨o, _, ho, _⟩ := hd; exact ⟨o, e1 _ _ ho⟩
  · intro hb c hc
    subst hb
    rcases hc with rfl | rfl
    · exact .inl rfl
    · cases r with | dic hx _ _ => exact .inr hx

-- the signs of a text
theorem src_str {A : Around} (hh : A.handled = none) (I : Addr) (x : Str) (t : Tok) :
    Src prog w A I (fun b => b = I) (fun b => b = I) x.cps.size (fun i => ((x.cps[i]?).map fun c => D.str ⟨#[c]⟩).toList) false
      (fun _ i h => h.IsStrIter I "str_ascii_iterator" x t i) where
  mono := fun X X' i h h' ⟨o, ho, r⟩ hc hf => ⟨o, hf _ _ rfl ho, r⟩
  item := fun X i s tg Q E hw ht hi h1 hq => by
    obtain ⟨xs, ht⟩ := ht
    obtain ⟨y, pos, rfl⟩ := ht.isName
    refine wpAny_pyNext_ascii_item (c := x.cps[i]) h1 (by simp [hi]) fun h' hit hs => ⟨_, rfl, ?_⟩
    refine wpAny_pure (hq _ [_] h' (s.toks + 1) rfl ?_ hit (only hs rfl))
    have : ((x.cps[i]?).map fun c => D.str ⟨#[c]⟩).toList = [D.str ⟨#[x.cps[i]]⟩] := by simp [hi]
    rw [this]; exact .cons (.str _ _) .nil
  done := fun X s Q E hw h1 hq => wpAny_pyNext_ascii_end hh h1 (by simp) fun h' hs => hq h' s.toks (onlyE hs rfl)
  sub := fun b hb => hb
  alive := fun X i h ⟨o, ho, _⟩ b hb => by subst hb; exact ⟨o, ho⟩
  self := fun X i s Q E h1 hq => wpAny_pyIter_striter_ascii h1 hq
theorem It.str {e : Expr} {b : Bool} {x : Str} (h : Ev prog w h₀ k sc σ e b (.str x)) (hx : (x.cps.all fun c => decide (c < 128)) = true) :
    It prog w h₀ k sc σ e x.cps.size (fun i => ((x.cps[i]?).map fun c => D.str ⟨#[c]⟩).toList) false true := by
  intro A env X s Q E he hr hs hq
  refine h A env X s _ E he hr hs fun v s1 k1 r => ?_
  obtain ⟨t, rfl⟩ := r.one
  refine wpAny_pyIter_ascii hx ?_
  generalize hh1 : s1.heap.push { cls := .type "str_ascii_iterator", data := .fields #[.str x t, .int 0 0] } = h1
  have e1 : Ext s1.heap h1 := fun _ _ e => by rw [← hh1]; exact Heap.get?_push_of_some _ e
  have hI : h1.get? s1.heap.objs.size = some { cls := .type "str_ascii_iterator", data := .fields #[.str x t, .int 0 0] } := by rw [← hh1]; exact Heap.get?_push_size _ rfl
  refine hq _ _ _ _ _ (k1.trans ⟨h1, s1.toks, rfl, e1⟩) (src_str hr.handled _ x t) ⟨_, hI, rfl, rfl⟩ ?_ ?_ ?_
  · rintro b rfl; exact ⟨none_new k1 (Nat.le_refl _), _, hI⟩
  · rintro b rfl; exact ⟨_, hI⟩
  · rintro _ c rfl; exact .inl rfl

-- range(n)
theorem src_range {A : Around} (hh : A.handled = none) (I : Addr) (n : Nat) :
    Src prog w A I (fun b => b = I) (fun b => b = I) n (fun i => [.int i]) false
      (fun _ i h => IsRangeIter h I i (n - i) 1) where
  mono := fun X X' i h h' ho hc hf => hf _ _ rfl ho
  item := fun X i s tg Q E hw ht hi h1 hq => by
    obtain ⟨xs, ht⟩ := ht
    obtain ⟨y, pos, rfl⟩ := ht.isName
    refine wpAny_pyNext_range_item h1 (by omega) fun h' hit hs => ⟨_, rfl, ?_⟩
    refine wpAny_pure (hq _ [_] h' (s.toks + 1) rfl (.cons (.int _ _) .nil) ?_ (only hs rfl))
    have e1 : ((i + 1 : Nat) : Int) = (i : Int) + 1 := by omega
    have e2 : (n : Int) - ((i + 1 : Nat) : Int) = (n : Int) - i - 1 := by omega
    rw [e2, e1]; exact hit
  done := fun X s Q E hw h1 hq => wpAny_pyNext_range_end hh h1 (by omega) fun h' hs => hq h' s.toks (onlyE hs rfl)
  sub := fun b hb => hb
  alive := fun X i h ho b hb => by subst hb; exact ⟨_, ho⟩
  self := fun X i s Q E h1 hq => wpAny_pyIter_rangeiter h1 hq
theorem It.range {e : Expr} {b : Bool} {n : Nat} {np pos : Pos} (hg : Gv prog w h₀ sc (.Name "range" np) (.type "range")) (h : Ev prog w h₀ k sc σ e b (.int n)) (hn : n < 2 ^ 20)
    (hst : ∀ env, starEach [e] env = [(false, eval e env)] := by intro _; rfl) : It prog w h₀ k sc σ (.Call (.Name "range" np) [e] [] pos) n (fun i => [.int i]) false true := by
  intro A env X s Q E he hr hs hq
  refine call_one hg (plainly_type _) h hst he hr hs fun v s1 k1 r => ?_
  obtain ⟨t, rfl⟩ := r.one
  refine call_range_1 ?_
  generalize hh1 : s1.heap.push { cls := .type "range", data := .fields #[.int 0 s1.toks, .int n t, .int 1 (s1.toks + 1)] } = h1
  have e1 : Ext s1.heap h1 := fun _ _ e => by rw [← hh1]; exact Heap.get?_push_of_some _ e
  have hz1 : h1.objs.size = s1.heap.objs.size + 1 := by rw [← hh1]; exact Heap.size_push ..
  have hR : h1.get? s1.heap.objs.size = some { cls := .type "range", data := .fields #[.int 0 s1.toks, .int n t, .int 1 (s1.toks + 1)] } := by rw [← hh1]; exact Heap.get?_push_size _ rfl
  have hsz : Builtin.Range.rangeSize 0 n 1 = n := by
    unfold Builtin.Range.rangeSize
    rw [if_pos (by decide)]
    split
    · rw [Int.ediv_one]; omega
    · omega
  refine wpAny_pyIter_range (s := { s1 with heap := h1, toks := s1.toks + 1 + 1 }) hR ?_ ?_
  · unfold Builtin.Range.small
    rw [hsz]
    simp [Builtin.Range.rangeFitsLong]
    omega
  rw [hsz]
  generalize hh2 : h1.push { cls := .type "range_iterator", data := .fields #[rawInt 0, rawInt n, rawInt 1] } = h2
  have e2 : Ext h1 h2 := fun _ _ e => by rw [← hh2]; exact Heap.get?_push_of_some _ e
  have hI : h2.get? h1.objs.size = some { cls := .type "range_iterator", data := .fields #[rawInt 0, rawInt n, rawInt 1] } := by rw [← hh2]; exact Heap.get?_push_size _ rfl
  refine hq _ _ _ _ _ (k1.trans ⟨h2, s1.toks + 1 + 1, rfl, e1.trans e2⟩) (src_range hr.handled _ n) ?_ ?_ ?_ ?_
  · show IsRangeIter h2 h1.objs.size (0 : Nat) ((n : Int) - (0 : Nat)) 1
    simpa using hI
  · rintro b rfl; exact ⟨none_new k1 (by rw [hz1]; exact Nat.le_succ _), _, hI⟩
  · rintro b rfl; exact ⟨_, hI⟩
  · rintro _ c rfl; exact .inl rfl

-- enumerate(list)
theorem src_enum {A : Around} (hh : A.handled = none) (I it a : Addr) (hI : I ≠ it) (ha1 : a ≠ I) (ha2 : a ≠ it) (ds : List D) (vs : List Value) :
    Src prog w A I (fun b => b = I ∨ b = it ∨ b = a) (fun b => b = I ∨ b = it) ds.length (fun i => .int i :: (ds[i]?).toList) true
      (fun X i h => (∃ old, IsEnum h I it i old) ∧ h.IsListIter it a i ∧ h.IsList a vs.toArray ∧ Reps prog w X h ds vs) where
  mono := fun X X' i h h' ⟨⟨old, h1⟩, ⟨o, ho, r⟩, ⟨o2, ho2, r2⟩, q⟩ hc hf => ⟨⟨old, hf _ _ (.inl rfl) h1⟩, ⟨o, hf _ _ (.inr (.inl rfl)) ho, r⟩, ⟨o2, hf _ _ (.inr (.inr rfl)) ho2, r2⟩, q.mono hc⟩
  item := fun X i s tg Q E hw ht hi ⟨⟨old, h0⟩, h1, h2, h3⟩ hq => by
    obtain ⟨xs, ht⟩ := ht
    obtain ⟨elts, kk, pos, rfl⟩ := ht.isPair
    obtain ⟨v, hv, rv⟩ := h3.get (i := i) (d := ds[i]) (by simp [hi])
    refine wpAny_pyNext_enum_item h0 h1 h2 (by simpa using hv) hI fun h' he hit hT hz hk => ⟨_, rfl, ?_⟩
    refine wpAny_letOwnedTupleGo_enum (s := { s with heap := h', toks := s.toks + 1 }) he fun h2' he2 hs2 => ?_
    have hTne : s.heap.objs.size ≠ I := (size_ne h0).symm
    have hitI : it ≠ I := Ne.symm hI
    have hk2 : ∀ b o, b ≠ I → b ≠ it → s.heap.get? b = some o → h2'.get? b = some o := fun b o q1 q2 e => hs2.extBut b o q1 (hk b o q1 q2 e)
    have hc : ∀ b o, ¬ X b → s.heap.get? b = some o → ¬ X b ∧ h2'.get? b = some o := fun b o hb e => ⟨hb, hk2 b o (fun q => hb (q ▸ hw I (.inl rfl))) (fun q => hb (q ▸ hw it (.inr rfl))) e⟩
    refine hq _ [.int i s.toks, v] h2' (s.toks + 1) ⟨_, rfl, ⟨_, hs2.extBut _ _ hTne hT, rfl, _, rfl⟩⟩ ?_ ⟨⟨v, ?_⟩, hit.extBut hs2.extBut hitI, ?_, h3.mono hc⟩ fun b o hb e => hk2 b o (fun q => hb (.inl q)) (fun q => hb (.inr q)) e
    · have : (ds[i]?).toList = [ds[i]] := by simp [hi]
      rw [this]; exact .cons (.int _ _) (.cons (rv.mono hc) .nil)
    · have e1 : ((i + 1 : Nat) : Int) = (i : Int) + 1 := by omega
      rw [e1]; exact he2
    · obtain ⟨o, ho, r⟩ := h2; exact ⟨o, hk2 _ _ ha1 ha2 ho, r⟩
  done := fun X s Q E hw ⟨⟨old, h0⟩, h1, h2, h3⟩ hq => wpAny_pyNext_enum_end hh h0 h1 h2 (by have := h3.length; simp [this]) fun h' hs => hq h' s.toks fun b o hb e => hs b o (fun q => hb (.inr q)) e
  sub := fun b hb => hb.elim .inl fun q => .inr (.inl q)
  alive := fun X i h ⟨⟨old, h0⟩, ⟨o, ho, _⟩, _⟩ b hb => by
    rcases hb with rfl | rfl
    · exact ⟨_, h0⟩
    · exact ⟨o, ho⟩
  self := fun X i s Q E ⟨⟨old, h0⟩, _⟩ hq => wpAny_pyIter_enum h0 hq
theorem It.enum {e : Expr} {b : Bool} {ds : List D} {np pos : Pos} (hg : Gv prog w h₀ sc (.Name "enumerate" np) (.type "enumerate")) (h : Ev prog w h₀ k sc σ e b (.lst ds))
    (hst : ∀ env, starEach [e] env = [(false, eval e env)] := by intro _; rfl) : It prog w h₀ k sc σ (.Call (.Name "enumerate" np) [e] [] pos) ds.length (fun i => .int i :: (ds[i]?).toList) true b := by
  intro A env X s Q E he hr hs hq
  refine call_one hg (plainly_type _) h hst he hr hs fun v s1 k1 r => ?_
  obtain ⟨a, vs, rfl, hl', rs⟩ := r.one
  have hl := hl'.isList
  have hal : a < s1.heap.objs.size := by obtain ⟨o, ho, _⟩ := hl; exact Heap.lt_size ho
  refine call_enumerate_list hl fun h' hE hit hz hk => ?_
  refine wpAny_pyIter_enum (s := { s1 with heap := h' }) hE ?_
  have hIn : s1.heap.objs.size + 1 ≠ s1.heap.objs.size := Nat.succ_ne_self _
  refine hq _ _ _ _ _ (k1.trans ⟨h', s1.toks, rfl, hk⟩) (src_enum hr.handled _ s1.heap.objs.size a hIn (Nat.ne_of_lt (Nat.lt_succ_of_lt hal)) (Nat.ne_of_lt hal) ds vs) ⟨⟨_, hE⟩, hit, (let ⟨o, ho, q⟩ := hl; ⟨o, hk _ _ ho, q⟩), ?_⟩ ?_ ?_ ?_
  · exact rs.mono fun b o hb e => ⟨fun q => by
      rcases q with q | q | q
      · exact hb q
      · rw [q] at e; exact absurd (Heap.lt_size e) (Nat.not_lt.mpr (Nat.le_succ _))
      · rw [q] at e; exact absurd (Heap.lt_size e) (Nat.lt_irrefl _), hk _ _ e⟩
  · rintro b (rfl | rfl)
    · exact ⟨none_new k1 (Nat.le_succ _), _, hE⟩
    · obtain ⟨o, ho, _⟩ := hit; exact ⟨none_new k1 (Nat.le_refl _), o, ho⟩
  · rintro b (rfl | rfl | rfl)
    · exact ⟨_, hE⟩
    · obtain ⟨o, ho, _⟩ := hit; exact ⟨o, ho⟩
    · obtain ⟨o, ho, _⟩ := hl; exact ⟨o, hk _ _ ho⟩
  · intro hb c hc
    subst hb
    rcases hc with rfl | rfl | rfl
    · exact .inl (.inl rfl)
    · exact .inl (.inr rfl)
    · cases r with | lst hx _ _ => exact .inr hx
end
end Mine

-- part A11
namespace Mine

/-- what stands of the state under changes at Y alone -/
def Rel (Y : Addr → Prop) (Rl : Shared → Prop) : Prop :=
  ∀ (s : Shared) (h' : Heap) (tk : Nat), Rl s → (∀ b o, ¬ Y b → s.heap.get? b = some o → h'.get? b = some o) → Rl { s with heap := h', toks := tk }

section
variable (prog : Program) (w : World) (h₀ : Heap)
/-- a frame at work: Y, what it may change; Rl, what stands under such changes -/
structure Inv (Y : Addr → Prop) (Rl : Shared → Prop) (env : Env) (X : Addr → Prop) (σ : Ctx0) (s : Shared) : Prop where
  st : Stands h₀ s.heap
  live : ∀ a, X a → ∃ o, s.heap.get? a = some o
  fm : ∃ m, Fm env m s.heap ∧ Knows prog w X s.heap m σ ∧ (∀ x d, σ.lookup x = some (false, d) → ∃ a, m x = some (.ref a) ∧ X a ∧ Y a ∧ ¬ FmAddr env a) ∧
    (∀ x y dx dy, σ.lookup x = some (false, dx) → σ.lookup y = some (false, dy) → x ≠ y → m x ≠ m y)
  fa : ∀ b, FmAddr env b → X b ∧ Y b
  new : ∀ a, s.heap.get? a = none → Y a
  base : ∀ b, Y b → b ≠ 23 → h₀.get? b = none
  rstep : Rel Y Rl
  rel : Rl s
end

section
variable {prog : Program} {w : World} {h₀ : Heap} {k : Nat} {sc : Scope} {σ : Ctx0} {Y : Addr → Prop} {Rl : Shared → Prop} {env : Env} {X : Addr → Prop} {s : Shared}

theorem Slot.fm {x : Str} {b : Addr} (h : Slot env x b) : FmAddr env b := h.elim (fun h => .inl h.2) fun h => .inr ⟨x, h.2⟩
theorem Inv.slots (i : Inv prog w h₀ Y Rl env X σ s) : ∀ x b, Slot env x b → X b ∧ Y b := fun _ b h => i.fa b h.fm
theorem Inv.see (i : Inv prog w h₀ Y Rl env X σ s) : See prog w h₀ env X σ s := ⟨i.st, i.live, let ⟨m, f, n, _⟩ := i.fm; ⟨m, f, n⟩⟩
theorem Inv.keeps {s' : Shared} (i : Inv prog w h₀ Y Rl env X σ s) (kp : Kp s s') : Inv prog w h₀ Y Rl env X σ s' := by
  have x := kp.ext
  obtain ⟨h', tk, rfl, _⟩ := id kp
  dsimp only at x
  refine ⟨i.st.ext x, fun a ha => let ⟨o, ho⟩ := i.live a ha; ⟨o, x _ _ ho⟩, ?_, i.fa, fun a ha => i.new a ?_, i.base, i.rstep, i.rstep s h' tk i.rel fun b o _ e => x b o e⟩
  · obtain ⟨m, f, n, h1, h2⟩ := i.fm
    exact ⟨m, f.ext x, fun y b d e => let ⟨v, a, r⟩ := n y b d e; ⟨v, a, r.ext x⟩, h1, h2⟩
  · cases q : s.heap.get? a with
    | none => rfl
    | some o => have := x _ _ q; rw [this] at ha; cases ha
theorem Inv.weaken {τ : Ctx0} (i : Inv prog w h₀ Y Rl env X σ s) (h : ∀ x y, τ.lookup x = some y → σ.lookup x = some y) : Inv prog w h₀ Y Rl env X τ s :=
  ⟨i.st, i.live, let ⟨m, f, n, h1, h2⟩ := i.fm; ⟨m, f, fun x b d e => n x b d (h _ _ e), fun x d e => h1 x d (h _ _ e), fun x y dx dy e1 e2 => h2 x y dx dy (h _ _ e1) (h _ _ e2)⟩, i.fa, i.new, i.base, i.rstep, i.rel⟩

theorem stands_step {h h' : Heap} (st : Stands h₀ h) (base : ∀ b, Y b → b ≠ 23 → h₀.get? b = none) (k : ∀ b o, ¬ Y b → h.get? b = some o → h'.get? b = some o) : Stands h₀ h' := fun b o hb e => k b o (fun q => by rw [base b q hb] at e; cases e) (st b o hb e)
theorem new_step {h h' : Heap} (new : ∀ a, h.get? a = none → Y a) (k : ∀ b o, ¬ Y b → h.get? b = some o → h'.get? b = some o) : ∀ a, h'.get? a = none → Y a := fun a ha => by
  by_cases hy : Y a
  · exact hy
  · cases q : h.get? a with
    | none => exact new a q
    | some o => have := k a o hy q; rw [this] at ha; cases ha

/-- a name stored -/
theorem Inv.store {A : Around} {E : Value → Shared → Prop} {Q : Unit → Shared → Prop} {x : Str} {d : D} {v : Value} (i : Inv prog w h₀ Y Rl env X σ s)
    (hk : env.kindOf x = some .local ∨ env.kindOf x = some .cell) (r : Rep prog w X s.heap d v)
    (hQ : ∀ s', Inv prog w h₀ Y Rl env X ((x, true, d) :: σ) s' → Q () s') : wpAny (model prog w) A (storeName env x v) Q E s := by
  obtain ⟨m, f, n, h1, h2⟩ := i.fm
  refine f.store hk fun h' tk f' k' => hQ _ ?_
  have hX : ∀ b o, ¬ X b → s.heap.get? b = some o → ¬ X b ∧ h'.get? b = some o := fun b o hb e => ⟨hb, k' b o (fun q => hb (i.slots x b q).1) e⟩
  have hY : ∀ b o, ¬ Y b → s.heap.get? b = some o → h'.get? b = some o := fun b o hb e => k' b o (fun q => hb (i.slots x b q).2) e
  refine ⟨stands_step i.st i.base hY, fun a ha => ?_, ⟨_, f', ?_, ?_, ?_⟩, i.fa, new_step i.new hY, i.base, i.rstep, i.rstep s h' tk i.rel hY⟩
  · by_cases q : Slot env x a
    · exact f'.slotAlive q
    · obtain ⟨o, ho⟩ := i.live a ha; exact ⟨o, k' a o q ho⟩
  · refine Knows.upd (b := true) (fun y b d' e => ?_) (r.mono hX)
    obtain ⟨v', hv, rv⟩ := n y b d' e
    refine ⟨v', hv, ?_⟩
    cases b with
    | true => exact Rep.mono rv hX
    | false =>
      obtain ⟨a, ha, _, _, hns⟩ := h1 y d' e
      exact Rep1.mono rv (fun a' ea o e' => by rw [hv] at ha; cases ha; cases ea; exact k' a o (fun q => hns q.fm) e') hX
  · intro y d' e
    rw [List.lookup_cons] at e
    by_cases q : (y == x) = true
    · rw [q] at e; cases e
    · have q' : (y == x) = false := by simpa using q
      rw [q'] at e
      obtain ⟨a, ha, r⟩ := h1 y d' e
      exact ⟨a, by unfold upd; rw [if_neg (by simpa using q)]; exact ha, r⟩
  · intro y z dy dz e1 e2 hne
    rw [List.lookup_cons] at e1 e2
    by_cases q : (y == x) = true
    · rw [q] at e1; cases e1
    · by_cases q2 : (z == x) = true
      · rw [q2] at e2; cases e2
      · have q' : (y == x) = false := by simpa using q
        have q2' : (z == x) = false := by simpa using q2
        rw [q'] at e1; rw [q2'] at e2
        unfold upd
        rw [if_neg (by simpa using q), if_neg (by simpa using q2)]
        exact h2 y z dy dz e1 e2 hne

/-- a new container, to be changed later, stored -/
theorem Inv.storeHot {A : Around} {E : Value → Shared → Prop} {Q : Unit → Shared → Prop} {x : Str} {d : D} {a : Addr} {s₁ : Shared} (i₁ : Inv prog w h₀ Y Rl env X σ s₁) (k₁ : Kp s₁ s) (hnew : s₁.heap.get? a = none) (hob : ∃ o, s.heap.get? a = some o)
    (hk : env.kindOf x = some .local ∨ env.kindOf x = some .cell) (r : Rep1 prog w (fun b => X b ∨ b = a) s.heap d (.ref a))
    (hQ : ∀ s', Inv prog w h₀ Y Rl env (fun b => X b ∨ b = a) ((x, false, d) :: σ) s' → Q () s') : wpAny (model prog w) A (storeName env x (.ref a)) Q E s := by
  have i := i₁.keeps k₁
  obtain ⟨m, f, n, h1, h2⟩ := i₁.fm
  have x1 := k₁.ext
  refine (f.ext x1).store hk fun h' tk f' k' => hQ _ ?_
  have hslot : ∀ y b, Slot env y b → X b ∧ Y b := i.slots
  have aNotX : ¬ X a := fun q => by obtain ⟨o, ho⟩ := i₁.live a q; rw [hnew] at ho; cases ho
  have aNotFm : ¬ FmAddr env a := fun q => aNotX (i.fa a q).1
  have aNotSlot : ∀ y, ¬ Slot env y a := fun y q => aNotX (hslot y a q).1
  have hX0 : ∀ b o, ¬ X b → s₁.heap.get? b = some o → ¬ (X b ∨ b = a) ∧ h'.get? b = some o := fun b o hb e => ⟨fun q => q.elim hb (fun q => by rw [q, hnew] at e; cases e), k' b o (fun q => hb (hslot x b q).1) (x1 _ _ e)⟩
  have hX : ∀ b o, ¬ (X b ∨ b = a) → s.heap.get? b = some o → ¬ (X b ∨ b = a) ∧ h'.get? b = some o := fun b o hb e => ⟨hb, k' b o (fun q => hb (.inl (hslot x b q).1)) e⟩
  have hY : ∀ b o, ¬ Y b → s.heap.get? b = some o → h'.get? b = some o := fun b o hb e => k' b o (fun q => hb (hslot x b q).2) e
  have hYa : Y a := i₁.new a hnew
  obtain ⟨oa, hoa⟩ := hob
  have hoa' : h'.get? a = some oa := k' a oa (aNotSlot x) hoa
  have mne : ∀ y d', σ.lookup y = some (false, d') → y ≠ x → ∃ a', m y = some (.ref a') ∧ a' ≠ a ∧ X a' ∧ Y a' ∧ ¬ FmAddr env a' := fun y d' e _ => by
    obtain ⟨a', ha', hXa, r⟩ := h1 y d' e
    exact ⟨a', ha', fun q => aNotX (q ▸ hXa), hXa, r⟩
  refine ⟨stands_step i.st i.base hY, fun b hb => ?_, ⟨_, f', ?_, ?_, ?_⟩, fun b q => ⟨.inl (i.fa b q).1, (i.fa b q).2⟩, new_step i.new hY, i.base, i.rstep, i.rstep s h' tk i.rel hY⟩
  · rcases hb with hb | rfl
    · by_cases q : Slot env x b
      · exact f'.slotAlive q
      · obtain ⟨o, ho⟩ := i.live b hb; exact ⟨o, k' b o q ho⟩
    · exact ⟨oa, hoa'⟩
  · refine Knows.upd (b := false) (fun y b d' e => ?_) (Rep1.mono r (fun a' ea o e' => by cases ea; exact k' a o (aNotSlot x) e') hX)
    obtain ⟨v', hv, rv⟩ := n y b d' e
    refine ⟨v', hv, ?_⟩
    cases b with
    | true => exact Rep.mono rv hX0
    | false =>
      obtain ⟨a', ha', _, _, hns⟩ := h1 y d' e
      exact Rep1.mono rv (fun a'' ea o e' => by rw [hv] at ha'; cases ha'; cases ea; exact k' a' o (fun q => hns q.fm) (x1 _ _ e')) hX0
  · intro y d' e
    rw [List.lookup_cons] at e
    by_cases q : (y == x) = true
    · rw [beq_iff_eq.mp q]
      exact ⟨a, by unfold upd; simp, .inr rfl, hYa, aNotFm⟩
    · have q' : (y == x) = false := by simpa using q
      rw [q'] at e
      obtain ⟨a', ha', _, h3, h4, h5⟩ := mne y d' e (by simpa using q)
      exact ⟨a', by unfold upd; rw [if_neg (by simpa using q)]; exact ha', .inl h3, h4, h5⟩
  · intro y z dy dz e1 e2 hne
    rw [List.lookup_cons] at e1 e2
    unfold upd
    by_cases q : (y == x) = true <;> by_cases q2 : (z == x) = true
    · exact absurd ((beq_iff_eq.mp q).trans (beq_iff_eq.mp q2).symm) hne
    · have q2' : (z == x) = false := by simpa using q2
      rw [q2'] at e2
      obtain ⟨a', ha', h3, _⟩ := mne z dz e2 (by simpa using q2)
      rw [if_pos (by simpa using q), if_neg (by simpa using q2), ha']
      intro e; cases e; exact h3 rfl
    · have q' : (y == x) = false := by simpa using q
      rw [q'] at e1
      obtain ⟨a', ha', h3, _⟩ := mne y dy e1 (by simpa using q)
      rw [if_neg (by simpa using q), if_pos (by simpa using q2), ha']
      intro e; cases e; exact h3 rfl
    · have q' : (y == x) = false := by simpa using q
      have q2' : (z == x) = false := by simpa using q2
      rw [q'] at e1; rw [q2'] at e2
      rw [if_neg (by simpa using q), if_neg (by simpa using q2)]
      exact h2 y z dy dz e1 e2 hne

/-- a hot container changed -/
theorem Inv.change' {x : Str} {d d' : D} {a : Addr} {h' : Heap} {tk : Nat} {m : Str → Option Value} (i : Inv prog w h₀ Y Rl env X σ s) (hl : σ.lookup x = some (false, d))
    (hf : Fm env m s.heap ∧ Knows prog w X s.heap m σ ∧ (∀ x d, σ.lookup x = some (false, d) → ∃ a, m x = some (.ref a) ∧ X a ∧ Y a ∧ ¬ FmAddr env a) ∧
      (∀ x y dx dy, σ.lookup x = some (false, dx) → σ.lookup y = some (false, dy) → x ≠ y → m x ≠ m y)) (hmx : m x = some (.ref a))
    (hs : ∀ b o, b ≠ a → s.heap.get? b = some o → h'.get? b = some o) (r : Rep1 prog w X h' d' (.ref a)) (hob : ∃ o, h'.get? a = some o) : Inv prog w h₀ Y Rl env X ((x, false, d') :: σ) { s with heap := h', toks := tk } := by
  obtain ⟨f, n, h1, h2⟩ := hf
  obtain ⟨a', ha', hXa, hYa, hns⟩ := h1 x d hl
  rw [hmx] at ha'; cases ha'
  have hX : ∀ b o, ¬ X b → s.heap.get? b = some o → ¬ X b ∧ h'.get? b = some o := fun b o hb e => ⟨hb, hs b o (fun q => hb (q ▸ hXa)) e⟩
  have hY : ∀ b o, ¬ Y b → s.heap.get? b = some o → h'.get? b = some o := fun b o hb e => hs b o (fun q => hb (q ▸ hYa)) e
  refine ⟨stands_step i.st i.base hY, fun b hb => ?_, ⟨m, f.mono fun b o hb e => hs b o (fun q => hns (q ▸ hb)) e, ?_, ?_, ?_⟩, i.fa, new_step i.new hY, i.base, i.rstep, i.rstep s h' tk i.rel hY⟩
  · by_cases q : b = a
    · subst q; exact hob
    · obtain ⟨o, ho⟩ := i.live b hb; exact ⟨o, hs b o q ho⟩
  · intro y b e' e
    rw [List.lookup_cons] at e
    by_cases q : (y == x) = true
    · rw [q] at e; cases e
      rw [beq_iff_eq.mp q]; exact ⟨_, hmx, r⟩
    · have q' : (y == x) = false := by simpa using q
      rw [q'] at e
      obtain ⟨v, hv, rv⟩ := n y b e' e
      refine ⟨v, hv, ?_⟩
      cases b with
      | true => exact Rep.mono rv hX
      | false =>
        have hne := h2 y x e' d e hl (by simpa using q)
        exact Rep1.mono rv (fun a' ea o e'' => hs a' o (fun q2 => hne (by rw [hv, hmx, ea, q2])) e'') hX
  · intro y e' e
    rw [List.lookup_cons] at e
    by_cases q : (y == x) = true
    · rw [beq_iff_eq.mp q]; exact ⟨a, hmx, hXa, hYa, hns⟩
    · have q' : (y == x) = false := by simpa using q
      rw [q'] at e
      exact h1 y e' e
  · intro y z dy dz e1 e2 hne
    rw [List.lookup_cons] at e1 e2
    have look : ∀ (y : Str) (dy : D), (match y == x with | true => some (false, d') | false => σ.lookup y) = some (false, dy) → ∃ dy', σ.lookup y = some (false, dy') := fun y dy e => by
      by_cases q : (y == x) = true
      · rw [beq_iff_eq.mp q]; exact ⟨d, hl⟩
      · have q' : (y == x) = false := by simpa using q
        rw [q'] at e; exact ⟨dy, e⟩
    obtain ⟨dy', e1'⟩ := look y dy e1
    obtain ⟨dz', e2'⟩ := look z dz e2
    exact h2 y z dy' dz' e1' e2' hne
end
end Mine

-- part A12
namespace Mine

def put (l : List (Str × D)) (x : Str) (d : D) : List (Str × D) :=
  if l.any (fun p => p.1 = x) then l.map (fun p => if p.1 = x then (p.1, d) else p) else l ++ [(x, d)]

section
variable {prog : Program} {w : World} {h₀ : Heap} {k : Nat} {sc : Scope} {σ : Ctx0} {Y : Addr → Prop} {Rl : Shared → Prop} {env : Env} {X : Addr → Prop} {s : Shared} {A : Around} {E : Value → Shared → Prop}

theorem Repk.append {h : Heap} {a b c d} (r : Repk prog w X h a b) (r' : Repk prog w X h c d) : Repk prog w X h (a ++ c) (b ++ d) := by
  induction b generalizing a with
  | nil => cases r; exact r'
  | cons p b ih => cases r with | cons q t => exact .cons q (ih t)
theorem Repk.put {h : Heap} {kds kvs} (r : Repk prog w X h kds kvs) {x : Str} {d : D} {v : Value} (rv : Rep prog w X h d v) : Repk prog w X h (put kds x d) (stored kvs x v) := by
  have hany : kds.any (fun p => p.1 = x) = kvs.any (fun p => p.1 = x) := by
    have := r.keys
    have e1 : kds.any (fun p => p.1 = x) = (kds.map (·.1)).any (fun p => p = x) := by rw [List.any_map]; rfl
    have e2 : kvs.any (fun p => p.1 = x) = (kvs.map (·.1)).any (fun p => p = x) := by rw [List.any_map]; rfl
    rw [e1, e2, this]
  unfold Mine.put stored
  rw [hany]
  split
  · clear hany
    induction kvs generalizing kds with
    | nil => cases r; exact .nil
    | cons p kvs ih =>
      cases r with
      | @cons k d' v' kds _ a b =>
        have hrest : Repk prog w X h (kds.map fun p => if p.1 = x then (p.1, d) else p) (kvs.map fun p => if p.1 = x then (p.1, v) else p) := by
          clear ih
          rename_i hany
          clear hany a
          induction kvs generalizing kds with
          | nil => cases b; exact .nil
          | cons p kvs ih =>
            cases b with
            | @cons k d' v' kds _ a b =>
              simp only [List.map_cons]
              by_cases hk : k = x
              · simp only [hk, if_true]; exact .cons rv (ih b)
              · simp only [hk, if_false]; exact .cons a (ih b)
        simp only [List.map_cons]
        by_cases hk : k = x
        · simp only [hk, if_true]; exact .cons rv hrest
        · simp only [hk, if_false]; exact .cons a hrest
  · exact r.append (.cons rv .nil)

theorem name_load {m : Str → Option Value} {x : Str} {v : Value} {pos : Pos} {Q : Value → Shared → Prop} (f : Fm env m s.heap) (hm : m x = some v) (hk : env.kindOf x = some .local ∨ env.kindOf x = some .cell)
    (h : Q v s) (hd : (x == ("__debug__" : Str)) = false := by decide) : wpAny (model prog w) A (eval (.Name x pos) env) Q E s := by
  refine wpAny_Name ?_ hd
  rcases hk with hk | hk
  · obtain ⟨ml, hns, hml⟩ := f.ns
    exact wpAny_loadName_local f.kind hk hns ((hml x hk).trans hm) h
  · obtain ⟨c, hc, hi⟩ := f.cell x (.inl hk)
    rw [hm] at hi
    exact wpAny_loadName_cell f.kind hk hc hi h

-- statements
theorem kind_of (he : env.scope = sc) {x : Str} (hk : sc.names.lookup x = some .local ∨ sc.names.lookup x = some .cell) : env.kindOf x = some .local ∨ env.kindOf x = some .cell := by unfold Env.kindOf; rw [he]; exact hk

theorem st_assign {x : Str} {p pos : Pos} {e : Expr} {d : D} {rest : List Stmt} {Q : Flow → Shared → Prop} (he : env.scope = sc) (hr : Room A k) (i : Inv prog w h₀ Y Rl env X σ s)
    (h : Ev prog w h₀ k sc σ e true d) (hk : sc.names.lookup x = some .local ∨ sc.names.lookup x = some .cell)
    (next : ∀ s', Inv prog w h₀ Y Rl env X ((x, true, d) :: σ) s' → wpAny (model prog w) A (execs rest env) Q E s')
    (hsw : ∀ env, swapsWith e (some (.Name x p)) pos.line env = pure false := by intro _; rfl) :
    wpAny (model prog w) A (execs (.Assign [.Name x p] e pos :: rest) env) Q E s := by
  refine wpAny_execs_cons (wpAny_Assign_Name (h A env X s _ E he hr i.see fun v s1 k1 r1 => ?_) (hsw env))
  exact (i.keeps k1).store (kind_of he hk) r1 fun s' i' => next s' i'
theorem size_gt {mg mb} (B : Bs h₀ mg mb) {h : Heap} (st : Stands h₀ h) : 3 < h.objs.size := (ns_stands B.g st (by decide)).lt
theorem not_modules {mg mb} (B : Bs h₀ mg mb) {h : Heap} (st : Stands h₀ h) : (h.objs.size == sysModules) = false := by
  have := size_gt B st
  have e : sysModules = 1 := rfl
  rw [e, beq_eq_false_iff_ne]
  intro q; rw [q] at this; exact absurd this (by decide)
theorem st_dict {mg mb} (B : Bs h₀ mg mb) {x : Str} {p p' pos : Pos} {rest : List Stmt} {Q : Flow → Shared → Prop} (he : env.scope = sc) (i : Inv prog w h₀ Y Rl env X σ s)
    (hk : sc.names.lookup x = some .local ∨ sc.names.lookup x = some .cell)
    (next : ∀ X' s', (∀ a, X a → X' a) → Inv prog w h₀ Y Rl env X' ((x, false, .dic []) :: σ) s' → wpAny (model prog w) A (execs rest env) Q E s') :
    wpAny (model prog w) A (execs (.Assign [.Name x p] (.Dict [] [] p') pos :: rest) env) Q E s := by
  refine wpAny_execs_cons (wpAny_Assign_Name (wpAny_Dict_empty ?_) rfl)
  have kk : Kp s { s with heap := s.heap.push { cls := .type "dict", data := .dict #[] } } := Kp.obj _
  have hn : s.heap.get? s.heap.objs.size = none := none_new (Kp.rfl' s) (Nat.le_refl _)
  have hg : (s.heap.push { cls := .type "dict", data := .dict #[] }).get? s.heap.objs.size = some { cls := .type "dict", data := .dict #[] } := Heap.get?_push_size _ rfl
  have r : Rep1 prog w (fun b => X b ∨ b = s.heap.objs.size) (s.heap.push { cls := .type "dict", data := .dict #[] }) (.dic []) (.ref s.heap.objs.size) :=
    ⟨_, [], rfl, not_modules B i.st, ⟨_, #[], 0, hg, ⟨rfl, rfl, rfl⟩, rfl, fun _ he => by simp at he, .nil, by simp⟩, .nil⟩
  exact Inv.storeHot i kk hn ⟨_, hg⟩ (kind_of he hk) r fun s' i' => next _ s' (fun _ q => .inl q) i'
theorem st_list {x : Str} {p p' pos : Pos} {rest : List Stmt} {Q : Flow → Shared → Prop} (he : env.scope = sc) (i : Inv prog w h₀ Y Rl env X σ s)
    (hk : sc.names.lookup x = some .local ∨ sc.names.lookup x = some .cell)
    (next : ∀ X' s', (∀ a, X a → X' a) → Inv prog w h₀ Y Rl env X' ((x, false, .lst []) :: σ) s' → wpAny (model prog w) A (execs rest env) Q E s') :
    wpAny (model prog w) A (execs (.Assign [.Name x p] (.List [] p') pos :: rest) env) Q E s := by
  refine wpAny_execs_cons (wpAny_Assign_Name (wpAny_List (wpAny_items_nil ⟨Nat.zero_le _, ?_⟩)) rfl)
  have kk : Kp s { s with heap := s.heap.push { cls := .type "list", data := .seq ([] : List Value).toArray } } := Kp.obj _
  have hn : s.heap.get? s.heap.objs.size = none := none_new (Kp.rfl' s) (Nat.le_refl _)
  have hg : (s.heap.push { cls := .type "list", data := .seq ([] : List Value).toArray }).get? s.heap.objs.size = some { cls := .type "list", data := .seq ([] : List Value).toArray } := Heap.get?_push_size _ rfl
  have r : Rep1 prog w (fun b => X b ∨ b = s.heap.objs.size) (s.heap.push { cls := .type "list", data := .seq ([] : List Value).toArray }) (.lst []) (.ref s.heap.objs.size) :=
    ⟨_, [], rfl, ⟨_, hg⟩, .nil⟩
  exact Inv.storeHot i kk hn ⟨_, hg⟩ (kind_of he hk) r fun s' i' => next _ s' (fun _ q => .inl q) i'

/-- the hot object behind a name, and how it may be changed -/
theorem Inv.hot {x : Str} {d : D} (i : Inv prog w h₀ Y Rl env X σ s) (hl : σ.lookup x = some (false, d)) :
    ∃ m a, Fm env m s.heap ∧ m x = some (.ref a) ∧ X a ∧ Rep1 prog w X s.heap d (.ref a) ∧
      ∀ s' h' tk d', Kp s s' → (∀ b o, b ≠ a → s'.heap.get? b = some o → h'.get? b = some o) → Rep1 prog w X h' d' (.ref a) → (∃ o, h'.get? a = some o) → Inv prog w h₀ Y Rl env X ((x, false, d') :: σ) { s' with heap := h', toks := tk } := by
  obtain ⟨m, f, n, h1, h2⟩ := i.fm
  obtain ⟨a, ha, hXa, _, _⟩ := h1 x d hl
  obtain ⟨v, hv, rv⟩ := n x false d hl
  rw [ha] at hv; cases hv
  refine ⟨m, a, f, ha, hXa, rv, fun s' h' tk d' kp hs r ho => ?_⟩
  have i' : Inv prog w h₀ Y Rl env X σ s' := i.keeps kp
  have x := kp.ext
  exact i'.change' (m := m) hl ⟨f.ext x, fun y b d e => let ⟨v, a, r⟩ := n y b d e; ⟨v, a, r.ext x⟩, h1, h2⟩ ha hs r ho

/-- x[key] = e, x a hot dict -/
theorem st_put {x y : Str} {p p' pos : Pos} {e ke : Expr} {kds : List (Str × D)} {d : D} {b : Bool} {rest : List Stmt} {Q : Flow → Shared → Prop} (he : env.scope = sc) (hr : Room A k) (i : Inv prog w h₀ Y Rl env X σ s)
    (hl : σ.lookup x = some (false, .dic kds)) (hk : sc.names.lookup x = some .local ∨ sc.names.lookup x = some .cell) (h : Ev prog w h₀ k sc σ e true d) (hke : Ev prog w h₀ k sc σ ke b (.str y)) (hsz : kds.length ≤ 2 ^ 20)
    (next : ∀ s', Inv prog w h₀ Y Rl env X ((x, false, .dic (put kds y d)) :: σ) s' → wpAny (model prog w) A (execs rest env) Q E s')
    (hsw : ∀ env, swapsWith e (some (.Subscript (.Name x p) ke p')) pos.line env = pure false := by intro _; rfl) (hd : (x == ("__debug__" : Str)) = false := by decide) :
    wpAny (model prog w) A (execs (.Assign [.Subscript (.Name x p) ke p'] e pos :: rest) env) Q E s := by
  refine wpAny_execs_cons (wpAny_Assign_Subscript (h A env X s _ E he hr i.see fun v s1 k1 r1 => ?_) (hsw env))
  have i1 := i.keeps k1
  obtain ⟨m, a, f, hm, hXa', r, hchg⟩ := i1.hot hl
  refine name_load f hm (kind_of he hk) ?_ hd
  refine hke A env X s1 _ E he hr i1.see fun kv s2 k2 r2 => ?_
  obtain ⟨t, rfl⟩ := r2.one
  obtain ⟨a', kvs, e', hsy, hdict, rk⟩ := Rep1.ext r k2.ext
  cases e'
  have hlen : kvs.length = kds.length := by have := congrArg List.length rk.keys; simpa using this
  refine wpAny_setItem_pairs (isStr_self y t) hdict (fun h' hd' hs' => next _ (hchg s2 h' (s2.toks + 1) (.dic (put kds y d)) k2 (fun b o hb e => hs'.extBut b o hb e) ?_ ?_)) (by rw [sizeLine_eq, hlen]; omega)
  · have hXa : ∀ b o, ¬ X b → s2.heap.get? b = some o → ¬ X b ∧ h'.get? b = some o := fun b o hb e => ⟨hb, hs'.extBut b o (fun q => hb (q ▸ hXa')) e⟩
    exact ⟨a, _, rfl, hsy, hd', (rk.mono hXa).put (Rep.mono (r1.ext k2.ext) hXa)⟩
  · obtain ⟨o, _, _, ho, _⟩ := hd'; exact ⟨o, ho⟩
end
end Mine

-- part A13
namespace Mine
section
variable {prog : Program} {w : World} {h₀ : Heap} {k : Nat} {sc : Scope} {σ : Ctx0} {Y : Addr → Prop} {Rl : Shared → Prop} {env : Env} {X : Addr → Prop} {s : Shared} {A : Around} {E : Value → Shared → Prop}

theorem mapSeq_app (its its2 : Array Value) (n : Nat) : ∃ n', Obj.mapSeq (fun xs => xs ++ its2) { cls := .type "list", data := .seq its n } = { cls := .type "list", data := .seq (its ++ its2) n' } := ⟨_, rfl⟩

/-- x.append(e), x a hot list -/
theorem st_append {x : Str} {p apos cpos pos : Pos} {e : Expr} {ds : List D} {d : D} {rest : List Stmt} {Q : Flow → Shared → Prop} (he : env.scope = sc) (hr : Room A k) (i : Inv prog w h₀ Y Rl env X σ s)
    (hl : σ.lookup x = some (false, .lst ds)) (hk : sc.names.lookup x = some .local ∨ sc.names.lookup x = some .cell) (h : Ev prog w h₀ k sc σ e true d) (hsz : ds.length ≤ 2 ^ 20)
    (next : ∀ s', Inv prog w h₀ Y Rl env X ((x, false, .lst (ds ++ [d])) :: σ) s' → wpAny (model prog w) A (execs rest env) Q E s')
    (hline : (apos.endLine == cpos.line) = true := by decide) (hst : ∀ env, starEach [e] env = [(false, eval e env)] := by intro _; rfl) (hint : interactive env = false)
    (hd : (x == ("__debug__" : Str)) = false := by decide) :
    wpAny (model prog w) A (execs (.Expr (.Call (.Attribute (.Name x p) "append" apos) [e] [] cpos) pos :: rest) env) Q E s := by
  refine wpAny_execs_cons (wpAny_Expr_any ?_ hint rfl)
  obtain ⟨m, a, f, hm, hXa, r, hchg⟩ := i.hot hl
  refine wpAny_Call_method (T := "list") (id := "list.append") rfl (by rw [hst]; rfl) hline F.plainAttrs_list slot_list_append type_list_append ?_
  refine name_load f hm (kind_of he hk) ?_ hd
  obtain ⟨a', vs, ea, hpl, rs⟩ := r
  cases ea
  refine ⟨hpl.isList.typeIs, ?_, ?_⟩
  · rintro b e'; cases e'; obtain ⟨n, ho⟩ := hpl; exact ⟨_, ho, rfl⟩
  rw [hst]
  refine Calls.callWith_builtin rfl (Calls.evalArgs_plain (Calls.spliced_cons (h A env X s _ E he hr i.see fun v s1 k1 r1 => Calls.spliced_nil ?_)))
  have hpl1 : s1.heap.PlainList a vs.toArray := let ⟨n, ho⟩ := hpl; ⟨n, k1.ext _ _ ho⟩
  show wpAny _ A (call (.builtin "list.append") [.ref a, v]) _ _ _
  refine wpAny_list_append_plain hpl1 (fun h' hl' hs' => next _ (hchg s1 h' s1.toks (.lst (ds ++ [d])) k1 (fun b o hb e => hs'.extBut b o hb e) ?_ ?_)) (by have := rs.length; rw [sizeLine_eq, List.size_toArray]; omega)
  · have hX : ∀ b o, ¬ X b → s1.heap.get? b = some o → ¬ X b ∧ h'.get? b = some o := fun b o hb e => ⟨hb, hs'.extBut b o (fun q => hb (q ▸ hXa)) e⟩
    exact ⟨a, vs ++ [v], rfl, by simpa using hl', ((rs.ext k1.ext).mono hX).append (.cons (Rep.mono r1 hX) .nil)⟩
  · obtain ⟨n, ho⟩ := hl'; exact ⟨_, ho⟩

/-- x.extend(e), x a hot list, e a list -/
theorem st_extend {x : Str} {p apos cpos pos : Pos} {e : Expr} {ds es : List D} {rest : List Stmt} {Q : Flow → Shared → Prop} (he : env.scope = sc) (hr : Room A k) (i : Inv prog w h₀ Y Rl env X σ s)
    (hl : σ.lookup x = some (false, .lst ds)) (hk : sc.names.lookup x = some .local ∨ sc.names.lookup x = some .cell) (h : Ev prog w h₀ k sc σ e true (.lst es)) (hsz : ds.length ≤ 2 ^ 20) (hsz2 : es.length ≤ 2 ^ 20)
    (next : ∀ s', Inv prog w h₀ Y Rl env X ((x, false, .lst (ds ++ es)) :: σ) s' → wpAny (model prog w) A (execs rest env) Q E s')
    (hline : (apos.endLine == cpos.line) = true := by decide) (hst : ∀ env, starEach [e] env = [(false, eval e env)] := by intro _; rfl) (hint : interactive env = false)
    (hd : (x == ("__debug__" : Str)) = false := by decide) :
    wpAny (model prog w) A (execs (.Expr (.Call (.Attribute (.Name x p) "extend" apos) [e] [] cpos) pos :: rest) env) Q E s := by
  refine wpAny_execs_cons (wpAny_Expr_any ?_ hint rfl)
  obtain ⟨m, a, f, hm, hXa, r, hchg⟩ := i.hot hl
  refine wpAny_Call_method (T := "list") (id := "list.extend") rfl (by rw [hst]; rfl) hline F.plainAttrs_list F.slot_list_extend F.type_list_extend ?_
  refine name_load f hm (kind_of he hk) ?_ hd
  obtain ⟨a', vs, ea, hpl, rs⟩ := r
  cases ea
  refine ⟨hpl.isList.typeIs, ?_, ?_⟩
  · rintro b e'; cases e'; obtain ⟨n, ho⟩ := hpl; exact ⟨_, ho, rfl⟩
  rw [hst]
  refine P.extend_list (h A env X s _ E he hr i.see fun v s1 k1 r1 => ?_)
  obtain ⟨c, ws, rfl, hpl2, rs2⟩ := RepB.one r1
  obtain ⟨n, ho⟩ := hpl
  obtain ⟨n2, ho2⟩ := hpl2
  have ho1 := k1.ext _ _ ho
  have l1 := rs.length
  have l2 := rs2.length
  refine ⟨c, vs.toArray, ws.toArray, n, n2, by rw [sizeLine_eq, List.size_toArray]; omega, by rw [sizeLine_eq, List.size_toArray, List.size_toArray]; omega, ?_, rfl, ho1, ho2, ?_⟩
  · simp [Builtin.List.listTooLong, sizeLine_eq]; omega
  obtain ⟨n3, hn3⟩ := mapSeq_app vs.toArray ws.toArray n
  have hs' : Heap.SameBut a s1.heap (s1.heap.update a (Obj.mapSeq fun xs => xs ++ ws.toArray)) := Heap.SameBut.update ..
  have hg : (s1.heap.update a (Obj.mapSeq fun xs => xs ++ ws.toArray)).get? a = some { cls := .type "list", data := .seq (vs.toArray ++ ws.toArray) n3 } := by
    rw [Heap.get?_update_self _ ho1 (by rw [hn3]; rfl), hn3]
  refine next _ (hchg s1 _ s1.toks (.lst (ds ++ es)) k1 (fun b o hb e => hs'.extBut b o hb e) ?_ ⟨_, hg⟩)
  have hX : ∀ b o, ¬ X b → s1.heap.get? b = some o → ¬ X b ∧ (s1.heap.update a (Obj.mapSeq fun xs => xs ++ ws.toArray)).get? b = some o := fun b o hb e => ⟨hb, hs'.extBut b o (fun q => hb (q ▸ hXa)) e⟩
  exact ⟨a, vs ++ ws, rfl, ⟨n3, by rw [hg]; simp⟩, ((rs.ext k1.ext).mono hX).append (rs2.mono hX)⟩

theorem st_return {e : Expr} {pos : Pos} {b : Bool} {d : D} {rest : List Stmt} {Q : Flow → Shared → Prop} (he : env.scope = sc) (hr : Room A k) (i : Inv prog w h₀ Y Rl env X σ s) (h : Ev prog w h₀ k sc σ e b d)
    (fin : ∀ v s', Inv prog w h₀ Y Rl env X σ s' → RepB prog w X s'.heap b d v → Q (.ret v) s') : wpAny (model prog w) A (execs (.Return (some e) pos :: rest) env) Q E s :=
  wpAny_execs_cons (wpAny_Return_some (h A env X s _ E he hr i.see fun v s' k' r => fin v s' (i.keeps k') r))

theorem st_if {test : Expr} {body orelse rest : List Stmt} {pos : Pos} {p : Bool} {Q : Flow → Shared → Prop} (he : env.scope = sc) (hr : Room A k) (i : Inv prog w h₀ Y Rl env X σ s) (h : Tr prog w h₀ k sc σ test p)
    (ht : p = true → ∀ s', Inv prog w h₀ Y Rl env X σ s' → wpAny (model prog w) A (execs body env) (fun f s'' => match f with | .next => wpAny (model prog w) A (execs rest env) Q E s'' | f => Q f s'') E s')
    (hf : p = false → ∀ s', Inv prog w h₀ Y Rl env X σ s' → wpAny (model prog w) A (execs orelse env) (fun f s'' => match f with | .next => wpAny (model prog w) A (execs rest env) Q E s'' | f => Q f s'') E s') :
    wpAny (model prog w) A (execs (.If test body orelse pos :: rest) env) Q E s := by
  refine wpAny_execs_cons (wpAny_If (h A env X s _ E he hr i.see fun s' k' => ?_))
  cases p with
  | true => exact ht rfl s' (i.keeps k')
  | false => exact hf rfl s' (i.keeps k')

theorem extC_hot : ∀ {xs : List Str} {ds : List D} {σ : Ctx0} {y : Str} {d : D}, xs.length = ds.length → (extC xs ds σ).lookup y = some (false, d) → y ∉ xs ∧ σ.lookup y = some (false, d)
  | [], [], σ, y, d, _, h => ⟨by simp, h⟩
  | x :: xs, e :: ds, σ, y, d, hl, h => by
    obtain ⟨h1, h2⟩ := extC_hot (xs := xs) (ds := ds) (by simpa using hl) h
    rw [List.lookup_cons] at h2
    by_cases q : (y == x) = true
    · rw [q] at h2; cases h2
    · have q' : (y == x) = false := by simpa using q
      rw [q'] at h2
      exact ⟨by simp only [List.mem_cons, not_or]; exact ⟨by simpa using q, h1⟩, h2⟩

/-- several names stored at once -/
theorem Inv.stores {m : Str → Option Value} {xs : List Str} {ds : List D} {cs : List Value} {h2 : Heap} {t2 : Nat} (i : Inv prog w h₀ Y Rl env X σ s)
    (hf : Fm env m s.heap ∧ Knows prog w X s.heap m σ ∧ (∀ x d, σ.lookup x = some (false, d) → ∃ a, m x = some (.ref a) ∧ X a ∧ Y a ∧ ¬ FmAddr env a) ∧
      (∀ x y dx dy, σ.lookup x = some (false, dx) → σ.lookup y = some (false, dy) → x ≠ y → m x ≠ m y))
    (f2 : Fm env (upds m xs cs) h2) (hk : ∀ b o, (∀ x ∈ xs, ¬ Slot env x b) → s.heap.get? b = some o → h2.get? b = some o) (r : Reps prog w X h2 ds cs) (hl : xs.length = ds.length) :
    Inv prog w h₀ Y Rl env X (extC xs ds σ) { s with heap := h2, toks := t2 } := by
  obtain ⟨f, n, h1, h3⟩ := hf
  have hX : ∀ b o, ¬ X b → s.heap.get? b = some o → ¬ X b ∧ h2.get? b = some o := fun b o hb e => ⟨hb, hk b o (fun x _ q => hb (i.slots x b q).1) e⟩
  have hY : ∀ b o, ¬ Y b → s.heap.get? b = some o → h2.get? b = some o := fun b o hb e => hk b o (fun x _ q => hb (i.slots x b q).2) e
  refine ⟨stands_step i.st i.base hY, fun a ha => ?_, ⟨_, f2, ?_, ?_, ?_⟩, i.fa, new_step i.new hY, i.base, i.rstep, i.rstep s h2 t2 i.rel hY⟩
  · by_cases q : ∃ x ∈ xs, Slot env x a
    · obtain ⟨x, _, sl⟩ := q; exact f2.slotAlive sl
    · obtain ⟨o, ho⟩ := i.live a ha; exact ⟨o, hk a o (fun x hx sl => q ⟨x, hx, sl⟩) ho⟩
  · refine Knows.upds (fun y b d e => ?_) r hl
    obtain ⟨v, hv, rv⟩ := n y b d e
    refine ⟨v, hv, ?_⟩
    cases b with
    | true => exact Rep.mono rv hX
    | false =>
      obtain ⟨a, ha, _, _, hns⟩ := h1 y d e
      exact Rep1.mono rv (fun a' ea o e' => by rw [hv] at ha; cases ha; cases ea; exact hk a o (fun x _ q => hns q.fm) e') hX
  · intro y d e
    obtain ⟨e1, e2⟩ := extC_hot hl e
    rw [upds_other _ _ _ e1]
    exact h1 y d e2
  · intro y z dy dz e1 e2 hne
    obtain ⟨a1, a2⟩ := extC_hot hl e1
    obtain ⟨b1, b2⟩ := extC_hot hl e2
    rw [upds_other _ _ _ a1, upds_other _ _ _ b1]
    exact h3 y z dy dz a2 b2 hne

theorem for_turns {R : Result → Shared → Prop} {target : Expr} {it : Value} {body : List Stmt} (I : Nat → Shared → Prop)
    (turn : ∀ n s, I n s → wpAny (model prog w) A (pyNext it) (fun r s₁ => (r = none ∧ R (.ok .next) s₁) ∨ ∃ v, r = some v ∧
      wpAny (model prog w) A (letOwnedTupleGo target it v) (fun _ s₁' => wpAny (model prog w) A (assign target env v) (fun _ s₂ => wpAny (model prog w) A (execs body env) (fun f s₃ => (f = .next ∨ f = .cont) ∧ ∃ m, m < n ∧ I m s₃)
        (notedBy (model prog w) A env fun e s' => R (.error e) s') s₂) (notedBy (model prog w) A env fun e s' => R (.error e) s') s₁') (notedBy (model prog w) A env fun e s' => R (.error e) s') s₁)
      (notedBy (model prog w) A env fun e s' => R (.error e) s') s)
    (n : Nat) (h : I n s) : codeAny (model prog w) A (.forLoop target it body [] env) R s := by
  refine codeAny_forLoop_any I (fun n s hI => wpAny_mono (turn n s hI) (fun r s₁ h₁ => ?_) fun _ _ e => e) n h
  rcases h₁ with ⟨rfl, h₁⟩ | ⟨v, rfl, h₁⟩
  · exact wpAny_execs_nil h₁
  · refine wpAny_mono h₁ (fun _ s₂ h₂ => wpAny_mono h₂ (fun _ s₃ h₃ => wpAny_mono h₃ (fun f s₄ h₄ => ?_) fun _ _ e => e) fun _ _ e => e) fun _ _ e => e
    obtain ⟨rfl | rfl, h₄⟩ := h₄
    · exact h₄
    · exact h₄

/-- how the frame of a turn lies in the frame of its loop -/
structure Within (Y : Addr → Prop) (Rl : Shared → Prop) (X : Addr → Prop) (Y' : Addr → Prop) (Rl' : Shared → Prop) (X' : Addr → Prop) : Prop where
  rl : ∀ s, Rl' s → Rl s
  x : ∀ a, X a → X' a
  y : ∀ a, Y' a → Y a
  gr : X 23 → ∀ P : Shared → Shared → Prop, (∀ s s', P s s' → ∀ b o, b ≠ 23 → s.heap.get? b = some o → s'.heap.get? b = some o) → (∀ s s', Rl s → P s s' → Rl s') → ∀ s s', Rl' s → P s s' → Rl' s'

/-- a for over data, by the context at each turn's start -/
theorem st_forG {tg iter : Expr} {body rest : List Stmt} {pos : Pos} {pr : Bool} {xs : List Str} {n : Nat} {dat : Nat → List D} {Q : Flow → Shared → Prop} (τ : Nat → Ctx0)
    (he : env.scope = sc) (hr : Room A k) (i : Inv prog w h₀ Y Rl env X σ s) (hit : It prog w h₀ k sc σ iter n dat pr true) (ht : Tgt tg pr xs)
    (hx : ∀ x ∈ xs, sc.names.lookup x = some .local ∨ sc.names.lookup x = some .cell) (hlen : ∀ j, j < n → (dat j).length = xs.length)
    (h0 : ∀ x y, (τ 0).lookup x = some y → σ.lookup x = some y)
    (hbody : ∀ (j : Nat) (Y' : Addr → Prop) (Rl' : Shared → Prop) (X' : Addr → Prop) (s' : Shared), j < n → Within Y Rl X Y' Rl' X' → Inv prog w h₀ Y' Rl' env X' (extC xs (dat j) (τ j)) s' →
      wpAny (model prog w) A (execs body env) (fun f s'' => (f = .next ∨ f = .cont) ∧ ∃ σ'', Inv prog w h₀ Y' Rl' env X' σ'' s'' ∧ ∀ x y, (τ (j + 1)).lookup x = some y → σ''.lookup x = some y)
        (notedBy (model prog w) A env fun e s' => cameBackBy (model prog w) A env E e s') s')
    (next : ∀ s', Inv prog w h₀ Y Rl env X (τ n) s' → wpAny (model prog w) A (execs rest env) Q E s')
    (hs : ∀ env x, foldedSetIterable iter env x = pure x := by intro _ _; rfl) :
    wpAny (model prog w) A (execs (.For tg iter body [] pos :: rest) env) Q E s := by
  refine wpAny_execs_cons (wpAny_For ?_ (hs env))
  refine hit A env X s _ E he hr i.see fun I s₂ fp wr St hk W hst hwr hfp hcl => ?_
  have hcl' := hcl rfl
  have wrX : ∀ b, wr b → ¬ X b := fun b hb q => by obtain ⟨o, ho⟩ := i.live b q; rw [(hwr b hb).1] at ho; cases ho
  have wrY : ∀ b, wr b → Y b := fun b hb => i.new b (hwr b hb).1
  have fpX : ∀ b, fp b → ¬ X b := fun b hb => (hcl' b hb).elim (wrX b) id
  let X' : Addr → Prop := fun a => X a ∨ wr a
  let Y' : Addr → Prop := fun a => Y a ∧ ¬ fp a
  have hwX : ∀ b, wr b → X' b := fun b hb => .inr hb
  have i₂ : Inv prog w h₀ Y' Rl env X' (τ 0) s₂ := by
    have i' := (i.keeps hk)
    obtain ⟨m, f, n, h1, h2⟩ := i.fm
    have hX : ∀ b o, ¬ X b → s.heap.get? b = some o → ¬ X' b ∧ s₂.heap.get? b = some o := fun b o hb e => ⟨fun q => q.elim hb (fun q => by rw [(hwr b q).1] at e; cases e), hk.ext _ _ e⟩
    refine ⟨i'.st, fun a ha => ha.elim (i'.live a) fun q => (hwr a q).2, ⟨m, f.ext hk.ext, fun x b d e => ?_, fun x d e => ?_, fun x y dx dy e1 e2 => h2 x y dx dy (h0 _ _ e1) (h0 _ _ e2)⟩, fun b hb => ?_, fun a ha => ?_, fun b hb => i.base b hb.1, ?_, i'.rel⟩
    · obtain ⟨v, hv, rv⟩ := n x b d (h0 _ _ e)
      exact ⟨v, hv, rv.mono (fun a _ o e => hk.ext _ _ e) hX⟩
    · obtain ⟨a, ha, hXa, hYa, hns⟩ := h1 x d (h0 _ _ e)
      exact ⟨a, ha, .inl hXa, ⟨hYa, fun q => fpX a q hXa⟩, hns⟩
    · exact ⟨.inl (i.fa b hb).1, (i.fa b hb).2, fun q => fpX b q (i.fa b hb).1⟩
    · refine ⟨i'.new a ha, fun q => ?_⟩
      obtain ⟨o, ho⟩ := hfp a q; rw [ho] at ha; cases ha
    · exact fun s h' tk hr hkk => i.rstep s h' tk hr fun b o hb e => hkk b o (fun q => hb q.1) e
  refine for_turns (fun kk s' => ∃ j, j ≤ n ∧ kk = n + 1 - j ∧ Inv prog w h₀ Y' Rl env X' (τ j) s' ∧ St X' j s'.heap ∧ ∀ b, fp b → ∃ o, s'.heap.get? b = some o) ?_ (n + 1) ⟨0, Nat.zero_le _, rfl, i₂, hst, hfp⟩
  rintro _ s' ⟨j, hj, rfl, ij, hstj, hfpj⟩
  dsimp only
  generalize hE' : (notedBy (model prog w) A env fun e s' => cameBackBy (model prog w) A env E e s') = E' at hbody
  have fmW : ∀ b, FmAddr env b → ¬ wr b := fun b hb q => wrX b q (i.fa b hb).1
  -- the frame behind a step of the source
  have step : ∀ h1 t1, (∀ a, wr a → ∃ o, h1.get? a = some o) → (∀ b o, ¬ wr b → s'.heap.get? b = some o → h1.get? b = some o) → (∀ b, fp b → ∃ o, h1.get? b = some o) → Inv prog w h₀ Y' Rl env X' (τ j) { s' with heap := h1, toks := t1 } := by
    intro h1 t1 hal hk1 hfp1
    obtain ⟨m, f, n', h1', h2'⟩ := ij.fm
    have hX : ∀ b o, ¬ X' b → s'.heap.get? b = some o → ¬ X' b ∧ h1.get? b = some o := fun b o hb e => ⟨hb, hk1 b o (fun q => hb (.inr q)) e⟩
    have hY : ∀ b o, ¬ Y b → s'.heap.get? b = some o → h1.get? b = some o := fun b o hb e => hk1 b o (fun q => hb (wrY b q)) e
    refine ⟨stands_step ij.st i.base hY, fun a ha => ?_, ⟨m, f.mono fun b o hb e => hk1 b o (fmW b hb) e, fun x b d e => ?_, h1', h2'⟩, ij.fa, fun a ha => ?_, ij.base, ij.rstep, i.rstep s' h1 t1 ij.rel hY⟩
    · by_cases q : wr a
      · exact hal a q
      · obtain ⟨o, ho⟩ := ij.live a ha; exact ⟨o, hk1 a o q ho⟩
    · obtain ⟨v, hv, rv⟩ := n' x b d e
      refine ⟨v, hv, ?_⟩
      cases b with
      | true => exact Rep.mono rv hX
      | false =>
        obtain ⟨a, ha, _, hYa, _⟩ := h1' x d e
        exact Rep1.mono rv (fun a' ea o e' => by rw [hv] at ha; cases ha; cases ea; exact hk1 a o (fun q => hYa.2 (W.sub a q)) e') hX
    · have hy : Y a := by
        by_cases hy : Y a
        · exact hy
        · cases q : s'.heap.get? a with
          | none => exact (ij.new a q).1
          | some o => have := hY a o hy q; rw [this] at ha; cases ha
      refine ⟨hy, fun q => ?_⟩
      obtain ⟨o, ho⟩ := hfp1 a q; rw [ho] at ha; cases ha
  by_cases hlt : j < n
  · refine wpAny_mono (W.item X' j s' tg (fun v s9 => wpAny (model prog w) A (assign tg env v) (fun _ s₂' => wpAny (model prog w) A (execs body env) (fun f s₃ => (f = .next ∨ f = .cont) ∧
        ∃ m, m < n + 1 - j ∧ ∃ j, j ≤ n ∧ m = n + 1 - j ∧ Inv prog w h₀ Y' Rl env X' (τ j) s₃ ∧ St X' j s₃.heap ∧ ∀ b, fp b → ∃ o, s₃.heap.get? b = some o) E' s₂') E' s9) E' hwX ⟨xs, ht⟩ hlt hstj ?_) (fun r s₁ h₁ => .inr h₁) fun _ _ e => e
    intro v cs h1 t1 hgot hreps hst1 hk1
    have hfp1 : ∀ b, fp b → ∃ o, h1.get? b = some o := fun b hb => by
      by_cases q : wr b
      · exact W.alive _ _ _ hst1 b q
      · obtain ⟨o, ho⟩ := hfpj b hb; exact ⟨o, hk1 b o q ho⟩
    have i1 := step h1 t1 (W.alive _ _ _ hst1) hk1 hfp1
    obtain ⟨m, hf⟩ := i1.fm
    refine assign_tgt (s := { s' with heap := h1, toks := t1 }) ht hr.handled hf.1 (fun x hx' => kind_of he (hx x hx')) hgot (hreps.length.trans (hlen j hlt)) fun h2 t2 f2 hk2 => ?_
    dsimp only at hk2
    have i3 := i1.stores (t2 := t2) hf f2 hk2 (hreps.mono fun b o hb e => ⟨hb, hk2 b o (fun x _ q => hb (.inl (i.slots x b q).1)) e⟩) (hlen j hlt).symm
    dsimp only at i3
    have hfpS : ∀ b, fp b → ∀ x ∈ xs, ¬ Slot env x b := fun b hb x _ q => fpX b hb (i.slots x b q).1
    have hst2 : St X' (j + 1) h2 := W.mono _ _ _ _ _ hst1 (fun b o hb e => ⟨hb, hk2 b o (fun x _ q => hb (.inl (i.slots x b q).1)) e⟩) fun b o hb e => hk2 b o (hfpS b hb) e
    have hfp2 : ∀ b, fp b → ∃ o, h2.get? b = some o := fun b hb => by obtain ⟨o, ho⟩ := hfp1 b hb; exact ⟨o, hk2 b o (hfpS b hb) ho⟩
    let Y2 : Addr → Prop := fun a => Y' a ∧ (X' a ∨ h2.get? a = none)
    let R2 : Shared → Prop := fun s9 => Rl s9 ∧ (∀ b o, fp b → h2.get? b = some o → s9.heap.get? b = some o) ∧ ∀ b o, ¬ X' b → h2.get? b = some o → s9.heap.get? b = some o
    have i4 : Inv prog w h₀ Y2 R2 env X' (extC xs (dat j) (τ j)) { s' with heap := h2, toks := t2 } := by
      obtain ⟨m4, f4, n4, h41, h42⟩ := i3.fm
      refine ⟨i3.st, i3.live, ⟨m4, f4, n4, fun x d e => ?_, h42⟩, fun b hb => ⟨(i3.fa b hb).1, (i3.fa b hb).2, .inl (i3.fa b hb).1⟩, fun a ha => ⟨i3.new a ha, .inr ha⟩, fun b hb => i3.base b hb.1, ?_, i3.rel, fun b o _ e => e, fun b o _ e => e⟩
      · obtain ⟨a, ha, p1, p2, p3⟩ := h41 x d e
        exact ⟨a, ha, p1, ⟨p2, .inl p1⟩, p3⟩
      · rintro s9 h9 t9 ⟨q1, q2, q3⟩ hk9
        refine ⟨i3.rstep s9 h9 t9 q1 fun b o hb e => hk9 b o (fun q => hb q.1) e, fun b o hb e => hk9 b o (fun q => q.1.2 hb) (q2 b o hb e), fun b o hb e => hk9 b o (fun q => q.2.elim hb fun q => ?_) (q3 b o hb e)⟩
        rw [e] at q; cases q
    have hwi : Within Y Rl X Y2 R2 X' := by
      refine ⟨fun s9 q => q.1, fun a q => .inl q, fun a q => q.1.1, fun h23 P hP hRP s8 s9 q hp => ⟨hRP s8 s9 q.1 hp, fun b o hb e => hP s8 s9 hp b o ?_ (q.2.1 b o hb e), fun b o hb e => hP s8 s9 hp b o ?_ (q.2.2 b o hb e)⟩⟩
      · intro e23; subst e23; exact fpX 23 hb h23
      · intro e23; subst e23; exact hb (.inl h23)
    refine wpAny_mono (hbody j Y2 R2 X' _ hlt hwi i4) (fun fl s3 h3 => ?_) fun _ _ e => e
    obtain ⟨hfl, σ'', i5, hσ⟩ := h3
    obtain ⟨q1, q2, q3⟩ := i5.rel
    refine ⟨hfl, n + 1 - (j + 1), by omega, j + 1, hlt, rfl, ?_, W.mono _ _ _ _ _ hst2 (fun b o hb e => ⟨hb, q3 b o hb e⟩) q2, fun b hb => by obtain ⟨o, ho⟩ := hfp2 b hb; exact ⟨o, q2 b o hb ho⟩⟩
    obtain ⟨m5, f5, n5, h51, h52⟩ := i5.fm
    refine Inv.weaken ⟨i5.st, i5.live, ⟨m5, f5, n5, fun x d e => ?_, h52⟩, i3.fa, fun a ha => (i5.new a ha).1, i3.base, i3.rstep, q1⟩ hσ
    obtain ⟨a, ha, p1, p2, p3⟩ := h51 x d e
    exact ⟨a, ha, p1, p2.1, p3⟩
  · have hin : j = n := Nat.le_antisymm hj (Nat.not_lt.mp hlt)
    subst hin
    refine W.done X' s' _ E' hwX hstj fun h1 t1 hk1 => .inl ⟨rfl, ?_⟩
    -- the frame behind the loop; of the iterator nothing is said
    obtain ⟨m, f, n', h1', h2'⟩ := ij.fm
    have hX : ∀ b o, ¬ X' b → s'.heap.get? b = some o → ¬ X b ∧ h1.get? b = some o := fun b o hb e => ⟨fun q => hb (.inl q), hk1 b o (fun q => hb (.inr q)) e⟩
    have hY : ∀ b o, ¬ Y b → s'.heap.get? b = some o → h1.get? b = some o := fun b o hb e => hk1 b o (fun q => hb (wrY b q)) e
    refine next _ ⟨stands_step ij.st i.base hY, fun a ha => ?_, ⟨m, f.mono fun b o hb e => hk1 b o (fmW b hb) e, fun x b d e => ?_, fun x d e => ?_, h2'⟩, i.fa, fun a ha => ?_, i.base, i.rstep, i.rstep s' h1 t1 ij.rel hY⟩
    · obtain ⟨o, ho⟩ := ij.live a (.inl ha); exact ⟨o, hk1 a o (fun q => wrX a q ha) ho⟩
    · obtain ⟨v, hv, rv⟩ := n' x b d e
      refine ⟨v, hv, ?_⟩
      cases b with
      | true => exact Rep.mono rv hX
      | false =>
        obtain ⟨a, ha, _, hYa, _⟩ := h1' x d e
        exact Rep1.mono rv (fun a' ea o e' => by rw [hv] at ha; cases ha; cases ea; exact hk1 a o (fun q => hYa.2 (W.sub a q)) e') hX
    · obtain ⟨a, ha, p1, p2, p3⟩ := h1' x d e
      refine ⟨a, ha, p1.elim id fun q => absurd (W.sub a q) p2.2, p2.1, p3⟩
    · by_cases hy : Y a
      · exact hy
      · cases q : s'.heap.get? a with
        | none => exact (ij.new a q).1
        | some o => have := hY a o hy q; rw [this] at ha; cases ha

theorem st_for {tg iter : Expr} {body rest : List Stmt} {pos : Pos} {pr : Bool} {xs : List Str} {n : Nat} {dat : Nat → List D} {Q : Flow → Shared → Prop} (τ : Nat → Ctx0)
    (he : env.scope = sc) (hr : Room A k) (i : Inv prog w h₀ Y Rl env X σ s) (hit : It prog w h₀ k sc σ iter n dat pr true) (ht : Tgt tg pr xs)
    (hx : ∀ x ∈ xs, sc.names.lookup x = some .local ∨ sc.names.lookup x = some .cell) (hlen : ∀ j, j < n → (dat j).length = xs.length)
    (h0 : ∀ x y, (τ 0).lookup x = some y → σ.lookup x = some y)
    (hbody : ∀ (j : Nat) (Y' : Addr → Prop) (Rl' : Shared → Prop) (X' : Addr → Prop) (s' : Shared), j < n → Inv prog w h₀ Y' Rl' env X' (extC xs (dat j) (τ j)) s' →
      wpAny (model prog w) A (execs body env) (fun f s'' => (f = .next ∨ f = .cont) ∧ ∃ σ'', Inv prog w h₀ Y' Rl' env X' σ'' s'' ∧ ∀ x y, (τ (j + 1)).lookup x = some y → σ''.lookup x = some y)
        (notedBy (model prog w) A env fun e s' => cameBackBy (model prog w) A env E e s') s')
    (next : ∀ s', Inv prog w h₀ Y Rl env X (τ n) s' → wpAny (model prog w) A (execs rest env) Q E s')
    (hs : ∀ env x, foldedSetIterable iter env x = pure x := by intro _ _; rfl) :
    wpAny (model prog w) A (execs (.For tg iter body [] pos :: rest) env) Q E s :=
  st_forG τ he hr i hit ht hx hlen h0 (fun j Y' Rl' X' s' hj _ ij => hbody j Y' Rl' X' s' hj ij) next hs
end
end Mine

-- part A14
namespace Mine

/-- a def of the top -/
structure IsFn (h₀ : Heap) (fa : Addr) (name : Str) (ps : List Str) (body : List Stmt) (scope : Scope) (code : Value) : Prop where
  ne : fa ≠ 23
  obj : ∃ o fd, h₀.get? fa = some o ∧ o.data = .func fd ∧ fd.scope = scope ∧ fd.globals = mainGlobals ∧ fd.closure = [] ∧ fd.builtins = builtinsNs ∧ fd.body = .stmts body ∧ fd.qualname = name ∧ fd.code = code ∧
    ∀ vs : List Value, vs.length = ps.length → bindArgs fd ⟨vs, []⟩ = pure (ps.zip vs)
  cd : ∀ h, Stands h₀ h → h.CodeRec code name
  kind : scope.kind = .function
  co : scope.isCoroutine = false
  gen : scope.isGenerator = false
  params : ∀ x ∈ ps, scope.names.lookup x = some .local ∨ scope.names.lookup x = some .cell
  nofree : ∀ x, scope.names.lookup x ≠ some .free
  onceP : ps.Nodup

/-- what a call of the def gives -/
def Fn (prog : Program) (w : World) (h₀ : Heap) (k : Nat) (fa : Addr) (args : List D) (d : D) : Prop :=
  ∀ (A : Around) (X : Addr → Prop) (s : Shared) (vs : List Value) (Q : Value → Shared → Prop) (E : Value → Shared → Prop),
    Room A k → Stands h₀ s.heap → (∀ a, X a → ∃ o, s.heap.get? a = some o) → Reps prog w X s.heap args vs →
    (∀ v s', Kp s s' → Rep prog w X s'.heap d v → Q v s') → wpAny (model prog w) A (call (.ref fa) vs) Q E s

section
variable {prog : Program} {w : World} {h₀ : Heap} {k : Nat}

theorem plainly_fn {fa name ps body scope code} (F : IsFn h₀ fa name ps body scope code) : Plainly prog w h₀ (.ref fa) := fun h st => by
  obtain ⟨o, fd, ho, hd, _⟩ := F.obj
  refine ⟨.frame, .inl rfl, ?_⟩
  intro A Q E s hk hq
  unfold keeperOf
  refine wpAny_bind (wpAny_load (hk _ _ (st _ _ F.ne ho)) ?_)
  rw [hd]; exact wpAny_pure hq

def ctxOf : List Str → List D → Ctx0
  | x :: xs, d :: ds => (x, true, d) :: ctxOf xs ds
  | _, _ => []

/-- the frame of a call -/
def callEnv0 (name : Str) (scope : Scope) (code : Value) (fa L : Addr) : Env := newEnv scope L mainGlobals (cellsFrom (L + 1) scope.names []) (name ++ ".<locals>.") (some fa) code none builtinsNs

theorem bL_other (kindOf : Str → Option NameKind) (x : Str) : ∀ (ps : List Str) (vs : List Value) (m : Str → Option Value), x ∉ ps → bindL kindOf (ps.zip vs) m x = m x
  | [], _, _, _ => rfl
  | _ :: _, [], _, _ => rfl
  | p :: ps, v :: vs, m, hx => by
    rw [List.zip_cons_cons, bindL, bL_other kindOf x ps vs _ fun q => hx (by simp [q])]
    have : x ≠ p := fun q => hx (by simp [q])
    split <;> simp [this]
theorem bC_other (kindOf : Str → Option NameKind) (x : Str) : ∀ (ps : List Str) (vs : List Value) (m : Str → Option Value), x ∉ ps → bindC kindOf (ps.zip vs) m x = m x
  | [], _, _, _ => rfl
  | _ :: _, [], _, _ => rfl
  | p :: ps, v :: vs, m, hx => by
    rw [List.zip_cons_cons, bindC, bC_other kindOf x ps vs _ fun q => hx (by simp [q])]
    have : x ≠ p := fun q => hx (by simp [q])
    split <;> simp [this]
theorem ctxOf_mem : ∀ {ps : List Str} {ds : List D} {x : Str} {y : Bool × D}, (ctxOf ps ds).lookup x = some y → x ∈ ps ∧ y.1 = true
  | [], _, _, _, h => by simp [ctxOf] at h
  | _ :: _, [], _, _, h => by simp [ctxOf] at h
  | p :: ps, d :: ds, x, y, h => by
    rw [ctxOf, List.lookup_cons] at h
    by_cases q : (x == p) = true
    · rw [q] at h; cases h; exact ⟨by simp [beq_iff_eq.mp q], rfl⟩
    · have q' : (x == p) = false := by simpa using q
      rw [q'] at h
      obtain ⟨h1, h2⟩ := ctxOf_mem h
      exact ⟨by simp [h1], h2⟩
theorem knows_bind (kindOf : Str → Option NameKind) {X : Addr → Prop} {h : Heap} : ∀ (ps : List Str) (ds : List D) (vs : List Value) (m cm : Str → Option Value), ps.Nodup → Reps prog w X h ds vs → ds.length = ps.length →
    Knows prog w X h (fun x => if kindOf x = some .local then bindL kindOf (ps.zip vs) m x else bindC kindOf (ps.zip vs) cm x) (ctxOf ps ds)
  | [], _, _, _, _, _, _, _ => fun x b d e => by simp [ctxOf] at e
  | _ :: _, [], _, _, _, _, _, hl => by simp at hl
  | p :: ps, d :: ds, v :: vs, m, cm, hn, .cons r rs, hl => fun x b e he => by
    obtain ⟨hp, hn⟩ := List.nodup_cons.mp hn
    rw [ctxOf, List.lookup_cons] at he
    by_cases q : (x == p) = true
    · rw [q] at he; cases he
      obtain rfl := beq_iff_eq.mp q
      refine ⟨v, ?_, r⟩
      dsimp only
      rw [List.zip_cons_cons, bindL, bindC, bL_other _ _ _ _ _ hp, bC_other _ _ _ _ _ hp]
      by_cases hk : kindOf x = some .local <;> simp [hk]
    · have q' : (x == p) = false := by simpa using q
      rw [q'] at he
      have := knows_bind kindOf ps ds vs (if kindOf p = some .local then fun y => if y = p then some v else m y else m) (if kindOf p = some .local then cm else fun y => if y = p then some v else cm y) hn rs (by simpa using hl) x b e he
      exact this

theorem enter {fa name ps body scope code} (F : IsFn h₀ fa name ps body scope code) (lim : h₀.NoLimit) {A : Around} {X : Addr → Prop} {s : Shared} {args : List D} {vs : List Value} {R : Result → Shared → Prop}
    (hroom : A.depth < recursionLimit) (st : Stands h₀ s.heap) (live : ∀ a, X a → ∃ o, s.heap.get? a = some o) (hl : args.length = ps.length) (r : Reps prog w X s.heap args vs)
    (h : ∀ L X' s', s.heap.objs.size ≤ L → (∀ a, X a → X' a) → (∀ a, X' a → X a ∨ s.heap.get? a = none) → Inv prog w h₀ (fun a => s.heap.get? a = none) (Kp s) (callEnv0 name scope code fa L) X' (ctxOf ps args) s' →
      wpAny (model prog w) (A.deeper (callEnv0 name scope code fa L)) (execs body (callEnv0 name scope code fa L)) (fun f s' => R (.ok (.ret (match f with | .ret v => v | _ => .none))) s')
        (fun e s' => wpAny (model prog w) (A.deeper (callEnv0 name scope code fa L)) (leaving (callEnv0 name scope code fa L) e) (fun _ s'' => R (.error e) s'') (fun e' s'' => R (.error e') s'') s') s') :
    codeAny (model prog w) A (.call (.ref fa) ⟨vs, []⟩) R s := by
  obtain ⟨o, fd, ho, hd, h1, h2, h3, h4, h5, h6, h7, hb⟩ := F.obj
  have hlv : vs.length = ps.length := r.length.trans hl
  refine codeAny_call_function hroom (st _ _ F.ne ho) hd (h1 ▸ F.co) (h1 ▸ F.gen) h5 (by rw [h6, h7]; exact F.cd _ st) ?_
  rw [hb vs hlv, h1, h2, h3, h4, h6, h7]
  refine wpAny_pure (wpAny_newFunctionEnv_cells F.kind ?_ fun env he s' x => ?_)
  · rintro ⟨y, v⟩ hy
    rcases F.params y (List.of_mem_zip hy).1 with q | q
    · exact .inl q
    · exact .inr ⟨q, cellsFrom_some _ _ _ (.inl q)⟩
  · subst he
    refine ⟨(lim_stands lim st).keeps x.toInCall.keep, codeAny_func (h s.heap.objs.size (fun a => X a ∨ (s.heap.get? a = none ∧ ∃ o, s'.heap.get? a = some o)) s' (Nat.le_refl _) (fun _ q => .inl q) (fun a q => q.imp id (·.1)) ?_)⟩
    have ext : Ext s.heap s'.heap := x.toInCall.keep
    have hnew : ∀ a, s.heap.objs.size ≤ a → s.heap.get? a = none := fun a ha => none_new (Kp.rfl' s) ha
    have kp : Kp s s' := by obtain ⟨h', tk, e⟩ := x.toInCall.same; subst e; exact ⟨h', tk, rfl, ext⟩
    have hX : ∀ b o, ¬ X b → s.heap.get? b = some o → ¬ (X b ∨ (s.heap.get? b = none ∧ ∃ o, s'.heap.get? b = some o)) ∧ s'.heap.get? b = some o := fun b o hb e => ⟨fun q => q.elim hb fun q => (by rw [e] at q; cases q.1), ext _ _ e⟩
    have hlook : ∀ y, (callEnv0 name scope code fa s.heap.objs.size).kindOf y = scope.names.lookup y := fun y => rfl
    have hcells : ∀ y c, (callEnv0 name scope code fa s.heap.objs.size).cells.lookup y = some c → s.heap.objs.size < c ∧ s'.heap.IsCell c (bindC (callEnv0 name scope code fa s.heap.objs.size).kindOf (ps.zip vs) (fun _ => none) y) := fun y c hc => ⟨x.above y c (mem_of_lookup hc), x.cell y c hc⟩
    refine ⟨st.ext ext, fun a ha => ?_, ⟨fun y => if scope.names.lookup y = some .local then bindL (callEnv0 name scope code fa s.heap.objs.size).kindOf (ps.zip vs) (fun _ => none) y else bindC (callEnv0 name scope code fa s.heap.objs.size).kindOf (ps.zip vs) (fun _ => none) y, ⟨F.kind, rfl, rfl, ⟨_, x.toInCall.ns, fun y hy => ?_⟩, fun y hy => ?_, fun y z c e1 e2 => ?_⟩, knows_bind (callEnv0 name scope code fa s.heap.objs.size).kindOf ps args vs _ _ F.onceP (r.mono hX) hl, fun y d e => ?_, fun y z dy dz e => ?_⟩, fun b hb => ?_, fun a ha => ?_, fun b hb => ?_, ?_, kp⟩
    · rcases ha with ha | ha
      · obtain ⟨o, ho⟩ := live a ha; exact ⟨o, ext _ _ ho⟩
      · exact ha.2
    · rw [hlook] at hy; simp [hy]; rfl
    · rw [hlook] at hy
      have hyc : scope.names.lookup y = some .cell := hy.elim id fun q => absurd q (F.nofree y)
      obtain ⟨c, hc⟩ := Option.isSome_iff_exists.mp (cellsFrom_some scope.names (s.heap.objs.size + 1) [] (.inl hyc))
      refine ⟨c, hc, ?_⟩
      rw [if_neg (by rw [hyc]; simp)]
      exact (hcells y c hc).2
    · exact name_of_addr x.apart (mem_of_lookup e1) (mem_of_lookup e2)
    · have := (ctxOf_mem e).2; cases this
    · have := (ctxOf_mem e).2; cases this
    · rcases hb with rfl | ⟨y, hc⟩
      · have hn := hnew s.heap.objs.size (Nat.le_refl _)
        refine ⟨.inr ⟨hn, ?_⟩, hn⟩
        obtain ⟨o, _, _, ho, _⟩ := x.toInCall.ns; exact ⟨o, ho⟩
      · obtain ⟨q1, ⟨o, ho, _⟩⟩ := hcells y b hc
        have hn := hnew b (Nat.le_of_lt q1)
        exact ⟨.inr ⟨hn, o, ho⟩, hn⟩
    · cases q : s.heap.get? a with
      | none => rfl
      | some o => have := ext _ _ q; rw [this] at ha; cases ha
    · intro h23
      cases q : h₀.get? b with
      | none => rfl
      | some o =>
        have := st b o h23 q
        have hb' : s.heap.get? b = none := hb
        rw [hb'] at this; cases this
    · intro s1 h1' tk hkp hk1
      obtain ⟨h2', t2, rfl, e2⟩ := hkp
      exact ⟨h1', tk, rfl, fun b o e => hk1 b o (fun q => by have q' : s.heap.get? b = none := q; rw [e] at q'; cases q') (e2 b o e)⟩

/-- what a body must come to: a value that bears the datum -/
def Ends (prog : Program) (w : World) (Y : Addr → Prop) (Rl : Shared → Prop) (X : Addr → Prop) (d : D) (f : Flow) (s' : Shared) : Prop :=
  ∃ v X', f = .ret v ∧ (∀ a, X a → ¬ Y a → X' a) ∧ Rl s' ∧ Rep prog w X' s'.heap d v

/-- a def by its body -/
theorem fn_of {fa name ps body scope code} (F : IsFn h₀ fa name ps body scope code) (lim : h₀.NoLimit) {args : List D} {d : D} (hl : args.length = ps.length)
    (h : ∀ (A : Around) (env : Env) (Y : Addr → Prop) (Rl : Shared → Prop) (X : Addr → Prop) (s : Shared) (E : Value → Shared → Prop), env.scope = scope → interactive env = false → Room A k → Inv prog w h₀ Y Rl env X (ctxOf ps args) s →
      wpAny (model prog w) A (execs body env) (Ends prog w Y Rl X d) E s) :
    Fn prog w h₀ (k + 1) fa args d := by
  intro A X s vs Q E hr st live r hq
  refine wpAny_call (enter F lim (by have := hr.depth; have e : recursionLimit = 1000 := rfl; omega) st live hl r fun L X' s' hL hX hX' i => ?_)
  have hr' : Room (A.deeper (callEnv0 name scope code fa L)) k := ⟨hr.handled, by show A.depth + 1 + k < 600; have := hr.depth; omega, by show A.units + 3 + 50 * k + 500 < cLine; have := hr.units; omega⟩
  have hin : interactive (callEnv0 name scope code fa L) = false := by
    show (scope.kind == .module && _) = false
    rw [F.kind]; rfl
  refine wpAny_mono (h _ _ _ _ X' s' _ rfl hin hr' i) (fun f s'' hf => ?_) fun _ _ e => e
  obtain ⟨v, X2, rfl, hX2, hkp, rv⟩ := hf
  refine hq v s'' hkp (rv.mono fun b o hb e => ⟨fun q => hb (hX2 b (hX b q) fun q2 => ?_), e⟩)
  obtain ⟨o', ho'⟩ := live b q
  have q2' : s.heap.get? b = none := q2
  rw [q2'] at ho'; cases ho'

/-- a hot container is changed no more -/
theorem Inv.freeze {Y : Addr → Prop} {Rl : Shared → Prop} {env : Env} {X : Addr → Prop} {σ : Ctx0} {s : Shared} {x : Str} {d : D} (i : Inv prog w h₀ Y Rl env X σ s) (hl : σ.lookup x = some (false, d)) :
    ∃ X', (∀ a, X a → ¬ Y a → X' a) ∧ Inv prog w h₀ Y Rl env X' ((x, true, d) :: σ) s := by
  obtain ⟨m, f, n, h1, h2⟩ := i.fm
  obtain ⟨a, ha, hXa, hYa, hns⟩ := h1 x d hl
  have hX : ∀ b o, ¬ X b → s.heap.get? b = some o → ¬ (X b ∧ b ≠ a) ∧ s.heap.get? b = some o := fun b o hb e => ⟨fun q => hb q.1, e⟩
  refine ⟨fun b => X b ∧ b ≠ a, fun b hb hy => ⟨hb, fun q => hy (q ▸ hYa)⟩, i.st, fun b hb => i.live b hb.1, ⟨m, f, ?_, ?_, ?_⟩, fun b hb => ⟨⟨(i.fa b hb).1, fun q => hns (q ▸ hb)⟩, (i.fa b hb).2⟩, i.new, i.base, i.rstep, i.rel⟩
  · intro y b e he
    rw [List.lookup_cons] at he
    by_cases q : (y == x) = true
    · rw [q] at he; cases he
      rw [beq_iff_eq.mp q]
      obtain ⟨v, hv, rv⟩ := n x false d hl
      rw [ha] at hv; cases hv
      exact ⟨_, ha, Rep1.cold (Rep1.mono rv (fun _ _ _ e => e) hX) fun a' ea q => by cases ea; exact q.2 rfl⟩
    · have q' : (y == x) = false := by simpa using q
      rw [q'] at he
      obtain ⟨v, hv, rv⟩ := n y b e he
      exact ⟨v, hv, rv.mono (fun _ _ _ e => e) hX⟩
  · intro y e he
    rw [List.lookup_cons] at he
    by_cases q : (y == x) = true
    · rw [q] at he; cases he
    · have q' : (y == x) = false := by simpa using q
      rw [q'] at he
      obtain ⟨a', ha', p1, p2, p3⟩ := h1 y e he
      have hne := h2 y x e d he hl (by simpa using q)
      exact ⟨a', ha', ⟨p1, fun q2 => hne (by rw [ha', ha, q2])⟩, p2, p3⟩
  · intro y z dy dz e1 e2 hne
    rw [List.lookup_cons] at e1 e2
    by_cases q : (y == x) = true
    · rw [q] at e1; cases e1
    · by_cases q2 : (z == x) = true
      · rw [q2] at e2; cases e2
      · have q' : (y == x) = false := by simpa using q
        have q2' : (z == x) = false := by simpa using q2
        rw [q'] at e1; rw [q2'] at e2
        exact h2 y z dy dz e1 e2 hne

theorem Fn.op1 {fa : Addr} {d1 d : D} (h : Fn prog w h₀ k fa [d1] d) : Op1 prog w h₀ k (fun v => call (.ref fa) [v]) true d1 true d :=
  fun A X s v1 Q E hr st hl r1 hq => h A X s [v1] Q E hr st hl (.cons r1 .nil) hq
theorem Fn.op2 {fa : Addr} {d1 d2 d : D} (h : Fn prog w h₀ k fa [d1, d2] d) : Op2 prog w h₀ k (fun v v' => call (.ref fa) [v, v']) true d1 true d2 true d :=
  fun A X s v1 v2 Q E hr st hl r1 r2 hq => h A X s [v1, v2] Q E hr st hl (.cons r1 (.cons r2 .nil)) hq
end
end Mine

-- part A15
namespace Mine
section
variable {prog : Program} {w : World} {h₀ : Heap} {k : Nat} {sc : Scope} {σ : Ctx0} {mg mb : Str → Option Value} {b1 b2 : Bool}

/-- several expressions in turn -/
inductive Evs (prog : Program) (w : World) (h₀ : Heap) (k : Nat) (sc : Scope) (σ : Ctx0) : List Expr → List D → Prop
  | nil : Evs prog w h₀ k sc σ [] []
  | cons {e es d ds} : Ev prog w h₀ k sc σ e true d → (∀ env, starEach (e :: es) env = (false, eval e env) :: starEach es env) → Evs prog w h₀ k sc σ es ds → Evs prog w h₀ k sc σ (e :: es) (d :: ds)
theorem Evs.length {es ds} (h : Evs prog w h₀ k sc σ es ds) : es.length = ds.length := by
  induction h with
  | nil => rfl
  | cons _ _ _ ih => simp [ih]
theorem Evs.run {es ds} (h : Evs prog w h₀ k sc σ es ds) {A : Around} {env : Env} {X : Addr → Prop} {s : Shared} {E : Value → Shared → Prop} {Q : List Value → Shared → Prop} {pos : Pos} (he : env.scope = sc) (hr : Room A k) (hs : See prog w h₀ env X σ s)
    (hq : ∀ vs s', Kp s s' → Reps prog w X s'.heap ds vs → Q vs s') : wpAny (model prog w) A (spliced (backTo pos (starEach es env))) Q E s := by
  induction h generalizing s Q with
  | nil => exact wpAny_items_nil (hq [] s (Kp.rfl' s) .nil)
  | cons h1 hst _ ih =>
    refine wpAny_items_cons (h1 A env X s _ E he hr hs fun v s1 k1 r1 => ?_) (hst env)
    exact ih (hs.keeps k1) fun vs s2 k2 r2 => hq _ s2 (k1.trans k2) (.cons (Rep.ext r1 k2.ext) r2)
theorem Ev.tuple {es ds q pos} (h : Evs prog w h₀ k sc σ es ds) (hn : ds.length ≤ 1000) : Ev prog w h₀ k sc σ (.Tuple es q pos) true (.tup ds) := by
  intro A env X s Q E he hr hs hq
  refine wpAny_Tuple (h.run he hr hs fun vs s' k' r => ⟨by rw [r.length, sizeLine_eq]; omega, ?_⟩)
  have kk : Ext s'.heap _ := fun _ _ e => Heap.get?_push_of_some { cls := .type "tuple", data := .seq vs.toArray } e
  exact hq _ _ (k'.trans (Kp.obj _)) (.tup (fresh_cold (hs.keeps k').live) ⟨_, Heap.get?_push_size _ rfl, rfl, _, rfl⟩ (r.ext kk))
theorem Ev.list {es ds pos} (h : Evs prog w h₀ k sc σ es ds) (hn : ds.length ≤ 1000) : Ev prog w h₀ k sc σ (.List es pos) true (.lst ds) := by
  intro A env X s Q E he hr hs hq
  refine wpAny_List (h.run he hr hs fun vs s' k' r => ⟨by rw [r.length, sizeLine_eq]; omega, ?_⟩)
  have kk : Ext s'.heap _ := fun _ _ e => Heap.get?_push_of_some { cls := .type "list", data := .seq vs.toArray } e
  exact hq _ _ (k'.trans (Kp.obj _)) (.lst (fresh_cold (hs.keeps k').live) ⟨_, Heap.get?_push_size _ rfl⟩ (r.ext kk))
theorem Ev.dict0 (B : Bs h₀ mg mb) {pos} : Ev prog w h₀ k sc σ (.Dict [] [] pos) true (.dic []) := by
  intro A env X s Q E he hr hs hq
  refine wpAny_Dict_empty (hq _ _ (Kp.obj _) (.dic (fresh_cold hs.live) (not_modules B hs.st) ⟨_, #[], 0, Heap.get?_push_size _ rfl, ⟨rfl, rfl, rfl⟩, rfl, fun _ he => by simp at he, .nil, by simp⟩ .nil))

-- tests
theorem Tr.cmp {l r op pos b1 b2 d1 d2 p} (h1 : Ev prog w h₀ k sc σ l b1 d1) (h2 : Ev prog w h₀ k sc σ r b2 d2) (ho : Op2 prog w h₀ k (compareOp op) b1 d1 b2 d2 true (.bool p))
    (hm : behindInMarks op r = false := by with_unfolding_all rfl) : Tr prog w h₀ k sc σ (.Compare l [op] [r] pos) p := by
  intro A env X s Q E he hr hs hq
  refine wpAny_isTrue_Compare1 (h1 A env X s _ E he hr hs fun v1 s1 k1 r1 => h2 A env X s1 _ E he hr (hs.keeps k1) fun v2 s2 k2 r2 => ?_) hm
  have hs2 := (hs.keeps k1).keeps k2
  refine ho A X s2 v1 v2 _ E hr hs2.st hs2.live (r1.ext k2.ext) r2 fun v s3 k3 r3 => ?_
  cases r3
  exact wpAny_truthy_bool (hq s3 ((k1.trans k2).trans k3))
theorem Tr.not {e pos p} (h : Tr prog w h₀ k sc σ e p) : Tr prog w h₀ k sc σ (.UnaryOp .Not e pos) (!p) := by
  intro A env X s Q E he hr hs hq
  exact wpAny_isTrue_Not (h A env X s _ E he hr hs fun s' k' => hq s' k')
/-- a test by the value of a call -/
theorem Tr.call {f args kw pos p} (h : Ev prog w h₀ k sc σ (.Call f args kw pos) true (.bool p)) : Tr prog w h₀ k sc σ (.Call f args kw pos) p := by
  intro A env X s Q E he hr hs hq
  refine wpAny_isTrue_value (h A env X s _ E he hr hs fun v s' k' r => ?_) (by rfl)
  cases r
  exact wpAny_truthy_bool (hq s' k')

-- isinstance(e, tuple)
def D.isTup : D → Bool
  | .tup _ => true
  | _ => false
theorem Ev.isTuple {e : Expr} {np p2 pos : Pos} {d : D} {b : Bool} (hg : Gv prog w h₀ sc (.Name "isinstance" np) (.builtin "isinstance")) (ht : Gv prog w h₀ sc (.Name "tuple" p2) (.type "tuple"))
    (h : Ev prog w h₀ k sc σ e b d) (hd : (∃ i, d = .int i) ∨ ∃ l, d = .tup l) (hst : ∀ env, starEach [e, .Name "tuple" p2] env = [(false, eval e env), (false, eval (.Name "tuple" p2) env)] := by intro _; rfl) :
    Ev prog w h₀ k sc σ (.Call (.Name "isinstance" np) [e, .Name "tuple" p2] [] pos) true (.bool d.isTup) := by
  intro A env X s Q E he hr hs hq
  refine wpAny_Call_NameR (hg A env X σ s _ E he hs ?_)
  refine callWith_of (P := Stands h₀) (by rw [hst]; rfl) (plainly_builtin _) ?_
  have hst1 : starEach [.Name "tuple" p2] env = [(false, eval (.Name "tuple" p2) env)] := rfl
  rw [hst]
  refine Calls.evalArgs_plain (x := eval e env) (rest := backTo pos [(false, eval (.Name "tuple" p2) env)]) ?_
  have := wpAny_items_cons (M := model prog w) (A := A) (E := E) (s := s) (env := env) (pos := pos) (e := e) (rest := [.Name "tuple" p2]) (Q := fun vs s' => Stands h₀ s'.heap ∧ wpAny (model prog w) A (call (.builtin "isinstance") ([] ++ vs)) Q E s') ?_ (by rw [hst, hst1])
  · rw [hst] at this; exact this
  · refine h A env X s _ E he hr hs fun v s1 k1 r1 => ?_
    refine wpAny_items_cons (ht A env X σ s1 _ E he (hs.keeps k1) (wpAny_items_nil ⟨(hs.keeps k1).st, ?_⟩)) hst1
    rcases hd with ⟨i, rfl⟩ | ⟨l, rfl⟩
    · obtain ⟨t, rfl⟩ := r1.one
      exact IsiPair.int_tuple (hq _ _ (k1.trans (Kp.tok s1 _)) (.bool _))
    · obtain ⟨a, vs, rfl, ⟨o, ho, hc, _⟩, _⟩ := r1.one
      exact IsiPair.tuple_tuple ho hc (hq _ _ k1 (.bool _))
theorem op_ne_bool {p q : Bool} : Op2 prog w h₀ k (compareOp .NotEq) b1 (.bool p) b2 (.bool q) true (.bool (p != q)) := by
  have := op_ne_data (prog := prog) (w := w) (h₀ := h₀) (k := k) (b1 := b1) (b2 := b2) (d := .bool p) (e := .bool q) rfl rfl (Nat.zero_le _)
  have e : (!PyData.eqv (toP (.bool p)) (toP (.bool q))) = (p != q) := by cases p <;> cases q <;> rfl
  rw [e] at this; exact this

-- len, tuple, sum, min, join
theorem op_len_tup {ds : List D} (hn : ds.length < 2 ^ 60) : Op1 prog w h₀ k (fun v => call (.builtin "len") [v]) b1 (.tup ds) true (.int ds.length) := by
  intro A X s v Q E hr hs hl r hq
  obtain ⟨a, vs, rfl, ht, rs⟩ := r.one
  have hlen := rs.length
  refine len_tuple ht (by rw [List.size_toArray]; omega) ?_
  rw [List.size_toArray, hlen]
  exact hq _ _ (Kp.tok s _) (.int _ _)
theorem op_tuple_lst {ds : List D} (hn : ds.length ≤ 2 ^ 20) : Op1 prog w h₀ k (fun v => call (.type "tuple") [v]) b1 (.lst ds) true (.tup ds) := by
  intro A X s v Q E hr hs hl r hq
  obtain ⟨a, vs, rfl, ht, rs⟩ := r.one
  have hlen := rs.length
  refine call_tuple_list ht.isList (fun h' hk => ?_) (by rw [List.size_toArray, sizeLine_eq]; omega)
  have e1 : Ext s.heap (h'.push { cls := .type "tuple", data := .seq vs.toArray }) := fun b o e => Heap.get?_push_of_some _ (hk b o e)
  have hc : ¬ X h'.objs.size := fun q => by obtain ⟨o, ho⟩ := hl _ q; exact Nat.lt_irrefl _ (Heap.lt_size (hk _ _ ho))
  exact hq _ _ ⟨_, s.toks, rfl, e1⟩ (.tup hc ⟨_, Heap.get?_push_size _ rfl, rfl, _, rfl⟩ (rs.ext e1))
theorem ints_items {X : Addr → Prop} {h : Heap} : ∀ {ns : List Int} {vs : List Value}, Reps prog w X h (ns.map .int) vs → ∃ xs : Array (Int × Tok), vs.toArray = intItems xs ∧ xs.toList.map (·.1) = ns
  | [], _, .nil => ⟨#[], by simp [intItems], rfl⟩
  | n :: ns, _, .cons (.int _ t) r => by
    obtain ⟨xs, h1, h2⟩ := ints_items (ns := ns) r
    rename_i vs
    refine ⟨((n, t) :: xs.toList).toArray, ?_, by simp [h2]⟩
    have h1' : vs = xs.toList.map fun p => Value.int p.1 p.2 := by
      have := congrArg Array.toList h1
      simpa [intItems] using this
    simp [intItems, h1']
theorem op_sum {ns : List Int} : Op1 prog w h₀ k (fun v => call (.builtin "sum") [v]) b1 (.lst (ns.map .int)) true (.int ns.sum) := by
  intro A X s v Q E hr hs hl r hq
  obtain ⟨a, vs, rfl, ht, rs⟩ := r.one
  obtain ⟨xs, h1, h2⟩ := ints_items rs
  have htl := ht.isList
  rw [h1] at htl
  refine sum_intListG hr.handled htl fun h' tk t' hk => ?_
  have e : preSum (numAt xs) xs.size = ns.sum := by
    rw [preSum_eq, h2, List.take_of_length_le (by rw [← h2]; simp)]
  rw [e]
  exact hq _ _ ⟨h', tk, rfl, hk⟩ (.int _ _)
theorem op_min {ns : List Int} {m : Int} (hm : m ∈ ns) (hle : ∀ n ∈ ns, m ≤ n) : Op1 prog w h₀ k (fun v => call (.builtin "min") [v]) b1 (.lst (ns.map .int)) true (.int m) := by
  intro A X s v Q E hr hs hl r hq
  obtain ⟨a, vs, rfl, ht, rs⟩ := r.one
  obtain ⟨xs, h1, h2⟩ := ints_items rs
  have htl := ht.isList
  rw [h1] at htl
  have hsz : xs.size = ns.length := by have := congrArg List.length h2; simpa using this
  have hne : 0 < xs.size := by rw [hsz]; exact List.length_pos_of_mem hm
  refine min_intList hr.handled htl hne fun v' h' tk hv hk => ?_
  obtain ⟨b1', b2'⟩ := argBest_lt (numAt xs) (xs.size - 1)
  generalize hj : argBest (fun i j => decide (numAt xs i < numAt xs j)) (xs.size - 1) = j at hv b1' b2'
  have hjl : j < xs.size := by omega
  have hv' : v' = Value.int xs[j].1 xs[j].2 := by simp [intItems, hjl] at hv; exact hv.symm
  have hxj : xs[j].1 = m := by
    have hnum : ∀ i (hi : i < xs.size), numAt xs i = xs[i].1 := fun i hi => by rw [numAt_eq]; simp [hi]
    have hmem : xs[j].1 ∈ ns := by rw [← h2]; exact List.mem_map.mpr ⟨xs[j], by simp, rfl⟩
    have l1 := hle _ hmem
    rw [← h2] at hm
    obtain ⟨p, hp, hpm⟩ := List.mem_map.mp hm
    obtain ⟨i, hi, hpi⟩ := List.mem_iff_getElem.mp hp
    have hi' : i < xs.size := by simpa using hi
    have l2 := b2' i (by omega)
    rw [hnum j hjl, hnum i hi'] at l2
    have : xs[i].1 = m := by rw [← hpm, ← hpi]; simp
    omega
  rw [hv', hxj]
  exact hq _ _ ⟨h', tk, rfl, hk⟩ (.int _ _)
theorem strs_are {X : Addr → Prop} {h : Heap} : ∀ {ys : List Str} {vs : List Value}, Reps prog w X h (ys.map .str) vs → StrsAre vs ys
  | [], _, .nil => .nil
  | y :: ys, _, .cons (.str _ t) r => .cons _ _ (strs_are (ys := ys) r)
/-- x.join(list of texts) -/
theorem Ev.join {x : Str} {q : Nat} {p0 apos pos : Pos} {e : Expr} {ys : List Str} {b : Bool} (h : Ev prog w h₀ k sc σ e b (.lst (ys.map .str))) (hok : (ys.map (·.length)).sum + ys.length * x.length ≤ 16777216)
    (hline : (apos.endLine == pos.line) = true := by decide) (hst : ∀ env, starEach [e] env = [(false, eval e env)] := by intro _; rfl) :
    Ev prog w h₀ k sc σ (.Call (.Attribute (.Constant (.str x) q p0) "join" apos) [e] [] pos) true (.str (Txt.join x ys)) := by
  intro A env X s Q E he hr hs hq
  refine wpAny_Call_method (T := "str") (id := "str.join") rfl (by rw [hst]; rfl) hline F.plainAttrs_str F.slot_str_join F.type_str_join ?_
  refine wpAny_Constant_str ⟨typeIs_str _ _ _, (fun a e => by cases e), ?_⟩
  rw [hst]
  refine Calls.callWith_builtin rfl (Calls.evalArgs_plain (Calls.spliced_cons (h A env X _ _ E he hr (hs.keeps (Kp.tok s _)) fun v s1 k1 r1 => Calls.spliced_nil ?_)))
  obtain ⟨a, vs, rfl, hpl, rs⟩ := r1.one
  show wpAny _ A (call (.builtin "str.join") [.str x _, .ref a]) _ _ _
  exact join_list hpl.isList (by simpa using strs_are rs) hok fun t' k' => hq _ _ (((Kp.tok s _).trans k1).trans (Kp.tok s1 _)) (.str _ _)

-- slices
/-- a part of a list -/
theorem slice_lst {A : Around} {E : Value → Shared → Prop} {X : Addr → Prop} {s : Shared} {ds es : List D} {v vl vu vs' : Value} {lo hi st : Option Int} {Q : Value → Shared → Prop} (r : Rep1 prog w X s.heap (.lst ds) v) (hl : ∀ a, X a → ∃ o, s.heap.get? a = some o)
    (pl : IsPart vl lo) (pu : IsPart vu hi) (ps : IsPart vs' st) (h0 : st ≠ some 0) (hn : ds.length ≤ 2 ^ 20)
    (hp : ∀ (vs : List Value), Reps prog w X s.heap ds vs → ∃ ws, slicePick vs.toArray lo hi st = ws.toArray ∧ Reps prog w X s.heap es ws)
    (hq : ∀ v s', Kp s s' → Rep prog w X s'.heap (.lst es) v → Q v s') :
    Shared.TypeIs { s with heap := s.heap.push { cls := .type "slice", data := .fields #[vl, vu, vs'] } } v "list" ∧
    wpAny (model prog w) A (getItem v (.ref s.heap.objs.size)) Q E { s with heap := s.heap.push { cls := .type "slice", data := .fields #[vl, vu, vs'] } } := by
  obtain ⟨a, vs, rfl, hpl, rs⟩ := r
  generalize hh3 : s.heap.push { cls := .type "slice", data := .fields #[vl, vu, vs'] } = h3
  have e3 : Ext s.heap h3 := fun _ _ e => by rw [← hh3]; exact Heap.get?_push_of_some _ e
  have hS : h3.get? s.heap.objs.size = some { cls := .type "slice", data := .fields #[vl, vu, vs'] } := by rw [← hh3]; exact Heap.get?_push_size _ rfl
  have hpl3 : h3.PlainList a vs.toArray := let ⟨n, ho⟩ := hpl; ⟨n, e3 _ _ ho⟩
  refine ⟨Heap.IsList.typeIs (s := { s with heap := h3 }) hpl3.isList, ?_⟩
  have hlen := rs.length
  refine wpAny_getItem_list_slice (s := { s with heap := h3 }) hpl3.isList ⟨_, hS, rfl, rfl⟩ pl pu ps h0 ?_ (by rw [List.size_toArray, sizeLine_eq]; omega)
  obtain ⟨ws, e, rw'⟩ := hp vs rs
  rw [e]
  generalize hh4 : h3.push { cls := .type "list", data := .seq ws.toArray } = h4
  have e4 : Ext h3 h4 := fun _ _ e => by rw [← hh4]; exact Heap.get?_push_of_some _ e
  have hG : h4.get? h3.objs.size = some { cls := .type "list", data := .seq ws.toArray } := by rw [← hh4]; exact Heap.get?_push_size _ rfl
  refine hq _ _ ⟨h4, s.toks, rfl, e3.trans e4⟩ (.lst (vs := ws) (fun q => ?_) ⟨0, hG⟩ (rw'.ext (e3.trans e4)))
  obtain ⟨o, ho⟩ := hl _ q
  exact Nat.lt_irrefl _ (Heap.lt_size (e3 _ _ ho))
theorem Ev.upto_lst {value ue : Expr} {p pos : Pos} {ds : List D} {u : Nat} {b b' : Bool} (h : Ev prog w h₀ k sc σ value b (.lst ds)) (hu : Ev prog w h₀ k sc σ ue b' (.int u)) (hn : ds.length ≤ 2 ^ 20)
    (hlt : ∀ o r, letTemporaryGo value o r = pure () := by intro _ _; rfl) :
    Ev prog w h₀ k sc σ (.Subscript value (.Slice none (some ue) none p) pos) true (.lst (ds.take u)) := by
  intro A env X s Q E he hr hs hq
  refine wpAny_Subscript_Slice (T := "list") slot_list_getitem.lookup (h A env X s _ E he hr hs fun v s1 k1 r1 => ?_) hlt
  have hs1 := hs.keeps k1
  refine wpAny_Slice (wpAny_evalPart_none (wpAny_evalPart_some (hu A env X s1 _ E he hr hs1 fun uv s2 k2 r2 => wpAny_evalPart_none ?_)))
  obtain ⟨t, rfl⟩ := r2.one
  refine slice_lst (lo := none) (hi := some (u : Int)) (st := none) (Rep1.ext r1.one k2.ext) (hs1.keeps k2).live .none (.int _ _) .none (by simp) hn (fun vs rs => ⟨vs.take u, by rw [slicePick_upto'], rs.take u⟩) fun v s3 k3 r3 => hq v s3 ((k1.trans k2).trans k3) r3
theorem Ev.rev_lst {value : Expr} {q : Nat} {p1 p2 p pos : Pos} {ds : List D} {b : Bool} (h : Ev prog w h₀ k sc σ value b (.lst ds)) (hn : ds.length ≤ 2 ^ 20)
    (hlt : ∀ o r, letTemporaryGo value o r = pure () := by intro _ _; rfl) :
    Ev prog w h₀ k sc σ (.Subscript value (.Slice none none (some (.UnaryOp .USub (.Constant (.int 1) q p1) p2)) p) pos) true (.lst ds.reverse) := by
  intro A env X s Q E he hr hs hq
  refine wpAny_Subscript_Slice_step (T := "list") slot_list_getitem.lookup (h A env X s _ E he hr hs fun v s1 k1 r1 => ?_) hlt
  have hs1 := hs.keeps k1
  refine wpAny_Slice (wpAny_evalPart_none (wpAny_evalPart_none (wpAny_evalPart_some (wpAny_UnaryOp (wpAny_Constant_int ?_)))))
  refine neg_int ?_
  have k2 : Kp s1 { s1 with toks := s1.toks + 1 + 1 } := Kp.tok _ _
  refine slice_lst (s := { s1 with toks := s1.toks + 1 + 1 }) (lo := none) (hi := none) (st := some (-1)) (Rep1.ext r1.one k2.ext) (hs1.keeps k2).live .none .none (.int _ _) (by simp) hn (fun vs rs => ⟨vs.reverse, by rw [krv_pick], rs.reverse⟩) fun v s3 k3 r3 => hq v s3 ((k1.trans k2).trans k3) r3
end
end Mine

-- part A16
namespace Mine
section
variable {prog : Program} {w : World} {h₀ : Heap} {k : Nat} {sc : Scope} {σ : Ctx0} {mg mb : Str → Option Value} {b1 b2 : Bool}

-- 'abcde'[:n]
def abc (n : Nat) : Str := ⟨([97, 98, 99, 100, 101].take n).toArray⟩
theorem abcde_is : Str.ofString "abcde" = ⟨#[97, 98, 99, 100, 101]⟩ := by decide +kernel
theorem abc_made (t : Tok) (u : Tok) : ∀ n : Nat, n ≤ 5 → sliceMade ⟨#[97, 98, 99, 100, 101]⟩ t none (some ((n : Int), u)) none = if n = 5 then .val (.str ⟨#[97, 98, 99, 100, 101]⟩ t) else .str (abc n)
  | 0, _ => rfl
  | 1, _ => rfl
  | 2, _ => rfl
  | 3, _ => rfl
  | 4, _ => rfl
  | 5, _ => rfl
  | n + 6, h => by omega
theorem Ev.abc {q : Nat} {p0 p pos : Pos} {ue : Expr} {u : Nat} {b : Bool} (hu : Ev prog w h₀ k sc σ ue b (.int u)) (hn : u ≤ 5) :
    Ev prog w h₀ k sc σ (.Subscript (.Constant (.str (Str.ofString "abcde")) q p0) (.Slice none (some ue) none p) pos) true (.str (abc u)) := by
  intro A env X s Q E he hr hs hq
  refine Subscript_ (wpAny_Constant_str (wpAny_Slice (wpAny_evalPart_none (wpAny_evalPart_some (hu A env X _ _ E he hr (hs.keeps (Kp.tok s _)) fun uv s2 k2 r2 => wpAny_evalPart_none ?_)))))
  obtain ⟨t, rfl⟩ := r2.one
  refine tail_any (typeIs_str _ _ _) slot_str_getitem.lookup (wpAny_getItem_str_slice (l := none) (u := some ((u : Int), t)) (st := none) ⟨_, Heap.get?_push_size _ rfl, rfl, rfl⟩ rfl ?_) rfl
  rw [abcde_is, abc_made _ _ u hn]
  have kk := (Kp.tok s (s.toks + 1)).trans k2
  by_cases h5 : u = 5
  · rw [if_pos h5]
    subst h5
    exact hq _ _ (kk.trans (Kp.obj _)) (.str _ _)
  · rw [if_neg h5]
    refine ⟨?_, hq _ _ (kk.trans (Kp.push s2 _ _)) (.str _ _)⟩
    show (([97, 98, 99, 100, 101] : List Nat).take u).toArray.size ≤ sizeLine
    rw [sizeLine_eq, List.size_toArray, List.length_take]; simp; omega

-- a tuple of five, its first four
theorem Ev.upto4 {value : Expr} {q : Nat} {p1 p pos : Pos} {d0 d1 d2 d3 d4 : D} {b : Bool} (h : Ev prog w h₀ k sc σ value b (.tup [d0, d1, d2, d3, d4]))
    (hlt : ∀ o r, letTemporaryGo value o r = pure () := by intro _ _; rfl) :
    Ev prog w h₀ k sc σ (.Subscript value (.Slice none (some (.Constant (.int 4) q p1)) none p) pos) true (.tup [d0, d1, d2, d3]) := by
  intro A env X s Q E he hr hs hq
  refine wpAny_Subscript_Slice (T := "tuple") slot_tuple_getitem.lookup (h A env X s _ E he hr hs fun v s1 k1 r1 => ?_) hlt
  have hs1 := hs.keeps k1
  refine wpAny_Slice (wpAny_evalPart_none (wpAny_evalPart_some (wpAny_Constant_int (wpAny_evalPart_none ?_))))
  obtain ⟨a, vs, rfl, ht, rs⟩ := r1.one
  cases rs with
  | @cons _ v0 _ _ a0 rs => cases rs with
    | @cons _ v1 _ _ a1 rs => cases rs with
      | @cons _ v2 _ _ a2 rs => cases rs with
        | @cons _ v3 _ _ a3 rs => cases rs with
          | @cons _ v4 _ _ a4 rs => cases rs with
            | nil =>
              generalize hh3 : s1.heap.push { cls := .type "slice", data := .fields #[.none, .int 4 s1.toks, .none] } = h3
              have e3 : Ext s1.heap h3 := fun _ _ e => by rw [← hh3]; exact Heap.get?_push_of_some _ e
              have hS : h3.get? s1.heap.objs.size = some { cls := .type "slice", data := .fields #[.none, .int 4 s1.toks, .none] } := by rw [← hh3]; exact Heap.get?_push_size _ rfl
              have ht3 : h3.IsTuple a #[v0, v1, v2, v3, v4] := let ⟨o, ho, r⟩ := ht; ⟨o, e3 _ _ ho, r⟩
              have hT : Shared.TypeIs { s1 with heap := h3, toks := s1.toks + 1 } (.ref a) "tuple" := let ⟨o, ho, hc, _⟩ := ht3; ⟨o, ho, hc⟩
              refine ⟨hT, ?_⟩
              have hTs : Shared.TypeIs { s1 with heap := h3, toks := s1.toks + 1 } (.ref s1.heap.objs.size) "slice" := ⟨_, hS, rfl⟩
              unfold getItem
              refine wpAny_holding ?_
              refine wpAny_bind (wpAny_sequenceKey hT (by decide) ?_)
              refine wpAny_bind (wpAny_callSpecial?_slot (name := Str.ofString "__getitem__") hT slot_tuple_getitem
                (wpAny_call_entry slot_tuple_getitem hT entry_tuple_getitem ?_ (args_tuple_getitem _ _)))
              show wpAny _ _ (Builtin.Tuple.tupleItemsOf (.ref a) >>= _) _ _ _
              refine wpAny_bind (tupleItemsOf_ ht3 ?_)
              refine wpAny_bind (wpAny_typeOf hTs ?_)
              rw [if_pos (by decide)]
              refine wpAny_bind (m := Builtin.Slice.sliceApplied (.ref s1.heap.objs.size) (pure (5 : Int))) ?_
              unfold Builtin.Slice.sliceApplied Builtin.Slice.sliceFields
              refine wpAny_bind (wpAny_bind (wpAny_field hS rfl (x := .none) rfl (wpAny_bind (wpAny_field hS rfl (x := .int 4 s1.toks) rfl (wpAny_bind (wpAny_field hS rfl (x := .none) rfl (wpAny_pure ?_)))))))
              refine wpAny_bind (slicePart_none ?_)
              show wpAny _ _ (if ((1 : Int) == 0) = true then _ else _) _ _ _
              rw [if_neg (by decide)]
              refine wpAny_bind (slicePart_none (wpAny_bind (slicePart_int (wpAny_bind (wpAny_pure ?_)))))
              show wpAny _ _ (match Builtin.Slice.sliceAdjust none (some (4 : Int)) 1 (5 : Int) with | (lo, hi) => pure (lo, (1 : Int), Builtin.Slice.slicePlaces lo hi 1)) _ _ _
              have ea : Builtin.Slice.sliceAdjust none (some (4 : Int)) 1 (5 : Int) = (0, 4) := by decide
              have ep : Builtin.Slice.slicePlaces 0 4 1 = 4 := by decide
              rw [ea]
              show wpAny _ _ (pure ((0 : Int), (1 : Int), Builtin.Slice.slicePlaces 0 4 1)) _ _ _
              rw [ep]
              refine wpAny_pure ?_
              show wpAny _ _ (if ((0 : Int) == 0 && (1 : Int) == 1 && (4 : Nat) == 5) = true then _ else _) _ _ _
              rw [if_neg (by decide)]
              generalize hit : ((List.range 4).filterMap fun (j : Nat) => (#[v0, v1, v2, v3, v4] : Array Value)[((0 : Int) + (j : Int) * 1).toNat]?).toArray = its
              have eit : its = #[v0, v1, v2, v3] := by rw [← hit]; rfl
              clear hit
              subst eit
              have fin : Q (.ref h3.objs.size) { s1 with heap := h3.push { cls := .type "tuple", data := .seq #[v0, v1, v2, v3] }, toks := s1.toks + 1 } := by
                have e4 : Ext h3 (h3.push { cls := .type "tuple", data := .seq #[v0, v1, v2, v3] }) := fun _ _ e => Heap.get?_push_of_some _ e
                refine hq _ _ (k1.trans ⟨_, _, rfl, e3.trans e4⟩) (.tup (vs := [v0, v1, v2, v3]) (fun q => ?_) ⟨_, Heap.get?_push_size _ rfl, rfl, _, rfl⟩ ?_)
                · obtain ⟨o, ho⟩ := hs1.live _ q; exact Nat.lt_irrefl _ (Heap.lt_size (e3 _ _ ho))
                · have x := e3.trans e4
                  exact .cons (a0.ext x) (.cons (a1.ext x) (.cons (a2.ext x) (.cons (a3.ext x) .nil)))
              have hsz : sizeOk (.seq #[v0, v1, v2, v3]) := by show (4 : Nat) ≤ sizeLine; rw [sizeLine_eq]; omega
              first
                | exact wpAny_bind (m := Builtin.Tuple.tupleExact _) (wpAny_newObj_type (wpAny_pure ⟨_, rfl, wpAny_pure fin⟩) hsz)
                | exact wpAny_bind (m := Builtin.Tuple.tupleExact _) (wpAny_newObj_type (wpAny_bind (wpAny_pure (wpAny_pure ⟨_, rfl, wpAny_pure fin⟩))) hsz)
                | exact wpAny_bind (wpAny_bind (m := Builtin.Tuple.tupleExact _) (wpAny_newObj_type (wpAny_pure (wpAny_pure ⟨_, rfl, wpAny_pure fin⟩)) hsz))
                | exact wpAny_bind (wpAny_bind (m := Builtin.Tuple.tupleExact _) (wpAny_newObj_type (wpAny_pure ⟨_, rfl, wpAny_pure fin⟩) hsz))

-- list(d.items())
def pairsOf (kds : List (Str × D)) : List D := kds.map fun p => .tup [.str p.1, p.2]
/-- the items view of a dict -/
theorem items_view {A : Around} {env : Env} {X : Addr → Prop} {s : Shared} {Q : Value → Shared → Prop} {E : Value → Shared → Prop} {o : Expr} {apos pos : Pos} {kds : List (Str × D)} {b : Bool} (h : Ev prog w h₀ k sc σ o b (.dic kds))
    (he : env.scope = sc) (hr : Room A k) (hs : See prog w h₀ env X σ s) (hbase : ∀ env, attributeBase o "items" env (eval o env) = eval o env) (hline : (apos.endLine == pos.line) = true)
    (hq : ∀ a s1, Kp s s1 → RepB prog w X s1.heap b (.dic kds) (.ref a) → Q (.ref s1.heap.objs.size) { s1 with heap := s1.heap.push { cls := .type "dict_items", data := .fields #[.ref a] } }) :
    wpAny (model prog w) A (eval (.Call (.Attribute o "items" apos) [] [] pos) env) Q E s := by
  refine wpAny_Call_method (T := "dict") (id := "dict.items") (hbase env) rfl hline F.plainAttrs_dict F.slot_dict_items F.type_dict_items (h A env X s _ E he hr hs fun v s1 k1 r1 => ?_)
  have r1' := r1.one
  obtain ⟨a, kvs, rfl, hsy, hd, rk⟩ := id r1'
  refine ⟨hd.typeIs, hd.mapOf.noDict, ?_⟩
  show wpAny _ _ (callWith pos (.builtin "dict.items") [.ref a] [] []) Q E s1
  exact method_meetsIn F.slot_dict_items F.entry_dict_items rfl (PySem.evalArgs_none ⟨rfl, hd.typeIs, F.args_dict_items_1 _, _, meets_dict_items (PySem.strKind prog w) a hsy, ⟨kvs, hd⟩, hq a s1 k1 r1⟩)

theorem Ev.listItems {o : Expr} {np apos p1 pos : Pos} {kds : List (Str × D)} {b : Bool} (hg : Gv prog w h₀ sc (.Name "list" np) (.type "list")) (h : Ev prog w h₀ k sc σ o b (.dic kds)) (hn : kds.length ≤ 2 ^ 20)
    (hbase : ∀ env, attributeBase o "items" env (eval o env) = eval o env := by intro _; rfl) (hline : (apos.endLine == p1.line) = true := by decide) :
    Ev prog w h₀ k sc σ (.Call (.Name "list" np) [.Call (.Attribute o "items" apos) [] [] p1] [] pos) true (.lst (pairsOf kds)) := by
  intro A env X s Q E he hr hs hq
  refine wpAny_Call_NameR (hg A env X σ s _ E he hs ?_)
  refine callWith_of (P := Stands h₀) rfl (plainly_type _) ?_
  have hst : starEach [.Call (.Attribute o "items" apos) [] [] p1] env = [(false, eval (.Call (.Attribute o "items" apos) [] [] p1) env)] := rfl
  rw [hst]
  refine Calls.evalArgs_plain (x := eval (.Call (.Attribute o "items" apos) [] [] p1) env) (rest := []) ?_
  have := wpAny_items_cons (M := model prog w) (A := A) (E := E) (s := s) (env := env) (pos := pos) (e := .Call (.Attribute o "items" apos) [] [] p1) (rest := []) (Q := fun vs s' => Stands h₀ s'.heap ∧ wpAny (model prog w) A (call (.type "list") ([] ++ vs)) Q E s') ?_ hst
  · exact this
  refine items_view h he hr hs hbase hline fun a s1 k1 r1 => wpAny_items_nil ?_
  have hs1 := hs.keeps k1
  obtain ⟨a', kvs, ea, hsy, hd, rk⟩ := r1.one
  cases ea
  generalize hh2 : s1.heap.push { cls := .type "dict_items", data := .fields #[.ref a] } = h2
  have e2 : Ext s1.heap h2 := fun _ _ e => by rw [← hh2]; exact Heap.get?_push_of_some _ e
  have hV : h2.get? s1.heap.objs.size = some { cls := .type "dict_items", data := .fields #[.ref a] } := by rw [← hh2]; exact Heap.get?_push_size _ rfl
  have kk : Kp s { s1 with heap := h2 } := k1.trans ⟨h2, s1.toks, rfl, e2⟩
  refine ⟨(hs.keeps kk).st, ?_⟩
  obtain ⟨ep, hd1⟩ := hd.dictAt
  have hd2 := hd1.keep e2
  have hlen : kvs.length = kds.length := by have := congrArg List.length rk.keys; simpa using this
  show wpAny _ A (call (.type "list") [.ref s1.heap.objs.size]) Q E { s1 with heap := h2 }
  refine kdx_call (s := { s1 with heap := h2 }) (d := a) (kvs := kvs) (ep := ep) hr.handled ⟨_, hV, rfl, rfl⟩ hd2 (by rw [sizeLine_eq]; omega) fun h' tk acc c as hk hL hlas hG hacc => ?_
  dsimp only at hk hL hG
  have x' : Ext s1.heap h' := fun _ _ e => hk _ _ (e2 _ _ e)
  refine hq _ _ (k1.trans ⟨h', tk, rfl, x'⟩) (.lst (vs := as.map Value.ref) (fun q => ?_) ⟨c, by rw [hL, ← hacc]⟩ ?_)
  · obtain ⟨o, ho⟩ := (hs.keeps kk).live _ q; exact Nat.lt_irrefl _ (Heap.lt_size ho)
  · have hcold : ∀ x ∈ as, ¬ X x := fun x hx q => by
      obtain ⟨o, ho⟩ := (hs.keeps kk).live _ q
      exact absurd (Heap.lt_size ho) (Nat.not_lt.mpr (Nat.le_of_lt (hG.above x hx)))
    have hpairs := hG.pairs
    have rk' := rk.ext x'
    have key : ∀ (as : List Addr) (kvs : List (Str × Value)) (kds : List (Str × D)), as.length = kvs.length → (∀ x ∈ as, ¬ X x) → (∀ (j : Nat) (a : Addr), as[j]? = some a → ∃ key k x, kvs[j]? = some (k, x) ∧ (PySem.strKind prog w).is k key = true ∧ h'.get? a = some { cls := .type "tuple", data := .seq #[key, x] }) →
        Repk prog w X h' kds kvs → Reps prog w X h' (pairsOf kds) (as.map Value.ref) := by
      intro as
      induction as with
      | nil =>
        intro kvs kds hl _ _ r
        cases kvs with
        | nil => cases r; exact .nil
        | cons _ _ => simp at hl
      | cons a as ih =>
        intro kvs kds hl hc hp r
        cases kvs with
        | nil => simp at hl
        | cons p kvs =>
          cases r with
          | @cons kk d v kds _ rd rr =>
            obtain ⟨key, k0, x0, e1, e2, e3⟩ := hp 0 a rfl
            simp at e1
            obtain ⟨rfl, rfl⟩ := e1
            obtain ⟨t, rfl⟩ := Value.isStrOf_shape (v := key) e2
            refine .cons (.tup (vs := [.str kk t, v]) (hc a (by simp)) ⟨_, e3, rfl, _, rfl⟩ (.cons (.str _ _) (.cons rd .nil))) (ih kvs kds (by simpa using hl) (fun x hx => hc x (by simp [hx])) (fun j a' hj => ?_) rr)
            exact hp (j + 1) a' (by simpa using hj)
    exact key as kvs kds hlas hcold hpairs rk'

-- iteration over the items
theorem src_items {A : Around} (hh : A.handled = none) (I a : Addr) (hne : a ≠ I) (kvs : List (Str × Value)) (ep : Nat) (kds : List (Str × D)) :
    Src prog w A I (fun b => b = I ∨ b = a) (fun b => b = I) kds.length (fun i => ((kds[i]?).map fun p => [D.str p.1, p.2]).getD []) true
      (fun X i h => (∃ ok ov, IsItemIter h I a i kvs.length ep ok ov) ∧ h.DictAt (PySem.strKind prog w) a kvs ep ∧ Repk prog w X h kds kvs) where
  mono := fun X X' i h h' ⟨⟨ok, ov, h1⟩, ⟨o2, es, ho2, r2⟩, q⟩ hc hf => ⟨⟨ok, ov, hf _ _ (.inl rfl) h1⟩, ⟨o2, es, hf _ _ (.inr rfl) ho2, r2⟩, q.mono hc⟩
  item := fun X i s tg Q E hw ht hi ⟨⟨ok, ov, h1⟩, h2, h3⟩ hq => by
    obtain ⟨xs, ht⟩ := ht
    obtain ⟨elts, kk, pos, rfl⟩ := ht.isPair
    have hget : ∀ {kds : List (Str × D)} {kvs : List (Str × Value)} {i : Nat}, Repk prog w X s.heap kds kvs → (hi : i < kds.length) → ∃ v, kvs[i]? = some (kds[i].1, v) ∧ Rep prog w X s.heap kds[i].2 v := by
      intro kds kvs i r
      induction kvs generalizing kds i with
      | nil => cases r; intro hi; simp at hi
      | cons p kvs ih =>
        cases r with
        | @cons k' d v kds _ rd rr =>
          intro hi
          cases i with
          | zero => exact ⟨v, rfl, rd⟩
          | succ i => simpa using ih rr (by simpa using hi)
    obtain ⟨v, hv, rv⟩ := hget h3 hi
    refine wpAny_pyNext_items_item (k := kds[i].1) (v := v) h1 h2 hv fun key h' hkey hit hT hz hk => ⟨_, rfl, ?_⟩
    obtain ⟨t, rfl⟩ := Value.isStrOf_shape (v := key) hkey
    refine wpAny_letOwnedTupleGo_items (s := { s with heap := h' }) hit fun h2' he2 hs2 => ?_
    have hTne : s.heap.objs.size ≠ I := (size_ne h1).symm
    have hk2 : ∀ b o, b ≠ I → s.heap.get? b = some o → h2'.get? b = some o := fun b o q1 e => hs2.extBut b o q1 (hk b o q1 e)
    have hc : ∀ b o, ¬ X b → s.heap.get? b = some o → ¬ X b ∧ h2'.get? b = some o := fun b o hb e => ⟨hb, hk2 b o (fun q => hb (q ▸ hw I rfl)) e⟩
    refine hq _ [.str kds[i].1 t, v] h2' s.toks ⟨_, rfl, ⟨_, hs2.extBut _ _ hTne hT, rfl, _, rfl⟩⟩ ?_ ⟨⟨_, _, he2⟩, (let ⟨o, es, ho, r⟩ := h2; ⟨o, es, hk2 _ _ hne ho, r⟩), h3.mono hc⟩ fun b o hb e => hk2 b o hb e
    have : (((kds[i]?).map fun p => [D.str p.1, p.2]).getD []) = [D.str kds[i].1, kds[i].2] := by simp [hi]
    rw [this]; exact .cons (.str _ _) (.cons (rv.mono hc) .nil)
  done := fun X s Q E hw ⟨⟨ok, ov, h1⟩, h2, h3⟩ hq => by
    have hlen : kvs.length = kds.length := by have := congrArg List.length h3.keys; simpa using this
    exact wpAny_pyNext_items_end hh h1 h2 (by simp [hlen]) fun h' hs => hq h' s.toks (onlyE hs rfl)
  sub := fun b hb => .inl hb
  alive := fun X i h ⟨⟨ok, ov, h1⟩, _⟩ b hb => by subst hb; exact ⟨_, h1⟩
  self := fun X i s Q E ⟨⟨ok, ov, h1⟩, _⟩ hq => kcp_self h1 hq
theorem It.items {o : Expr} {apos pos : Pos} {kds : List (Str × D)} {b : Bool} (h : Ev prog w h₀ k sc σ o b (.dic kds))
    (hbase : ∀ env, attributeBase o "items" env (eval o env) = eval o env := by intro _; rfl) (hline : (apos.endLine == pos.line) = true := by decide) :
    It prog w h₀ k sc σ (.Call (.Attribute o "items" apos) [] [] pos) kds.length (fun i => ((kds[i]?).map fun p => [D.str p.1, p.2]).getD []) true b := by
  intro A env X s Q E he hr hs hq
  refine items_view h he hr hs hbase hline fun a s1 k1 r1 => ?_
  obtain ⟨a', kvs, ea, hsy, hd, rk⟩ := r1.one
  cases ea
  generalize hh2 : s1.heap.push { cls := .type "dict_items", data := .fields #[.ref a] } = h2
  have e2 : Ext s1.heap h2 := fun _ _ e => by rw [← hh2]; exact Heap.get?_push_of_some _ e
  have hz2 : h2.objs.size = s1.heap.objs.size + 1 := by rw [← hh2]; exact Heap.size_push ..
  have hV : h2.get? s1.heap.objs.size = some { cls := .type "dict_items", data := .fields #[.ref a] } := by rw [← hh2]; exact Heap.get?_push_size _ rfl
  obtain ⟨ep, hd1⟩ := hd.dictAt
  have hal : a < s1.heap.objs.size := by obtain ⟨o, _, ho, _⟩ := hd1; exact Heap.lt_size ho
  refine wpAny_pyIter_items (s := { s1 with heap := h2 }) (kvs := kvs) (ep := ep) ⟨_, hV, rfl, rfl⟩ (hd1.keep e2) ?_
  generalize hh3 : h2.push { cls := .type "dict_itemiterator", data := .fields #[.none, .bool false, .ref a, .int 0 0, .int kvs.length 0, .int ep 0, .none, .none] } = h3
  have e3 : Ext h2 h3 := fun _ _ e => by rw [← hh3]; exact Heap.get?_push_of_some _ e
  have hI : h3.get? h2.objs.size = some { cls := .type "dict_itemiterator", data := .fields #[.none, .bool false, .ref a, .int 0 0, .int kvs.length 0, .int ep 0, .none, .none] } := by rw [← hh3]; exact Heap.get?_push_size _ rfl
  have x' := e2.trans e3
  refine hq _ _ _ _ _ (k1.trans ⟨h3, s1.toks, rfl, x'⟩) (src_items hr.handled h2.objs.size a (by rw [hz2]; exact Nat.ne_of_lt (Nat.lt_succ_of_lt hal)) kvs ep kds) ⟨⟨_, _, hI⟩, hd1.keep x', ?_⟩ ?_ ?_ ?_
  · exact rk.mono fun b o hb e => ⟨fun q => q.elim hb fun q => by rw [q, hz2] at e; exact absurd (Heap.lt_size e) (Nat.not_lt.mpr (Nat.le_succ _)), x' _ _ e⟩
  · rintro b rfl; exact ⟨none_new k1 (by rw [hz2]; exact Nat.le_succ _), _, hI⟩
  · rintro b (rfl | rfl)
    · exact ⟨_, hI⟩
    · obtain ⟨o, _, ho, _⟩ := hd1; exact ⟨o, x' _ _ ho⟩
  · intro hb c hc
    subst hb
    rcases hc with rfl | rfl
    · exact .inl rfl
    · cases r1 with | dic hx _ _ => exact .inr hx
end
end Mine

-- part A17
namespace Mine
section
variable {prog : Program} {w : World} {h₀ : Heap} {k : Nat} {sc : Scope} {σ : Ctx0} {Y : Addr → Prop} {Rl : Shared → Prop} {env : Env} {X : Addr → Prop} {s : Shared} {A : Around} {E : Value → Shared → Prop} {mg mb : Str → Option Value}

/-- y = [.. for ..]: the comprehension's value goes straight into the name -/
theorem st_comp {y : Str} {py pos spos : Pos} {elt tg iter : Expr} {ifs : List Expr} {scope : Scope} {pr cl : Bool} {xs : List Str} {n : Nat} {dat : Nat → List D} {p : Nat → Bool} {f : Nat → D} {rest : List Stmt} {Q : Flow → Shared → Prop}
    (he : env.scope = sc) (hr : Room A k) (i : Inv prog w h₀ Y Rl env X σ s)
    (hit : It prog w h₀ k sc σ iter n dat pr cl) (ht : Tgt tg pr xs) (hok : CompOk sc scope) (hx : ∀ x ∈ xs, scope.names.lookup x = some .local ∨ scope.names.lookup x = some .cell)
    (hlen : ∀ i, i < n → (dat i).length = xs.length)
    (htest : ∀ i, i < n → Tst prog w h₀ k (relab scope sc) (extC xs (dat i) (seen scope σ)) ifs (p i))
    (helt : ∀ i, i < n → p i = true → Ev prog w h₀ k (relab scope sc) (extC xs (dat i) (seen scope σ)) elt true (f i))
    (hn : n ≤ 2 ^ 20) (hk : sc.names.lookup y = some .local)
    (hsw : ∀ env : Env, env.scope = sc → swapsWith (.ListComp elt [⟨tg, iter, ifs, 0⟩] scope pos) (some (.Name y py)) spos.line env = pure true)
    (next : ∀ s', Inv prog w h₀ Y Rl env X ((y, true, .lst (picks n p f)) :: σ) s' → wpAny (model prog w) A (execs rest env) Q E s')
    (hs : ∀ env x, foldedSetIterable iter env x = pure x := by intro _ _; rfl) :
    wpAny (model prog w) A (execs (.Assign [.Name y py] (.ListComp elt [⟨tg, iter, ifs, 0⟩] scope pos) spos :: rest) env) Q E s := by
  refine wpAny_execs_cons ?_
  rw [exec_Assign_Name_used _ _ _ _ (hsw env he)]
  refine wpAny_bind (wpAny_standAt (wpAny_bind ?_))
  show wpAny _ A (do let _ ← comprehension (.ListComp elt [⟨tg, iter, ifs, 0⟩] scope pos) scope env _ (newList []) false (eval iter env) (some (assign (.Name y py) env))) _ _ s
  obtain ⟨m, hf⟩ := i.fm
  have f₀ := hf.1
  refine wpAny_bind (wpAny_mono (wpAny_comprehension_free (use := some (assign (.Name y py) env)) (Q := fun _ s' => wpAny (model prog w) A (execs rest env) Q E s') rfl (hs env) (comp_frame he hok f₀).1 hok.kind (fun x hx hl => by obtain ⟨y, q⟩ := x; subst hl; exact look_of_mem hok.once hx)
    (comp_core (RR := fun acc C => compPost (model prog w) A E (some (assign (.Name y py) env)) (fun _ s' => wpAny (model prog w) A (execs rest env) Q E s') acc C) hit ht hok hx hlen htest helt hn he hr i.see fun D' C h1 t1 ml hml x1 hD hC hDC hrep => ?_))
    (fun _ s' hq => wpAny_pure (wpAny_pure hq)) fun _ _ e => e)
  show wpAny _ A (assign (.Name y py) env (.ref D')) _ _ _
  have hkl : env.kindOf y = some .local := by unfold Env.kindOf; rw [he]; exact hk
  refine wpAny_assign_Name (Fm.store (s := { s with heap := h1, toks := t1 }) (f₀.ext x1) (.inl hkl) fun h2 t2 f2 k2 => ?_)
  dsimp only at k2
  have notC : ∀ b o, s.heap.get? b = some o → b ≠ C := fun b o e q => by rw [q, hC] at e; cases e
  have slotOld : ∀ b, Slot env y b → ∃ o, s.heap.get? b = some o := fun b q => i.live b (i.slots y b q).1
  have hCs : ¬ Slot env y C := fun q => by obtain ⟨o, ho⟩ := slotOld C q; rw [hC] at ho; cases ho
  have hDs : ¬ Slot env y D' := fun q => by obtain ⟨o, ho⟩ := slotOld D' q; rw [hD] at ho; cases ho
  refine ⟨ml, (let ⟨o, es, ep, ho, r⟩ := hml; ⟨o, es, ep, k2 _ _ hCs ho, r⟩), fun h3 hs3 => next _ ?_⟩
  have x3 : ∀ b o, b ≠ C → h2.get? b = some o → h3.get? b = some o := fun b o hb e => hs3.extBut b o hb e
  have fmC : ∀ b, FmAddr env b → b ≠ C := fun b hb => by obtain ⟨o, ho⟩ := i.live b (i.fa b hb).1; exact notC b o ho
  refine i.stores (xs := [y]) (ds := [.lst (picks n p f)]) (cs := [.ref D']) hf (f2.mono fun b o hb e => x3 b o (fmC b hb) e) (fun b o hb e => x3 b o (notC b o e) (k2 b o (hb y (by simp)) (x1 _ _ e))) (.cons (hrep.mono fun b o hb e => ⟨fun q => hb (.inl q), x3 b o (fun q => hb (.inr q)) (k2 b o (fun q => hb (.inl (i.slots y b q).1)) e)⟩) .nil) rfl
end
end Mine

-- part A18
namespace Mine
section
variable {prog : Program} {w : World} {h₀ : Heap} {k : Nat} {sc : Scope} {σ : Ctx0} {Y : Addr → Prop} {Rl : Shared → Prop} {env : Env} {X : Addr → Prop} {s : Shared} {A : Around} {E : Value → Shared → Prop} {mg mb : Str → Option Value} {α : Type}

/-- iteration over a list -/
abbrev ItL (prog : Program) (w : World) (h₀ : Heap) (k : Nat) (sc : Scope) (σ : Ctx0) (e : Expr) (ls : List α) (dat : α → List D) (pr cl : Bool) : Prop :=
  It prog w h₀ k sc σ e ls.length (fun i => (ls[i]?).elim [] dat) pr cl
theorem Src.congr {A : Around} {I fp wr n dat dat' pr St} (W : Src prog w A I fp wr n dat pr St) (h : ∀ i, i < n → dat i = dat' i) : Src prog w A I fp wr n dat' pr St where
  mono := W.mono
  item := fun X i s tg Q E hw ht hi st hq => W.item X i s tg Q E hw ht hi st fun v cs h' tk g r => hq v cs h' tk g (h i hi ▸ r)
  done := W.done
  sub := W.sub
  alive := W.alive
  self := W.self
theorem It.congr {e n dat dat' pr cl} (h : It prog w h₀ k sc σ e n dat pr cl) (hd : ∀ i, i < n → dat i = dat' i) : It prog w h₀ k sc σ e n dat' pr cl :=
  fun A env X s Q E he hr hs hq => h A env X s Q E he hr hs fun I s' fp wr St kp W => hq I s' fp wr St kp (W.congr hd)
theorem It.of {e n n' dat dat' pr cl} (h : It prog w h₀ k sc σ e n dat pr cl) (hn : n = n') (hd : dat = dat') : It prog w h₀ k sc σ e n' dat' pr cl := by subst hn hd; exact h
theorem ItL.lst {e : Expr} {b : Bool} {ds : List D} (h : Ev prog w h₀ k sc σ e b (.lst ds)) : ItL prog w h₀ k sc σ e ds (fun d => [d]) false b :=
  It.of (It.lst h) rfl (by funext i; cases ds[i]? <;> rfl)
theorem ItL.lstMap {e : Expr} {b : Bool} {ls : List α} {g : α → D} (h : Ev prog w h₀ k sc σ e b (.lst (ls.map g))) : ItL prog w h₀ k sc σ e ls (fun a => [g a]) false b :=
  It.of (It.lst h) (by simp) (by funext i; rw [List.getElem?_map]; cases ls[i]? <;> rfl)
theorem ItL.tup {e : Expr} {b : Bool} {ds : List D} (h : Ev prog w h₀ k sc σ e b (.tup ds)) : ItL prog w h₀ k sc σ e ds (fun d => [d]) false b :=
  It.of (It.tup h) rfl (by funext i; cases ds[i]? <;> rfl)
theorem ItL.keys {e : Expr} {b : Bool} {kds : List (Str × D)} (h : Ev prog w h₀ k sc σ e b (.dic kds)) : ItL prog w h₀ k sc σ e kds (fun p => [.str p.1]) false b :=
  It.of (It.keys h) (by simp) (by funext i; rw [List.getElem?_map]; cases kds[i]? <;> rfl)
theorem ItL.str {e : Expr} {b : Bool} {x : Str} (h : Ev prog w h₀ k sc σ e b (.str x)) (hx : (x.cps.all fun c => decide (c < 128)) = true) : ItL prog w h₀ k sc σ e x.cps.toList (fun c => [.str ⟨#[c]⟩]) false true :=
  It.of (It.str h hx) (by simp) (by funext i; rw [Array.getElem?_toList]; cases x.cps[i]? <;> rfl)
theorem ItL.range {e : Expr} {b : Bool} {n : Nat} {np pos : Pos} (hg : Gv prog w h₀ sc (.Name "range" np) (.type "range")) (h : Ev prog w h₀ k sc σ e b (.int n)) (hn : n < 2 ^ 20)
    (hst : ∀ env, starEach [e] env = [(false, eval e env)] := by intro _; rfl) : It prog w h₀ k sc σ (.Call (.Name "range" np) [e] [] pos) n (fun i => [.int i]) false true := It.range hg h hn hst
theorem ItL.enum {e : Expr} {b : Bool} {ds : List D} {np pos : Pos} (hg : Gv prog w h₀ sc (.Name "enumerate" np) (.type "enumerate")) (h : Ev prog w h₀ k sc σ e b (.lst ds))
    (hst : ∀ env, starEach [e] env = [(false, eval e env)] := by intro _; rfl) : ItL prog w h₀ k sc σ (.Call (.Name "enumerate" np) [e] [] pos) ds.zipIdx (fun p => [.int p.2, p.1]) true b := by
  have h1 := It.congr (dat' := fun i => (ds.zipIdx[i]?).elim [] fun p => [.int p.2, p.1]) (It.enum (pos := pos) hg h hst) fun i hi => by simp [hi]
  exact It.of h1 (by simp) rfl
theorem ItL.items {o : Expr} {apos pos : Pos} {kds : List (Str × D)} {b : Bool} (h : Ev prog w h₀ k sc σ o b (.dic kds))
    (hbase : ∀ env, attributeBase o "items" env (eval o env) = eval o env := by intro _; rfl) (hline : (apos.endLine == pos.line) = true := by decide) :
    ItL prog w h₀ k sc σ (.Call (.Attribute o "items" apos) [] [] pos) kds (fun p => [D.str p.1, p.2]) true b :=
  It.of (It.items h hbase hline) rfl (by funext i; cases kds[i]? <;> rfl)

theorem picks_upto (ls : List α) (p : α → Bool) (f : α → D) : ∀ n, n ≤ ls.length → picks n (fun i => (ls[i]?).elim false p) (fun i => (ls[i]?).elim (.int 0) f) = ((ls.take n).filter p).map f
  | 0, _ => rfl
  | n + 1, h => by
    rw [picks_succ, picks_upto ls p f n (Nat.le_of_succ_le h)]
    have hn : n < ls.length := h
    have e : ls[n]? = some ls[n] := by simp [hn]
    rw [List.take_add_one, e]
    simp only [Option.elim_some, Option.toList_some, List.filter_append, List.map_append]
    generalize ls[n] = a
    by_cases hp : p a = true <;> simp [hp]
theorem picks_list (ls : List α) (p : α → Bool) (f : α → D) : picks ls.length (fun i => (ls[i]?).elim false p) (fun i => (ls[i]?).elim (.int 0) f) = (ls.filter p).map f := by
  rw [picks_upto ls p f _ (Nat.le_refl _), List.take_length]

/-- a comprehension over a list -/
theorem Ev.compL {elt tg iter : Expr} {ifs : List Expr} {scope : Scope} {pos : Pos} {pr cl : Bool} {xs : List Str} {ls : List α} {dat : α → List D} {p : α → Bool} {f : α → D}
    (hit : ItL prog w h₀ k sc σ iter ls dat pr cl) (ht : Tgt tg pr xs) (hok : CompOk sc scope) (hx : ∀ x ∈ xs, scope.names.lookup x = some .local ∨ scope.names.lookup x = some .cell)
    (hlen : ∀ a ∈ ls, (dat a).length = xs.length)
    (htest : ∀ a ∈ ls, Tst prog w h₀ k (relab scope sc) (extC xs (dat a) (seen scope σ)) ifs (p a))
    (helt : ∀ a ∈ ls, p a = true → Ev prog w h₀ k (relab scope sc) (extC xs (dat a) (seen scope σ)) elt true (f a))
    (hn : ls.length ≤ 2 ^ 20) (hs : ∀ env x, foldedSetIterable iter env x = pure x := by intro _ _; rfl) :
    Ev prog w h₀ k sc σ (.ListComp elt [⟨tg, iter, ifs, 0⟩] scope pos) true (.lst ((ls.filter p).map f)) := by
  rw [← picks_list]
  have e : ∀ i (hi : i < ls.length), ls[i]? = some ls[i] := fun i hi => by simp [hi]
  refine Ev.comp hit ht hok hx (fun i hi => ?_) (fun i hi => ?_) (fun i hi hp => ?_) hn hs
  · rw [e i hi]; exact hlen _ (List.getElem_mem hi)
  · rw [e i hi]; exact htest _ (List.getElem_mem hi)
  · rw [e i hi] at hp ⊢; exact helt _ (List.getElem_mem hi) hp
theorem st_compL {y : Str} {py pos spos : Pos} {elt tg iter : Expr} {ifs : List Expr} {scope : Scope} {pr cl : Bool} {xs : List Str} {ls : List α} {dat : α → List D} {p : α → Bool} {f : α → D} {rest : List Stmt} {Q : Flow → Shared → Prop}
    (he : env.scope = sc) (hr : Room A k) (i : Inv prog w h₀ Y Rl env X σ s)
    (hit : ItL prog w h₀ k sc σ iter ls dat pr cl) (ht : Tgt tg pr xs) (hok : CompOk sc scope) (hx : ∀ x ∈ xs, scope.names.lookup x = some .local ∨ scope.names.lookup x = some .cell)
    (hlen : ∀ a ∈ ls, (dat a).length = xs.length)
    (htest : ∀ a ∈ ls, Tst prog w h₀ k (relab scope sc) (extC xs (dat a) (seen scope σ)) ifs (p a))
    (helt : ∀ a ∈ ls, p a = true → Ev prog w h₀ k (relab scope sc) (extC xs (dat a) (seen scope σ)) elt true (f a))
    (hn : ls.length ≤ 2 ^ 20) (hk : sc.names.lookup y = some .local)
    (hsw : ∀ env : Env, env.scope = sc → swapsWith (.ListComp elt [⟨tg, iter, ifs, 0⟩] scope pos) (some (.Name y py)) spos.line env = pure true)
    (next : ∀ s', Inv prog w h₀ Y Rl env X ((y, true, .lst ((ls.filter p).map f)) :: σ) s' → wpAny (model prog w) A (execs rest env) Q E s')
    (hs : ∀ env x, foldedSetIterable iter env x = pure x := by intro _ _; rfl) :
    wpAny (model prog w) A (execs (.Assign [.Name y py] (.ListComp elt [⟨tg, iter, ifs, 0⟩] scope pos) spos :: rest) env) Q E s := by
  rw [← picks_list] at next
  have e : ∀ i (hi : i < ls.length), ls[i]? = some ls[i] := fun i hi => by simp [hi]
  refine st_comp he hr i hit ht hok hx (fun i hi => ?_) (fun i hi => ?_) (fun i hi hp => ?_) hn hk hsw next hs
  · rw [e i hi]; exact hlen _ (List.getElem_mem hi)
  · rw [e i hi]; exact htest _ (List.getElem_mem hi)
  · rw [e i hi] at hp ⊢; exact helt _ (List.getElem_mem hi) hp

/-- a for over a list: the context by what is taken so far -/
theorem st_forL {tg iter : Expr} {body rest : List Stmt} {pos : Pos} {pr : Bool} {xs : List Str} {ls : List α} {dat : α → List D} {Q : Flow → Shared → Prop} (τ : List α → Ctx0)
    (he : env.scope = sc) (hr : Room A k) (i : Inv prog w h₀ Y Rl env X σ s) (hit : ItL prog w h₀ k sc σ iter ls dat pr true) (ht : Tgt tg pr xs)
    (hx : ∀ x ∈ xs, sc.names.lookup x = some .local ∨ sc.names.lookup x = some .cell) (hlen : ∀ a ∈ ls, (dat a).length = xs.length)
    (h0 : ∀ x y, (τ []).lookup x = some y → σ.lookup x = some y)
    (hbody : ∀ (pre : List α) (a : α) (post : List α) (Y' : Addr → Prop) (Rl' : Shared → Prop) (X' : Addr → Prop) (s' : Shared), ls = pre ++ a :: post → Inv prog w h₀ Y' Rl' env X' (extC xs (dat a) (τ pre)) s' →
      wpAny (model prog w) A (execs body env) (fun f s'' => (f = .next ∨ f = .cont) ∧ ∃ σ'', Inv prog w h₀ Y' Rl' env X' σ'' s'' ∧ ∀ x y, (τ (pre ++ [a])).lookup x = some y → σ''.lookup x = some y)
        (notedBy (model prog w) A env fun e s' => cameBackBy (model prog w) A env E e s') s')
    (next : ∀ s', Inv prog w h₀ Y Rl env X (τ ls) s' → wpAny (model prog w) A (execs rest env) Q E s')
    (hs : ∀ env x, foldedSetIterable iter env x = pure x := by intro _ _; rfl) :
    wpAny (model prog w) A (execs (.For tg iter body [] pos :: rest) env) Q E s := by
  have e : ∀ i (hi : i < ls.length), ls[i]? = some ls[i] := fun i hi => by simp [hi]
  refine st_for (fun j => τ (ls.take j)) he hr i hit ht hx (fun j hj => ?_) h0 (fun j Y' Rl' X' s' hj ij => ?_) ?_ hs
  · rw [e j hj]; exact hlen _ (List.getElem_mem hj)
  · rw [e j hj] at ij
    have := hbody (ls.take j) ls[j] (ls.drop (j + 1)) Y' Rl' X' s' (by simp) ij
    rw [show ls.take j ++ [ls[j]] = ls.take (j + 1) by rw [List.take_add_one, e j hj]; rfl] at this
    exact this
  · rw [List.take_length]; exact next

/-- a for over a list: the context by what is taken so far -/
theorem st_forLG {tg iter : Expr} {body rest : List Stmt} {pos : Pos} {pr : Bool} {xs : List Str} {ls : List α} {dat : α → List D} {Q : Flow → Shared → Prop} (τ : List α → Ctx0)
    (he : env.scope = sc) (hr : Room A k) (i : Inv prog w h₀ Y Rl env X σ s) (hit : ItL prog w h₀ k sc σ iter ls dat pr true) (ht : Tgt tg pr xs)
    (hx : ∀ x ∈ xs, sc.names.lookup x = some .local ∨ sc.names.lookup x = some .cell) (hlen : ∀ a ∈ ls, (dat a).length = xs.length)
    (h0 : ∀ x y, (τ []).lookup x = some y → σ.lookup x = some y)
    (hbody : ∀ (pre : List α) (a : α) (post : List α) (Y' : Addr → Prop) (Rl' : Shared → Prop) (X' : Addr → Prop) (s' : Shared), ls = pre ++ a :: post → Within Y Rl X Y' Rl' X' → Inv prog w h₀ Y' Rl' env X' (extC xs (dat a) (τ pre)) s' →
      wpAny (model prog w) A (execs body env) (fun f s'' => (f = .next ∨ f = .cont) ∧ ∃ σ'', Inv prog w h₀ Y' Rl' env X' σ'' s'' ∧ ∀ x y, (τ (pre ++ [a])).lookup x = some y → σ''.lookup x = some y)
        (notedBy (model prog w) A env fun e s' => cameBackBy (model prog w) A env E e s') s')
    (next : ∀ s', Inv prog w h₀ Y Rl env X (τ ls) s' → wpAny (model prog w) A (execs rest env) Q E s')
    (hs : ∀ env x, foldedSetIterable iter env x = pure x := by intro _ _; rfl) :
    wpAny (model prog w) A (execs (.For tg iter body [] pos :: rest) env) Q E s := by
  have e : ∀ i (hi : i < ls.length), ls[i]? = some ls[i] := fun i hi => by simp [hi]
  refine st_forG (fun j => τ (ls.take j)) he hr i hit ht hx (fun j hj => ?_) h0 (fun j Y' Rl' X' s' hj hwi ij => ?_) ?_ hs
  · rw [e j hj]; exact hlen _ (List.getElem_mem hj)
  · rw [e j hj] at ij
    have := hbody (ls.take j) ls[j] (ls.drop (j + 1)) Y' Rl' X' s' (by simp) hwi ij
    rw [show ls.take j ++ [ls[j]] = ls.take (j + 1) by rw [List.take_add_one, e j hj]; rfl] at this
    exact this
  · rw [List.take_length]; exact next
end
end Mine

-- part F0
namespace Mine

def fdef (i : Nat) : Stmt := (PySem.Challenge.pw_mg0083_01.main.body[i]?).getD (.Pass ⟨0, 0, 0, 0⟩)
def bodyOf : Stmt → List Stmt
  | .FunctionDef _ _ b _ _ _ _ _ _ _ => b
  | _ => []
def scopeOf : Stmt → Scope
  | .FunctionDef _ _ _ _ _ _ sc _ _ _ => sc
  | _ => { kind := .module, names := [], isGenerator := false, isCoroutine := false, more := [] }

/-- the names that the defs ask for -/
structure Names (mg mb : Str → Option Value) : Prop where
  add_callers : mg "add_callers" = some (.ref 28)
  add_func_stats : mg "add_func_stats" = some (.ref 21)
  entry : mg "_law_entry" = some (.ref 33)
  entries : mg "_law_entries" = some (.ref 38)
  clash : mg "_law_clash" = some (.ref 43)
  parted : mg "_law_parted" = some (.ref 48)
  together : mg "_law_together" = some (.ref 53)
  callers : mg "_law_callers" = some (.ref 58)
  isinstance : mg "isinstance" = none ∧ mb "isinstance" = some (.builtin "isinstance")
  tuple : mg "tuple" = none ∧ mb "tuple" = some (.type "tuple")
  zip : mg "zip" = none ∧ mb "zip" = some (.type "zip")
  range : mg "range" = none ∧ mb "range" = some (.type "range")
  enumerate : mg "enumerate" = none ∧ mb "enumerate" = some (.type "enumerate")
  sum : mg "sum" = none ∧ mb "sum" = some (.builtin "sum")
  min : mg "min" = none ∧ mb "min" = some (.builtin "min")
  len : mg "len" = none ∧ mb "len" = some (.builtin "len")
  list : mg "list" = none ∧ mb "list" = some (.type "list")
  typeError : mg "TypeError" = none ∧ mb "TypeError" = some (.type "TypeError")

/-- a caller's value -/
def D.plain : D → Prop
  | .int _ => True
  | .tup _ => True
  | _ => False
theorem D.plain.or {d : D} (h : d.plain) : (∃ i, d = .int i) ∨ ∃ l, d = .tup l := by
  cases d with
  | int i => exact .inl ⟨i, rfl⟩
  | tup l => exact .inr ⟨l, rfl⟩
  | _ => exact h.elim

def clashing (t o : List (Str × D)) : List (Str × D) := (t.filter fun p => (look o p.1).isSome).filter fun p => ((look t p.1).elim false D.isTup) != ((look o p.1).elim false D.isTup)

def okNames (sc : Scope) (xs : List Str) : Bool := xs.all fun x => sc.names.lookup x == some .local || sc.names.lookup x == some .cell
theorem names_ok {sc : Scope} {xs : List Str} (h : okNames sc xs = true) : ∀ x ∈ xs, sc.names.lookup x = some .local ∨ sc.names.lookup x = some .cell := fun x hx => by
  have := List.all_eq_true.mp h x hx
  simpa using this
def okComp (sc scope : Scope) : Bool := scope.kind == .function && (scope.names.all fun p => p.2 != .free || (sc.names.lookup p.1 == some .cell || sc.names.lookup p.1 == some .free)) && decide (scope.names.map (·.1)).Nodup
theorem comp_ok {sc scope : Scope} (h : okComp sc scope = true) : CompOk sc scope := by
  simp only [okComp, Bool.and_eq_true, beq_iff_eq, decide_eq_true_eq] at h
  obtain ⟨⟨h1, h2⟩, h3⟩ := h
  refine ⟨h1, fun n hn => ?_, h3⟩
  have := List.all_eq_true.mp h2 _ hn
  simpa using this

section
variable {prog : Program} {w : World} {h₀ : Heap} {k : Nat} {mg mb : Str → Option Value} {sc : Scope} {σ : Ctx0}
theorem gn (B : Bs h₀ mg mb) {x : Str} {v : Value} {pos : Pos} (hv : mg x = none ∧ mb x = some v) (hk : sc.names.lookup x = some .globalImplicit) (hd : (x == ("__debug__" : Str)) = false := by decide +kernel) : Gv prog w h₀ sc (.Name x pos) v := bname B hk hv.1 hv.2 hd
theorem nm {x : Str} {pos b d} (hl : σ.lookup x = some (b, d)) (hk : (sc.names.lookup x == some .local || sc.names.lookup x == some .cell || sc.names.lookup x == some .free) = true) (hd : (x == ("__debug__" : Str)) = false := by decide +kernel) (hn : (x == ("__classdict__" : Str)) = false := by decide +kernel) : Ev prog w h₀ k sc σ (.Name x pos) b d :=
  Ev.name hl (by simp only [Bool.or_eq_true, beq_iff_eq] at hk; rcases hk with (h | h) | h; exact .inl h; exact .inr (.inl h); exact .inr (.inr h)) hd hn
end

theorem look_plain {l : List (Str × D)} (h : ∀ p ∈ l, p.2.plain) {x : Str} {d : D} (e : look l x = some d) : d.plain := by
  unfold look at e
  rw [Option.map_eq_some_iff] at e
  obtain ⟨p, hp, rfl⟩ := e
  exact h p (List.mem_of_find?_eq_some hp)
theorem look_mem {l : List (Str × D)} {p : Str × D} (h : p ∈ l) : ∃ d, look l p.1 = some d := by
  unfold look
  cases q : l.find? (fun r => r.1 = p.1) with
  | some r => exact ⟨_, rfl⟩
  | none => have := List.find?_eq_none.mp q p h; simp at this

section
variable {prog : Program} {w : World} {h₀ : Heap} {k : Nat} {mg mb : Str → Option Value}
set_option maxRecDepth 10000

theorem toPs_strs (l : List Str) : toPs (l.map .str) = l.map .str := by rw [toPs_map, List.map_map]; rfl
theorem lay_strs {l : List Str} (h : ∀ x ∈ l, PyData.canLay0 (.str x) = true) : PyData.canLayAll0 (toPs (l.map .str)) = true := by
  rw [toPs_strs]
  induction l with
  | nil => rfl
  | cons x r ih =>
    rw [List.map_cons, PyData.canLayAll0, h x (by simp), ih fun y hy => h y (by simp [hy])]; rfl
/-- a list of texts against the empty list -/
theorem op_ne_nil {b1 b2 : Bool} {l : List Str} (h : ∀ x ∈ l, PyData.canLay0 (.str x) = true) : Op2 prog w h₀ k (compareOp .NotEq) b1 (.lst (l.map .str)) b2 (.lst []) true (.bool (!l.isEmpty)) := by
  have hd : (toP (.lst (l.map .str))).canLay0 = true := by rw [toP]; simpa only [PyData.canLay0] using lay_strs h
  have hdep : (toP (.lst (l.map .str))).depth ≤ 60 := by
    rw [toP, PyData.depth, toPs_strs]
    have : PyData.depthAll (l.map PyData.str) = 0 := by
      clear h hd
      induction l with
      | nil => rfl
      | cons x r ih => rw [List.map_cons, PyData.depthAll, ih]; rfl
    omega
  have := op_ne_data (prog := prog) (w := w) (h₀ := h₀) (k := k) (b1 := b1) (b2 := b2) (d := .lst (l.map .str)) (e := .lst []) hd rfl hdep
  have e : PyData.eqv (toP (.lst (l.map .str))) (toP (.lst [])) = l.isEmpty := by
    rw [toP, toP, toPs_strs]
    cases l <;> rfl
  rw [e] at this; exact this

theorem clash_fn (B : Bs h₀ mg mb) (N : Names mg mb) (F : IsFn h₀ 43 "_law_clash" ["table", "other"] (bodyOf (fdef 6)) (scopeOf (fdef 6)) (.ref 42)) {t o : List (Str × D)} (ht : ∀ p ∈ t, p.2.plain) (ho : ∀ p ∈ o, p.2.plain) (hn : t.length ≤ 1000) (hok : ∀ p ∈ t, PyData.canLay0 (.str p.1) = true) :
    Fn prog w h₀ (k + 1) 43 [.dic t, .dic o] (.bool (!(clashing t o).isEmpty)) := by
  refine fn_of F B.lim rfl fun A env Y Rl X s E he hin hr i => ?_
  refine st_compL (sc := scopeOf (fdef 6)) (p := fun p : Str × D => (look o p.1).isSome) (f := fun p => .str p.1) he hr i (ItL.keys (nm (b := true) (d := .dic t) rfl (by decide +kernel))) (.name _ _) (comp_ok (by decide +kernel)) (names_ok (by decide +kernel)) (fun _ _ => rfl) (fun p hp => ?_) (fun p hp _ => ?_) (by omega) (by decide +kernel) (fun env he => ?_) fun s' i' => ?_
  · exact Tst.one (Tr.cmp (nm (b := true) (d := .str p.1) rfl (by decide +kernel)) (nm (b := true) (d := .dic o) rfl (by decide +kernel)) op_in_dic)
  · exact nm rfl (by decide +kernel)
  · unfold swapsWith
    simp only [Env.blockKind, Env.kindOf, he]
    rfl
  · refine st_return he hr i' (b := true) (d := .bool (!(clashing t o).isEmpty)) ?_ fun v s'' i'' r => ⟨v, X, rfl, fun _ q _ => q, i''.rel, r⟩
    refine Ev.cmp (b1 := true) (b2 := true) (d1 := .lst ((clashing t o).map fun p => .str p.1)) (d2 := .lst []) (Ev.compL (p := fun p : Str × D => ((look t p.1).elim false D.isTup) != ((look o p.1).elim false D.isTup)) (f := fun p => .str p.1) (ItL.lstMap (g := fun p : Str × D => .str p.1) (nm (b := true) rfl (by decide +kernel))) (.name _ _) (comp_ok (by decide +kernel)) (names_ok (by decide +kernel)) (fun _ _ => rfl) (fun p hp => ?_) (fun p hp _ => ?_) ?_) (Ev.list .nil (by decide)) ?_
    · have hp' := List.mem_filter.mp hp
      obtain ⟨d1, e1⟩ := look_mem hp'.1
      obtain ⟨d2, e2⟩ := Option.isSome_iff_exists.mp hp'.2
      rw [e1, e2]
      refine Tst.one (Tr.cmp (b1 := true) (b2 := true) (d1 := .bool d1.isTup) (d2 := .bool d2.isTup) ?_ ?_ op_ne_bool)
      · exact Ev.isTuple (gn B N.isinstance (by decide +kernel)) (gn B N.tuple (by decide +kernel)) (Ev.sub (nm (b := true) (d := .dic t) rfl (by decide +kernel)) (nm (b := true) (d := .str p.1) rfl (by decide +kernel)) (op_item_dic e1)) (look_plain ht e1).or
      · exact Ev.isTuple (gn B N.isinstance (by decide +kernel)) (gn B N.tuple (by decide +kernel)) (Ev.sub (nm (b := true) (d := .dic o) rfl (by decide +kernel)) (nm (b := true) (d := .str p.1) rfl (by decide +kernel)) (op_item_dic e2)) (look_plain ho e2).or
    · exact nm rfl (by decide +kernel)
    · exact Nat.le_trans (List.length_filter_le _ _) (by omega)
    · have e : ((clashing t o).map fun p => D.str p.1) = ((clashing t o).map (·.1)).map .str := by rw [List.map_map]; rfl
      have e2 : (clashing t o).isEmpty = ((clashing t o).map (·.1)).isEmpty := by cases clashing t o <;> rfl
      rw [e, e2]
      refine op_ne_nil fun x hx => ?_
      obtain ⟨p, hp, rfl⟩ := List.mem_map.mp hx
      exact hok p (List.mem_filter.mp (List.mem_filter.mp hp).1).1
end
end Mine

-- part F1
namespace Mine

def codeAt (x t : Nat) : Nat := x / (4 * 40 ^ t) % 40
def keyAt (c : Nat) : Str := ⟨#[102 + c % 4]⟩
def valAt (m : Str) (x c : Nat) : D :=
  if (decide (c % 4 < 2)) != (c / 4 == 9) then .int ((x / 1000 : Nat) - (c / 4 : Nat)) else .tup (((abc (c / 4 % 6)).cps.toList).map fun l => .str (m ++ ⟨#[l]⟩))
def callersOf (m : Str) (x : Nat) : Nat → List (Str × D)
  | 0 => []
  | n + 1 => put (callersOf m x n) (keyAt (codeAt x n)) (valAt m x (codeAt x n))
def entryOf (m : Str) (x : Nat) : D :=
  .tup [.int ((x : Int) - 500000), .str m, .tup [.str m, .int x], .str (Txt.mul m ((x % 3 : Nat) : Int)), .dic (callersOf m x (x % 4))]

theorem put_length (l : List (Str × D)) (x : Str) (d : D) : (put l x d).length ≤ l.length + 1 := by
  unfold put
  split <;> simp
theorem callersOf_length (m : Str) (x : Nat) : ∀ n, (callersOf m x n).length ≤ n
  | 0 => Nat.le_refl _
  | n + 1 => Nat.le_trans (put_length _ _ _) (Nat.succ_le_succ (callersOf_length m x n))
theorem fghi_at : ∀ c : Nat, c < 4 → (Txt.charAt (Str.ofString "fghi") (c : Int)).isSome = true ∧ Txt.item (Str.ofString "fghi") (c : Int) = ⟨#[102 + c]⟩ := by
  intro c hc
  have : c = 0 ∨ c = 1 ∨ c = 2 ∨ c = 3 := by omega
  rcases this with rfl | rfl | rfl | rfl <;> exact ⟨by decide +kernel, by decide +kernel⟩

theorem sub_nil {σ : Ctx0} : ∀ x y, List.lookup x ([] : Ctx0) = some y → σ.lookup x = some y := fun _ _ e => by cases e
theorem sub_cons {σ τ : Ctx0} {z : Str} {q : Bool × D} (h : σ.lookup z = some q) (hr : ∀ x y, τ.lookup x = some y → σ.lookup x = some y) : ∀ x y, List.lookup x ((z, q) :: τ) = some y → σ.lookup x = some y := fun x y e => by
  rw [List.lookup_cons] at e
  by_cases c : (x == z) = true
  · rw [c] at e; cases e; rw [beq_iff_eq.mp c]; exact h
  · rw [show (x == z) = false by simpa using c] at e; exact hr x y e

section
variable {prog : Program} {w : World} {h₀ : Heap} {k : Nat} {mg mb : Str → Option Value} {sc : Scope} {σ : Ctx0} {b1 b2 : Bool}
set_option maxRecDepth 10000
theorem op_div_nat {a b : Nat} (hb : b ≠ 0) (hs : b < 1073741824) : Op2 prog w h₀ k (binaryOp .FloorDiv) b1 (.int a) b2 (.int b) true (.int ((a / b : Nat) : Int)) := by
  have := op_div_int (prog := prog) (w := w) (h₀ := h₀) (k := k) (b1 := b1) (b2 := b2) (a := a) (b := b) (by omega) (PyProof.noPylong_small (by simpa using hs))
  rwa [Int.fdiv_eq_ediv_of_nonneg _ (by omega), ← Int.natCast_ediv] at this
theorem op_mod_nat {a b : Nat} (hb : b ≠ 0) : Op2 prog w h₀ k (binaryOp .Mod) b1 (.int a) b2 (.int b) true (.int ((a % b : Nat) : Int)) := by
  have := op_mod_int (prog := prog) (w := w) (h₀ := h₀) (k := k) (b1 := b1) (b2 := b2) (a := a) (b := b) (by omega)
  rwa [Int.fmod_eq_emod_of_nonneg _ (by omega), ← Int.natCast_emod] at this
theorem Ev.cnat {n : Nat} {q pos} : Ev prog w h₀ k sc σ (.Constant (.int n) q pos) true (.int n) := Ev.cint

theorem Evs.c {e es d ds} (h : Ev prog w h₀ k sc σ e true d) (r : Evs prog w h₀ k sc σ es ds) (hst : ∀ env, starEach (e :: es) env = (false, eval e env) :: starEach es env := by intro _; rfl) : Evs prog w h₀ k sc σ (e :: es) (d :: ds) := .cons h hst r
theorem Ev.mapL {α : Type} {elt tg iter : Expr} {scope : Scope} {pos : Pos} {pr cl : Bool} {xs : List Str} {ls : List α} {dat : α → List D} {f : α → D}
    (hit : ItL prog w h₀ k sc σ iter ls dat pr cl) (ht : Tgt tg pr xs) (hok : CompOk sc scope) (hx : ∀ x ∈ xs, scope.names.lookup x = some .local ∨ scope.names.lookup x = some .cell)
    (hlen : ∀ a ∈ ls, (dat a).length = xs.length)
    (helt : ∀ a ∈ ls, Ev prog w h₀ k (relab scope sc) (extC xs (dat a) (seen scope σ)) elt true (f a))
    (hn : ls.length ≤ 2 ^ 20) (hs : ∀ env x, foldedSetIterable iter env x = pure x := by intro _ _; rfl) :
    Ev prog w h₀ k sc σ (.ListComp elt [⟨tg, iter, [], 0⟩] scope pos) true (.lst (ls.map f)) := by
  have := Ev.compL (p := fun _ => true) (pos := pos) hit ht hok hx hlen (fun _ _ => Tst.nil) (fun a ha _ => helt a ha) hn hs
  rwa [List.filter_eq_self.mpr fun _ _ => rfl] at this
theorem abc_small {u : Nat} (h : u ≤ 5) : ((abc u).cps.all fun c => decide (c < 128)) = true ∧ (abc u).cps.toList.length ≤ 5 := by
  have : u = 0 ∨ u = 1 ∨ u = 2 ∨ u = 3 ∨ u = 4 ∨ u = 5 := by omega
  rcases this with rfl | rfl | rfl | rfl | rfl | rfl <;> exact ⟨by decide +kernel, by decide +kernel⟩

theorem entry_fn (B : Bs h₀ mg mb) (N : Names mg mb) (F : IsFn h₀ 33 "_law_entry" ["x", "mark"] (bodyOf (fdef 4)) (scopeOf (fdef 4)) (.ref 32)) {x c : Nat} :
    Fn prog w h₀ (k + 1) 33 [.int x, .str ⟨#[c]⟩] (entryOf ⟨#[c]⟩ x) := by
  refine fn_of F B.lim rfl fun A env Y Rl X s E he hin hr i => ?_
  refine st_dict B (sc := scopeOf (fdef 4)) he i (by decide +kernel) fun X1 s1 hX1 i1 => ?_
  refine st_for (sc := scopeOf (fdef 4)) (fun j => ("callers", false, .dic (callersOf ⟨#[c]⟩ x j)) :: ctxOf ["x", "mark"] [.int x, .str ⟨#[c]⟩]) he hr i1 (n := x % 4) (ItL.range (gn B N.range (by decide +kernel)) (b := true) (Ev.bin (b1 := true) (b2 := true) (d1 := .int x) (d2 := .int (4 : Nat)) (nm rfl (by decide +kernel)) Ev.cint (op_mod_nat (by decide))) (by omega)) (.name _ _) (names_ok (by decide +kernel)) (fun _ _ => rfl) (fun _ _ e => e) (fun j Y' Rl' X' s' hj ij => ?_) fun s2 i2 => ?_
  · refine st_assign (sc := scopeOf (fdef 4)) (d := .int (codeAt x j : Nat)) he hr ij ?_ (by decide +kernel) fun s3 i3 => ?_
    · refine Ev.bin (b1 := true) (b2 := true) (d1 := .int (x / (4 * 40 ^ j) : Nat)) (d2 := .int (40 : Nat)) ?_ Ev.cint (op_mod_nat (by decide))
      have hp : (40 : Nat) ^ j ≤ 64000 := Nat.le_trans (Nat.pow_le_pow_right (by decide) (show j ≤ 3 by omega)) (by decide)
      have hp' : 0 < (40 : Nat) ^ j := Nat.pow_pos (by decide)
      refine Ev.bin (b1 := true) (b2 := true) (d1 := .int x) (d2 := .int (4 * 40 ^ j : Nat)) (nm rfl (by decide +kernel)) ?_ (op_div_nat (by omega) (by omega))
      have e : ((4 * 40 ^ j : Nat) : Int) = (4 : Int) * ((40 : Int) ^ ((j : Int)).toNat) := by simp
      rw [e]
      refine Ev.bin (b1 := true) (b2 := true) Ev.cint (Ev.bin (b1 := true) (b2 := true) (d1 := .int 40) (d2 := .int j) Ev.cint (nm rfl (by decide +kernel)) (op_pow_int (by omega) ?_)) (op_mul_int (IntMulOk.of_left (by decide +kernel)))
      have : (Builtin.Int.intBits 40 : Int) = 6 := by decide +kernel
      rw [this]; omega
    · have hc : codeAt x j < 40 := Nat.mod_lt _ (by decide)
      refine st_assign (sc := scopeOf (fdef 4)) (d := .int (codeAt x j / 4 : Nat)) he hr i3 ?_ (by decide +kernel) fun s4 i4 => ?_
      · exact Ev.bin (b1 := true) (b2 := true) (d1 := .int (codeAt x j : Nat)) (d2 := .int (4 : Nat)) (nm rfl (by decide +kernel)) Ev.cint (op_div_nat (by decide) (by decide))
      have hmod : ∀ {σ : Ctx0} {p1 p2 q p3}, σ.lookup ("code" : Str) = some (true, D.int (codeAt x j : Nat)) → Ev prog w h₀ k (scopeOf (fdef 4)) σ (.BinOp (.Name ("code" : Str) p1) .Mod (.Constant (.int 4) q p2) p3) true (.int (codeAt x j % 4 : Nat)) := fun hl =>
        Ev.bin (b1 := true) (b2 := true) (d1 := .int (codeAt x j : Nat)) (d2 := .int (4 : Nat)) (nm hl (by decide +kernel)) Ev.cint (op_mod_nat (by decide))
      have hkey : ∀ {σ : Ctx0} {p1 p2 q q' p3 p4 p5}, σ.lookup ("code" : Str) = some (true, D.int (codeAt x j : Nat)) → Ev prog w h₀ k (scopeOf (fdef 4)) σ (.Subscript (.Constant (.str ("fghi" : Str)) q' p5) (.BinOp (.Name ("code" : Str) p1) .Mod (.Constant (.int 4) q p2) p3) p4) true (.str (keyAt (codeAt x j))) := fun hl => by
        obtain ⟨e1, e2⟩ := fghi_at (codeAt x j % 4) (Nat.mod_lt _ (by decide))
        unfold keyAt
        rw [← e2]
        exact Ev.sub (b1 := true) (b2 := true) Ev.cstr (hmod hl) (op_item_str (by omega) (by omega) e1)
      have hlen : (callersOf ⟨#[c]⟩ x j).length ≤ 2 ^ 20 := Nat.le_trans (callersOf_length _ _ _) (by omega)
      refine st_if (sc := scopeOf (fdef 4)) (p := (decide (codeAt x j % 4 < 2)) != (codeAt x j / 4 == 9)) he hr i4 ?_ (fun hp s5 i5 => ?_) fun hp s5 i5 => ?_
      · refine Tr.cmp (b1 := true) (b2 := true) (d1 := .bool (decide (codeAt x j % 4 < 2))) (d2 := .bool (codeAt x j / 4 == 9)) ?_ ?_ op_ne_bool
        · have := op_lt_int (prog := prog) (w := w) (h₀ := h₀) (k := k) (b1 := true) (b2 := true) (a := (codeAt x j % 4 : Nat)) (b := 2)
          rw [show decide (((codeAt x j % 4 : Nat) : Int) < 2) = decide (codeAt x j % 4 < 2) by rw [decide_eq_decide]; omega] at this
          exact Ev.cmp (hmod rfl) Ev.cint this
        · have := op_eq_int (prog := prog) (w := w) (h₀ := h₀) (k := k) (b1 := true) (b2 := true) (a := (codeAt x j / 4 : Nat)) (b := 9)
          rw [show (((codeAt x j / 4 : Nat) : Int) == 9) = (codeAt x j / 4 == 9) by rw [Bool.eq_iff_iff, beq_iff_eq, beq_iff_eq]; omega] at this
          exact Ev.cmp (nm rfl (by decide +kernel)) Ev.cint this
      · refine st_put (sc := scopeOf (fdef 4)) (kds := callersOf ⟨#[c]⟩ x j) (d := valAt ⟨#[c]⟩ x (codeAt x j)) he hr i5 rfl (by decide +kernel) ?_ (hkey rfl) hlen fun s6 i6 => wpAny_execs_nil ?_
        · unfold valAt; rw [if_pos hp]
          exact Ev.bin (b1 := true) (b2 := true) (Ev.bin (b1 := true) (b2 := true) (d1 := .int x) (d2 := .int (1000 : Nat)) (nm rfl (by decide +kernel)) Ev.cint (op_div_nat (by decide) (by decide))) (nm (d := .int (codeAt x j / 4 : Nat)) rfl (by decide +kernel)) op_sub_int
        · refine wpAny_execs_nil ⟨.inl rfl, _, i6, sub_cons rfl (sub_cons rfl (sub_cons rfl sub_nil))⟩
      · refine st_put (sc := scopeOf (fdef 4)) (kds := callersOf ⟨#[c]⟩ x j) (d := valAt ⟨#[c]⟩ x (codeAt x j)) he hr i5 rfl (by decide +kernel) ?_ (hkey rfl) hlen fun s6 i6 => wpAny_execs_nil ?_
        · unfold valAt; rw [if_neg (by rw [hp]; decide)]
          refine Ev.call1 (gn B N.tuple (by decide +kernel)) (plainly_type _) (b1 := true) (d1 := .lst (((abc (codeAt x j / 4 % 6)).cps.toList).map fun l => .str ((⟨#[c]⟩ : Str) ++ (⟨#[l]⟩ : Str)))) ?_ (op_tuple_lst ?_)
          · have hz : codeAt x j / 4 % 6 ≤ 5 := by omega
            obtain ⟨a1, a2⟩ := abc_small hz
            refine Ev.mapL (ItL.str (Ev.abc (b := true) (Ev.bin (b1 := true) (b2 := true) (d1 := .int (codeAt x j / 4 : Nat)) (d2 := .int (6 : Nat)) (nm rfl (by decide +kernel)) Ev.cint (op_mod_nat (by decide))) hz) a1) (.name _ _) (comp_ok (by decide +kernel)) (names_ok (by decide +kernel)) (fun _ _ => rfl) (fun l hl => ?_) (by omega)
            exact Ev.bin (b1 := true) (b2 := true) (d1 := .str ⟨#[c]⟩) (d2 := .str ⟨#[l]⟩) (nm rfl (by decide +kernel)) (nm rfl (by decide +kernel)) (op_add_str (by rw [sizeLine_eq]; show 1 + 1 ≤ _; decide))
          · rw [List.length_map]
            have := (abc_small (show codeAt x j / 4 % 6 ≤ 5 by omega)).2
            omega
        · refine wpAny_execs_nil ⟨.inl rfl, _, i6, sub_cons rfl (sub_cons rfl (sub_cons rfl sub_nil))⟩
  · obtain ⟨X3, hX3, i3⟩ := i2.freeze (x := "callers") (d := .dic (callersOf ⟨#[c]⟩ x (x % 4))) rfl
    refine st_return (sc := scopeOf (fdef 4)) he hr i3 (b := true) (d := entryOf ⟨#[c]⟩ x) ?_ fun v s'' i'' r => ⟨v, X3, rfl, fun a q1 q2 => hX3 a (hX1 a q1) q2, i''.rel, r⟩
    refine Ev.tuple (.c (Ev.bin (b1 := true) (b2 := true) (d1 := .int x) (d2 := .int 500000) (nm rfl (by decide +kernel)) Ev.cint op_sub_int) (.c (nm rfl (by decide +kernel)) (.c (Ev.tuple (.c (nm rfl (by decide +kernel)) (.c (nm rfl (by decide +kernel)) .nil)) (by show 2 ≤ 1000; decide)) (.c ?_ (.c (nm rfl (by decide +kernel)) .nil))))) (by show 5 ≤ 1000; decide)
    have hlt : x % 3 < 3 := Nat.mod_lt _ (by decide)
    refine Ev.bin (b1 := true) (b2 := true) (d1 := .str ⟨#[c]⟩) (d2 := .int (x % 3 : Nat)) (nm rfl (by decide +kernel)) (Ev.bin (b1 := true) (b2 := true) (d1 := .int x) (d2 := .int (3 : Nat)) (nm rfl (by decide +kernel)) Ev.cint (op_mod_nat (by decide))) (op_mul_str ?_)
    generalize x % 3 = z at hlt
    have : z = 0 ∨ z = 1 ∨ z = 2 := by omega
    have hl1 : (Str.mk #[c]).length = 1 := rfl
    unfold MulOk
    rw [hl1]
    rcases this with rfl | rfl | rfl <;> decide +kernel
end
end Mine

-- part F2
namespace Mine

def cellsOf (ns : List Int) : List Nat := (ns.take 8).map (fun z => (z.fmod 1000000).toNat) ++ [2242, 1618, 145, 153]
def markAt (i : Nat) : Str := ⟨#[65 + i]⟩
def entriesOf (ns : List Int) : List D := (cellsOf ns).zipIdx.map fun p => entryOf (markAt p.2) p.1
theorem cells_length (ns : List Int) : (cellsOf ns).length ≤ 12 := by simp [cellsOf]; omega
theorem letter_at : ∀ c : Nat, c < 12 → (Txt.charAt (Str.ofString "ABCDEFGHIJKL") (c : Int)).isSome = true ∧ Txt.item (Str.ofString "ABCDEFGHIJKL") (c : Int) = markAt c := by
  intro c hc
  have : c = 0 ∨ c = 1 ∨ c = 2 ∨ c = 3 ∨ c = 4 ∨ c = 5 ∨ c = 6 ∨ c = 7 ∨ c = 8 ∨ c = 9 ∨ c = 10 ∨ c = 11 := by omega
  rcases this with rfl | rfl | rfl | rfl | rfl | rfl | rfl | rfl | rfl | rfl | rfl | rfl <;> exact ⟨by decide +kernel, by decide +kernel⟩
section
variable {prog : Program} {w : World} {h₀ : Heap} {k : Nat} {mg mb : Str → Option Value} {sc : Scope} {σ : Ctx0} {b1 b2 : Bool}
set_option maxRecDepth 10000

theorem ItL.enumMap {α : Type} {e : Expr} {b : Bool} {ls : List α} {g : α → D} {np pos : Pos} (hg : Gv prog w h₀ sc (.Name "enumerate" np) (.type "enumerate")) (h : Ev prog w h₀ k sc σ e b (.lst (ls.map g)))
    (hst : ∀ env, starEach [e] env = [(false, eval e env)] := by intro _; rfl) : ItL prog w h₀ k sc σ (.Call (.Name "enumerate" np) [e] [] pos) ls.zipIdx (fun p => [.int p.2, g p.1]) true b := by
  have h1 := It.congr (dat' := fun i => (ls.zipIdx[i]?).elim [] fun p => [.int p.2, g p.1]) (It.enum (pos := pos) hg h hst) fun i hi => by
    have hi' : i < ls.length := by simpa using hi
    simp [hi']
  exact It.of h1 (by simp) rfl
theorem op_mod_any {a : Int} {b : Nat} (hb : b ≠ 0) : Op2 prog w h₀ k (binaryOp .Mod) b1 (.int a) b2 (.int b) true (.int (((a.fmod b).toNat : Nat) : Int)) := by
  have := op_mod_int (prog := prog) (w := w) (h₀ := h₀) (k := k) (b1 := b1) (b2 := b2) (a := a) (b := b) (by omega)
  rwa [Int.toNat_of_nonneg (Int.fmod_nonneg_of_pos _ (by omega))]

theorem entries_fn (B : Bs h₀ mg mb) (N : Names mg mb) (F : IsFn h₀ 38 "_law_entries" ["script"] (bodyOf (fdef 5)) (scopeOf (fdef 5)) (.ref 37)) (F0 : IsFn h₀ 33 "_law_entry" ["x", "mark"] (bodyOf (fdef 4)) (scopeOf (fdef 4)) (.ref 32)) {ns : List Int} (hn : ns.length ≤ 1000) :
    Fn prog w h₀ (k + 2) 38 [.lst (ns.map .int)] (.lst (entriesOf ns)) := by
  refine fn_of F B.lim rfl fun A env Y Rl X s E he hin hr i => ?_
  refine st_assign (sc := scopeOf (fdef 5)) (d := .lst ((cellsOf ns).map fun n => .int (n : Nat))) he hr i ?_ (by decide +kernel) fun s1 i1 => ?_
  · have e : ((cellsOf ns).map fun n : Nat => D.int n) = ((ns.take 8).map fun z => D.int (((z.fmod (1000000 : Nat)).toNat : Nat) : Int)) ++ [.int 2242, .int 1618, .int 145, .int 153] := by
      rw [cellsOf, List.map_append, List.map_map]; rfl
    rw [e]
    refine Ev.bin (b1 := true) (b2 := true) (d2 := .lst [.int 2242, .int 1618, .int 145, .int 153]) (Ev.mapL (xs := ["x"]) (dat := fun z : Int => [.int z]) (ls := ns.take 8) (ItL.lstMap (b := true) ?_) (.name _ _) (comp_ok (by decide +kernel)) (names_ok (by decide +kernel)) (fun _ _ => rfl) (fun z hz => ?_) ?_) (Ev.list (.c Ev.cint (.c Ev.cint (.c Ev.cint (.c Ev.cint .nil)))) (by decide)) (op_add_lst ?_)
    · rw [List.map_take]
      exact Ev.upto_lst (b := true) (b' := true) (u := 8) (nm rfl (by decide +kernel)) Ev.cint (by simpa using Nat.le_trans hn (by decide))
    · refine Ev.bin (b1 := true) (b2 := true) (d1 := .int z) (d2 := .int (1000000 : Nat)) (nm rfl (by decide +kernel)) ?_ (op_mod_any (by decide))
      have := op_pow_int (prog := prog) (w := w) (h₀ := h₀) (k := k + 1) (b1 := true) (b2 := true) (a := 10) (n := 6) (by decide) (by decide +kernel)
      exact Ev.bin Ev.cint Ev.cint this
    · simp; omega
    · rw [sizeLine_eq]; simp; omega
  · refine st_return (sc := scopeOf (fdef 5)) he hr i1 (b := true) (d := .lst (entriesOf ns)) ?_ fun v s'' i'' r => ⟨v, X, rfl, fun _ q _ => q, i''.rel, r⟩
    have hl := cells_length ns
    refine Ev.mapL (ItL.enumMap (b := true) (gn B N.enumerate (by decide +kernel)) (nm (d := .lst ((cellsOf ns).map fun n => .int (n : Nat))) rfl (by decide +kernel))) (.pair _ _ _ _ _ _) (comp_ok (by decide +kernel)) (names_ok (by decide +kernel)) (fun _ _ => rfl) (fun p hp => ?_) (by simp; omega)
    have hp2 : p.2 < 12 := by
      have := List.snd_lt_of_mem_zipIdx hp
      simp at this; omega
    obtain ⟨e1, e2⟩ := letter_at p.2 hp2
    refine Ev.call2 (b1 := true) (b2 := true) (gname B (by decide +kernel) N.entry (by decide +kernel)) (plainly_fn F0) (nm rfl (by decide +kernel)) (d2 := .str (markAt p.2)) ?_ (Fn.op2 (entry_fn B N F0))
    rw [← e2]
    exact Ev.sub (b1 := true) (b2 := true) Ev.cstr (nm (d := .int (p.2 : Nat)) rfl (by decide +kernel)) (op_item_str (by omega) (by omega) e1)
end
end Mine

-- part F3
namespace Mine

theorem snoc_ind {α : Type} {P : List α → Prop} (h0 : P []) (h1 : ∀ l a, P l → P (l ++ [a])) (l : List α) : P l := by
  rw [← l.reverse_reverse]
  induction l.reverse with
  | nil => exact h0
  | cons a r ih => rw [List.reverse_cons]; exact h1 _ _ ih

/-- an entry -/
structure En where
  n : Int
  m : Str
  pr : List D
  r : Str
  cs : List (Str × D)
def En.d (e : En) : D := .tup [.int e.n, .str e.m, .tup e.pr, .str e.r, .dic e.cs]
structure En.Ok (e : En) : Prop where
  plain : ∀ p ∈ e.cs, p.2.plain
  len : e.cs.length ≤ 1000
  lay : ∀ p ∈ e.cs, PyData.canLay0 (.str p.1) = true
def clashB (t o : List (Str × D)) : Bool := !(clashing t o).isEmpty
def partStep (acc : List En × List Nat) (p : En × Nat) : List En × List Nat :=
  if acc.1.any (fun e => clashB p.1.cs e.cs) then (acc.1, acc.2 ++ [p.2]) else (acc.1 ++ [p.1], acc.2)
def partedOf (l : List (En × Nat)) : List En × List Nat := l.foldl partStep ([], [])
theorem partedOf_snoc (l : List (En × Nat)) (p : En × Nat) : partedOf (l ++ [p]) = partStep (partedOf l) p := by unfold partedOf; rw [List.foldl_append]; rfl
theorem partedOf_mem {l : List (En × Nat)} : ∀ e ∈ (partedOf l).1, ∃ i, (e, i) ∈ l := by
  induction l using snoc_ind with
  | h0 => intro e he; cases he
  | h1 l p ih =>
    intro e he
    rw [partedOf_snoc] at he
    unfold partStep at he
    split at he
    · obtain ⟨i, hi⟩ := ih e he; exact ⟨i, by simp [hi]⟩
    · rcases List.mem_append.mp he with h | h
      · obtain ⟨i, hi⟩ := ih e h; exact ⟨i, by simp [hi]⟩
      · rw [List.mem_singleton] at h; exact ⟨p.2, by rw [h]; simp⟩
theorem partedOf_length (l : List (En × Nat)) : (partedOf l).1.length + (partedOf l).2.length = l.length := by
  induction l using snoc_ind with
  | h0 => rfl
  | h1 l p ih =>
    rw [partedOf_snoc]
    unfold partStep
    split <;> simp <;> omega
theorem toPs_bools (l : List Bool) : toPs (l.map .bool) = l.map .bool := by rw [toPs_map, List.map_map]; rfl
theorem lay_bools (l : List Bool) : PyData.canLayAll0 (toPs (l.map .bool)) = true := by
  rw [toPs_bools]
  induction l with
  | nil => rfl
  | cons x r ih => rw [List.map_cons, PyData.canLayAll0, ih]; rfl
theorem any_true (l : List Bool) : ((toPs (l.map .bool)).any fun y => PyData.eqv y (toP (.bool true))) = l.any id := by
  rw [toPs_bools]
  induction l with
  | nil => rfl
  | cons x r ih =>
    rw [List.map_cons, List.any_cons, List.any_cons, ih]
    cases x <;> rfl
section
variable {prog : Program} {w : World} {h₀ : Heap} {k : Nat} {mg mb : Str → Option Value} {sc : Scope} {σ : Ctx0} {b1 b2 : Bool}
set_option maxRecDepth 10000

theorem op_true_in {l : List Bool} : Op2 prog w h₀ k (compareOp .In) b1 (.bool true) b2 (.lst (l.map .bool)) true (.bool (l.any id)) := by
  rw [← any_true]
  exact op_in_lst (by rw [toP]; rfl) (lay_bools _) (by rw [toP]; exact Nat.zero_le _)

theorem parted_fn (B : Bs h₀ mg mb) (N : Names mg mb) (F : IsFn h₀ 48 "_law_parted" ["entries"] (bodyOf (fdef 7)) (scopeOf (fdef 7)) (.ref 47)) (F0 : IsFn h₀ 43 "_law_clash" ["table", "other"] (bodyOf (fdef 6)) (scopeOf (fdef 6)) (.ref 42)) {es : List En} (hn : es.length ≤ 1000) (hok : ∀ e ∈ es, e.Ok) :
    Fn prog w h₀ (k + 2) 48 [.lst (es.map En.d)] (.tup [.lst ((partedOf es.zipIdx).1.map En.d), .lst ((partedOf es.zipIdx).2.map fun n => .int (n : Nat))]) := by
  refine fn_of F B.lim rfl fun A env Y Rl X s E he hin hr i => ?_
  refine st_list (sc := scopeOf (fdef 7)) he i (by decide +kernel) fun X1 s1 hX1 i1 => ?_
  refine st_list (sc := scopeOf (fdef 7)) he i1 (by decide +kernel) fun X2 s2 hX2 i2 => ?_
  refine st_forL (sc := scopeOf (fdef 7)) (fun pre => [("taken", false, .lst ((partedOf pre).1.map En.d)), ("refused", false, .lst ((partedOf pre).2.map fun n => .int (n : Nat)))]) he hr i2
    (ItL.enumMap (b := true) (g := En.d) (ls := es) (gn B N.enumerate (by decide +kernel)) (nm rfl (by decide +kernel))) (.pair _ _ _ _ _ _) (names_ok (by decide +kernel)) (fun _ _ => rfl) (sub_cons rfl (sub_cons rfl sub_nil)) (fun pre p post Y' Rl' X' s' hsp ij => ?_) fun s3 i3 => ?_
  · have hpl : pre.length ≤ 1000 := by
      have := congrArg List.length hsp
      simp at this; omega
    have hpm : ∀ q ∈ pre, q.1 ∈ es := fun q hq => List.fst_mem_of_mem_zipIdx (by rw [hsp]; simp [hq])
    have hp1 : p.1 ∈ es := List.fst_mem_of_mem_zipIdx (by rw [hsp]; simp)
    have hlen := partedOf_length pre
    refine st_if (sc := scopeOf (fdef 7)) (p := (partedOf pre).1.any (fun e => clashB p.1.cs e.cs)) he hr ij ?_ (fun hp s5 i5 => ?_) fun hp s5 i5 => ?_
    · have e2 : ((partedOf pre).1.map (fun e => clashB p.1.cs e.cs)).any id = (partedOf pre).1.any (fun e => clashB p.1.cs e.cs) := by rw [List.any_map]; rfl
      rw [← e2]
      refine Tr.cmp (b1 := true) (b2 := true) (d1 := .bool true) (d2 := .lst (((partedOf pre).1.map (fun e => clashB p.1.cs e.cs)).map .bool)) Ev.cbool ?_ op_true_in
      rw [List.map_map]
      show Ev _ _ _ _ _ _ _ _ (.lst ((partedOf pre).1.map fun e => D.bool (clashB p.1.cs e.cs)))
      refine Ev.mapL (ItL.lstMap (g := En.d) (b := false) (nm rfl (by decide +kernel))) (.name _ _) (comp_ok (by decide +kernel)) (names_ok (by decide +kernel)) (fun _ _ => rfl) (fun e he => ?_) (by omega)
      obtain ⟨ix, hix⟩ := partedOf_mem e he
      have ho1 := hok p.1 hp1
      have ho2 := hok e (hpm _ hix)
      exact Ev.call2 (b1 := true) (b2 := true) (gname B (by decide +kernel) N.clash (by decide +kernel)) (plainly_fn F0)
        (Ev.sub (b1 := true) (b2 := true) (nm (d := .tup [.int p.1.n, .str p.1.m, .tup p.1.pr, .str p.1.r, .dic p.1.cs]) rfl (by decide +kernel)) (Ev.cint (i := 4)) (op_item_tup (by decide) (by decide) rfl))
        (Ev.sub (b1 := true) (b2 := true) (nm (d := .tup [.int e.n, .str e.m, .tup e.pr, .str e.r, .dic e.cs]) rfl (by decide +kernel)) (Ev.cint (i := 4)) (op_item_tup (by decide) (by decide) rfl)) (Fn.op2 (clash_fn B N F0 ho1.plain ho2.plain ho1.len ho1.lay))
    · refine st_append (sc := scopeOf (fdef 7)) (ds := (partedOf pre).2.map fun n => .int (n : Nat)) (d := .int (p.2 : Nat)) he hr i5 rfl (by decide +kernel) (nm rfl (by decide +kernel)) (by simp; omega) (fun s6 i6 => wpAny_execs_nil (wpAny_execs_nil ⟨.inl rfl, _, i6, ?_⟩)) (hint := hin)
      rw [partedOf_snoc, partStep, if_pos hp, List.map_append]
      exact sub_cons rfl (sub_cons rfl sub_nil)
    · refine st_append (sc := scopeOf (fdef 7)) (ds := (partedOf pre).1.map En.d) (d := p.1.d) he hr i5 rfl (by decide +kernel) (nm rfl (by decide +kernel)) (by simp; omega) (fun s6 i6 => wpAny_execs_nil (wpAny_execs_nil ⟨.inl rfl, _, i6, ?_⟩)) (hint := hin)
      rw [partedOf_snoc, partStep, if_neg (by rw [hp]; decide), List.map_append]
      exact sub_cons rfl (sub_cons rfl sub_nil)
  · obtain ⟨X4, hX4, i4⟩ := i3.freeze (x := "taken") rfl
    obtain ⟨X5, hX5, i5⟩ := i4.freeze (x := "refused") rfl
    refine st_return (sc := scopeOf (fdef 7)) he hr i5 (b := true) ?_ fun v s'' i'' r => ⟨v, X5, rfl, fun a q1 q2 => hX5 a (hX4 a (hX2 a (hX1 a q1)) q2) q2, i''.rel, r⟩
    exact Ev.tuple (.c (nm rfl (by decide +kernel)) (.c (nm rfl (by decide +kernel)) .nil)) (by show 2 ≤ 1000; decide)
end
end Mine

-- part F4
namespace Mine

def rowD (r : List Str) : D := .tup (r.map .str)
def zipped (rows : List (List Str)) (m : Nat) : List Str := (List.range m).map fun i => Txt.join (Str.ofString "") (rows.reverse.map fun r => (r[i]?).getD (Str.ofString ""))
theorem sum_le {l : List Nat} {b : Nat} (h : ∀ x ∈ l, x ≤ b) : l.sum ≤ l.length * b := by
  induction l with
  | nil => simp
  | cons a r ih =>
    have h1 := h a (by simp)
    have h2 := ih fun x hx => h x (by simp [hx])
    rw [List.sum_cons, List.length_cons, Nat.succ_mul]; omega
section
variable {prog : Program} {w : World} {h₀ : Heap} {k : Nat} {mg mb : Str → Option Value} {sc : Scope} {σ : Ctx0} {b1 b2 : Bool}
set_option maxRecDepth 10000

theorem ItL.rangeL {e : Expr} {b : Bool} {n : Nat} {np pos : Pos} (hg : Gv prog w h₀ sc (.Name "range" np) (.type "range")) (h : Ev prog w h₀ k sc σ e b (.int n)) (hn : n < 2 ^ 20)
    (hst : ∀ env, starEach [e] env = [(false, eval e env)] := by intro _; rfl) : ItL prog w h₀ k sc σ (.Call (.Name "range" np) [e] [] pos) (List.range n) (fun i => [.int (i : Nat)]) false true := by
  have h1 := It.congr (dat' := fun i => ((List.range n)[i]?).elim [] fun i => [.int (i : Nat)]) (It.range (pos := pos) hg h hn hst) fun i hi => by simp [hi]
  exact It.of h1 (by simp) rfl

theorem together_ints (B : Bs h₀ mg mb) (N : Names mg mb) (F : IsFn h₀ 53 "_law_together" ["values"] (bodyOf (fdef 8)) (scopeOf (fdef 8)) (.ref 52)) {n : Int} {ns : List Int} :
    Fn prog w h₀ (k + 1) 53 [.lst ((n :: ns).map .int)] (.int (n :: ns).sum) := by
  refine fn_of F B.lim rfl fun A env Y Rl X s E he hin hr i => ?_
  refine st_if (sc := scopeOf (fdef 8)) (p := !false) he hr i (Tr.not (Tr.call ?_)) (fun _ s1 i1 => ?_) fun h => by cases h
  · exact Ev.isTuple (d := .int n) (gn B N.isinstance (by decide +kernel)) (gn B N.tuple (by decide +kernel)) (Ev.sub (b1 := true) (b2 := true) (d1 := .lst ((n :: ns).map .int)) (nm rfl (by decide +kernel)) (Ev.cint (i := 0)) (op_item_lst (by decide) (by decide) rfl)) (.inl ⟨_, rfl⟩)
  · refine st_return (sc := scopeOf (fdef 8)) he hr i1 (b := true) (d := .int (n :: ns).sum) ?_ fun v s'' i'' r => ⟨v, X, rfl, fun _ q _ => q, i''.rel, r⟩
    exact Ev.call1 (b1 := true) (gn B N.sum (by decide +kernel)) (plainly_builtin _) (nm (d := .lst ((n :: ns).map .int)) rfl (by decide +kernel)) op_sum

theorem together_rows (B : Bs h₀ mg mb) (N : Names mg mb) (F : IsFn h₀ 53 "_law_together" ["values"] (bodyOf (fdef 8)) (scopeOf (fdef 8)) (.ref 52)) {r : List Str} {rs : List (List Str)} {m : Nat} (hlen : rs.length ≤ 1000)
    (hm : ∃ x ∈ r :: rs, x.length = m) (hle : ∀ x ∈ r :: rs, m ≤ x.length) (hm2 : m ≤ 1000) (hsz : ∀ x ∈ r :: rs, x.length ≤ 1000 ∧ ∀ y ∈ x, y.length ≤ 1000) :
    Fn prog w h₀ (k + 1) 53 [.lst ((r :: rs).map rowD)] (rowD (zipped (r :: rs) m)) := by
  refine fn_of F B.lim rfl fun A env Y Rl X s E he hin hr i => ?_
  refine st_if (sc := scopeOf (fdef 8)) (p := !true) he hr i (Tr.not (Tr.call ?_)) (fun h => by cases h) fun _ s1 i1 => wpAny_execs_nil ?_
  · exact Ev.isTuple (d := rowD r) (gn B N.isinstance (by decide +kernel)) (gn B N.tuple (by decide +kernel)) (Ev.sub (b1 := true) (b2 := true) (d1 := .lst ((r :: rs).map rowD)) (nm rfl (by decide +kernel)) (Ev.cint (i := 0)) (op_item_lst (by decide) (by decide) rfl)) (.inr ⟨_, rfl⟩)
  · refine st_assign (sc := scopeOf (fdef 8)) (d := .int (m : Nat)) he hr i1 ?_ (by decide +kernel) fun s2 i2 => ?_
    · refine Ev.call1 (b1 := true) (gn B N.min (by decide +kernel)) (plainly_builtin _) (d1 := .lst (((r :: rs).map fun x => (x.length : Int)).map .int)) ?_ (op_min ?_ ?_)
      · rw [List.map_map]
        refine Ev.mapL (ItL.lstMap (g := rowD) (b := true) (ls := r :: rs) (nm rfl (by decide +kernel))) (.name _ _) (comp_ok (by decide +kernel)) (names_ok (by decide +kernel)) (fun _ _ => rfl) (fun x hx => ?_) (by simp; omega)
        have hx1 := (hsz x hx).1
        have := op_len_tup (prog := prog) (w := w) (h₀ := h₀) (k := k) (b1 := true) (ds := x.map .str) (by simp; omega)
        rw [List.length_map] at this
        exact Ev.call1 (b1 := true) (gn B N.len (by decide +kernel)) (plainly_builtin _) (nm (d := rowD x) rfl (by decide +kernel)) this
      · obtain ⟨x, hx, e⟩ := hm
        exact List.mem_map.mpr ⟨x, hx, by rw [e]⟩
      · intro n hn
        obtain ⟨x, hx, rfl⟩ := List.mem_map.mp hn
        have := hle x hx; omega
    · refine st_return (sc := scopeOf (fdef 8)) he hr i2 (b := true) (d := rowD (zipped (r :: rs) m)) ?_ fun v s'' i'' r => ⟨v, X, rfl, fun _ q _ => q, i''.rel, r⟩
      refine Ev.call1 (b1 := true) (gn B N.tuple (by decide +kernel)) (plainly_type _) (d1 := .lst ((zipped (r :: rs) m).map .str)) ?_ (op_tuple_lst (by simp [zipped]; omega))
      unfold zipped
      rw [List.map_map]
      refine Ev.mapL (ItL.rangeL (b := true) (gn B N.range (by decide +kernel)) (nm rfl (by decide +kernel)) (by omega)) (.name _ _) (comp_ok (by decide +kernel)) (names_ok (by decide +kernel)) (fun _ _ => rfl) (fun pl hpl => ?_) (by simp; omega)
      have hpl' : pl < m := List.mem_range.mp hpl
      refine Ev.join (b := true) ?_ ?_
      · rw [List.map_map]
        refine Ev.mapL (ItL.lstMap (g := rowD) (b := true) (ls := (r :: rs).reverse) ?_) (.name _ _) (comp_ok (by decide +kernel)) (names_ok (by decide +kernel)) (fun _ _ => rfl) (fun x hx => ?_) (by simp; omega)
        · rw [List.map_reverse]
          exact Ev.rev_lst (b := true) (nm (d := .lst ((r :: rs).map rowD)) rfl (by decide +kernel)) (by simp; omega)
        · have hx' := List.mem_reverse.mp hx
          have hl := hle x hx'
          have e : x[pl]? = some x[pl] := by simp
          refine Ev.sub (b1 := true) (b2 := true) (nm (d := .tup (x.map .str)) rfl (by decide +kernel)) (nm (d := .int (pl : Nat)) rfl (by decide +kernel)) (op_item_tup (by omega) (by omega) ?_)
          simp [e]
      · refine Nat.le_trans (Nat.add_le_add (sum_le (b := 1000) ?_) (Nat.le_refl _)) ?_
        · intro z hz
          obtain ⟨y, hy, rfl⟩ := List.mem_map.mp hz
          obtain ⟨x, hx, rfl⟩ := List.mem_map.mp hy
          have hx' := List.mem_reverse.mp hx
          have hl := hle x hx'
          have e : x[pl]? = some x[pl] := by simp
          rw [e]
          exact (hsz x hx').2 _ (List.getElem_mem _)
        · rw [show (Str.ofString "").length = 0 by decide +kernel]; simp; omega
end
end Mine

-- part F5
namespace Mine

def orderStep (acc : List Str) (e : En) : List Str := acc ++ (e.cs.filter fun p => !acc.contains p.1).map (·.1)
def orderOf (l : List En) : List Str := l.foldl orderStep []
theorem orderOf_snoc (l : List En) (e : En) : orderOf (l ++ [e]) = orderStep (orderOf l) e := by unfold orderOf; rw [List.foldl_append]; rfl
def valsOf (l : List En) (x : Str) : List D := (l.filter fun e => (look e.cs x).isSome).map fun e => (look e.cs x).getD (.int 0)
theorem any_str (l : List Str) (x : Str) : ((toPs (l.map .str)).any fun y => PyData.eqv y (toP (.str x))) = l.contains x := by
  rw [toPs_strs]
  induction l with
  | nil => rfl
  | cons y r ih =>
    rw [List.map_cons, List.any_cons, List.contains_cons, ih, toP]
    congr 1
    simp only [PyData.eqv]
    rw [Bool.eq_iff_iff, beq_iff_eq, beq_iff_eq]; exact eq_comm
theorem orderOf_mem {l : List En} : ∀ x ∈ orderOf l, ∃ e ∈ l, ∃ p ∈ e.cs, p.1 = x := by
  induction l using snoc_ind with
  | h0 => intro x hx; cases hx
  | h1 l e ih =>
    intro x hx
    rw [orderOf_snoc, orderStep, List.mem_append] at hx
    rcases hx with h | h
    · obtain ⟨e', h1, h2⟩ := ih x h; exact ⟨e', by simp [h1], h2⟩
    · obtain ⟨p, hp, rfl⟩ := List.mem_map.mp h
      exact ⟨e, by simp, p, (List.mem_filter.mp hp).1, rfl⟩
section
variable {prog : Program} {w : World} {h₀ : Heap} {k : Nat} {mg mb : Str → Option Value} {sc : Scope} {σ : Ctx0} {b1 b2 : Bool}
set_option maxRecDepth 10000

theorem op_str_notIn {x : Str} {l : List Str} (hx : PyData.canLay0 (.str x) = true) (hl : ∀ y ∈ l, PyData.canLay0 (.str y) = true) : Op2 prog w h₀ k (compareOp .NotIn) b1 (.str x) b2 (.lst (l.map .str)) true (.bool (!l.contains x)) := by
  rw [← any_str]
  exact op_notIn_lst (by rw [toP]; exact hx) (lay_strs hl) (by rw [toP]; exact Nat.zero_le _)

theorem callers_fn (B : Bs h₀ mg mb) (N : Names mg mb) (F : IsFn h₀ 58 "_law_callers" ["taken"] (bodyOf (fdef 9)) (scopeOf (fdef 9)) (.ref 57)) (F0 : IsFn h₀ 53 "_law_together" ["values"] (bodyOf (fdef 8)) (scopeOf (fdef 8)) (.ref 52))
    {es : List En} (hn : es.length ≤ 1000) (hok : ∀ e ∈ es, e.Ok) (hord : (orderOf es).length ≤ 1000) {T : Str → D} (hT : ∀ x ∈ orderOf es, Fn prog w h₀ (k + 1) 53 [.lst (valsOf es x)] (T x)) :
    Fn prog w h₀ (k + 2) 58 [.lst (es.map En.d)] (.lst ((orderOf es).map fun x => .tup [.str x, T x])) := by
  refine fn_of F B.lim rfl fun A env Y Rl X s E he hin hr i => ?_
  refine st_list (sc := scopeOf (fdef 9)) he i (by decide +kernel) fun X1 s1 hX1 i1 => ?_
  refine st_forL (sc := scopeOf (fdef 9)) (fun pre => [("order", false, .lst ((orderOf pre).map .str)), ("taken", true, .lst (es.map En.d))]) he hr i1
    (ItL.lstMap (b := true) (g := En.d) (ls := es) (nm rfl (by decide +kernel))) (.name _ _) (names_ok (by decide +kernel)) (fun _ _ => rfl) (sub_cons rfl (sub_cons rfl sub_nil)) (fun pre e post Y' Rl' X' s' hsp ij => ?_) fun s3 i3 => ?_
  · have hpre : ∀ q ∈ pre, q ∈ es := fun q hq => by rw [hsp]; simp [hq]
    have hoe := hok e (by rw [hsp]; simp)
    have hpl : ∀ n, ((pre ++ e :: post).take n).length ≤ 1000 := fun n => by rw [← hsp, List.length_take]; omega
    have hord' : (orderOf pre).length ≤ 1000 := by
      refine Nat.le_trans ?_ hord
      rw [hsp]
      unfold orderOf
      rw [List.foldl_append]
      generalize List.foldl orderStep [] pre = acc
      generalize e :: post = l
      induction l generalizing acc with
      | nil => exact Nat.le_refl _
      | cons a r ih => exact Nat.le_trans (by rw [orderStep, List.length_append]; omega) (ih (orderStep acc a))
    have hlay : ∀ y ∈ orderOf pre, PyData.canLay0 (.str y) = true := fun y hy => by
      obtain ⟨e', h1, p, hp, rfl⟩ := orderOf_mem y hy
      exact (hok e' (hpre _ h1)).lay p hp
    refine st_extend (sc := scopeOf (fdef 9)) (ds := (orderOf pre).map .str) (es := ((e.cs.filter fun p => !(orderOf pre).contains p.1).map fun p => .str p.1)) he hr ij rfl (by decide +kernel) ?_ (by simp; omega) ?_ (fun s6 i6 => wpAny_execs_nil ⟨.inl rfl, _, i6, ?_⟩) (hint := hin)
    · refine Ev.compL (ItL.keys (b := true) (Ev.sub (b1 := true) (b2 := true) (nm (d := .tup [.int e.n, .str e.m, .tup e.pr, .str e.r, .dic e.cs]) rfl (by decide +kernel)) (Ev.cint (i := 4)) (op_item_tup (by decide) (by decide) rfl))) (.name _ _) (comp_ok (by decide +kernel)) (names_ok (by decide +kernel)) (fun _ _ => rfl) (fun p hp => ?_) (fun p hp _ => nm rfl (by decide +kernel)) (Nat.le_trans hoe.len (by decide))
      exact Tst.one (Tr.cmp (b1 := true) (b2 := false) (nm (d := .str p.1) rfl (by decide +kernel)) (nm (d := .lst ((orderOf pre).map .str)) rfl (by decide +kernel)) (op_str_notIn (hoe.lay p hp) hlay))
    · rw [List.length_map]
      exact Nat.le_trans (List.length_filter_le _ _) (Nat.le_trans hoe.len (by decide))
    · rw [orderOf_snoc, orderStep, List.map_append, List.map_map]
      exact sub_cons rfl (sub_cons rfl sub_nil)
  · obtain ⟨X4, hX4, i4⟩ := i3.freeze (x := "order") rfl
    refine st_return (sc := scopeOf (fdef 9)) he hr i4 (b := true) ?_ fun v s'' i'' r => ⟨v, X4, rfl, fun a q1 q2 => hX4 a (hX1 a q1) q2, i''.rel, r⟩
    refine Ev.mapL (ItL.lstMap (b := true) (g := .str) (ls := orderOf es) (nm rfl (by decide +kernel))) (.name _ _) (comp_ok (by decide +kernel)) (names_ok (by decide +kernel)) (fun _ _ => rfl) (fun x hx => ?_) (by omega)
    refine Ev.tuple (.c (nm rfl (by decide +kernel)) (.c ?_ .nil)) (by show 2 ≤ 1000; decide)
    refine Ev.call1 (b1 := true) (d1 := .lst (valsOf es x)) (gname B (by decide +kernel) N.together (by decide +kernel)) (plainly_fn F0) ?_ (Fn.op1 (hT x hx))
    refine Ev.compL (ItL.lstMap (b := true) (g := En.d) (ls := es) (nm rfl (by decide +kernel))) (.name _ _) (comp_ok (by decide +kernel)) (names_ok (by decide +kernel)) (fun _ _ => rfl) (fun e he => ?_) (fun e he hp => ?_) (by omega)
    · exact Tst.one (Tr.cmp (b1 := true) (b2 := true) (nm (d := .str x) rfl (by decide +kernel)) (Ev.sub (b1 := true) (b2 := true) (nm (d := .tup [.int e.n, .str e.m, .tup e.pr, .str e.r, .dic e.cs]) rfl (by decide +kernel)) (Ev.cint (i := 4)) (op_item_tup (by decide) (by decide) rfl)) op_in_dic)
    · obtain ⟨d, hd⟩ := Option.isSome_iff_exists.mp hp
      rw [hd]
      exact Ev.sub (b1 := true) (b2 := true) (Ev.sub (b1 := true) (b2 := true) (nm (d := .tup [.int e.n, .str e.m, .tup e.pr, .str e.r, .dic e.cs]) rfl (by decide +kernel)) (Ev.cint (i := 4)) (op_item_tup (by decide) (by decide) rfl)) (nm (d := .str x) rfl (by decide +kernel)) (op_item_dic hd)
end
end Mine

-- part Z1
namespace Mine
/-- an iterator at i over the tuple at l, k items on -/
def Tt (i l : Addr) (xs : Array Value) (k : Nat) (h : Heap) : Prop := h.IsTupleIter i l k ∧ h.IsTuple l xs
theorem Tt.keep {i l : Addr} {xs : Array Value} {k : Nat} {h h' : Heap} (t : Tt i l xs k h) (hi : ∀ o, h.get? i = some o → h'.get? i = some o) (hl : ∀ o, h.get? l = some o → h'.get? l = some o) : Tt i l xs k h' :=
  ⟨let ⟨o, ho, r⟩ := t.1; ⟨o, hi o ho, r⟩, let ⟨o, ho, r⟩ := t.2; ⟨o, hl o ho, r⟩⟩
theorem Tt.alive {i l : Addr} {xs : Array Value} {k : Nat} {h : Heap} (t : Tt i l xs k h) : ∃ o, h.get? i = some o := let ⟨o, ho, _⟩ := t.1; ⟨o, ho⟩

section
variable {prog : Program} {w : World} {A : Around} {E : Value → Shared → Prop} {s : Shared}
theorem Tt.next {i l : Addr} {xs : Array Value} {k : Nat} {x : Value} {Q : Value → Shared → Prop} (t : Tt i l xs k s.heap) (hne : l ≠ i) (hx : xs[k]? = some x)
    (hQ : ∀ h', Tt i l xs (k + 1) h' → Heap.SameBut i s.heap h' → Q x { s with heap := h' }) : wpAny (model prog w) A (Builtin.SmallTypes.nextOf (.ref i)) Q E s := by
  obtain ⟨hp, g, d, tk, os⟩ := s
  have ty : Shared.TypeIs ⟨hp, g, d, tk, os⟩ (.ref i) "tuple_iterator" := t.1.typeIs
  obtain ⟨⟨⟨c0, e0, dt0, sl0⟩, ho, hc, hd⟩, ⟨⟨c1, e1, dt1, sl1⟩, hol, hcl, nl, hdl⟩⟩ := t
  simp only at hc hd hcl hdl
  subst hc hd hcl hdl
  have hx' : xs[((k : Nat) : Int).toNat]? = some x := by simpa using hx
  refine wpAny_bind (wpAny_callSpecial?_slot (name := Str.ofString "__next__") ty F.slot_tuple_iterator_next (wpAny_call_entry F.slot_tuple_iterator_next ty F.entry_tuple_iterator_next ?_ (F.args_tuple_iterator_next_1 _)))
  wp_walk using AutoSeq1.wpAny_loadPart' ho, AutoSeq1.wpAny_loadPart' hol
  rw [hx']
  refine wpAny_bind (wpAny_setField ho rfl (by simp) (wpAny_pure ⟨x, rfl, wpAny_pure (hQ _ ⟨⟨_, Heap.get?_update_self _ ho rfl, rfl, ?_⟩, ⟨_, (Heap.SameBut.update ..).extBut _ _ hne hol, rfl, nl, rfl⟩⟩ (Heap.SameBut.update ..))⟩))
  simp [Obj.mapFields, rawInt]
theorem Tt.stop {i l : Addr} {xs : Array Value} {k : Nat} {Q : Value → Shared → Prop} (hh : A.handled = none) (t : Tt i l xs k s.heap) (hx : xs[k]? = none)
    (hE : ∀ h' e, Heap.ExtBut i s.heap h' → (∃ o, h'.get? e = some o ∧ o.cls = .type "StopIteration") → E (.ref e) { s with heap := h' }) : wpAny (model prog w) A (Builtin.SmallTypes.nextOf (.ref i)) Q E s := by
  obtain ⟨hp, g, d, tk, os⟩ := s
  have ty : Shared.TypeIs ⟨hp, g, d, tk, os⟩ (.ref i) "tuple_iterator" := t.1.typeIs
  obtain ⟨⟨⟨c0, e0, dt0, sl0⟩, ho, hc, hd⟩, ⟨⟨c1, e1, dt1, sl1⟩, hol, hcl, nl, hdl⟩⟩ := t
  simp only at hc hd hcl hdl
  subst hc hd hcl hdl
  have hx' : xs[((k : Nat) : Int).toNat]? = none := by simpa using hx
  have hh' : A.in1.handled = none := hh
  refine wpAny_bind (wpAny_callSpecial?_slot (name := Str.ofString "__next__") ty F.slot_tuple_iterator_next (wpAny_call_entry F.slot_tuple_iterator_next ty F.entry_tuple_iterator_next ?_ (F.args_tuple_iterator_next_1 _)))
  wp_walk using AutoSeq1.wpAny_loadPart' ho, AutoSeq1.wpAny_loadPart' hol
  rw [hx']
  wp_walk using wpAny_setField ho rfl (by simp), wpAny_raiseNew_none hh'
  exact hE _ _ (fun b o hb e => Heap.get?_push_of_some _ (Heap.get?_push_of_some _ ((Heap.SameBut.update ..).extBut b o hb e))) ⟨_, Heap.get?_push_size _ rfl, rfl⟩
/-- the parts of a zip of two tuples -/
structure Zt (z TI TO i1 i2 l1 l2 : Addr) (xs ys : Array Value) (f0 : Value) (k1 k2 : Nat) (h : Heap) : Prop where
  z : IsZip h z TI TO f0
  ti : IsPair h TI (.ref i1) (.ref i2)
  to : ∃ a b, IsPair h TO a b
  t1 : Tt i1 l1 xs k1 h
  t2 : Tt i2 l2 ys k2 h
/-- what a step of the zip leaves alone -/
def Off (z TO i1 i2 : Addr) (h h' : Heap) : Prop := ∀ c o, c ≠ z → c ≠ TO → c ≠ i1 → c ≠ i2 → h.get? c = some o → h'.get? c = some o
/-- amid a step: j of the two have been drawn -/
structure Lp (z TI TO i1 i2 l1 l2 : Addr) (xs ys : Array Value) (k : Nat) (h₀ : Heap) (j : Nat) (h : Heap) : Prop where
  fz : IsZip h z TI TO .ellipsis
  to : ∃ a b, IsPair h TO a b ∧ (1 ≤ j → xs[k]? = some a) ∧ (2 ≤ j → ys[k]? = some b)
  t1 : Tt i1 l1 xs (if j = 0 then k else k + 1) h
  t2 : Tt i2 l2 ys (if j = 2 then k + 1 else k) h
  off : Off z TO i1 i2 h₀ h
  size : h.objs.size = h₀.objs.size
theorem zip_step {z TI TO i1 i2 l1 l2 : Addr} {xs ys : Array Value} {k : Nat} {Q : Value → Shared → Prop} (hh : A.handled = none) (D : ZipApart z TI TO i1 i2 l1 l2) (hs : Zt z TI TO i1 i2 l1 l2 xs ys .none k k s.heap)
    (hQ : ∀ x y h' (T : Addr), xs[k]? = some x → ys[k]? = some y → Zt z TI TO i1 i2 l1 l2 xs ys (rawInt T) (k + 1) (k + 1) h' → IsPair h' T x y → s.heap.get? T = none → Off z TO i1 i2 s.heap h' → Q (.ref T) { s with heap := h' })
    (hE : ∀ h' e, xs[k]? = none ∨ ys[k]? = none → Off z TO i1 i2 s.heap h' → (∃ o, h'.get? e = some o ∧ o.cls = .type "StopIteration") → E (.ref e) { s with heap := h' }) :
    wpAny (model prog w) A (Builtin.«zip.__next__» ⟨[.ref z], []⟩) (fun fin s' => ∃ v, fin = .done (.ret v) ∧ Q v s') E s := by
  obtain ⟨hp, g, d, tk, os⟩ := s
  dsimp only at hs hQ hE
  obtain ⟨hz, hTI, ⟨a0, b0, hTO⟩, h1, h2⟩ := hs
  wp_walk using wpAny_setField_rec (k := 0) hz (by simp)
  intro g1 z1 c1
  refine wpAny_bind (wpAny_forIn_list _ (fun rest b s' => b = (none, ()) ∧ ∃ j h, s' = ⟨h, g, d, tk, os⟩ ∧ rest = [((Value.ref i1), 0), ((Value.ref i2), 1)].drop j ∧ j ≤ 2 ∧ Lp z TI TO i1 i2 l1 l2 xs ys k hp j h) _ ?_ ?_ _ _ ⟨rfl, 0, g1, rfl, rfl, by omega, ?_⟩)
  · rintro ⟨it, m⟩ rest b s' ⟨rfl, j, h, rfl, hr, hj, L⟩
    have hcase : (j = 0 ∧ it = .ref i1 ∧ m = 0 ∧ rest = [((Value.ref i2), 1)]) ∨ (j = 1 ∧ it = .ref i2 ∧ m = 1 ∧ rest = []) := by
      match j, hj with
      | 0, _ => simp at hr; exact .inl ⟨rfl, hr.1.1, hr.1.2, hr.2⟩
      | 1, _ => simp at hr; exact .inr ⟨rfl, hr.1.1, hr.1.2, hr.2⟩
      | 2, _ => simp at hr
    have over : ∀ (h' : Heap) (i e : Addr), (i = i1 ∨ i = i2) → Heap.ExtBut i h h' → (∃ o, h'.get? e = some o ∧ o.cls = .type "StopIteration") → (xs[k]? = none ∨ ys[k]? = none) →
        wpAny (model prog w) A (setField (.ref z) 0 .none) (fun _ s'' => E (.ref e) s'') E ⟨h', g, d, tk, os⟩ := by
      intro h' i e hi hb ⟨o, he, hc⟩ hend
      have hz2 : IsZip h' z TI TO .ellipsis := hb _ _ (hi.elim (fun q => q ▸ D.i1z.symm) fun q => q ▸ D.i2z.symm) L.fz
      have ne : e ≠ z := by
        rintro rfl
        rw [hz2] at he; cases he
        simp at hc
      exact wpAny_setField_rec (s := ⟨h', g, d, tk, os⟩) hz2 (by simp) fun h2 _ c2 => hE h2 e hend (fun c oc q1 q2 q3 q4 ec => c2.extBut _ _ q1 (hb _ _ (hi.elim (fun q => q ▸ q3) fun q => q ▸ q4) (L.off c oc q1 q2 q3 q4 ec))) ⟨o, c2.extBut _ _ ne he, hc⟩
    obtain ⟨a, b, hab, ha, hb⟩ := L.to
    refine wpAny_bind (wpAny_onRaise ?_)
    rcases hcase with ⟨rfl, rfl, rfl, rfl⟩ | ⟨rfl, rfl, rfl, rfl⟩
    · show wpAny _ _ (Builtin.SmallTypes.nextOf (.ref i1) >>= _) _ _ _
      cases hx : xs[k]? with
      | none => exact wpAny_bind (Tt.stop hh L.t1 hx fun h' e hb' he => over h' i1 e (.inl rfl) hb' he (.inl hx))
      | some x =>
        refine wpAny_bind (Tt.next L.t1 D.l1i1 hx fun h' t' c' => wpAny_pure ?_)
        have to' : IsPair h' TO a b := c'.extBut _ _ D.TOi1 hab
        refine wpAny_bind (wpAny_seqItems to' rfl (wpAny_bind (wpAny_updateSeq_pair to' fun h3 p3 c3 => wpAny_bind (wpAny_letGo (wpAny_pure ⟨rfl, 1, h3, rfl, rfl, by omega, ?_⟩)))))
        exact ⟨c3.extBut _ _ D.TOz.symm (c'.extBut _ _ D.i1z.symm L.fz), ⟨x, b, p3, fun _ => hx, fun q => absurd q (by decide)⟩, t'.keep (fun o e => c3.extBut _ o D.TOi1.symm e) (fun o e => c3.extBut _ o D.l1TO e),
          L.t2.keep (fun o e => c3.extBut _ o D.TOi2.symm (c'.extBut _ o D.i12.symm e)) (fun o e => c3.extBut _ o D.l2TO (c'.extBut _ o D.l2i1 e)), fun c o q1 q2 q3 q4 e => c3.extBut _ _ q2 (c'.extBut _ _ q3 (L.off c o q1 q2 q3 q4 e)), c3.1.trans (c'.1.trans L.size)⟩
    · show wpAny _ _ (Builtin.SmallTypes.nextOf (.ref i2) >>= _) _ _ _
      cases hy : ys[k]? with
      | none => exact wpAny_bind (Tt.stop hh L.t2 hy fun h' e hb' he => over h' i2 e (.inr rfl) hb' he (.inr hy))
      | some y =>
        refine wpAny_bind (Tt.next L.t2 D.l2i2 hy fun h' t' c' => wpAny_pure ?_)
        have to' : IsPair h' TO a b := c'.extBut _ _ D.TOi2 hab
        refine wpAny_bind (wpAny_seqItems to' rfl (wpAny_bind (wpAny_updateSeq_pair to' fun h3 p3 c3 => wpAny_bind (wpAny_letGo (wpAny_pure ⟨rfl, 2, h3, rfl, rfl, by omega, ?_⟩)))))
        exact ⟨c3.extBut _ _ D.TOz.symm (c'.extBut _ _ D.i2z.symm L.fz), ⟨a, y, p3, fun _ => ha (Nat.le_refl _), fun _ => hy⟩, L.t1.keep (fun o e => c3.extBut _ o D.TOi1.symm (c'.extBut _ o D.i12 e)) (fun o e => c3.extBut _ o D.l1TO (c'.extBut _ o D.l1i2 e)),
          t'.keep (fun o e => c3.extBut _ o D.TOi2.symm e) (fun o e => c3.extBut _ o D.l2TO e), fun c o q1 q2 q3 q4 e => c3.extBut _ _ q2 (c'.extBut _ _ q4 (L.off c o q1 q2 q3 q4 e)), c3.1.trans (c'.1.trans L.size)⟩
  · rintro b s' ⟨rfl, j, h, rfl, hr, hj, L⟩
    have hj2 : j = 2 := by
      have h3 := congrArg List.length hr
      rw [List.length_drop] at h3
      have h4 : 0 = 2 - j := h3
      omega
    clear hr hj
    subst hj2
    obtain ⟨x, y, hxy, hx, hy⟩ := L.to
    have hfresh : ∀ o, hp.get? h.objs.size ≠ some o := fun o e => by have := Heap.lt_size e; rw [L.size] at this; exact Nat.lt_irrefl _ this
    refine wpAny_bind (wpAny_seqItems hxy rfl (wpAny_bind (wpAny_newTuple ?_)))
    show wpAny _ _ (Builtin.SmallTypes.ownedTupleHandOut (.ref z) (.ref h.objs.size) >>= _) _ _ ⟨h.push { cls := .type "tuple", data := .seq #[x, y] }, g, d, tk, os⟩
    have zlt : z < h.objs.size := Heap.lt_size L.fz
    have z6 : IsZip (h.push { cls := .type "tuple", data := .seq #[x, y] }) z TI TO .ellipsis := Heap.get?_push_of_some _ L.fz
    refine wpAny_bind (wpAny_bind (wpAny_setField_rec (s := ⟨h.push { cls := .type "tuple", data := .seq #[x, y] }, g, d, tk, os⟩) z6 (by simp) fun h7 z7 c7 => ?_))
    refine wpAny_setField_rec z7 (by simp) fun h8 z8 c8 => wpAny_pure ⟨_, rfl, ?_⟩
    have z9 : IsZip h8 z TI TO (rawInt h.objs.size) := z8
    have up : ∀ c o, c ≠ z → (h.push { cls := .type "tuple", data := .seq #[x, y] }).get? c = some o → h8.get? c = some o := fun c o q e => c8.extBut _ _ q (c7.extBut _ _ q e)
    have p9 : IsPair h8 h.objs.size x y := up _ _ (Nat.ne_of_gt zlt) (Heap.get?_push_size _ rfl)
    have up' : ∀ c o, c ≠ z → h.get? c = some o → h8.get? c = some o := fun c o q e => up c o q (Heap.get?_push_of_some _ e)
    refine hQ x y h8 h.objs.size (hx (by decide)) (hy (by decide)) ⟨z9, up' _ _ D.TIz (L.off _ _ D.TIz D.TITO D.TIi1 D.TIi2 hTI), ⟨x, y, up' _ _ D.TOz hxy⟩, L.t1.keep (fun o e => up' _ o D.i1z e) (fun o e => up' _ o D.l1z e), L.t2.keep (fun o e => up' _ o D.i2z e) (fun o e => up' _ o D.l2z e)⟩
      p9 ?_ fun c o q1 q2 q3 q4 e => up' c o q1 (L.off c o q1 q2 q3 q4 e)
    cases q : hp.get? h.objs.size with
    | none => rfl
    | some o => exact absurd q (hfresh o)
  · exact ⟨z1, ⟨a0, b0, c1.extBut _ _ D.TOz hTO, fun q => absurd q (by decide), fun q => absurd q (by decide)⟩, h1.keep (fun o e => c1.extBut _ o D.i1z e) (fun o e => c1.extBut _ o D.l1z e), h2.keep (fun o e => c1.extBut _ o D.i2z e) (fun o e => c1.extBut _ o D.l2z e), fun c o q1 _ _ _ e => c1.extBut _ _ q1 e, c1.1⟩
/-- a walk over a zip of two tuples -/
theorem walk_zip (hh : A.handled = none) (z TI TO i1 i2 l1 l2 : Addr) (D : ZipApart z TI TO i1 i2 l1 l2) (xs ys : Array Value) :
    WalksU prog w A z [z, TI, TO, i1, i2, l1, l2] [z, TO, i1, i2] (min xs.size ys.size) (fun i vals => ∃ x y, xs[i]? = some x ∧ ys[i]? = some y ∧ vals = #[x, y])
      (fun i h => Zt z TI TO i1 i2 l1 l2 xs ys .none i i h)
      (fun i T h => Zt z TI TO i1 i2 l1 l2 xs ys (rawInt T) (i + 1) (i + 1) h ∧ T ≠ z ∧ T ≠ TO ∧ T ≠ i1 ∧ T ≠ i2) := by
  have off : ∀ {h h' : Heap}, Off z TO i1 i2 h h' → ∀ c o, c ∉ [z, TO, i1, i2] → h.get? c = some o → h'.get? c = some o := fun ho c o hc e => by
    simp only [List.mem_cons, List.not_mem_nil, or_false, not_or] at hc
    exact ho c o hc.1 hc.2.1 hc.2.2.1 hc.2.2.2 e
  have ask : ∀ (s : Shared) (f0 : Value) (Q : Option Value → Shared → Prop) (E : Value → Shared → Prop), IsZip s.heap z TI TO f0 →
      wpAny (model prog w) A.in1 (Builtin.«zip.__next__» ⟨[.ref z], []⟩) (fun fin s' => ∃ v, fin = .done (.ret v) ∧ Q (some v) s') (fun e s' => ∃ a o, e = .ref a ∧ s'.heap.get? a = some o ∧ o.cls = .type "StopIteration" ∧ Q none s') s → wpAny (model prog w) A (pyNext (.ref z)) Q E s := by
    intro s f0 Q E hz h
    have ty : s.TypeIs (.ref z) "zip" := ⟨_, hz, rfl⟩
    refine wpAny_bind (wpAny_attempt (wpAny_callSpecial?_slot (name := Str.ofString "__next__") ty F.slot_zip_next (wpAny_call_entry F.slot_zip_next ty F.entry_zip_next (wpAny_mono h (fun fin s' ⟨v, e, q⟩ => ⟨v, e, wpAny_pure q⟩) fun e s' ⟨a, o, ea, ho, hc, q⟩ => ?_) (F.args_zip_next_1 _))))
    subst ea
    exact wpAny_bind (wpAny_isInstance (T := "StopIteration") (b := true) ⟨o, ho, hc⟩ isSubtype_stop (wpAny_pure q))
  refine ⟨fun c hc => ?_, fun i h h' st hk => ?_, fun i s Q E hi st hQ => ?_, fun elts k pos i T s Q E hm hQ => ?_, fun i T h hm hT => ?_, fun s Q E st hQ => ?_, fun i s Q E st hQ => wpAny_pyIter_zip st.z hQ⟩
  · simp only [List.mem_cons, List.not_mem_nil, or_false] at hc ⊢
    exact hc.imp id fun q => .inr (q.imp id fun q => q.imp id .inl)
  · obtain ⟨a, b, e⟩ := st.to
    exact ⟨hk z (by simp) _ st.z, hk TI (by simp) _ st.ti, ⟨a, b, hk TO (by simp) _ e⟩, st.t1.keep (hk i1 (by simp)) (hk l1 (by simp)), st.t2.keep (hk i2 (by simp)) (hk l2 (by simp))⟩
  · have h1 : i < xs.size := by omega
    have h2 : i < ys.size := by omega
    refine ask s _ Q E st.z (zip_step hh D st (fun x y h' T hx hy z' p' hn ho => ?_) fun h' e hend => ?_)
    · have ne : ∀ {c o}, s.heap.get? c = some o → T ≠ c := fun e q => by rw [q] at hn; rw [hn] at e; cases e
      obtain ⟨_, _, eTO⟩ := st.to
      obtain ⟨_, e1⟩ := st.t1.alive
      obtain ⟨_, e2⟩ := st.t2.alive
      exact hQ T _ h' s.toks ⟨x, y, hx, hy, rfl⟩ ⟨_, p', rfl, _, rfl⟩ ⟨z', ne st.z, ne eTO, ne e1, ne e2⟩ (off ho)
    · rw [Array.getElem?_eq_getElem h1, Array.getElem?_eq_getElem h2] at hend
      rcases hend with q | q <;> cases q
  · obtain ⟨st, _⟩ := hm
    obtain ⟨a, b, e⟩ := st.to
    refine wpAny_letOwnedTupleGo_zip st.z fun h' z' c' => hQ h' ⟨z', c'.extBut _ _ D.TIz st.ti, ⟨a, b, c'.extBut _ _ D.TOz e⟩, st.t1.keep (fun o e => c'.extBut _ o D.i1z e) (fun o e => c'.extBut _ o D.l1z e), st.t2.keep (fun o e => c'.extBut _ o D.i2z e) (fun o e => c'.extBut _ o D.l2z e)⟩ fun c o hc e => ?_
    simp only [List.mem_cons, List.not_mem_nil, or_false, not_or] at hc
    exact c'.extBut _ _ hc.1 e
  · obtain ⟨_, t1, t2, t3, t4⟩ := hm
    simp only [List.mem_cons, List.not_mem_nil, or_false] at hT
    exact hT.elim t1 fun hT => hT.elim t2 fun hT => hT.elim t3 t4
  · refine ask s _ Q E st.z (zip_step hh D st (fun x y h' T hx hy => ?_) fun h' e _ ho ⟨o, he, hc⟩ => ⟨e, o, rfl, he, hc, hQ h' s.toks (off ho)⟩)
    exfalso
    have b1 : min xs.size ys.size < xs.size := by
      rcases Nat.lt_or_ge (min xs.size ys.size) xs.size with q | q
      · exact q
      · rw [Array.getElem?_eq_none q] at hx; cases hx
    have b2 : min xs.size ys.size < ys.size := by
      rcases Nat.lt_or_ge (min xs.size ys.size) ys.size with q | q
      · exact q
      · rw [Array.getElem?_eq_none q] at hy; cases hy
    omega
abbrev zH1 (h : Heap) (l1 : Addr) : Heap := h.push { cls := .type "tuple_iterator", data := .fields #[.ref l1, .int 0 0] }
abbrev zH2 (h : Heap) (l1 l2 : Addr) : Heap := (zH1 h l1).push { cls := .type "tuple_iterator", data := .fields #[.ref l2, .int 0 0] }
abbrev zH3 (h : Heap) (l1 l2 : Addr) : Heap := (zH2 h l1 l2).push { cls := .type "tuple", data := .seq #[.ref h.objs.size, .ref (zH1 h l1).objs.size] }
abbrev zH4 (h : Heap) (l1 l2 : Addr) : Heap := (zH3 h l1 l2).push { cls := .type "tuple", data := .seq #[.none, .none] }
abbrev zH5 (h : Heap) (l1 l2 : Addr) : Heap := (zH4 h l1 l2).push { cls := .type "zip", data := .fields #[.none, .bool false, .bool false, .ref (zH2 h l1 l2).objs.size, .ref (zH3 h l1 l2).objs.size] }
theorem zip_made (l1 l2 : Addr) (xs ys : Array Value) :
    Meets (Builtin.«zip.__new__» ⟨[.type "zip", .ref l1, .ref l2], []⟩) (fun _ R s => s.heap.IsTuple l1 xs ∧ s.heap.IsTuple l2 ys ∧
      R (.ok (.ret (.ref (zH4 s.heap l1 l2).objs.size))) { s with heap := zH5 s.heap l1 l2 }) :=
  .of_wp fun prog w A R s h => by
    obtain ⟨hp, g, d, tk, os⟩ := s; obtain ⟨hl1, hl2, h⟩ := h
    have hsub := sub_zip
    have hL1 : Heap.IsTuple (Shared.heap ⟨hp, g, d, tk, os⟩) l1 xs := hl1
    have hL2 : Heap.IsTuple (Shared.heap ⟨hp.push { cls := .type "tuple_iterator", data := .fields #[.ref l1, .int 0 0] }, g, d, tk, os⟩) l2 ys := Heap.IsTuple.push hl2 _
    wp_walk using wpAny_pyIter_tuple hL1, wpAny_pyIter_tuple hL2
    exact ⟨_, rfl, h⟩
theorem call_zip {l1 l2 : Addr} {xs ys : Array Value} {Q : Value → Shared → Prop} (hl1 : s.heap.IsTuple l1 xs) (hl2 : s.heap.IsTuple l2 ys)
    (h : ∀ h', Zt (s.heap.objs.size + 4) (s.heap.objs.size + 2) (s.heap.objs.size + 3) s.heap.objs.size (s.heap.objs.size + 1) l1 l2 xs ys .none 0 0 h' → h'.objs.size = s.heap.objs.size + 5 →
      (∀ c o, s.heap.get? c = some o → h'.get? c = some o) → Q (.ref (s.heap.objs.size + 4)) { s with heap := h' }) :
    wpAny (model prog w) A (call (.type "zip") [.ref l1, .ref l2]) Q E s := by
  refine callType_new F.called_zip (by decide) (F.typeCall_zip_2 _ _) (F.newCall_zip_2 _ _) (fun obj => F.args_object_init_3 obj _ _) F.entry_zip_new
    (zip_made l1 l2 xs ys) ⟨hl1, hl2, ?_⟩
  have z1 : (zH1 s.heap l1).objs.size = s.heap.objs.size + 1 := Heap.size_push ..
  have z2 : (zH2 s.heap l1 l2).objs.size = s.heap.objs.size + 2 := by rw [Heap.size_push, z1]
  have z3 : (zH3 s.heap l1 l2).objs.size = s.heap.objs.size + 3 := by rw [Heap.size_push, z2]
  have z4 : (zH4 s.heap l1 l2).objs.size = s.heap.objs.size + 4 := by rw [Heap.size_push, z3]
  have z5 : (zH5 s.heap l1 l2).objs.size = s.heap.objs.size + 5 := by rw [Heap.size_push, z4]
  have g5 : (zH5 s.heap l1 l2).get? (zH4 s.heap l1 l2).objs.size = some _ := Heap.get?_push_size _ rfl
  have g4 : (zH5 s.heap l1 l2).get? (zH3 s.heap l1 l2).objs.size = some _ := Heap.get?_push_of_some _ (Heap.get?_push_size _ rfl)
  have g3 : (zH5 s.heap l1 l2).get? (zH2 s.heap l1 l2).objs.size = some _ := Heap.get?_push_of_some _ (Heap.get?_push_of_some _ (Heap.get?_push_size _ rfl))
  have g2 : (zH5 s.heap l1 l2).get? (zH1 s.heap l1).objs.size = some _ := Heap.get?_push_of_some _ (Heap.get?_push_of_some _ (Heap.get?_push_of_some _ (Heap.get?_push_size _ rfl)))
  have g1 : (zH5 s.heap l1 l2).get? s.heap.objs.size = some _ := Heap.get?_push_of_some _ (Heap.get?_push_of_some _ (Heap.get?_push_of_some _ (Heap.get?_push_of_some _ (Heap.get?_push_size _ rfl))))
  have up : ∀ c o, s.heap.get? c = some o → (zH5 s.heap l1 l2).get? c = some o := fun c o x => Heap.get?_push_of_some _ (Heap.get?_push_of_some _ (Heap.get?_push_of_some _ (Heap.get?_push_of_some _ (Heap.get?_push_of_some _ x))))
  show _ ∧ _
  rw [z2, z3, z4] at g5
  rw [z1, z2] at g3
  rw [z3] at g4
  rw [z1] at g2
  rw [z4]
  exact ⟨⟨_, g5, rfl⟩, h _ ⟨g5, g3, ⟨_, _, g4⟩, ⟨⟨_, g1, rfl, rfl⟩, let ⟨o, ho, r⟩ := hl1; ⟨o, up _ _ ho, r⟩⟩, ⟨⟨_, g2, rfl, rfl⟩, let ⟨o, ho, r⟩ := hl2; ⟨o, up _ _ ho, r⟩⟩⟩ z5 up⟩
end
end Mine

-- part G1
namespace Mine
/-- the code table of add_callers -/
def Tbl (h : Heap) : Prop := ∃ ps, h.IsCode 27 23 ps ∧ h.TableAt 27 23 ps
theorem code_keep {h h' : Heap} {ps : Array Value} (x : h.IsCode 27 23 ps) (k1 : ∀ o, h.get? 27 = some o → h'.get? 27 = some o) (k2 : ∀ o, h.get? 23 = some o → h'.get? 23 = some o) : h'.IsCode 27 23 ps :=
  let ⟨o, vs, file, tf, flags, tg, inF, text, tt, op, a, r1, r2, r3, r4, r5, r6, b, r⟩ := x
  ⟨o, vs, file, tf, flags, tg, inF, text, tt, op, k1 _ a, r1, r2, r3, r4, r5, r6, k2 _ b, r⟩
theorem table_keep {h h' : Heap} {ps : Array Value} (x : h.TableAt 27 23 ps) (k1 : ∀ o, h.get? 27 = some o → h'.get? 27 = some o) (k2 : ∀ o, h.get? 23 = some o → h'.get? 23 = some o) : h'.TableAt 27 23 ps :=
  let ⟨⟨o, vs, a, r⟩, b⟩ := x; ⟨⟨o, vs, k1 _ a, r⟩, k2 _ b⟩
/-- as Kp, but generators and the code table may grow -/
structure Gs (s s' : Shared) : Prop where
  heap : ∀ b o, b ≠ 23 → s.heap.get? b = some o → s'.heap.get? b = some o
  tbl : ∀ ps, s.heap.IsCode 27 23 ps → s.heap.TableAt 27 23 ps → ∃ more, s'.heap.IsCode 27 23 (ps ++ more) ∧ s'.heap.TableAt 27 23 (ps ++ more)
  gens : AllBare s.gens → AllBare s'.gens
  drawn : s'.drawn = s.drawn
  os : s'.os = s.os
theorem Gs.rfl' (s : Shared) : Gs s s := ⟨fun _ _ _ e => e, fun ps a b => ⟨#[], by simpa using a, by simpa using b⟩, id, rfl, rfl⟩
theorem Gs.trans {a b c : Shared} (x : Gs a b) (y : Gs b c) : Gs a c :=
  ⟨fun p o hp e => y.heap p o hp (x.heap p o hp e), fun ps h1 h2 => by
    obtain ⟨m1, q1, q2⟩ := x.tbl ps h1 h2
    obtain ⟨m2, r1, r2⟩ := y.tbl _ q1 q2
    exact ⟨m1 ++ m2, by rw [← Array.append_assoc]; exact r1, by rw [← Array.append_assoc]; exact r2⟩, fun h => y.gens (x.gens h), y.drawn.trans x.drawn, y.os.trans x.os⟩
theorem Kp.gs {s s' : Shared} (k : Kp s s') : Gs s s' := by
  have x := k.ext
  obtain ⟨h', tk, rfl, _⟩ := k
  exact ⟨fun b o _ e => x b o e, fun ps a b => ⟨#[], by simpa using code_keep a (fun o e => x _ o e) (fun o e => x _ o e), by simpa using table_keep b (fun o e => x _ o e) (fun o e => x _ o e)⟩, id, rfl, rfl⟩
theorem Gs.table {s s' : Shared} (g : Gs s s') (t : Tbl s.heap) : Tbl s'.heap := let ⟨ps, a, b⟩ := t; let ⟨_, c, d⟩ := g.tbl ps a b; ⟨_, c, d⟩
theorem Tbl.alive {h : Heap} (t : Tbl h) : (∃ o, h.get? 23 = some o) ∧ ∃ o, h.get? 27 = some o := let ⟨_, _, ⟨⟨o, _, a, _⟩, b⟩⟩ := t; ⟨⟨_, b⟩, ⟨o, a⟩⟩

section
variable {prog : Program} {w : World} {h₀ : Heap} {k : Nat} {sc : Scope} {σ : Ctx0} {Y : Addr → Prop} {Rl : Shared → Prop} {env : Env} {X : Addr → Prop} {s : Shared} {mg mb : Str → Option Value}
theorem See.gs {s' : Shared} (hs : See prog w h₀ env X σ s) (h23 : X 23) (hf : ¬ FmAddr env 23) (hh : ∀ x d, σ.lookup x = some (false, d) → ∀ m, Fm env m s.heap → m x ≠ some (.ref 23)) (t : Tbl s'.heap) (g : Gs s s') : See prog w h₀ env X σ s' := by
  obtain ⟨m, f, n⟩ := hs.fm
  have hX : ∀ b o, ¬ X b → s.heap.get? b = some o → ¬ X b ∧ s'.heap.get? b = some o := fun b o hb e => ⟨hb, g.heap b o (fun q => hb (q ▸ h23)) e⟩
  refine ⟨fun b o hb e => g.heap b o hb (hs.st b o hb e), fun a ha => ?_, m, f.mono fun b o hb e => g.heap b o (fun q => hf (q ▸ hb)) e, fun x b d e => ?_⟩
  · by_cases q : a = 23
    · subst q; exact t.alive.1
    · obtain ⟨o, ho⟩ := hs.live a ha; exact ⟨o, g.heap a o q ho⟩
  · obtain ⟨v, hv, r⟩ := n x b d e
    refine ⟨v, hv, ?_⟩
    cases b with
    | true => exact Rep.mono r hX
    | false => exact Rep1.mono r (fun a ea o e' => g.heap a o (fun q => hh x d e m f (by rw [hv, ea, q])) e') hX
/-- what a frame must know to let generators and the table grow -/
structure Gr (Y : Addr → Prop) (Rl : Shared → Prop) (X : Addr → Prop) : Prop where
  x : X 23
  y : ¬ Y 23
  step : ∀ s s', Rl s → Gs s s' → Rl s'
  tbl : ∀ s, Rl s → Tbl s.heap
theorem Inv.gs {s' : Shared} (i : Inv prog w h₀ Y Rl env X σ s) (gr : Gr Y Rl X) (g : Gs s s') : Inv prog w h₀ Y Rl env X σ s' := by
  obtain ⟨m, f, n, h1, h2⟩ := i.fm
  have t := g.table (gr.tbl s i.rel)
  have hX : ∀ b o, ¬ X b → s.heap.get? b = some o → ¬ X b ∧ s'.heap.get? b = some o := fun b o hb e => ⟨hb, g.heap b o (fun q => hb (q ▸ gr.x)) e⟩
  refine ⟨fun b o hb e => g.heap b o hb (i.st b o hb e), fun a ha => ?_, ⟨m, f.mono fun b o hb e => g.heap b o (fun q => gr.y (q ▸ (i.fa b hb).2)) e, fun x b d e => ?_, h1, h2⟩, i.fa, fun a ha => ?_, i.base, i.rstep, gr.step s s' i.rel g⟩
  · by_cases q : a = 23
    · subst q; exact t.alive.1
    · obtain ⟨o, ho⟩ := i.live a ha; exact ⟨o, g.heap a o q ho⟩
  · obtain ⟨v, hv, r⟩ := n x b d e
    refine ⟨v, hv, ?_⟩
    cases b with
    | true => exact Rep.mono r hX
    | false =>
      obtain ⟨a0, e0, _, y0, _⟩ := h1 x d e
      exact Rep1.mono r (fun a ea o e' => g.heap a o (fun q => gr.y (by rw [hv] at e0; cases e0; cases ea; exact q ▸ y0)) e') hX
  · cases q : s.heap.get? a with
    | none => exact i.new a q
    | some o =>
      by_cases q2 : a = 23
      · subst q2; obtain ⟨o', ho'⟩ := t.alive.1; rw [ho'] at ha; cases ha
      · have := g.heap a o q2 q; rw [this] at ha; cases ha
theorem Within.gr' {Y' : Addr → Prop} {Rl' : Shared → Prop} {X' : Addr → Prop} (wi : Within Y Rl X Y' Rl' X') (gr : Gr Y Rl X) : Gr Y' Rl' X' :=
  ⟨wi.x _ gr.x, fun q => gr.y (wi.y _ q), fun s s' h g => wi.gr gr.x Gs (fun _ _ g => g.heap) gr.step s s' h g, fun s h => gr.tbl s (wi.rl s h)⟩

/-- the module behind the name __builtins__ -/
def Mod (h₀ : Heap) (mg : Str → Option Value) : Prop := ∃ bm ob, mg "__builtins__" = some (.ref bm) ∧ bm ≠ builtinsNs ∧ bm ≠ 23 ∧ h₀.get? bm = some ob ∧ ob.cls = .type "module" ∧ ob.dict = some builtinsNs ∧ ob.data = .plain
theorem reps_of_get {h : Heap} : ∀ {ds : List D} {vs : List Value}, ds.length = vs.length → (∀ (j : Nat) d v, ds[j]? = some d → vs[j]? = some v → Rep prog w X h d v) → Reps prog w X h ds vs
  | [], [], _, _ => .nil
  | d :: ds, v :: vs, hl, hh => .cons (hh 0 d v rfl rfl) (reps_of_get (by simpa using hl) fun j d' v' e1 e2 => hh (j + 1) d' v' (by simpa using e1) (by simpa using e2))
end
end Mine

-- part G2
namespace Mine
section
variable {prog : Program} {w : World} {h₀ : Heap} {k : Nat} {sc : Scope} {σ : Ctx0} {Y : Addr → Prop} {Rl : Shared → Prop} {env : Env} {X : Addr → Prop} {s : Shared} {mg mb : Str → Option Value} {A : Around} {E : Value → Shared → Prop}
theorem passing_all (n : Nat) : passing (fun _ => true) n 0 = List.range n := by
  unfold passing; rw [List.drop_zero, List.filter_eq_self]; exact fun _ _ => rfl

theorem zip_apart {n l1 l2 : Addr} (h1 : l1 < n) (h2 : l2 < n) : ZipApart (n + 4) (n + 2) (n + 3) n (n + 1) l1 l2 := zipApart_new h1 h2

/-- the code of the generator is made, or found -/
theorem gen_code {pos : Pos} {qn : Str} {scope : Scope} {Q : Value → Shared → Prop} (hc : env.code = .ref 27) (t : Tbl s.heap)
    (hQ : ∀ code h' tk, Gs s { s with heap := h', toks := tk } → (∀ b o, b ≠ 23 → s.heap.get? b = some o → h'.get? b = some o) → s.heap.objs.size ≤ h'.objs.size → Tbl h' → Q code { s with heap := h', toks := tk }) : wpAny (model prog w) A (genexprCode env pos qn scope) Q E s := by
  obtain ⟨ps, c, tb⟩ := t
  cases hf : codeAmong pos ps.toList with
  | some c' => exact wpAny_genexprCode_hit hc c hf (hQ c' s.heap s.toks (Gs.rfl' s) (fun _ _ _ e => e) (Nat.le_refl _) ⟨ps, c, tb⟩)
  | none =>
    refine wpAny_genexprCodeX hc c tb hf fun c' h' tk hx hlt hlt2 hc' hr ht hP => ?_
    refine hQ _ h' tk ⟨fun b o hb e => hx b o hb e, fun ps' c2 t2 => ?_, id, rfl, rfl⟩ (fun b o hb e => hx b o hb e) (by omega) ⟨_, hc', ht⟩
    have : ps' = ps := by
      have e := t2.2.symm.trans tb.2
      injection e with e; injection e with _ _ e3; injection e3
    subst this
    exact ⟨_, hc', ht⟩

def joined (as bs : List Str) : List Str := List.zipWith (fun a b => a ++ b) as bs

theorem gen_tuple (B : Bs h₀ mg mb) (Mo : Mod h₀ mg) {as bs : List Str} {np zp p1 p2 p3 p4 p5 p6 p8 gpos pos : Pos} {kt : Nat} {ea eb : Expr} {scope : Scope} {b1 b2 : Bool} {Q : Value → Shared → Prop}
    (hgt : Gv prog w h₀ sc (.Name "tuple" np) (.type "tuple")) (hgz : Gv prog w h₀ sc (.Name "zip" zp) (.type "zip")) (ha : Ev prog w h₀ k sc σ ea b1 (rowD as)) (hb : Ev prog w h₀ k sc σ eb b2 (rowD bs))
    (hsz : ∀ a ∈ as, a.length ≤ 100000) (hsz2 : ∀ b ∈ bs, b.length ≤ 100000) (hn : as.length ≤ 1000)
    (he : env.scope = sc) (hco : env.code = .ref 27) (hr : Room A k) (hs : See prog w h₀ env X σ s) (h23 : X 23) (hf : ¬ FmAddr env 23) (t : Tbl s.heap)
    (hgc : scope.isCoroutine = false) (hgk : scope.kind = .function) (hg0 : scope.names.lookup (".0" : Str) = some .local) (hgi : scope.names.lookup ("i" : Str) = some .local) (hgj : scope.names.lookup ("j" : Str) = some .local)
    (hgp : ∀ y ∈ scope.names, y.2 = .local) (hst2 : ∀ env, starEach [ea, eb] env = [(false, eval ea env), (false, eval eb env)])
    (hq : ∀ v s', Gs s s' → Rep prog w X s'.heap (rowD (joined as bs)) v → Q v s') :
    wpAny (model prog w) A (eval (.Call (.Name "tuple" np) [.GeneratorExp (.BinOp (.Name "i" p1) .Add (.Name "j" p2) p3) [⟨.Tuple [.Name "i" p4, .Name "j" p5] kt p6, .Call (.Name "zip" zp) [ea, eb] [] p8, [], 0⟩] scope gpos] [] pos) env) Q E s := by
  have hrl : recursionLimit = 1000 := rfl
  have hdep := hr.depth
  refine wpAny_Call_NameR (hgt A env X σ s _ E he hs ?_)
  refine callWith_of (P := Stands h₀) rfl (plainly_type _) ?_
  refine Calls.evalArgs_plain (rest := []) ?_
  refine wpAny_items_cons (M := model prog w) (e := .GeneratorExp (.BinOp (.Name "i" p1) .Add (.Name "j" p2) p3) [⟨.Tuple [.Name "i" p4, .Name "j" p5] kt p6, .Call (.Name "zip" zp) [ea, eb] [] p8, [], 0⟩] scope gpos) (rest := []) ?_ rfl
  refine wpAny_GeneratorExp_walksQT (cl := clo env.cells scope.names []) hr.handled hgc (closure_is fun n kd hm hk => by have := hgp _ hm; rw [hk] at this; cases this) (fun y hy q => by have := hgp y hy; rw [q] at this; cases this) hg0 hgi hgj (by decide) hgk (by omega) ?_ (fun _ => rfl)
  refine call_two hgz (plainly_type _) ha hb hst2 he hr hs fun v1 v2 s1 k1 r1 r2 => ?_
  obtain ⟨l1, vs1, rfl, t1, rs1⟩ := r1.one
  obtain ⟨l2, vs2, rfl, t2, rs2⟩ := r2.one
  have hs1 := hs.keeps k1
  refine call_zip t1 t2 fun h2 zt hsz5 up2 => ?_
  refine wpAny_pyIter_zip zt.z ?_
  have k2 : Kp s1 { s1 with heap := h2 } := ⟨h2, s1.toks, rfl, up2⟩
  have hs2 := hs1.keeps k2
  refine ⟨lim_stands B.lim hs2.st, ?_⟩
  refine gen_code hco (Gs.table (k1.trans k2).gs t) fun code h3 tk3 g3 up3 hle3 t3 => ?_
  have n23 : 23 < s1.heap.objs.size := by obtain ⟨⟨o, ho⟩, _⟩ := t.alive; exact Heap.lt_size (k1.ext _ _ ho)
  have hl1 : l1 < s1.heap.objs.size := by obtain ⟨o, ho, _⟩ := t1; exact Heap.lt_size ho
  have hl2 : l2 < s1.heap.objs.size := by obtain ⟨o, ho, _⟩ := t2; exact Heap.lt_size ho
  obtain ⟨ps1, _, tab1⟩ := Gs.table k1.gs t
  have ne1 : l1 ≠ 23 := by rintro rfl; obtain ⟨o, ho, hc, _⟩ := t1; rw [tab1.2] at ho; cases ho; cases hc
  have ne2 : l2 ≠ 23 := by rintro rfl; obtain ⟨o, ho, hc, _⟩ := t2; rw [tab1.2] at ho; cases ho; cases hc
  have D := zip_apart hl1 hl2
  have hgl : env.globals = mainGlobals := let ⟨_, f, _⟩ := hs.fm; f.gl
  have st3 : Stands h₀ h3 := fun b o hb e => up3 b o hb (hs2.st b o hb e)
  obtain ⟨bm, ob, m1, m2, m3, m4, m5, m6, m7⟩ := Mo
  refine wpAny_builtinsFor (m := mg) (by rw [hgl]; exact ns_stands B.g st3 (by decide)) m1 m2 (st3 _ _ m3 m4) m5 m6 m7 ?_
  have zt3 : Zt (s1.heap.objs.size + 4) (s1.heap.objs.size + 2) (s1.heap.objs.size + 3) s1.heap.objs.size (s1.heap.objs.size + 1) l1 l2 vs1.toArray vs2.toArray .none 0 0 h3 := by
    refine (walk_zip (prog := prog) (w := w) hr.handled _ _ _ _ _ _ _ D vs1.toArray vs2.toArray).frame 0 h2 h3 zt fun b hb o e => up3 b o ?_ e
    simp only [List.mem_cons, List.not_mem_nil, or_false] at hb
    have ge : ∀ b : Nat, s1.heap.objs.size ≤ b → b ≠ 23 := fun b h => by omega
    rcases hb with rfl | rfl | rfl | rfl | rfl | rfl | rfl
    · exact ge _ (Nat.le_add_right _ _)
    · exact ge _ (Nat.le_add_right _ _)
    · exact ge _ (Nat.le_add_right _ _)
    · exact ge _ (Nat.le_refl _)
    · exact ge _ (Nat.le_add_right _ _)
    · exact ne1
    · exact ne2
  have hlen : (min vs1.toArray.size vs2.toArray.size) = (joined as bs).length := by
    have e1 := rs1.length; have e2 := rs2.length
    simp only [List.length_map] at e1 e2
    simp [joined, e1, e2]
  refine ⟨_, _, _, _, _, _, _, fun _ => true, fun i y => ∃ a b tk, as[i]? = some a ∧ bs[i]? = some b ∧ y = .str (a ++ b) tk, rfl, fun A' hA' => walk_zip hA' _ _ _ _ _ _ _ D vs1.toArray vs2.toArray, fun i vals ⟨x, y, _, _, e⟩ => ⟨x, y, e⟩, zt3, ?_, lim_stands B.lim st3, ?_, ?_, ?_⟩
  · intro b hb
    simp only [List.mem_cons, List.not_mem_nil, or_false] at hb
    have hle3' : h2.objs.size ≤ h3.objs.size := hle3
    have gl : ∀ b : Nat, b < s1.heap.objs.size + 5 → b < h3.objs.size := fun b h => by omega
    have q0 : s1.heap.objs.size < s1.heap.objs.size + 5 := by omega
    rcases hb with rfl | rfl | rfl | rfl | rfl | rfl | rfl
    · exact gl _ (Nat.lt_succ_self _)
    · exact gl _ (Nat.add_lt_add_left (by decide) _)
    · exact gl _ (Nat.add_lt_add_left (by decide) _)
    · exact gl _ q0
    · exact gl _ (Nat.add_lt_add_left (by decide) _)
    · exact gl _ (Nat.lt_trans hl1 q0)
    · exact gl _ (Nat.lt_trans hl2 q0)
  · have hc : cStatics < s1.heap.objs.size := let ⟨_, hn, _⟩ := lim_stands B.lim hs1.st; hn.lt
    have ge : ∀ b : Nat, s1.heap.objs.size ≤ b → cStatics ≠ b := fun b h => Nat.ne_of_lt (Nat.lt_of_lt_of_le hc h)
    intro hb
    simp only [List.mem_cons, List.not_mem_nil, or_false] at hb
    rcases hb with h | h | h | h
    · exact ge _ (Nat.le_add_right _ _) h
    · exact ge _ (Nat.le_add_right _ _) h
    · exact ge _ (Nat.le_refl _) h
    · exact ge _ (Nat.le_add_right _ _) h
  · intro href _
    refine ⟨fun A' E' i va vb s₂ m₂ _ _ _ _ _ _ => wpAny_tests_nil ⟨rfl, s₂.heap, s₂.toks, rfl, fun _ _ e => e⟩, fun A' E' i va vb s₂ m₂ _ hP _ hns ha' hb' _ => ?_⟩
    obtain ⟨x, y, hx, hy, e⟩ := hP
    obtain ⟨rfl, rfl⟩ : va = x ∧ vb = y := by simpa using e
    have gx : ∀ {as : List Str} {vs : List Value} {v : Value}, Reps prog w X s1.heap (as.map .str) vs → vs.toArray[i]? = some v → ∃ a t, as[i]? = some a ∧ v = .str a t := by
      intro as vs v rs hv
      have hv' : vs[i]? = some v := by simpa using hv
      have hi : i < as.length := by
        have := rs.length; simp at this
        rcases Nat.lt_or_ge i vs.length with q | q
        · omega
        · rw [List.getElem?_eq_none q] at hv'; cases hv'
      obtain ⟨v', hv2, rv⟩ := rs.get (i := i) (d := .str as[i]) (by simp [hi])
      rw [hv'] at hv2; cases hv2
      cases rv with | str _ t => exact ⟨as[i], t, by simp [hi], rfl⟩
    obtain ⟨a, ta, ea', rfl⟩ := gx rs1 hx
    obtain ⟨b, tb, eb', rfl⟩ := gx rs2 hy
    have kl : ∀ {x : Str}, scope.names.lookup x = some .local → Env.kindOf (genEnv scope (clo env.cells scope.names []) h3.objs.size code builtinsNs env) x = some .local := fun h => h
    refine wpAny_BinOp (wpAny_Name (wpAny_loadName_local hgk (kl hgi) hns ha' (wpAny_Name (wpAny_loadName_local hgk (kl hgj) hns hb' ?_) (by decide +kernel))) (by decide +kernel))
    refine SB.add (fun t' k' => ⟨⟨a, b, _, ea', eb', rfl⟩, s₂.heap, _, rfl, fun _ _ e => e⟩) ?_
    have := hsz a (List.mem_of_getElem? ea'); have := hsz2 b (List.mem_of_getElem? eb')
    rw [sizeLine_eq]; omega
  · intro a h5 tk5 gs hgs hlt hsz5' up5 W G0
    refine wpAny_items_nil ⟨fun b o hb e => up5 b o (st3 b o hb e), ?_⟩
    have W' := WalksS.in4_3 W
    refine call_tuple_gen W' (fun i s' st => st.1.typeIs) G0 ?_ (List.mem_cons_self ..) (fun s' acc mv hacc => ?_) ?_
    · intro b hb
      have hlt' : h3.objs.size < a := hlt
      have hsz6 : h5.objs.size = a + 1 := hsz5'
      show b < h5.objs.size
      rw [hsz6]
      rcases List.mem_cons.mp hb with rfl | hb
      · exact Nat.lt_succ_self _
      rcases List.mem_cons.mp hb with rfl | hb
      · exact Nat.lt_succ_of_lt hlt'
      · have q : b < h3.objs.size := List.mem_range.mp hb
        exact Nat.lt_succ_of_lt (Nat.lt_trans q hlt')
    · have hle1 : ∀ b o, s.heap.get? b = some o → b < s1.heap.objs.size := fun b o e => Heap.lt_size (k1.ext _ _ e)
      have hle3' : h2.objs.size ≤ h3.objs.size := hle3
      have notw : ∀ b o, s.heap.get? b = some o → b ∉ (h3.objs.size :: [s1.heap.objs.size + 4, s1.heap.objs.size + 3, s1.heap.objs.size, s1.heap.objs.size + 1]) := by
        intro b o e hm
        have q : b < s1.heap.objs.size := hle1 b o e
        have ge : ∀ c : Nat, s1.heap.objs.size ≤ c → b ≠ c := fun c h => Nat.ne_of_lt (Nat.lt_of_lt_of_le q h)
        simp only [List.mem_cons, List.not_mem_nil, or_false] at hm
        rcases hm with h | h | h | h | h
        · exact ge _ (by omega) h
        · exact ge _ (Nat.le_add_right _ _) h
        · exact ge _ (Nat.le_add_right _ _) h
        · exact ge _ (Nat.le_refl _) h
        · exact ge _ (Nat.le_add_right _ _) h
      have g03 : Gs s { s1 with heap := h3, toks := tk3 } := (k1.trans k2).gs.trans g3
      have fin : ∀ b o, (∃ o', s.heap.get? b = some o') → h3.get? b = some o → s'.heap.get? b = some o := fun b o ⟨o', e⟩ e3 => mv.heap b o (notw b o' e) (up5 b o e3)
      have g : Gs s { s' with heap := s'.heap.push { cls := .type "tuple", data := .seq acc } } := by
        refine ⟨fun b o hb e => Heap.get?_push_of_some _ (fin b o ⟨o, e⟩ (g03.heap b o hb e)), fun ps c tb => ?_, fun hg => ?_, ?_, ?_⟩
        · obtain ⟨more, c3, tb3⟩ := g03.tbl ps c tb
          have a23 : ∃ o, s.heap.get? 23 = some o := t.alive.1
          have a27 : ∃ o, s.heap.get? 27 = some o := t.alive.2
          exact ⟨more, code_keep c3 (fun o e => Heap.get?_push_of_some _ (fin _ o a27 e)) (fun o e => Heap.get?_push_of_some _ (fin _ o a23 e)), table_keep tb3 (fun o e => Heap.get?_push_of_some _ (fin _ o a27 e)) (fun o e => Heap.get?_push_of_some _ (fin _ o a23 e))⟩
        · have h1 : AllBare s1.gens := k1.gs.gens hg
          exact AllBare.moved (AllBare.push h1 hgs) mv.gens
        · exact mv.drawn.trans k1.gs.drawn
        · exact mv.os.trans k1.gs.os
      have hta : (s'.heap.push { cls := .type "tuple", data := .seq acc }).IsTuple s'.heap.objs.size acc.toList.toArray := by rw [Array.toArray_toList]; exact ⟨_, Heap.get?_push_size _ rfl, rfl, _, rfl⟩
      refine hq _ _ g (.tup ?_ hta (reps_of_get ?_ ?_))
      · intro hx
        obtain ⟨o, ho⟩ := hs.live _ hx
        have : ∃ o', s'.heap.get? s'.heap.objs.size = some o' := by
          by_cases q : s'.heap.objs.size = 23
          · obtain ⟨ps3, _, tb3⟩ := t3
            exact ⟨_, fin _ _ ⟨o, ho⟩ (by rw [q]; exact tb3.2)⟩
          · exact ⟨o, fin _ o ⟨o, ho⟩ (g03.heap _ o q ho)⟩
        obtain ⟨o', ho'⟩ := this
        exact Nat.lt_irrefl _ (Heap.lt_size ho')
      · have e1 := hacc.1
        rw [passing_all, List.length_range, hlen] at e1
        rw [List.length_map]; exact e1.symm
      · intro j d v hd hv
        obtain ⟨i, hi, a', b', t', ea', eb', rfl⟩ := hacc.2 j v (by rw [← Array.getElem?_toList]; exact hv)
        rw [passing_all] at hi
        have : i = j := by
          rw [List.getElem?_range] at hi
          · exact (Option.some.inj hi).symm
          · rcases Nat.lt_or_ge j (min vs1.toArray.size vs2.toArray.size) with q | q
            · exact q
            · rw [List.getElem?_eq_none (by simpa using q)] at hi; cases hi
        subst this
        have hj : (joined as bs)[i]? = some (a' ++ b') := by unfold joined; rw [List.getElem?_zipWith]; simp [ea', eb']
        rw [List.getElem?_map, hj] at hd
        cases hd
        exact .str _ _
    · rw [passing_all, List.length_range, hlen, sizeLine_eq]
      have : (joined as bs).length ≤ as.length := by unfold joined; rw [List.length_zipWith]; exact Nat.min_le_left _ _
      omega
end
end Mine

-- part G3
namespace Mine
def framesOf (l : List Env) : List Addr := l.filterMap (·.frame)
/-- the frames below: hot, and no records -/
def Frames (X : Addr → Prop) (h : Heap) (l : List Env) : Prop := ∀ env ∈ l, env.scope.kind ≠ .module ∧ ∃ L o, env.frame = some L ∧ X L ∧ h.get? L = some o ∧ ∀ vs, o.data ≠ .fields vs
theorem Frames.mem {X : Addr → Prop} {h : Heap} {l : List Env} (f : Frames X h l) {b : Addr} (hb : b ∈ framesOf l) : X b ∧ ∃ o, h.get? b = some o ∧ ∀ vs, o.data ≠ .fields vs := by
  obtain ⟨env, he, hf⟩ := List.mem_filterMap.mp hb
  obtain ⟨_, L, o, hL, hX, ho, hd⟩ := f env he
  rw [hL] at hf; cases hf
  exact ⟨hX, o, ho, hd⟩
theorem Frames.fun {X : Addr → Prop} {h B : Heap} : ∀ {l : List Env}, Frames X h l → (∀ b ∈ framesOf l, B.get? b = none) → h.FunFrames B l
  | [], _, _ => trivial
  | env :: r, f, hB => by
    obtain ⟨hk, L, o, hL, hX, ho, hd⟩ := f env (.head _)
    exact ⟨hk, ⟨L, o, hL, hB L (List.mem_filterMap.mpr ⟨env, .head _, hL⟩), ho, hd⟩, Frames.fun (fun e he => f e (.tail _ he)) fun b hb => hB b (by
      obtain ⟨e, he, hf⟩ := List.mem_filterMap.mp hb
      exact List.mem_filterMap.mpr ⟨e, .tail _ he, hf⟩)⟩
theorem Frames.gs {X : Addr → Prop} {s s' : Shared} {l : List Env} (f : Frames X s.heap l) (t : Tbl s.heap) (g : Gs s s') : Frames X s'.heap l := fun env he => by
  obtain ⟨hk, L, o, hL, hX, ho, hd⟩ := f env he
  refine ⟨hk, L, o, hL, hX, g.heap L o (fun q => ?_) ho, hd⟩
  subst q
  obtain ⟨ps, _, tb⟩ := t
  rw [tb.2] at ho; cases ho
  exact hd ps rfl

/-- a TypeError in flight above the frames of outer -/
structure Flight (outer : List Env) (s s1 : Shared) (e : Addr) (h' B : Heap) (a0 : Value) : Prop where
  gs : Gs s s1
  fly : Heap.FlyingW B outer e (.type "TypeError") a0 h'
  slots : s1.heap.UpToSlots h'
  keep : ∀ b o, b ≠ 23 → b ∉ framesOf outer → s.heap.get? b = some o → B.get? b = some o
  tb : ∀ o, s1.heap.get? 23 = some o → B.get? 23 = some o
def Thrown (outer : List Env) (s : Shared) (e : Addr) (s' : Shared) : Prop := ∃ s1 h' B a0, s' = { s1 with heap := h' } ∧ Flight outer s s1 e h' B a0
theorem not_frame {X : Addr → Prop} {h : Heap} {l : List Env} (f : Frames X h l) (t : Tbl h) : 23 ∉ framesOf l := fun hb => by
  obtain ⟨_, o, ho, hd⟩ := f.mem hb
  obtain ⟨ps, _, tb⟩ := t
  rw [tb.2] at ho; cases ho
  exact hd ps rfl
theorem frames_cons {env : Env} {outer : List Env} {L b : Addr} (hf : env.frame = some L) (hb : b ∈ framesOf (env :: outer)) : b = L ∨ b ∈ framesOf outer := by
  unfold framesOf at hb
  rw [List.filterMap_cons, hf] at hb
  exact List.mem_cons.mp hb

section
variable {prog : Program} {w : World} {h₀ : Heap} {k : Nat} {sc : Scope} {σ : Ctx0} {Y : Addr → Prop} {Rl : Shared → Prop} {X : Addr → Prop} {s s0 : Shared} {mg mb : Str → Option Value} {A : Around} {E : Value → Shared → Prop}

/-- a fresh exception leaves the frame -/
theorem leave_new {env : Env} {outer : List Env} {L e : Addr} {h' : Heap} {tk : Nat} {Q : Unit → Shared → Prop} (hfr : A.frames = some (env :: outer)) (hf : env.frame = some L) (f : Frames X s.heap (env :: outer)) (g : Gs s0 s) (t : Tbl s.heap) (hL0 : s0.heap.get? L = none) (hx : Heap.NewExc s.heap h' e "TypeError")
    (hQ : ∀ s', Thrown outer s0 e s' → Q () s') : wpAny (model prog w) A (leaving env (.ref e)) Q E { s with heap := h', toks := tk } := by
  obtain ⟨ob, a0, he, hc, hd⟩ := hx.there
  have hB : (hideAll s.heap (framesOf (env :: outer))).StaysIn h' := fun b o q => hx.keeps b o (of_hideAll _ q)
  have hen : (hideAll s.heap (framesOf (env :: outer))).get? e = none := by
    cases q : (hideAll s.heap (framesOf (env :: outer))).get? e with
    | none => rfl
    | some o => have := of_hideAll _ q; rw [hx.new] at this; cases this
  have ff : h'.FunFrames (hideAll s.heap (framesOf (env :: outer))) (env :: outer) := (f.fun fun b hb => hideAll_none _ hb).of_keeps fun b o ho _ => ⟨o, hx.keeps b o ho, rfl⟩
  refine wpAny_leaving_firstW (s := { s with heap := h', toks := tk }) (a0 := a0) hfr ff hf he hB hen hd rfl rfl fun h2 hL => ?_
  obtain ⟨k1, ⟨_, _, k2⟩, k3, k4⟩ := hL
  have kp : Kp s { s with heap := h', toks := tk } := ⟨h', tk, rfl, hx.keeps⟩
  refine hQ _ ⟨{ s with heap := h', toks := tk }, h2, hideAll s.heap (framesOf (env :: outer)), a0, rfl, g.trans kp.gs, ⟨k1, hen, k2, by rw [← hc]; exact k3⟩, k4, fun b o h23 hb ho => ?_, fun o ho => ?_⟩
  · refine hideAll_get _ (g.heap b o h23 ho) fun hm => ?_
    rcases frames_cons hf hm with rfl | hm
    · rw [hL0] at ho; cases ho
    · exact hb hm
  · obtain ⟨⟨o', ho'⟩, _⟩ := t.alive
    have e1 : h'.get? 23 = some o' := hx.keeps _ _ ho'
    have e2 : h'.get? 23 = some o := ho
    rw [e1] at e2; cases e2
    exact hideAll_get _ ho' (not_frame f t)
/-- an exception in flight leaves the frame too -/
theorem leave_on {env : Env} {outer : List Env} {L e : Addr} {s2 : Shared} {Q : Unit → Shared → Prop} (hfr : A.frames = some (env :: outer)) (hf : env.frame = some L) (g : Gs s0 s) (hL0 : s0.heap.get? L = none) (hx : Thrown (env :: outer) s e s2)
    (hQ : ∀ s', Thrown outer s0 e s' → Q () s') : wpAny (model prog w) A (leaving env (.ref e)) Q E s2 := by
  obtain ⟨s1, h', B, a0, rfl, fl⟩ := hx
  refine wpAny_leaves_onW (s := { s1 with heap := h' }) hfr hf fl.fly fun h2 hfl hsl => hQ _ ⟨s1, h2, B, a0, rfl, g.trans fl.gs, hfl, fl.slots.trans hsl, fun b o h23 hb ho => fl.keep b o h23 (fun hm => ?_) (g.heap b o h23 ho), fl.tb⟩
  rcases frames_cons hf hm with rfl | hm
  · rw [hL0] at ho; cases ho
  · exact hb hm

/-- a def that may raise: what it gives, or none -/
def FnR (prog : Program) (w : World) (h₀ : Heap) (k : Nat) (fa : Addr) (args : List D) (res : Option D) : Prop :=
  ∀ (A : Around) (X : Addr → Prop) (s : Shared) (vs : List Value) (Q : Value → Shared → Prop) (E : Value → Shared → Prop) (outer : List Env), Room A k → Stands h₀ s.heap → (∀ a, X a → ∃ o, s.heap.get? a = some o) → X 23 → Tbl s.heap →
    A.frames = some outer → Frames X s.heap outer → Reps prog w X s.heap args vs →
    (∀ d, res = some d → ∀ v s', Gs s s' → Rep prog w X s'.heap d v → Q v s') → (res = none → ∀ e s', Thrown outer s e s' → E (.ref e) s') → wpAny (model prog w) A (call (.ref fa) vs) Q E s

/-- what a body that may raise must come to -/
def EndsR (prog : Program) (w : World) (Y : Addr → Prop) (Rl : Shared → Prop) (X : Addr → Prop) (res : Option D) (f : Flow) (s' : Shared) : Prop :=
  ∃ d, res = some d ∧ Ends prog w Y Rl X d f s'

theorem fnR_of {fa name ps body scope code} (F : IsFn h₀ fa name ps body scope code) (lim : h₀.NoLimit) {args : List D} {res : Option D} (hl : args.length = ps.length)
    (h : ∀ (A : Around) (env : Env) (outer : List Env) (Y : Addr → Prop) (Rl : Shared → Prop) (X : Addr → Prop) (s : Shared) (E : Value → Shared → Prop), env.scope = scope → env.code = code → interactive env = false → Room A k → A.frames = some (env :: outer) →
      Inv prog w h₀ Y Rl env X (ctxOf ps args) s → Gr Y Rl X → (∀ s, Rl s → Frames X s.heap outer) → env.frame = some env.locals → PassesOwn (model prog w) A env E →
      (res = none → ∀ s1 h' tk e, Rl s1 → Frames X s1.heap (env :: outer) → Heap.NewExc s1.heap h' e "TypeError" → E (.ref e) { s1 with heap := h', toks := tk }) →
      (res = none → ∀ s1 e s2, Rl s1 → Thrown (env :: outer) s1 e s2 → E (.ref e) s2) →
      wpAny (model prog w) A (execs body env) (EndsR prog w Y Rl X res) E s) :
    FnR prog w h₀ (k + 1) fa args res := by
  intro A X s vs Q E outer hr st live h23 t hfr hff r hq he
  refine wpAny_call (enter F lim (by have := hr.depth; have e : recursionLimit = 1000 := rfl; omega) st live hl r fun L X' s' hL hX hX' i => ?_)
  have hr' : Room (A.deeper (callEnv0 name scope code fa L)) k := ⟨hr.handled, by show A.depth + 1 + k < 600; have := hr.depth; omega, by show A.units + 3 + 50 * k + 500 < cLine; have := hr.units; omega⟩
  have hin : interactive (callEnv0 name scope code fa L) = false := by
    show (scope.kind == .module && _) = false
    rw [F.kind]; rfl
  have hL0 : s.heap.get? L = none := none_new (Kp.rfl' s) hL
  have a23 := t.alive.1
  have a27 := t.alive.2
  have i' : Inv prog w h₀ (fun a => s.heap.get? a = none) (Gs s) (callEnv0 name scope code fa L) X' (ctxOf ps args) s' := by
    refine ⟨i.st, i.live, i.fm, i.fa, i.new, i.base, fun s1 h' tk g hk => ?_, i.rel.gs⟩
    have kk : ∀ b o, (∃ o', s.heap.get? b = some o') → s1.heap.get? b = some o → h'.get? b = some o := fun b o ⟨o', e⟩ e1 => hk b o (fun q => by have q' : s.heap.get? b = none := q; rw [e] at q'; cases q') e1
    refine ⟨fun b o hb e => kk b o ⟨o, e⟩ (g.heap b o hb e), fun ps c tb => ?_, g.gens, g.drawn, g.os⟩
    obtain ⟨more, c3, tb3⟩ := g.tbl ps c tb
    exact ⟨more, code_keep c3 (fun o e => kk _ o a27 e) (fun o e => kk _ o a23 e), table_keep tb3 (fun o e => kk _ o a27 e) (fun o e => kk _ o a23 e)⟩
  have n23 : ¬ s.heap.get? 23 = none := fun q => by obtain ⟨o, ho⟩ := a23; rw [ho] at q; cases q
  have gr : Gr (fun a => s.heap.get? a = none) (Gs s) X' := ⟨hX _ h23, n23, fun _ _ a b => Gs.trans a b, fun _ g => Gs.table g t⟩
  have hfX : ∀ s1, Gs s s1 → Frames X' s1.heap outer := fun s1 g env he => by
    obtain ⟨a, L, o, b, c, d⟩ := Frames.gs hff t g env he
    exact ⟨a, L, o, b, hX L c, d⟩
  have hfr' : (A.deeper (callEnv0 name scope code fa L)).frames = some (callEnv0 name scope code fa L :: outer) := Around.frames_deeper hfr
  refine wpAny_mono (h _ _ outer _ _ X' s' _ rfl rfl hin hr' hfr' i' gr hfX rfl PassesOwn.leaving (fun hres s1 h' tk e g f hx => ?_) (fun hres s1 e s2 g hx => ?_)) (fun f s'' hf => ?_) fun _ _ e => e
  · exact leave_new hfr' rfl f g (g.table t) hL0 hx fun s2 ht => he hres e s2 ht
  · exact leave_on hfr' rfl g hL0 hx fun s2 ht => he hres e s2 ht
  · obtain ⟨d, hres, v, X2, rfl, hX2, hkp, rv⟩ := hf
    refine hq d hres v s'' hkp (rv.mono fun b o hb e => ⟨fun q => hb (hX2 b (hX b q) fun q2 => ?_), e⟩)
    obtain ⟨o', ho'⟩ := live b q
    have q2' : s.heap.get? b = none := q2
    rw [q2'] at ho'; cases ho'
end
end Mine

-- part G4
namespace Mine
section
variable {prog : Program} {w : World} {A : Around} {E : Value → Shared → Prop} {s : Shared}
theorem int_no_iter : typeLookup (.type "int") "__iter__" = pure none := by rw [typeLookup_type, builtinLookup_eq_fast]; kernel_rfl
theorem int_no_getitem : typeLookup (.type "int") "__getitem__" = pure none := by rw [typeLookup_type, builtinLookup_eq_fast]; kernel_rfl
theorem pyIter_int {n : Int} {t : Tok} {Q : Value → Shared → Prop} (hh : A.handled = none) (hE : ∀ h' tk e, Heap.NewExc s.heap h' e "TypeError" → E (.ref e) { s with heap := h', toks := tk }) :
    wpAny (model prog w) A (pyIter (.int n t)) Q E s := by
  unfold pyIter
  refine wpAny_bind (wpAny_specialOf (typeIs_int s n t) int_no_iter ?_)
  refine wpAny_bind (wpAny_specialOf (typeIs_int s n t) int_no_getitem ?_)
  refine wpAny_bind (wpAny_rule ?_)
  refine wpAny_bind (wpAny_typeNameOf_int ?_)
  exact wpAny_raiseTypeError hh hE (by decide +kernel)

/-- a value that is no iterable -/
def NoIter (prog : Program) (w : World) (v : Value) : Prop := ∀ (A : Around) (s : Shared) (Q : Value → Shared → Prop) (E : Value → Shared → Prop), A.handled = none →
  (∀ h' tk e, Heap.NewExc s.heap h' e "TypeError" → E (.ref e) { s with heap := h', toks := tk }) → wpAny (model prog w) A (pyIter v) Q E s
theorem zip_raise {l1 : Addr} {xs : Array Value} {v : Value} {Q : Value → Shared → Prop} (hh : A.handled = none) (hl : s.heap.IsTuple l1 xs) (hv : NoIter prog w v)
    (hE : ∀ s1 h' tk e, Kp s s1 → Heap.NewExc s1.heap h' e "TypeError" → E (.ref e) { s1 with heap := h', toks := tk }) : wpAny (model prog w) A (call (.type "zip") [.ref l1, v]) Q E s := by
  refine callType_codes (Q₁ := fun _ _ => False) F.called_zip (F.typeCall_zip_2 _ _) F.entry_object_init ?_ fun _ _ h => h.elim
  refine codeAny_of_tree ?_
  show wpAny _ A.in1.in1 (do checkBuiltinCall "zip.__new__" ⟨[.type "zip", .ref l1, v], []⟩; again (.builtin "zip.__new__" ⟨[.type "zip", .ref l1, v], []⟩)) _ _ s
  have hq : plainId "zip.__new__" = true := by decide +kernel
  refine wpAny_bind (wpAny_of_eq (F.newCall_zip_2 _ _) (wpAny_pure ⟨plainId_quiet hq _, codeAny_builtin F.entry_zip_new ?_⟩))
  rw [Around.under_plainId hq _]
  have hsub := sub_zip
  have hv' : ∀ (s : Shared) (Q : Value → Shared → Prop) (E : Value → Shared → Prop), (∀ h' tk e, Heap.NewExc s.heap h' e "TypeError" → E (.ref e) { s with heap := h', toks := tk }) → wpAny (model prog w) A.in1.in1 (pyIter v) Q E s := fun s Q E h => hv A.in1.in1 s Q E hh h
  wp_walk using wpAny_pyIter_tuple hl, hv' _ _ _
  exact fun h' tk e hx => hE _ h' tk e (Kp.obj _) hx
theorem noIter_int {n : Int} {t : Tok} : NoIter prog w (.int n t) := fun _ _ _ _ hh hE => pyIter_int hh hE
end
end Mine

-- part G5
namespace Mine
section
variable {prog : Program} {w : World} {A : Around} {E : Value → Shared → Prop} {s : Shared}
theorem tup_no_iadd : typeLookup (.type "tuple") (dunderI "add") = pure none := by rw [typeLookup_type, builtinLookup_eq_fast]; kernel_rfl
theorem tup_no_radd : typeLookup (.type "tuple") (dunderR "add") = pure none := by rw [typeLookup_type, builtinLookup_eq_fast]; kernel_rfl
theorem tup_fill : fillsNumberSlot (.type "tuple") "add" = pure false := PySem.fillsNumberSlot_seq F.slot_tuple_add.lookup (by decide +kernel) tup_no_radd rfl
theorem tup_seq : seqSlot? (.type "tuple") "__add__" = pure (some (.builtin "tuple.__add__")) := PySem.seqSlot_of (name := "__add__") F.slot_tuple_add.lookup (by decide +kernel)
theorem int_radd_slot : PySem.Slot "int" (dunderR "add") "int.__radd__" := F.slot_int_radd
theorem int_fill : fillsNumberSlot (.type "int") "add" = pure true := by
  have h1 : typeLookup (.type "int") (dunder "add") = pure (some (.builtin "int.__add__")) := by rw [typeLookup_type, builtinLookup_eq_fast]; kernel_rfl
  have h2 : typeLookup (.type "int") (dunderR "add") = pure (some (.builtin "int.__radd__")) := by rw [typeLookup_type, builtinLookup_eq_fast]; kernel_rfl
  simp only [fillsNumberSlot, h1, h2, pure_bind]
  rfl
theorem radd_declines {a : Addr} {xs : Array Value} {n : Int} {t : Tok} {Q : Value → Shared → Prop} (ht : s.heap.IsTuple a xs) (h : Q .notImplemented s) : wpAny (model prog w) A (call (.builtin "int.__radd__") [.int n t, .ref a]) Q E s := by
  refine wpAny_call_entry F.slot_int_radd (typeIs_int s n t) F.entry_int_radd ?_ (F.args_int_radd_2 _ _)
  have hT := ht.typeIs
  wp_walk using wpAny_typeOf hT
  obtain ⟨o, ho, hc, n', hd⟩ := id ht
  refine wpAny_load ho ?_
  rw [hd]
  refine wpAny_pure ?_
  exact wpAny_bind (wpAny_rule (wpAny_pure ⟨_, rfl, h⟩))
theorem add_raises {a : Addr} {xs : Array Value} {n : Int} {t : Tok} {Q : Value → Shared → Prop} (hh : A.handled = none) (ht : s.heap.IsTuple a xs) (hE : ∀ h' tk e, Heap.NewExc s.heap h' e "TypeError" → E (.ref e) { s with heap := h', toks := tk }) :
    wpAny (model prog w) A (call (.builtin "tuple.__add__") [.ref a, .int n t]) Q E s := by
  refine wpAny_call_entry F.slot_tuple_add ht.typeIs F.entry_tuple_add ?_ (F.args_tuple_add_2 _ _)
  have hsub : isSubtype (.type "int") (.type "tuple") = pure false := by rw [isSubtype_type]; kernel_rfl
  wp_walk using wpAny_isInstance (T := "int") (b := false) (typeIs_int s n t) hsub, wpAny_typeNameOf_int
  exact wpAny_raiseTypeError hh hE (by decide +kernel)
theorem iadd_raises {a : Addr} {xs : Array Value} {n : Int} {t : Tok} {Q : Value → Shared → Prop} (hh : A.handled = none) (ht : s.heap.IsTuple a xs) (hE : ∀ h' tk e, Heap.NewExc s.heap h' e "TypeError" → E (.ref e) { s with heap := h', toks := tk }) :
    wpAny (model prog w) A (inplaceOp .Add (.ref a) (.int n t)) Q E s := by
  unfold inplaceOp
  refine wpAny_holding ?_
  have hfi : fillsInplaceSlot (.type "tuple") "add" (Operator.Add == .Add) = pure false := by
    unfold fillsInplaceSlot
    show (typeLookup (.type "tuple") (dunderI "add") >>= fun fi => pure (fi.isSome && !isSeqSlot fi)) = pure false
    rw [tup_no_iadd]; rfl
  have hsi : seqSlot? (.type "tuple") (dunderI "add") = pure none := by
    unfold seqSlot?
    rw [tup_no_iadd]; rfl
  refine wpAny_bind (wpAny_typeOf ht.typeIs (wpAny_bind (wpAny_of_eq hfi ?_)))
  show wpAny _ A (if false = true then _ else _) Q E s
  rw [if_neg Bool.false_ne_true]
  refine wpAny_bind (wpAny_binaryOp1_right_declines (nm := "add") (by decide) ht.typeIs (typeIs_int s n t) tup_fill int_fill int_radd_slot (radd_declines ht ⟨rfl, ?_⟩))
  refine wpAny_bind (wpAny_of_eq hsi ?_)
  refine wpAny_bind (wpAny_of_eq tup_seq ?_)
  exact wpAny_bind (wpAny_rule (add_raises hh ht hE))
end
end Mine

-- part G6
namespace Mine
/-- a caller's value: a number or a row of texts -/
inductive Val where
  | n (i : Int)
  | r (l : List Str)
def Val.d : Val → D
  | .n i => .int i
  | .r l => rowD l
abbrev Calls0 := List (Str × Val)
def kd (l : Calls0) : List (Str × D) := l.map fun p => (p.1, p.2.d)
def lookV (l : Calls0) (x : Str) : Option Val := (l.find? fun p => p.1 = x).map (·.2)
theorem look_kd (l : Calls0) (x : Str) : look (kd l) x = (lookV l x).map Val.d := by
  unfold look lookV kd
  induction l with
  | nil => rfl
  | cons p r ih =>
    rw [List.map_cons, List.find?_cons, List.find?_cons]
    by_cases h : p.1 = x
    · simp [h]
    · simp only [h, decide_false]; exact ih
def putV (l : Calls0) (x : Str) (d : Val) : Calls0 :=
  if l.any (fun p => p.1 = x) then l.map (fun p => if p.1 = x then (p.1, d) else p) else l ++ [(x, d)]
theorem put_kd (l : Calls0) (x : Str) (d : Val) : put (kd l) x d.d = kd (putV l x d) := by
  unfold put putV kd
  rw [List.any_map]
  by_cases h : (l.any fun p => decide (p.1 = x)) = true
  · rw [if_pos (by simpa [Function.comp_def] using h), if_pos h, List.map_map, List.map_map]
    refine List.map_congr_left fun p _ => ?_
    by_cases q : p.1 = x
    · simp [q]
    · simp [q]
  · rw [if_neg (by simpa [Function.comp_def] using h), if_neg h, List.map_append]; rfl
theorem putV_length (l : Calls0) (x : Str) (d : Val) : (putV l x d).length ≤ l.length + 1 := by
  unfold putV
  split <;> simp
/-- one caller taken in -/
def addOne (acc : Calls0) (p : Str × Val) : Option Calls0 :=
  match lookV acc p.1, p.2 with
  | none, v => some (putV acc p.1 v)
  | some (.r os), .r cs => some (putV acc p.1 (.r (joined cs os)))
  | some (.n o), .n c => some (putV acc p.1 (.n (o + c)))
  | some _, _ => none
def copied (t : Calls0) : Calls0 := t.foldl (fun acc p => putV acc p.1 p.2) []
def added (acc : Calls0) (l : Calls0) : Option Calls0 := l.foldlM addOne acc
def merged (t o : Calls0) : Option Calls0 := added (copied t) o
theorem added_snoc (acc l : Calls0) (p : Str × Val) : added acc (l ++ [p]) = (added acc l).bind fun a => addOne a p := by
  unfold added
  rw [List.foldlM_append]
  cases h : List.foldlM addOne acc l with
  | none => rfl
  | some a => simp
section
variable {prog : Program} {w : World} {h₀ : Heap} {k : Nat} {mg mb : Str → Option Value} {sc : Scope} {σ : Ctx0} {Y : Addr → Prop} {Rl : Shared → Prop} {env : Env} {X : Addr → Prop} {s : Shared} {A : Around} {E : Value → Shared → Prop}
/-- x[key] = e, where e lets generators grow -/
theorem st_putG {x y : Str} {p p' pos : Pos} {e ke : Expr} {kds : List (Str × D)} {d : D} {b : Bool} {rest : List Stmt} {Q : Flow → Shared → Prop} (he : env.scope = sc) (hr : Room A k) (i : Inv prog w h₀ Y Rl env X σ s) (gr : Gr Y Rl X)
    (hl : σ.lookup x = some (false, .dic kds)) (hk : sc.names.lookup x = some .local ∨ sc.names.lookup x = some .cell)
    (h : ∀ K : Value → Shared → Prop, (∀ v s1, Gs s s1 → Rep prog w X s1.heap d v → K v s1) → wpAny (model prog w) A (eval e env) K E s) (hke : Ev prog w h₀ k sc σ ke b (.str y)) (hsz : kds.length ≤ 2 ^ 20)
    (next : ∀ s', Inv prog w h₀ Y Rl env X ((x, false, .dic (put kds y d)) :: σ) s' → wpAny (model prog w) A (execs rest env) Q E s')
    (hsw : ∀ env, swapsWith e (some (.Subscript (.Name x p) ke p')) pos.line env = pure false := by intro _; rfl) (hd : (x == ("__debug__" : Str)) = false := by decide) :
    wpAny (model prog w) A (execs (.Assign [.Subscript (.Name x p) ke p'] e pos :: rest) env) Q E s := by
  refine wpAny_execs_cons (wpAny_Assign_Subscript (h _ fun v s1 g1 r1 => ?_) (hsw env))
  have i1 := i.gs gr g1
  obtain ⟨m, a, f, hm, hXa', r, hchg⟩ := i1.hot hl
  refine name_load f hm (kind_of he hk) ?_ hd
  refine hke A env X s1 _ E he hr i1.see fun kv s2 k2 r2 => ?_
  obtain ⟨t, rfl⟩ := r2.one
  obtain ⟨a', kvs, e', hsy, hdict, rk⟩ := Rep1.ext r k2.ext
  cases e'
  have hlen : kvs.length = kds.length := by have := congrArg List.length rk.keys; simpa using this
  refine wpAny_setItem_pairs (isStr_self y t) hdict (fun h' hd' hs' => next _ (hchg s2 h' (s2.toks + 1) (.dic (put kds y d)) k2 (fun b o hb e => hs'.extBut b o hb e) ?_ ?_)) (by rw [sizeLine_eq, hlen]; omega)
  · have hXa : ∀ b o, ¬ X b → s2.heap.get? b = some o → ¬ X b ∧ h'.get? b = some o := fun b o hb e => ⟨hb, hs'.extBut b o (fun q => hb (q ▸ hXa')) e⟩
    exact ⟨a, _, rfl, hsy, hd', (rk.mono hXa).put (Rep.mono (r1.ext k2.ext) hXa)⟩
  · obtain ⟨o, _, _, ho, _⟩ := hd'; exact ⟨o, ho⟩
theorem hot_not_int {x : Str} {n : Int} (i : Inv prog w h₀ Y Rl env X σ s) (hl : σ.lookup x = some (false, .int n)) : False := by
  obtain ⟨m, f, kn, h1, _⟩ := i.fm
  obtain ⟨a, ha, _⟩ := h1 x _ hl
  obtain ⟨v, hv, t, rfl⟩ := kn x _ _ hl
  rw [ha] at hv; cases hv
end
end Mine

-- part G7
namespace Mine
theorem Gr.up {Y : Addr → Prop} {Rl : Shared → Prop} {X X' : Addr → Prop} (g : Gr Y Rl X) (h : ∀ a, X a → X' a) : Gr Y Rl X' := ⟨h _ g.x, g.y, g.step, g.tbl⟩
section
variable {prog : Program} {w : World} {h₀ : Heap} {k : Nat} {mg mb : Str → Option Value} {sc : Scope} {σ : Ctx0} {Y : Addr → Prop} {Rl : Shared → Prop} {env : Env} {X : Addr → Prop} {s : Shared} {A : Around} {E : Value → Shared → Prop}
set_option maxRecDepth 10000
theorem ItL.itemsV {o : Expr} {apos pos : Pos} {l : Calls0} {b : Bool} (h : Ev prog w h₀ k sc σ o b (.dic (kd l)))
    (hbase : ∀ env, attributeBase o "items" env (eval o env) = eval o env := by intro _; rfl) (hline : (apos.endLine == pos.line) = true := by decide) :
    ItL prog w h₀ k sc σ (.Call (.Attribute o "items" apos) [] [] pos) l (fun p => [D.str p.1, p.2.d]) true b :=
  It.of (It.items h hbase hline) (by simp [kd]) (by funext i; unfold kd; rw [List.getElem?_map]; cases l[i]? <;> rfl)
theorem copied_snoc (l : Calls0) (p : Str × Val) : copied (l ++ [p]) = putV (copied l) p.1 p.2 := by unfold copied; rw [List.foldl_append]; rfl
theorem copied_length (l : Calls0) : (copied l).length ≤ l.length := by
  induction l using snoc_ind with
  | h0 => exact Nat.le_refl _
  | h1 l p ih => rw [copied_snoc, List.length_append]; exact Nat.le_trans (putV_length _ _ _) (Nat.succ_le_succ ih)

/-- x[key] += e, x a hot dict -/
theorem st_aug {x y : Str} {p p' pos : Pos} {e ke : Expr} {kds : List (Str × D)} {d d0 dv : D} {b bv : Bool} {rest : List Stmt} {Q : Flow → Shared → Prop} (he : env.scope = sc) (hr : Room A k) (i : Inv prog w h₀ Y Rl env X σ s)
    (hl : σ.lookup x = some (false, .dic kds)) (hk : sc.names.lookup x = some .local ∨ sc.names.lookup x = some .cell) (hke : Ev prog w h₀ k sc σ ke b (.str y)) (hlook : look kds y = some d0) (hv : Ev prog w h₀ k sc σ e bv dv) (hsz : kds.length ≤ 2 ^ 20)
    (hop : ∀ s' v0 v1 K, Kp s s' → Rep prog w X s'.heap d0 v0 → RepB prog w X s'.heap bv dv v1 → (∀ v s'', Kp s' s'' → Rep prog w X s''.heap d v → K v s'') → wpAny (model prog w) A (inplaceOp .Add v0 v1) K E s')
    (next : ∀ s', Inv prog w h₀ Y Rl env X ((x, false, .dic (put kds y d)) :: σ) s' → wpAny (model prog w) A (execs rest env) Q E s')
    (hi : ∀ ov iv new, augStore ke ov iv new = (do holding [new, ov, iv] (setItem ov iv new); release [new, ov, iv] []; pure .next) := by intros; rfl) (hd : (x == ("__debug__" : Str)) = false := by decide) :
    wpAny (model prog w) A (execs (.AugAssign (.Subscript (.Name x p) ke p') .Add e pos :: rest) env) Q E s := by
  refine wpAny_execs_cons (wpAny_AugAssign_SubscriptAny ?_ hi)
  obtain ⟨m, a, f, hm, hXa', r, hchg⟩ := i.hot hl
  refine name_load f hm (kind_of he hk) ?_ hd
  refine hke A env X s _ E he hr i.see fun kv s2 k2 r2 => ?_
  obtain ⟨t, rfl⟩ := r2.one
  refine getItem_dic (Rep1.ext r k2.ext) hlook fun v0 s3 k3 r3 => ?_
  refine hv A env X s3 _ E he hr ((i.keeps k2).keeps k3).see fun v1 s4 k4 r4 => ?_
  refine hop s4 v0 v1 _ (k2.trans (k3.trans k4)) (Rep.ext r3 k4.ext) r4 fun v s5 k5 r5 => ?_
  have kk := k2.trans (k3.trans (k4.trans k5))
  obtain ⟨a', kvs, e', hsy, hdict, rk⟩ := Rep1.ext r kk.ext
  cases e'
  have hlen : kvs.length = kds.length := by have := congrArg List.length rk.keys; simpa using this
  refine wpAny_setItem_pairs (isStr_self y t) hdict (fun h' hd' hs' => next _ (hchg s5 h' (s5.toks + 1) (.dic (put kds y d)) kk (fun b o hb e => hs'.extBut b o hb e) ?_ ?_)) (by rw [sizeLine_eq, hlen]; omega)
  · have hXa : ∀ b o, ¬ X b → s5.heap.get? b = some o → ¬ X b ∧ h'.get? b = some o := fun b o hb e => ⟨hb, hs'.extBut b o (fun q => hb (q ▸ hXa')) e⟩
    exact ⟨a, _, rfl, hsy, hd', (rk.mono hXa).put (Rep.mono r5 hXa)⟩
  · obtain ⟨o, _, _, ho, _⟩ := hd'; exact ⟨o, ho⟩
theorem st_aug_raise {x y : Str} {p p' pos : Pos} {e ke : Expr} {kds : List (Str × D)} {d0 dv : D} {b bv : Bool} {rest : List Stmt} {Q : Flow → Shared → Prop} (he : env.scope = sc) (hr : Room A k) (i : Inv prog w h₀ Y Rl env X σ s)
    (hl : σ.lookup x = some (false, .dic kds)) (hk : sc.names.lookup x = some .local ∨ sc.names.lookup x = some .cell) (hke : Ev prog w h₀ k sc σ ke b (.str y)) (hlook : look kds y = some d0) (hv : Ev prog w h₀ k sc σ e bv dv)
    (hop : ∀ s' v0 v1 K, Kp s s' → Rep prog w X s'.heap d0 v0 → RepB prog w X s'.heap bv dv v1 → wpAny (model prog w) A (inplaceOp .Add v0 v1) K E s')
    (hi : ∀ ov iv new, augStore ke ov iv new = (do holding [new, ov, iv] (setItem ov iv new); release [new, ov, iv] []; pure .next) := by intros; rfl) (hd : (x == ("__debug__" : Str)) = false := by decide) :
    wpAny (model prog w) A (execs (.AugAssign (.Subscript (.Name x p) ke p') .Add e pos :: rest) env) Q E s := by
  refine wpAny_execs_cons (wpAny_AugAssign_SubscriptAny ?_ hi)
  obtain ⟨m, a, f, hm, hXa', r, hchg⟩ := i.hot hl
  refine name_load f hm (kind_of he hk) ?_ hd
  refine hke A env X s _ E he hr i.see fun kv s2 k2 r2 => ?_
  obtain ⟨t, rfl⟩ := r2.one
  refine getItem_dic (Rep1.ext r k2.ext) hlook fun v0 s3 k3 r3 => ?_
  refine hv A env X s3 _ E he hr ((i.keeps k2).keeps k3).see fun v1 s4 k4 r4 => ?_
  exact hop s4 v0 v1 _ (k2.trans (k3.trans k4)) (Rep.ext r3 k4.ext) r4
theorem gen_raise {as : List Str} {n : Int} {np zp p1 p2 p3 p4 p5 p6 p8 gpos pos : Pos} {kt : Nat} {ea eb : Expr} {scope : Scope} {b1 b2 : Bool} {Q : Value → Shared → Prop}
    (hgt : Gv prog w h₀ sc (.Name "tuple" np) (.type "tuple")) (hgz : Gv prog w h₀ sc (.Name "zip" zp) (.type "zip")) (ha : Ev prog w h₀ k sc σ ea b1 (rowD as)) (hb : Ev prog w h₀ k sc σ eb b2 (.int n))
    (he : env.scope = sc) (hr : Room A k) (hs : See prog w h₀ env X σ s)
    (hgc : scope.isCoroutine = false) (hgk : scope.kind = .function) (hg0 : scope.names.lookup (".0" : Str) = some .local)
    (hgp : ∀ y ∈ scope.names, y.2 = .local) (hst2 : ∀ env, starEach [ea, eb] env = [(false, eval ea env), (false, eval eb env)])
    (hE : ∀ s1 h' tk e, Kp s s1 → Heap.NewExc s1.heap h' e "TypeError" → E (.ref e) { s1 with heap := h', toks := tk }) :
    wpAny (model prog w) A (eval (.Call (.Name "tuple" np) [.GeneratorExp (.BinOp (.Name "i" p1) .Add (.Name "j" p2) p3) [⟨.Tuple [.Name "i" p4, .Name "j" p5] kt p6, .Call (.Name "zip" zp) [ea, eb] [] p8, [], 0⟩] scope gpos] [] pos) env) Q E s := by
  have hrl : recursionLimit = 1000 := rfl
  have hdep := hr.depth
  refine wpAny_Call_NameR (hgt A env X σ s _ E he hs ?_)
  refine callWith_of (P := Stands h₀) rfl (plainly_type _) ?_
  refine Calls.evalArgs_plain (rest := []) ?_
  refine wpAny_items_cons (M := model prog w) (e := .GeneratorExp (.BinOp (.Name "i" p1) .Add (.Name "j" p2) p3) [⟨.Tuple [.Name "i" p4, .Name "j" p5] kt p6, .Call (.Name "zip" zp) [ea, eb] [] p8, [], 0⟩] scope gpos) (rest := []) ?_ rfl
  refine wpAny_GeneratorExp_make (cl := clo env.cells scope.names []) hgc (closure_is fun n kd hm hk => by have := hgp _ hm; rw [hk] at this; cases this) (fun y hy q => by have := hgp y hy; rw [q] at this; cases this) hg0 hgk (by omega) ?_ (fun _ => rfl)
  refine call_two hgz (plainly_type _) ha hb hst2 he hr hs fun v1 v2 s1 k1 r1 r2 => ?_
  obtain ⟨l1, vs1, rfl, t1, rs1⟩ := r1.one
  obtain ⟨t, rfl⟩ := r2.one
  exact zip_raise hr.handled t1 noIter_int fun s2 h' tk e k2 hx => hE s2 h' tk e (k1.trans k2) hx
theorem added_none {acc : Calls0} {pre post : Calls0} {p : Str × Val} {a : Calls0} (h : added acc pre = some a) (hp : addOne a p = none) : added acc (pre ++ p :: post) = none := by
  unfold added at *
  rw [List.foldlM_append, h]
  show List.foldlM addOne a (p :: post) = none
  rw [List.foldlM_cons, hp]; rfl
theorem added_length : ∀ {l acc a : Calls0}, added acc l = some a → a.length ≤ acc.length + l.length := by
  intro l
  induction l using snoc_ind with
  | h0 => intro acc a h; cases h; exact Nat.le_refl _
  | h1 l p ih =>
    intro acc a h
    rw [added_snoc] at h
    cases q : added acc l with
    | none => rw [q] at h; cases h
    | some b =>
      rw [q] at h
      have h' : addOne b p = some a := h
      have hb := ih q
      have : a.length ≤ b.length + 1 := by
        unfold addOne at h'
        split at h' <;> first | (cases h'; exact putV_length _ _ _) | cases h'
      rw [List.length_append]; simp; omega
def Val.Small : Val → Prop
  | .n _ => True
  | .r l => l.length ≤ 1000 ∧ ∀ x ∈ l, x.length ≤ 100000
theorem lookV_mem {l : Calls0} {x : Str} {v : Val} (h : lookV l x = some v) : ∃ q ∈ l, q.2 = v := by
  unfold lookV at h
  obtain ⟨q, hq, rfl⟩ := Option.map_eq_some_iff.mp h
  exact ⟨q, List.mem_of_find?_eq_some hq, rfl⟩
def ctxAt : Option Calls0 → Ctx0
  | some acc => [("new_callers", false, .dic (kd acc))]
  | none => [("new_callers", false, .int 0)]

theorem add_callers_fn (B : Bs h₀ mg mb) (N : Names mg mb) (Mo : Mod h₀ mg) (F : IsFn h₀ 28 "add_callers" ["target", "source"] (bodyOf (fdef 2)) (scopeOf (fdef 2)) (.ref 27)) {t o : Calls0} (ht : t.length ≤ 1000) (ho : o.length ≤ 1000) (hso : ∀ q ∈ o, q.2.Small) (hsa : ∀ pre post acc, o = pre ++ post → added (copied t) pre = some acc → ∀ q ∈ acc, q.2.Small) :
    FnR prog w h₀ (k + 1) 28 [.dic (kd t), .dic (kd o)] ((merged t o).map fun l => .dic (kd l)) := by
  refine fnR_of F B.lim rfl fun A env outer Y Rl X s E he hco hin hr hfr i gr hff hfm hpo hnew hthr => ?_
  refine st_dict B (sc := scopeOf (fdef 2)) he i (by decide +kernel) fun X1 s1 hX1 i1 => ?_
  have gr1 := gr.up hX1
  refine st_forL (sc := scopeOf (fdef 2)) (fun pre => [("new_callers", false, .dic (kd (copied pre))), ("source", true, .dic (kd o))]) he hr i1 (ItL.itemsV (b := true) (l := t) (nm rfl (by decide +kernel))) (.pair _ _ _ _ _ _) (names_ok (by decide +kernel)) (fun _ _ => rfl) (sub_cons rfl (sub_cons rfl sub_nil)) (fun pre p post Y' Rl' X' s' hsp ij => ?_) fun s2 i2 => ?_
  · have hpl : (copied pre).length ≤ 1000 := Nat.le_trans (copied_length pre) (by have := congrArg List.length hsp; simp at this; omega)
    refine st_put (sc := scopeOf (fdef 2)) (kds := kd (copied pre)) (d := p.2.d) he hr ij rfl (by decide +kernel) (nm rfl (by decide +kernel)) (nm (b := true) (d := .str p.1) rfl (by decide +kernel)) (by simp [kd]; omega) fun s6 i6 => wpAny_execs_nil ⟨.inl rfl, _, i6, ?_⟩
    rw [put_kd, ← copied_snoc]
    exact sub_cons rfl (sub_cons rfl sub_nil)
  · refine st_forLG (sc := scopeOf (fdef 2)) (fun pre => ctxAt (added (copied t) pre)) he hr i2 (ItL.itemsV (b := true) (l := o) (nm rfl (by decide +kernel))) (.pair _ _ _ _ _ _) (names_ok (by decide +kernel)) (fun _ _ => rfl) (sub_cons rfl sub_nil) (fun pre p post Y' Rl' X' s' hsp wi ij => ?_) fun s3 i3 => ?_
    · cases hacc : added (copied t) pre with
      | none => rw [hacc] at ij; exact (hot_not_int (x := "new_callers") (n := 0) ij rfl).elim
      | some acc =>
        rw [hacc] at ij
        have gr' := wi.gr' gr1
        have hlo : pre.length + 1 ≤ 1000 := by have := congrArg List.length hsp; simp at this; omega
        have hla : acc.length ≤ 2000 := Nat.le_trans (added_length hacc) (by have := copied_length t; omega)
        have hlk : (kd acc).length ≤ 2 ^ 20 := by simp [kd]; omega
        have hgo : ∀ acc', addOne acc p = some acc' → ∀ {σ'' : Ctx0}, σ''.lookup ("new_callers" : Str) = some (false, D.dic (kd acc')) → ∀ x y, (ctxAt (added (copied t) (pre ++ [p]))).lookup x = some y → σ''.lookup x = some y := fun acc' ha σ'' hl => by
          rw [added_snoc, hacc]
          show ∀ x y, (ctxAt (addOne acc p)).lookup x = some y → _
          rw [ha]; exact sub_cons hl sub_nil
        have hno : addOne acc p = none → merged t o = none := fun ha => by unfold merged; rw [hsp]; exact added_none hacc ha
        refine st_if (sc := scopeOf (fdef 2)) (p := (look (kd acc) p.1).isSome) he hr ij (Tr.cmp (b1 := true) (b2 := false) (nm (d := .str p.1) rfl (by decide +kernel)) (nm (d := .dic (kd acc)) rfl (by decide +kernel)) op_in_dic) (fun hp s5 i5 => ?_) fun hp s5 i5 => ?_
        · obtain ⟨od, hod⟩ := Option.isSome_iff_exists.mp hp
          rw [look_kd] at hod
          obtain ⟨old, hold, rfl⟩ := Option.map_eq_some_iff.mp hod
          have hso' := hso p (by rw [hsp]; simp)
          have hsl : old.Small := by obtain ⟨q, hq, rfl⟩ := lookV_mem hold; exact hsa pre (p :: post) acc hsp hacc q hq
          obtain ⟨px, pv⟩ := p
          dsimp only at *
          have hthrow : addOne acc (px, pv) = none → ∀ s1 h' tk e, Rl' s1 → Inv prog w h₀ Y' Rl' env X' [] s1 → Heap.NewExc s1.heap h' e "TypeError" → notedBy (model prog w) A env (fun e s' => cameBackBy (model prog w) A env E e s') (.ref e) { s1 with heap := h', toks := tk } := by
            intro ha s1 h' tk e hrl iv hx
            refine hpo _ _ (hnew (by rw [hno ha]; rfl) s1 h' tk e (wi.rl _ hrl) (fun env' he' => ?_) hx)
            rcases List.mem_cons.mp he' with rfl | he'
            · obtain ⟨m, fm, _⟩ := iv.fm
              obtain ⟨ml, ⟨ob, es, ep, hob, hdd, _⟩, _⟩ := fm.ns
              refine ⟨by rw [fm.kind]; decide, env'.locals, ob, hfm, (i.fa _ (.inl rfl)).1, hob, fun vs q => by rw [hdd] at q; cases q⟩
            · exact hff _ (wi.rl _ hrl) env' he'
          cases pv with
          | r cs =>
            refine st_if (sc := scopeOf (fdef 2)) (p := true) he hr i5 (Tr.call (Ev.isTuple (d := rowD cs) (b := true) (gn B N.isinstance (by decide +kernel)) (gn B N.tuple (by decide +kernel)) (nm rfl (by decide +kernel)) (.inr ⟨_, rfl⟩))) (fun _ s7 i7 => ?_) fun h => by cases h
            cases old with
            | r os =>
              have ha : addOne acc (px, .r cs) = some (putV acc px (.r (joined cs os))) := by unfold addOne; rw [hold]
              refine st_putG (sc := scopeOf (fdef 2)) (kds := kd acc) (d := rowD (joined cs os)) he hr i7 gr' rfl (by decide +kernel) (fun K hK => gen_tuple B Mo (gn B N.tuple (by decide +kernel)) (gn B N.zip (by decide +kernel)) (b1 := true) (b2 := true) (as := cs) (bs := os) (nm rfl (by decide +kernel)) (Ev.sub (b1 := false) (b2 := true) (nm (d := .dic (kd acc)) rfl (by decide +kernel)) (nm (d := .str px) rfl (by decide +kernel)) (op_item_dic (by rw [look_kd, hold]; rfl))) hso'.2 hsl.2 hso'.1 he hco hr i7.see gr'.x (fun q => gr'.y (i7.fa 23 q).2) (gr'.tbl _ i7.rel) rfl rfl rfl rfl rfl (by decide +kernel) (fun _ => rfl) hK) (nm (b := true) (d := .str px) rfl (by decide +kernel)) hlk fun s6 i6 => wpAny_execs_nil (wpAny_execs_nil (wpAny_execs_nil ⟨.inl rfl, _, i6, ?_⟩))
              rw [show rowD (joined cs os) = (Val.r (joined cs os)).d from rfl, put_kd]
              exact hgo _ ha rfl
            | n on =>
              refine wpAny_execs_cons (wpAny_Assign_Subscript (gen_raise (sc := scopeOf (fdef 2)) (gn B N.tuple (by decide +kernel)) (gn B N.zip (by decide +kernel)) (b1 := true) (b2 := true) (as := cs) (n := on) (nm rfl (by decide +kernel)) (Ev.sub (b1 := false) (b2 := true) (nm (d := .dic (kd acc)) rfl (by decide +kernel)) (nm (d := .str px) rfl (by decide +kernel)) (op_item_dic (by rw [look_kd, hold]; rfl))) he hr i7.see rfl rfl rfl (by decide +kernel) (fun _ => rfl) fun s8 h' tk e kp hx => ?_))
              exact hthrow (by unfold addOne; rw [hold]) s8 h' tk e (i7.keeps kp).rel ((i7.keeps kp).weaken sub_nil) hx
          | n c =>
            refine st_if (sc := scopeOf (fdef 2)) (p := false) he hr i5 (Tr.call (Ev.isTuple (d := .int c) (b := true) (gn B N.isinstance (by decide +kernel)) (gn B N.tuple (by decide +kernel)) (nm rfl (by decide +kernel)) (.inl ⟨_, rfl⟩))) (fun h => by cases h) fun _ s7 i7 => ?_
            cases old with
            | n on =>
              have ha : addOne acc (px, .n c) = some (putV acc px (.n (on + c))) := by unfold addOne; rw [hold]
              refine st_aug (sc := scopeOf (fdef 2)) (kds := kd acc) (d0 := .int on) (dv := .int c) (d := .int (on + c)) (bv := true) (b := true) (y := px) he hr i7 rfl (by decide +kernel) (nm rfl (by decide +kernel)) (by rw [look_kd, hold]; rfl) (nm rfl (by decide +kernel)) hlk (fun s8 v0 v1 K kp r0 r1 hK => ?_) fun s6 i6 => wpAny_execs_nil (wpAny_execs_nil (wpAny_execs_nil ⟨.inl rfl, _, i6, ?_⟩))
              · obtain ⟨t0, rfl⟩ := Rep.one r0; obtain ⟨t1, rfl⟩ := r1.one
                exact P.iadd_int (hK _ _ (Kp.tok _ _) (.int _ _))
              · rw [show D.int (on + c) = (Val.n (on + c)).d from rfl, put_kd]
                exact hgo _ ha rfl
            | r os =>
              refine st_aug_raise (sc := scopeOf (fdef 2)) (kds := kd acc) (d0 := rowD os) (dv := .int c) (bv := true) (b := true) (y := px) he hr i7 rfl (by decide +kernel) (nm rfl (by decide +kernel)) (by rw [look_kd, hold]; rfl) (nm rfl (by decide +kernel)) fun s8 v0 v1 K kp r0 r1 => ?_
              obtain ⟨a, vs, rfl, ht, _⟩ := Rep.one r0; obtain ⟨t1, rfl⟩ := r1.one
              exact iadd_raises hr.handled ht fun h' tk e hx => hthrow (by unfold addOne; rw [hold]) s8 h' tk e (i7.keeps kp).rel ((i7.keeps kp).weaken sub_nil) hx
        · have hn : lookV acc p.1 = none := by
            rw [look_kd] at hp
            cases q : lookV acc p.1 with
            | none => rfl
            | some v => rw [q] at hp; cases hp
          have ha : addOne acc p = some (putV acc p.1 p.2) := by unfold addOne; rw [hn]
          refine st_put (sc := scopeOf (fdef 2)) (kds := kd acc) (d := p.2.d) he hr i5 rfl (by decide +kernel) (nm rfl (by decide +kernel)) (nm (b := true) (d := .str p.1) rfl (by decide +kernel)) hlk fun s6 i6 => wpAny_execs_nil (wpAny_execs_nil ⟨.inl rfl, _, i6, ?_⟩)
          rw [put_kd]
          exact hgo _ ha rfl
    · cases hm : added (copied t) o with
      | none => rw [hm] at i3; exact (hot_not_int (x := "new_callers") (n := 0) i3 rfl).elim
      | some acc =>
        rw [hm] at i3
        obtain ⟨X4, hX4, i4⟩ := i3.freeze (x := "new_callers") rfl
        refine st_return (sc := scopeOf (fdef 2)) he hr i4 (b := true) (nm rfl (by decide +kernel)) fun v s'' i'' r => ⟨_, by unfold merged; rw [hm]; rfl, v, X4, rfl, fun a q1 q2 => hX4 a (hX1 a q1) q2, i''.rel, r⟩
end
end Mine

-- part G8
namespace Mine
/-- names in a row, as targets -/
inductive Nms : List Expr → List Str → Prop
  | nil : Nms [] []
  | cons {es xs} (x pos) : Nms es xs → Nms (.Name x pos :: es) (x :: xs)
section
variable {prog : Program} {w : World} {h₀ : Heap} {k : Nat} {mg mb : Str → Option Value} {sc : Scope} {σ : Ctx0} {Y : Addr → Prop} {Rl : Shared → Prop} {env : Env} {X : Addr → Prop} {s : Shared} {A : Around} {E : Value → Shared → Prop}
theorem Nms.length {es xs} (n : Nms es xs) (env : Env) : (assignEach es env).length = xs.length := by
  induction n with
  | nil => rfl
  | cons x pos _ ih => show (_ :: assignEach _ env).length = _; rw [List.length_cons, ih]; rfl
theorem Nms.nostar {es xs} (n : Nms es xs) (env : Env) : (assignEach es env).findIdx? (·.1) = none := by
  induction n with
  | nil => rfl
  | cons x pos _ ih => show ((false, _) :: assignEach _ env).findIdx? (·.1) = none; rw [List.findIdx?_cons, ih]; rfl
theorem Nms.store {es xs} (n : Nms es xs) : ∀ {m : Str → Option Value} {s : Shared} {cs : List Value} {Q : Unit → Shared → Prop}, Fm env m s.heap → (∀ x ∈ xs, env.kindOf x = some .local ∨ env.kindOf x = some .cell) → cs.length = xs.length →
    (∀ h' tk, Fm env (upds m xs cs) h' → (∀ b o, (∀ x ∈ xs, ¬ Slot env x b) → s.heap.get? b = some o → h'.get? b = some o) → Q () { s with heap := h', toks := tk }) →
    wpAny (model prog w) A (assignInOrder ((assignEach es env).map (·.2)) cs) Q E s := by
  induction n with
  | nil =>
    intro m s cs Q f hk hl hQ
    exact wpAny_pure (hQ s.heap s.toks f fun _ _ _ e => e)
  | @cons es xs x pos n ih =>
    intro m s cs Q f hk hl hQ
    match cs, hl with
    | c :: cs, hl =>
      show wpAny _ A (do holding cs (assign (.Name x pos) env c); assignInOrder ((assignEach es env).map (·.2)) cs) _ _ _
      refine wpAny_bind (wpAny_holding (wpAny_assign_Name (f.store (hk x (by simp)) fun h2 t2 f2 k2 => ?_)))
      refine ih (s := { s with heap := h2, toks := t2 }) f2 (fun y hy => hk y (by simp [hy])) (by simpa using hl) fun h3 t3 f3 k3 => hQ h3 t3 f3 fun b o hb e => k3 b o (fun y hy => hb y (by simp [hy])) (k2 b o (hb x (by simp)) e)
/-- x, y, .. = e -/
theorem st_unpack {elts : List Expr} {xs : List Str} {kt : Nat} {p pos : Pos} {e : Expr} {ds : List D} {rest : List Stmt} {Q : Flow → Shared → Prop} (hn : Nms elts xs) (he : env.scope = sc) (hr : Room A k) (i : Inv prog w h₀ Y Rl env X σ s)
    (h : Ev prog w h₀ k sc σ e true (.tup ds)) (hk : ∀ x ∈ xs, sc.names.lookup x = some .local ∨ sc.names.lookup x = some .cell) (hl : xs.length = ds.length)
    (next : ∀ s', Inv prog w h₀ Y Rl env X (extC xs ds σ) s' → wpAny (model prog w) A (execs rest env) Q E s')
    (hs : ∀ env, swapsWithSole [.Tuple elts kt p] e pos.line env = pure false := by intro _; rfl) (hw : ∀ env, swappedStores [.Tuple elts kt p] e env = pure none := by intro _; rfl) :
    wpAny (model prog w) A (execs (.Assign [.Tuple elts kt p] e pos :: rest) env) Q E s := by
  refine wpAny_execs_cons (wpAny_Assign_stores (h A env X s _ E he hr i.see fun v s1 k1 r1 => ?_) (hs env) (hw env))
  have i1 := i.keeps k1
  obtain ⟨a, vs, rfl, ht, rs⟩ := Rep.one r1
  show wpAny _ A (assign (.Tuple elts kt p) env (.ref a)) _ _ _
  refine wpAny_assign_Tuple hr.handled ht (by rw [hn.length, List.size_toArray, rs.length, hl]) (hn.nostar env) fun h' hx => ?_
  have k2 : Kp s1 { s1 with heap := h' } := ⟨h', s1.toks, rfl, fun b o e => hx b o (fun q => by rw [q] at e; exact Nat.lt_irrefl _ (Heap.lt_size e)) e⟩
  have i2 := i1.keeps k2
  obtain ⟨m, hf⟩ := i2.fm
  refine hn.store (s := { s1 with heap := h' }) (m := m) hf.1 (fun x hx => kind_of he (hk x hx)) (by rw [rs.length, hl]) fun h3 t3 f3 k3 => next _ (Inv.stores i2 hf f3 k3 ?_ hl)
  refine (rs.ext k2.ext).mono fun b o hb e => ⟨hb, k3 b o (fun x hx q => hb (i2.slots x b q).1) e⟩
theorem Rep.gs {s' : Shared} {d v} (h23 : X 23) (g : Gs s s') (r : Rep prog w X s.heap d v) : Rep prog w X s'.heap d v := r.mono fun b o hb e => ⟨hb, g.heap b o (fun q => hb (q ▸ h23)) e⟩
theorem Reps.gs {s' : Shared} {d v} (h23 : X 23) (g : Gs s s') (r : Reps prog w X s.heap d v) : Reps prog w X s'.heap d v := r.mono fun b o hb e => ⟨hb, g.heap b o (fun q => hb (q ▸ h23)) e⟩
theorem Inv.frames {outer : List Env} (i : Inv prog w h₀ Y Rl env X σ s) (hfm : env.frame = some env.locals) (hf : Frames X s.heap outer) : Frames X s.heap (env :: outer) := fun env' he' => by
  rcases List.mem_cons.mp he' with rfl | he'
  · obtain ⟨m, fm, _⟩ := i.fm
    obtain ⟨ml, ⟨ob, es, ep, hob, hdd, _⟩, _⟩ := fm.ns
    exact ⟨by rw [fm.kind]; decide, env'.locals, ob, hfm, (i.fa _ (.inl rfl)).1, hob, fun vs q => by rw [hdd] at q; cases q⟩
  · exact hf env' he'
set_option maxRecDepth 10000
theorem add_func_fn (B : Bs h₀ mg mb) (N : Names mg mb) (F : IsFn h₀ 21 "add_func_stats" ["target", "source"] (bodyOf (fdef 1)) (scopeOf (fdef 1)) (.ref 20)) (F0 : IsFn h₀ 28 "add_callers" ["target", "source"] (bodyOf (fdef 2)) (scopeOf (fdef 2)) (.ref 27))
    {n tn : Int} {m tm r tr : Str} {p tp : List D} {c tc : List (Str × D)} {res : Option (List (Str × D))} (hm : m.length + tm.length ≤ 100000) (hr' : r.length + tr.length ≤ 100000) (hp : p.length + tp.length ≤ 100000)
    (H : FnR prog w h₀ (k + 1) 28 [.dic tc, .dic c] (res.map .dic)) :
    FnR prog w h₀ (k + 2) 21 [.tup [.int tn, .str tm, .tup tp, .str tr, .dic tc], .tup [.int n, .str m, .tup p, .str r, .dic c]] (res.map fun l => .tup [.int (n + tn), .str (m ++ tm), .tup (p ++ tp), .str (r ++ tr), .dic l]) := by
  have hsl := sizeLine_eq
  refine fnR_of F B.lim rfl fun A env outer Y Rl X s E he hco hin hr hfr i gr hff hfm hpo hnew hthr => ?_
  refine st_unpack (sc := scopeOf (fdef 1)) (ds := [.int n, .str m, .tup p, .str r, .dic c]) (.cons _ _ (.cons _ _ (.cons _ _ (.cons _ _ (.cons _ _ .nil))))) he hr i (nm rfl (by decide +kernel)) (names_ok (by decide +kernel)) rfl fun s1 i1 => ?_
  refine st_unpack (sc := scopeOf (fdef 1)) (ds := [.int tn, .str tm, .tup tp, .str tr, .dic tc]) (.cons _ _ (.cons _ _ (.cons _ _ (.cons _ _ (.cons _ _ .nil))))) he hr i1 (nm rfl (by decide +kernel)) (names_ok (by decide +kernel)) rfl fun s2 i2 => ?_
  have e1 : ∀ p1 p2 p3, Ev prog w h₀ (k + 1) (scopeOf (fdef 1)) _ (.BinOp (.Name ("cc" : Str) p1) .Add (.Name ("t_cc" : Str) p2) p3) true (.int (n + tn)) := fun _ _ _ => Ev.bin (b1 := true) (b2 := true) (σ := extC ["t_cc", "t_nc", "t_tt", "t_ct", "t_callers"] [.int tn, .str tm, .tup tp, .str tr, .dic tc] (extC ["cc", "nc", "tt", "ct", "callers"] [.int n, .str m, .tup p, .str r, .dic c] (ctxOf ["target", "source"] [.tup [.int tn, .str tm, .tup tp, .str tr, .dic tc], .tup [.int n, .str m, .tup p, .str r, .dic c]]))) (nm (d := .int n) rfl (by decide +kernel)) (nm (d := .int tn) rfl (by decide +kernel)) op_add_int
  refine wpAny_execs_cons (wpAny_Return_some (wpAny_Tuple ?_))
  refine wpAny_items_cons (e1 _ _ _ A env X s2 _ E he hr i2.see fun v1 s3 k3 r1 => ?_) rfl
  have i3 := i2.keeps k3
  refine wpAny_items_cons ((Ev.bin (sc := scopeOf (fdef 1)) (b1 := true) (b2 := true) (nm (d := .str m) rfl (by decide +kernel)) (nm (d := .str tm) rfl (by decide +kernel)) (op_add_str (by rw [hsl]; omega))) A env X s3 _ E he hr i3.see fun v2 s4 k4 r2 => ?_) rfl
  have i4 := i3.keeps k4
  refine wpAny_items_cons ((Ev.bin (sc := scopeOf (fdef 1)) (b1 := true) (b2 := true) (nm (d := .tup p) rfl (by decide +kernel)) (nm (d := .tup tp) rfl (by decide +kernel)) (op_add_tup (by rw [hsl]; omega))) A env X s4 _ E he hr i4.see fun v3 s5 k5 r3 => ?_) rfl
  have i5 := i4.keeps k5
  refine wpAny_items_cons ((Ev.bin (sc := scopeOf (fdef 1)) (b1 := true) (b2 := true) (nm (d := .str r) rfl (by decide +kernel)) (nm (d := .str tr) rfl (by decide +kernel)) (op_add_str (by rw [hsl]; omega))) A env X s5 _ E he hr i5.see fun v4 s6 k6 r4 => ?_) rfl
  have i6 := i5.keeps k6
  refine wpAny_items_cons (call_two (sc := scopeOf (fdef 1)) (gname B (by decide +kernel) N.add_callers (by decide +kernel)) (plainly_fn F0) (nm (b := true) (d := .dic tc) rfl (by decide +kernel)) (nm (b := true) (d := .dic c) rfl (by decide +kernel)) (fun _ => rfl) he hr i6.see fun va vb s7 k7 ra rb => ?_) rfl
  have i7 := i6.keeps k7
  refine H A X s7 [va, vb] _ E (env :: outer) hr i7.st i7.live gr.x (gr.tbl _ i7.rel) hfr (i7.frames hfm (hff _ i7.rel)) (.cons ra (.cons rb .nil)) (fun d hd v5 s8 g8 r5 => ?_) fun hn e s8 hx => ?_
  · obtain ⟨l, hl, rfl⟩ := Option.map_eq_some_iff.mp hd
    have i8 := i7.gs gr g8
    refine wpAny_items_nil ⟨by rw [hsl]; exact (by decide : 5 ≤ 16777216), ?_⟩
    refine ⟨_, by rw [hl]; rfl, _, X, rfl, fun _ q _ => q, (i8.keeps (Kp.obj _)).rel, ?_⟩
    have kk : Ext s8.heap _ := fun _ _ e => Heap.get?_push_of_some { cls := .type "tuple", data := .seq [v1, v2, v3, v4, v5].toArray } e
    have q1 := Rep.gs gr.x ((k4.trans (k5.trans (k6.trans k7))).gs.trans g8) r1
    have q2 := Rep.gs gr.x ((k5.trans (k6.trans k7)).gs.trans g8) r2
    have q3 := Rep.gs gr.x ((k6.trans k7).gs.trans g8) r3
    have q4 := Rep.gs gr.x (k7.gs.trans g8) r4
    exact .tup (fresh_cold i8.live) ⟨_, Heap.get?_push_size _ rfl, rfl, _, rfl⟩ ((Reps.cons q1 (.cons q2 (.cons q3 (.cons q4 (.cons r5 .nil))))).ext kk)
  · have hn' : res = none := by cases res with
      | none => rfl
      | some l => cases hn
    exact hthr (by rw [hn']; rfl) s7 e s8 i7.rel hx
end
end Mine

-- part G9
namespace Mine
section
variable {prog : Program} {w : World} {h₀ : Heap} {k : Nat} {mg mb : Str → Option Value} {sc : Scope} {σ : Ctx0} {Y : Addr → Prop} {Rl : Shared → Prop} {env : Env} {X : Addr → Prop} {s : Shared} {A : Around} {E : Value → Shared → Prop}
/-- a TypeError has been caught in the lowest frame -/
theorem Inv.caught {s1 : Shared} {e : Addr} {h' B h6 : Heap} {a0 : Value} (i : Inv prog w h₀ Y Rl env X σ s) (gr : Gr Y Rl X) (hfm : env.frame = some env.locals) (fl : Flight [env] s s1 e h' B a0) (hst : B.StaysIn h6) (hsm : s1.heap.UpToSlots h6) :
    Inv prog w h₀ Y Rl env X σ { s1 with heap := h6 } := by
  have i1 := i.gs gr fl.gs
  have nloc : ∀ b, b ≠ env.locals → b ∉ framesOf [env] := fun b hb hm => by
    rcases frames_cons hfm hm with rfl | hm
    · exact hb rfl
    · cases hm
  have n23 : env.locals ≠ 23 := fun q => gr.y (q ▸ (i.fa _ (.inl rfl)).2)
  have keep : ∀ b o, b ≠ env.locals → (∃ o', s.heap.get? b = some o') → s1.heap.get? b = some o → h6.get? b = some o := fun b o hb ⟨o', ho'⟩ e => by
    by_cases q : b = 23
    · subst q; exact hst _ _ (fl.tb o e)
    · have e1 := fl.gs.heap b o' q ho'
      rw [e1] at e; cases e
      exact hst _ _ (fl.keep b o q (nloc b hb) ho')
  obtain ⟨m, f, n, h1, h2⟩ := i1.fm
  obtain ⟨m0, f0, _⟩ := i.fm
  have hX : ∀ b o, ¬ X b → s.heap.get? b = some o → ¬ X b ∧ h6.get? b = some o := fun b o hb e => ⟨hb, hst _ _ (fl.keep b o (fun q => hb (q ▸ gr.x)) (nloc b fun q => hb (q ▸ (i.fa _ (.inl rfl)).1)) e)⟩
  have old : ∀ b, X b → ∃ o', s.heap.get? b = some o' := i.live
  obtain ⟨ms, fs, ns, hs1, hs2⟩ := i.fm
  refine ⟨fun b o hb e => ?_, fun a ha => ?_, ⟨ms, ⟨fs.kind, fs.gl, fs.bu, ?_, fun x hx => ?_, fs.inj⟩, fun x b d e => ?_, hs1, hs2⟩, i.fa, fun a ha => ?_, i.base, i.rstep, ?_⟩
  · exact hst _ _ (fl.keep b o hb (nloc b fun q => by rw [q, i.base _ (i.fa _ (.inl rfl)).2 n23] at e; cases e) (i.st b o hb e))
  · obtain ⟨o, ho⟩ := i1.live a ha
    by_cases q : a = env.locals
    · obtain ⟨ml, ⟨ob, es, ep, hob, hdd, _⟩, _⟩ := f.ns
      obtain ⟨sl, hh⟩ := hsm env.locals ob hob (fun vs q => by rw [hdd] at q; cases q)
      exact ⟨_, q ▸ hh⟩
    · exact ⟨o, keep a o q (old a ha) ho⟩
  · obtain ⟨ml, hn, hm⟩ := fs.ns
    have hn1 : s1.heap.Ns env.locals ml := let ⟨o, es, ep, ho, r⟩ := hn; ⟨o, es, ep, fl.gs.heap _ _ n23 ho, r⟩
    exact ⟨ml, Heap.UpToSlots.ns hsm hn1, hm⟩
  · obtain ⟨c, hc, ⟨o, ho, hd⟩⟩ := fs.cell x hx
    have nc : c ≠ env.locals := by
      obtain ⟨ml, hn, _⟩ := fs.ns
      exact ns_ne_cell hn ⟨o, ho, hd⟩
    have c23 : c ≠ 23 := fun q => gr.y (q ▸ (i.fa _ (.inr ⟨x, hc⟩)).2)
    exact ⟨c, hc, ⟨o, hst _ _ (fl.keep c o c23 (nloc c nc) ho), hd⟩⟩
  · obtain ⟨v, hv, r⟩ := ns x b d e
    refine ⟨v, hv, ?_⟩
    cases b with
    | true => exact Rep.mono r hX
    | false =>
      obtain ⟨a0', e0, _, y0, nf⟩ := hs1 x d e
      refine Rep1.mono r (fun a ea o e' => ?_) hX
      subst ea
      rw [hv] at e0
      obtain rfl : a = a0' := by cases e0; rfl
      exact hst _ _ (fl.keep a o (fun q => gr.y (q ▸ y0)) (nloc a fun q => nf (.inl q)) e')
  · cases q : s.heap.get? a with
    | none => exact i.new a q
    | some o =>
      exfalso
      have hex : ∃ o1, s1.heap.get? a = some o1 := by
        by_cases q2 : a = 23
        · subst q2; exact (gr.tbl _ i1.rel).alive.1
        · exact ⟨o, fl.gs.heap a o q2 q⟩
      obtain ⟨o1, ho1⟩ := hex
      by_cases q3 : a = env.locals
      · exact absurd ((i.fa _ (.inl rfl)).2) (fun hy => by
          obtain ⟨ml, ⟨ob, es, ep, hob, hdd, _⟩, _⟩ := f.ns
          obtain ⟨sl, hh⟩ := hsm env.locals ob hob (fun vs q => by rw [hdd] at q; cases q)
          have ha' : h6.get? a = none := ha
          rw [q3, hh] at ha'; cases ha')
      · have := keep a o1 q3 ⟨o, q⟩ ho1
        have ha' : h6.get? a = none := ha
        rw [this] at ha'; cases ha'
  · refine i.rstep s1 h6 s1.toks i1.rel fun b o hb e => ?_
    refine keep b o (fun q => hb (q ▸ (i.fa _ (.inl rfl)).2)) ?_ e
    cases q : s.heap.get? b with
    | none => exact (hb (i.new b q)).elim
    | some o' => exact ⟨o', rfl⟩
/-- x.append((y, 'text')), x a hot list, whatever is at hand -/
theorem st_append_pair {x y : Str} {c : Str} {p p2 p3 p4 apos cpos pos : Pos} {q kt : Nat} {ds : List D} {d : D} {rest : List Stmt} {Q : Flow → Shared → Prop} (he : env.scope = sc) (i : Inv prog w h₀ Y Rl env X σ s)
    (hl : σ.lookup x = some (false, .lst ds)) (hk : sc.names.lookup x = some .local ∨ sc.names.lookup x = some .cell) (hy : σ.lookup y = some (true, d)) (hky : sc.names.lookup y = some .local ∨ sc.names.lookup y = some .cell) (hsz : ds.length ≤ 2 ^ 20)
    (next : ∀ s', Inv prog w h₀ Y Rl env X ((x, false, .lst (ds ++ [.tup [d, .str c]])) :: σ) s' → wpAny (model prog w) A (execs rest env) Q E s')
    (hline : (apos.endLine == cpos.line) = true := by decide) (hint : interactive env = false)
    (hd : (x == ("__debug__" : Str)) = false := by decide) (hdy : (y == ("__debug__" : Str)) = false := by decide) :
    wpAny (model prog w) A (execs (.Expr (.Call (.Attribute (.Name x p) "append" apos) [.Tuple [.Name y p2, .Constant (.str c) q p3] kt p4] [] cpos) pos :: rest) env) Q E s := by
  refine wpAny_execs_cons (wpAny_Expr_any ?_ hint rfl)
  obtain ⟨m, a, f, hm, hXa, r, hchg⟩ := i.hot hl
  refine wpAny_Call_method (T := "list") (id := "list.append") rfl rfl hline F.plainAttrs_list slot_list_append type_list_append ?_
  refine name_load f hm (kind_of he hk) ?_ hd
  obtain ⟨a', vs, ea, hpl, rs⟩ := r
  cases ea
  refine ⟨hpl.isList.typeIs, ?_, ?_⟩
  · rintro b e'; cases e'; obtain ⟨n, ho⟩ := hpl; exact ⟨_, ho, rfl⟩
  refine Calls.callWith_builtin rfl (Calls.evalArgs_plain (Calls.spliced_cons ?_))
  obtain ⟨m2, f2, kn, _⟩ := i.fm
  obtain ⟨vy, hvy, ry⟩ := kn y true d hy
  refine wpAny_Tuple (k := kt) (wpAny_items_cons (name_load f2 hvy (kind_of he hky) (wpAny_items_cons (wpAny_Constant_str (wpAny_items_nil ⟨by rw [sizeLine_eq]; exact (by decide : 2 ≤ 16777216), Calls.spliced_nil ?_⟩)) rfl) hdy) rfl)
  have k1 : Kp s { s with heap := s.heap.push { cls := .type "tuple", data := .seq [vy, .str c s.toks].toArray }, toks := s.toks + 1 } := Kp.push s _ _
  have r1 : Rep prog w X (s.heap.push { cls := .type "tuple", data := .seq [vy, .str c s.toks].toArray }) (.tup [d, .str c]) (.ref s.heap.objs.size) :=
    .tup (fresh_cold i.live) ⟨_, Heap.get?_push_size _ rfl, rfl, _, rfl⟩ (.cons (Rep.ext ry k1.ext) (.cons (.str _ _) .nil))
  have hpl1 : (s.heap.push { cls := .type "tuple", data := .seq [vy, .str c s.toks].toArray }).PlainList a vs.toArray := let ⟨n, ho⟩ := hpl; ⟨n, k1.ext _ _ ho⟩
  show wpAny _ A (call (.builtin "list.append") [.ref a, .ref s.heap.objs.size]) _ _ _
  refine wpAny_list_append_plain hpl1 (fun h' hl' hs' => next _ (hchg { s with heap := s.heap.push { cls := .type "tuple", data := .seq [vy, .str c s.toks].toArray }, toks := s.toks + 1 } h' (s.toks + 1) (.lst (ds ++ [.tup [d, .str c]])) k1 (fun b o hb e => hs'.extBut b o hb e) ?_ ?_)) (by have := rs.length; rw [sizeLine_eq, List.size_toArray]; omega)
  · have hX : ∀ b o, ¬ X b → (s.heap.push { cls := .type "tuple", data := .seq [vy, .str c s.toks].toArray }).get? b = some o → ¬ X b ∧ h'.get? b = some o := fun b o hb e => ⟨hb, hs'.extBut b o (fun q => hb (q ▸ hXa)) e⟩
    exact ⟨a, vs ++ [.ref s.heap.objs.size], rfl, by simpa using hl', ((rs.ext k1.ext).mono hX).append (.cons (Rep.mono r1 hX) .nil)⟩
  · obtain ⟨n, ho⟩ := hl'; exact ⟨_, ho⟩
/-- try: x = f(e1, e2); except TypeError: y.append((z, 'text')) -/
theorem st_try (B : Bs h₀ mg mb) (N : Names mg mb) {x y z f : Str} {c : Str} {p fp cp ap np hp pos p1 p2 p3 p4 apos cpos epos : Pos} {q kt : Nat} {e1 e2 : Expr} {d1 d2 dz : D} {ds : List D} {fa : Addr} {res : Option D} {rest : List Stmt} {Q : Flow → Shared → Prop}
    (he : env.scope = sc) (hr : Room A k) (hfr : A.frames = some [env]) (hfm : env.frame = some env.locals) (hint : interactive env = false) (i : Inv prog w h₀ Y Rl env X σ s) (gr : Gr Y Rl X)
    (hg : Gv prog w h₀ sc (.Name f fp) (.ref fa)) (hpl : Plainly prog w h₀ (.ref fa)) (h1 : Ev prog w h₀ k sc σ e1 true d1) (h2 : Ev prog w h₀ k sc σ e2 true d2) (H : FnR prog w h₀ k fa [d1, d2] res)
    (hkx : sc.names.lookup x = some .local ∨ sc.names.lookup x = some .cell) (hte : sc.names.lookup ("TypeError" : Str) = some .globalImplicit)
    (hl : σ.lookup y = some (false, .lst ds)) (hky : sc.names.lookup y = some .local ∨ sc.names.lookup y = some .cell) (hz : σ.lookup z = some (true, dz)) (hkz : sc.names.lookup z = some .local ∨ sc.names.lookup z = some .cell) (hsz : ds.length ≤ 2 ^ 20)
    (hsome : ∀ d, res = some d → ∀ s', Inv prog w h₀ Y Rl env X ((x, true, d) :: σ) s' → wpAny (model prog w) A (execs rest env) Q E s')
    (hnone : res = none → ∀ s', Inv prog w h₀ Y Rl env X ((y, false, .lst (ds ++ [.tup [dz, .str c]])) :: σ) s' → wpAny (model prog w) A (execs rest env) Q E s')
    (hst : ∀ env, starEach [e1, e2] env = [(false, eval e1 env), (false, eval e2 env)] := by intro _; rfl)
    (hsw : ∀ env, swapsWith (.Call (.Name f fp) [e1, e2] [] cp) (some (.Name x p)) ap.line env = pure false := by intro _; rfl)
    (hline : (apos.endLine == cpos.line) = true := by decide) (hdy : (y == ("__debug__" : Str)) = false := by decide) (hdz : (z == ("__debug__" : Str)) = false := by decide) :
    wpAny (model prog w) A (execs (.Try [.Assign [.Name x p] (.Call (.Name f fp) [e1, e2] [] cp) ap] [.ExceptHandler (some (.Name "TypeError" np)) none [.Expr (.Call (.Attribute (.Name y p1) "append" apos) [.Tuple [.Name z p2, .Constant (.str c) q p3] kt p4] [] cpos) epos] hp] [] [] pos :: rest) env) Q E s := by
  refine wpAny_execs_cons (wpAny_Try_except (wpAny_execs_cons (wpAny_Assign_Name (call_two hg hpl h1 h2 hst he hr i.see fun v1 v2 s1 k1 r1 r2 => ?_) (hsw env))))
  have i1 := i.keeps k1
  refine H A X s1 [v1, v2] _ _ [env] hr i1.st i1.live gr.x (gr.tbl _ i1.rel) hfr (i1.frames hfm fun _ h => by cases h) (.cons r1 (.cons r2 .nil)) (fun d hd v s2 g2 rv => ?_) fun hn e s2 hx => ?_
  · exact (i1.gs gr g2).store (kind_of he hkx) rv fun s' i' => wpAny_execs_nil (wpAny_execs_nil (hsome d hd s' i'))
  · obtain ⟨s3, h', Bh, a0, rfl, fl⟩ := hx
    refine wpAny_looks_onW hfr hfm fl.fly fun h4 held4 sm4 => wpAny_landsW held4 fun h5 held5 sm5 => ?_
    have i5 := Inv.caught (σ := σ) i1 gr hfm fl held5.1 (fl.slots.trans (sm4.trans sm5))
    obtain ⟨ob, hob, hobc⟩ := held5.there
    refine wpAny_handleBy_builtin (X := "TypeError") (T := "TypeError") (b := true) F.isExc_TypeError F.notTuple_TypeError (by rw [isSubtype_type]; kernel_rfl) ((gn B N.typeError hte) _ env X σ _ _ _ he i5.see ⟨rfl, ⟨ob, hob, hobc⟩, ?_⟩)
    refine lands_againW held5 fun h6 fl6 sm6 => ?_
    have i6 := Inv.caught (σ := σ) i1 gr hfm fl fl6.1 (fl.slots.trans (sm4.trans (sm5.trans sm6)))
    exact st_append_pair he i6 hl hky hz hkz hsz (fun s' i' => wpAny_execs_nil (hnone hn s' i')) hline hint hdy hdz
end
end Mine

-- part H1
namespace Mine
section
variable {prog : Program} {w : World} {h₀ : Heap} {k : Nat} {mg mb : Str → Option Value} {sc : Scope} {σ : Ctx0} {Y : Addr → Prop} {Rl : Shared → Prop} {env : Env} {X : Addr → Prop} {s : Shared} {A : Around} {E : Value → Shared → Prop}
/-- the frame beside a source that was just made -/
theorem Inv.iter {τ : Ctx0} {s₂ : Shared} {fp wr : Addr → Prop} (i : Inv prog w h₀ Y Rl env X σ s) (hk : Kp s s₂) (hwr : ∀ b, wr b → s.heap.get? b = none ∧ ∃ o, s₂.heap.get? b = some o) (hfp : ∀ b, fp b → ∃ o, s₂.heap.get? b = some o)
    (fpX : ∀ b, fp b → ¬ X b) (h0 : ∀ x y, τ.lookup x = some y → σ.lookup x = some y) : Inv prog w h₀ (fun a => Y a ∧ ¬ fp a) Rl env (fun a => X a ∨ wr a) τ s₂ := by
  have i' := (i.keeps hk)
  obtain ⟨m, f, n, h1, h2⟩ := i.fm
  have hX : ∀ b o, ¬ X b → s.heap.get? b = some o → ¬ (X b ∨ wr b) ∧ s₂.heap.get? b = some o := fun b o hb e => ⟨fun q => q.elim hb (fun q => by rw [(hwr b q).1] at e; cases e), hk.ext _ _ e⟩
  refine ⟨i'.st, fun a ha => ha.elim (i'.live a) fun q => (hwr a q).2, ⟨m, f.ext hk.ext, fun x b d e => ?_, fun x d e => ?_, fun x y dx dy e1 e2 => h2 x y dx dy (h0 _ _ e1) (h0 _ _ e2)⟩, fun b hb => ?_, fun a ha => ?_, fun b hb => i.base b hb.1, ?_, i'.rel⟩
  · obtain ⟨v, hv, rv⟩ := n x b d (h0 _ _ e)
    exact ⟨v, hv, rv.mono (fun a _ o e => hk.ext _ _ e) hX⟩
  · obtain ⟨a, ha, hXa, hYa, hns⟩ := h1 x d (h0 _ _ e)
    exact ⟨a, ha, .inl hXa, ⟨hYa, fun q => fpX a q hXa⟩, hns⟩
  · exact ⟨.inl (i.fa b hb).1, (i.fa b hb).2, fun q => fpX b q (i.fa b hb).1⟩
  · refine ⟨i'.new a ha, fun q => ?_⟩
    obtain ⟨o, ho⟩ := hfp a q; rw [ho] at ha; cases ha
  · exact fun s h' tk hr hkk => i.rstep s h' tk hr fun b o hb e => hkk b o (fun q => hb q.1) e
/-- a loop over a source, by the context at each turn's start; whatever its code -/
theorem loop_core {tg : Expr} {pr : Bool} {xs : List Str} {n : Nat} {dat : Nat → List D} {C : Code} {R : Result → Shared → Prop} {E' : Value → Shared → Prop} {body : (Shared → Prop) → Shared → Prop} (τ : Nat → Ctx0) {I : Addr} {s₂ : Shared} {fp wr : Addr → Prop} {St : (Addr → Prop) → Nat → Heap → Prop}
    (rule : ∀ (Iv : Nat → Shared → Prop), (∀ n s, Iv n s → wpAny (model prog w) A (pyNext (.ref I)) (fun r s₁ => (r = none ∧ R (.ok .next) s₁) ∨ ∃ v, r = some v ∧
      wpAny (model prog w) A (letOwnedTupleGo tg (.ref I) v) (fun _ s₁' => wpAny (model prog w) A (assign tg env v) (fun _ s₂ => body (fun s₃ => ∃ m, m < n ∧ Iv m s₃) s₂) E' s₁') E' s₁) E' s) → ∀ n s, Iv n s → codeAny (model prog w) A C R s)
    (he : env.scope = sc) (hr : Room A k) (W : Src prog w A I fp wr n dat pr St) (hst : St (fun a => X a ∨ wr a) 0 s₂.heap) (hfp : ∀ b, fp b → ∃ o, s₂.heap.get? b = some o)
    (fa : ∀ b, FmAddr env b → X b ∧ Y b) (base : ∀ b, Y b → b ≠ 23 → h₀.get? b = none) (rstep : Rel Y Rl) (wrX : ∀ b, wr b → ¬ X b) (wrY : ∀ b, wr b → Y b) (fpX : ∀ b, fp b → ¬ X b)
    (i₂ : Inv prog w h₀ (fun a => Y a ∧ ¬ fp a) Rl env (fun a => X a ∨ wr a) (τ 0) s₂) (ht : Tgt tg pr xs)
    (hx : ∀ x ∈ xs, sc.names.lookup x = some .local ∨ sc.names.lookup x = some .cell) (hlen : ∀ j, j < n → (dat j).length = xs.length)
    (hbody : ∀ (j : Nat) (Y' : Addr → Prop) (Rl' : Shared → Prop) (X' : Addr → Prop) (s' : Shared) (J : Shared → Prop), j < n → Within Y Rl X Y' Rl' X' → (∀ a, X' a → Y' a → X a) → Inv prog w h₀ Y' Rl' env X' (extC xs (dat j) (τ j)) s' →
      (∀ s'' σ'', Inv prog w h₀ Y' Rl' env X' σ'' s'' → (∀ x y, (τ (j + 1)).lookup x = some y → σ''.lookup x = some y) → J s'') → body J s')
    (next : ∀ s', Inv prog w h₀ Y Rl env X (τ n) s' → R (.ok .next) s') : codeAny (model prog w) A C R s₂ := by
  let X' : Addr → Prop := fun a => X a ∨ wr a
  let Y' : Addr → Prop := fun a => Y a ∧ ¬ fp a
  have hwX : ∀ b, wr b → X' b := fun b hb => .inr hb
  have slots : ∀ x b, Slot env x b → X b ∧ Y b := fun _ b h => fa b h.fm
  refine rule (fun kk s' => ∃ j, j ≤ n ∧ kk = n + 1 - j ∧ Inv prog w h₀ Y' Rl env X' (τ j) s' ∧ St X' j s'.heap ∧ ∀ b, fp b → ∃ o, s'.heap.get? b = some o) ?_ (n + 1) _ ⟨0, Nat.zero_le _, rfl, i₂, hst, hfp⟩
  rintro _ s' ⟨j, hj, rfl, ij, hstj, hfpj⟩
  have fmW : ∀ b, FmAddr env b → ¬ wr b := fun b hb q => wrX b q (fa b hb).1
  -- the frame behind a step of the source
  have step : ∀ h1 t1, (∀ a, wr a → ∃ o, h1.get? a = some o) → (∀ b o, ¬ wr b → s'.heap.get? b = some o → h1.get? b = some o) → (∀ b, fp b → ∃ o, h1.get? b = some o) → Inv prog w h₀ Y' Rl env X' (τ j) { s' with heap := h1, toks := t1 } := by
    intro h1 t1 hal hk1 hfp1
    obtain ⟨m, f, n', h1', h2'⟩ := ij.fm
    have hX : ∀ b o, ¬ X' b → s'.heap.get? b = some o → ¬ X' b ∧ h1.get? b = some o := fun b o hb e => ⟨hb, hk1 b o (fun q => hb (.inr q)) e⟩
    have hY : ∀ b o, ¬ Y b → s'.heap.get? b = some o → h1.get? b = some o := fun b o hb e => hk1 b o (fun q => hb (wrY b q)) e
    refine ⟨stands_step ij.st base hY, fun a ha => ?_, ⟨m, f.mono fun b o hb e => hk1 b o (fmW b hb) e, fun x b d e => ?_, h1', h2'⟩, ij.fa, fun a ha => ?_, ij.base, ij.rstep, rstep s' h1 t1 ij.rel hY⟩
    · by_cases q : wr a
      · exact hal a q
      · obtain ⟨o, ho⟩ := ij.live a ha; exact ⟨o, hk1 a o q ho⟩
    · obtain ⟨v, hv, rv⟩ := n' x b d e
      refine ⟨v, hv, ?_⟩
      cases b with
      | true => exact Rep.mono rv hX
      | false =>
        obtain ⟨a, ha, _, hYa, _⟩ := h1' x d e
        exact Rep1.mono rv (fun a' ea o e' => by rw [hv] at ha; cases ha; cases ea; exact hk1 a o (fun q => hYa.2 (W.sub a q)) e') hX
    · have hy : Y a := by
        by_cases hy : Y a
        · exact hy
        · cases q : s'.heap.get? a with
          | none => exact (ij.new a q).1
          | some o => have := hY a o hy q; rw [this] at ha; cases ha
      refine ⟨hy, fun q => ?_⟩
      obtain ⟨o, ho⟩ := hfp1 a q; rw [ho] at ha; cases ha
  by_cases hlt : j < n
  · refine wpAny_mono (W.item X' j s' tg (fun v s9 => wpAny (model prog w) A (assign tg env v) (fun _ s₂' => body (fun s₃ => ∃ m, m < n + 1 - j ∧ ∃ j, j ≤ n ∧ m = n + 1 - j ∧ Inv prog w h₀ Y' Rl env X' (τ j) s₃ ∧ St X' j s₃.heap ∧ ∀ b, fp b → ∃ o, s₃.heap.get? b = some o) s₂') E' s9) E' hwX ⟨xs, ht⟩ hlt hstj ?_) (fun r s₁ h₁ => .inr h₁) fun _ _ e => e
    intro v cs h1 t1 hgot hreps hst1 hk1
    have hfp1 : ∀ b, fp b → ∃ o, h1.get? b = some o := fun b hb => by
      by_cases q : wr b
      · exact W.alive _ _ _ hst1 b q
      · obtain ⟨o, ho⟩ := hfpj b hb; exact ⟨o, hk1 b o q ho⟩
    have i1 := step h1 t1 (W.alive _ _ _ hst1) hk1 hfp1
    obtain ⟨m, hf⟩ := i1.fm
    refine assign_tgt (s := { s' with heap := h1, toks := t1 }) ht hr.handled hf.1 (fun x hx' => kind_of he (hx x hx')) hgot (hreps.length.trans (hlen j hlt)) fun h2 t2 f2 hk2 => ?_
    dsimp only at hk2
    have i3 := i1.stores (t2 := t2) hf f2 hk2 (hreps.mono fun b o hb e => ⟨hb, hk2 b o (fun x _ q => hb (.inl (slots x b q).1)) e⟩) (hlen j hlt).symm
    dsimp only at i3
    have hfpS : ∀ b, fp b → ∀ x ∈ xs, ¬ Slot env x b := fun b hb x _ q => fpX b hb (slots x b q).1
    have hst2 : St X' (j + 1) h2 := W.mono _ _ _ _ _ hst1 (fun b o hb e => ⟨hb, hk2 b o (fun x _ q => hb (.inl (slots x b q).1)) e⟩) fun b o hb e => hk2 b o (hfpS b hb) e
    have hfp2 : ∀ b, fp b → ∃ o, h2.get? b = some o := fun b hb => by obtain ⟨o, ho⟩ := hfp1 b hb; exact ⟨o, hk2 b o (hfpS b hb) ho⟩
    let Y2 : Addr → Prop := fun a => Y' a ∧ (X' a ∨ h2.get? a = none)
    let R2 : Shared → Prop := fun s9 => Rl s9 ∧ (∀ b o, fp b → h2.get? b = some o → s9.heap.get? b = some o) ∧ ∀ b o, ¬ X' b → h2.get? b = some o → s9.heap.get? b = some o
    have i4 : Inv prog w h₀ Y2 R2 env X' (extC xs (dat j) (τ j)) { s' with heap := h2, toks := t2 } := by
      obtain ⟨m4, f4, n4, h41, h42⟩ := i3.fm
      refine ⟨i3.st, i3.live, ⟨m4, f4, n4, fun x d e => ?_, h42⟩, fun b hb => ⟨(i3.fa b hb).1, (i3.fa b hb).2, .inl (i3.fa b hb).1⟩, fun a ha => ⟨i3.new a ha, .inr ha⟩, fun b hb => i3.base b hb.1, ?_, i3.rel, fun b o _ e => e, fun b o _ e => e⟩
      · obtain ⟨a, ha, p1, p2, p3⟩ := h41 x d e
        exact ⟨a, ha, p1, ⟨p2, .inl p1⟩, p3⟩
      · rintro s9 h9 t9 ⟨q1, q2, q3⟩ hk9
        refine ⟨i3.rstep s9 h9 t9 q1 fun b o hb e => hk9 b o (fun q => hb q.1) e, fun b o hb e => hk9 b o (fun q => q.1.2 hb) (q2 b o hb e), fun b o hb e => hk9 b o (fun q => q.2.elim hb fun q => ?_) (q3 b o hb e)⟩
        rw [e] at q; cases q
    have hwi : Within Y Rl X Y2 R2 X' := by
      refine ⟨fun s9 q => q.1, fun a q => .inl q, fun a q => q.1.1, fun h23 P hP hRP s8 s9 q hp => ⟨hRP s8 s9 q.1 hp, fun b o hb e => hP s8 s9 hp b o ?_ (q.2.1 b o hb e), fun b o hb e => hP s8 s9 hp b o ?_ (q.2.2 b o hb e)⟩⟩
      · intro e23; subst e23; exact fpX 23 hb h23
      · intro e23; subst e23; exact hb (.inl h23)
    have hxy : ∀ a, X' a → Y2 a → X a := fun a q1 q2 => q1.elim id fun q => absurd (W.sub a q) q2.1.2
    refine hbody j Y2 R2 X' _ _ hlt hwi hxy i4 fun s3 σ'' i5 hσ => ?_
    obtain ⟨q1, q2, q3⟩ := i5.rel
    refine ⟨n + 1 - (j + 1), by omega, j + 1, hlt, rfl, ?_, W.mono _ _ _ _ _ hst2 (fun b o hb e => ⟨hb, q3 b o hb e⟩) q2, fun b hb => by obtain ⟨o, ho⟩ := hfp2 b hb; exact ⟨o, q2 b o hb ho⟩⟩
    obtain ⟨m5, f5, n5, h51, h52⟩ := i5.fm
    refine Inv.weaken ⟨i5.st, i5.live, ⟨m5, f5, n5, fun x d e => ?_, h52⟩, i3.fa, fun a ha => (i5.new a ha).1, i3.base, i3.rstep, q1⟩ hσ
    obtain ⟨a, ha, p1, p2, p3⟩ := h51 x d e
    exact ⟨a, ha, p1, p2.1, p3⟩
  · have hin : j = n := Nat.le_antisymm hj (Nat.not_lt.mp hlt)
    subst hin
    refine W.done X' s' _ E' hwX hstj fun h1 t1 hk1 => .inl ⟨rfl, ?_⟩
    -- the frame behind the loop; of the iterator nothing is said
    obtain ⟨m, f, n', h1', h2'⟩ := ij.fm
    have hX : ∀ b o, ¬ X' b → s'.heap.get? b = some o → ¬ X b ∧ h1.get? b = some o := fun b o hb e => ⟨fun q => hb (.inl q), hk1 b o (fun q => hb (.inr q)) e⟩
    have hY : ∀ b o, ¬ Y b → s'.heap.get? b = some o → h1.get? b = some o := fun b o hb e => hk1 b o (fun q => hb (wrY b q)) e
    refine next _ ⟨stands_step ij.st base hY, fun a ha => ?_, ⟨m, f.mono fun b o hb e => hk1 b o (fmW b hb) e, fun x b d e => ?_, fun x d e => ?_, h2'⟩, fa, fun a ha => ?_, base, rstep, rstep s' h1 t1 ij.rel hY⟩
    · obtain ⟨o, ho⟩ := ij.live a (.inl ha); exact ⟨o, hk1 a o (fun q => wrX a q ha) ho⟩
    · obtain ⟨v, hv, rv⟩ := n' x b d e
      refine ⟨v, hv, ?_⟩
      cases b with
      | true => exact Rep.mono rv hX
      | false =>
        obtain ⟨a, ha, _, hYa, _⟩ := h1' x d e
        exact Rep1.mono rv (fun a' ea o e' => by rw [hv] at ha; cases ha; cases ea; exact hk1 a o (fun q => hYa.2 (W.sub a q)) e') hX
    · obtain ⟨a, ha, p1, p2, p3⟩ := h1' x d e
      refine ⟨a, ha, p1.elim id fun q => absurd (W.sub a q) p2.2, p2.1, p3⟩
    · by_cases hy : Y a
      · exact hy
      · cases q : s'.heap.get? a with
        | none => exact (ij.new a q).1
        | some o => have := hY a o hy q; rw [this] at ha; cases ha
end
end Mine

-- part H2
namespace Mine
section
variable {prog : Program} {w : World} {A : Around} {R : Result → Shared → Prop} {s : Shared}
abbrev comp2 (elt t1 i1 t2 i2 : Expr) (scope : Scope) (pos : Pos) : Expr := .ListComp elt [⟨t1, i1, [], 0⟩, ⟨t2, i2, [], 0⟩] scope pos
def okOr (J : Shared → Prop) (K : Value → Shared → Prop) : Result → Shared → Prop
  | .ok _ => J
  | .error x => K x
theorem compTurn_two0 (elt t1 i1 t2 i2 : Expr) (scope : Scope) (pos : Pos) (it acc : Value) (env : Env) :
    compTurn (comp2 elt t1 i1 t2 i2 scope pos) 0 it acc env = (do
      standAt i1.pos
      match ← pyNext it with
      | none => pure (.done .next)
      | some v =>
        letOwnedTupleGo t1 it v
        assign t1 env v
        let x ← eval i2 env
        standAt i2.pos
        let x ← foldedSetIterable i2 env x
        let _ ← runOwn (.compStart (comp2 elt t1 i1 t2 i2 scope pos) 1 (← holding [x] (pyIter x)) acc env) env
        again (.compLoop (comp2 elt t1 i1 t2 i2 scope pos) 0 it acc env)) := by rfl
theorem compTurn_two1 (elt t1 i1 t2 i2 : Expr) (scope : Scope) (pos : Pos) (it acc : Value) (env : Env) :
    compTurn (comp2 elt t1 i1 t2 i2 scope pos) 1 it acc env = (do
      standAt i2.pos
      match ← pyNext it with
      | none => pure (.done .next)
      | some v =>
        letOwnedTupleGo t2 it v
        assign t2 env v
        (do let _ ← call (.builtin "list.append") [acc, ← eval elt env])
        again (.compLoop (comp2 elt t1 i1 t2 i2 scope pos) 1 it acc env)) := by rfl
theorem comp2_turns1 {elt t1 i1 t2 i2 : Expr} {scope : Scope} {pos : Pos} {it acc : Value} {env : Env} (I : Nat → Shared → Prop)
    (turn : ∀ n s, I n s → wpAny (model prog w) A (pyNext it) (fun r s₁ => (r = none ∧ R (.ok .next) s₁) ∨ ∃ v, r = some v ∧
      wpAny (model prog w) A (letOwnedTupleGo t2 it v) (fun _ s₁' => wpAny (model prog w) A (assign t2 env v) (fun _ s₂ =>
        wpAny (model prog w) A (eval elt env) (fun x s₄ => wpAny (model prog w) A (call (.builtin "list.append") [acc, x]) (fun _ s₅ => ∃ m, m < n ∧ I m s₅) (notedBy (model prog w) A env fun e s' => R (.error e) s') s₄) (notedBy (model prog w) A env fun e s' => R (.error e) s') s₂)
          (notedBy (model prog w) A env fun e s' => R (.error e) s') s₁') (notedBy (model prog w) A env fun e s' => R (.error e) s') s₁) (notedBy (model prog w) A env fun e s' => R (.error e) s') s)
    (n : Nat) (s : Shared) (h : I n s) :
    codeAny (model prog w) A (.compLoop (comp2 elt t1 i1 t2 i2 scope pos) 1 it acc env) R s := by
  refine codeAny_loop rfl I (fun n s hI => ?_) n h
  show wpAny _ A ((compTurn (comp2 elt t1 i1 t2 i2 scope pos) 1 it acc env).onRaise (fun x => do noteFrame x env; theTreesLotGoes x)) _ _ s
  refine wpAny_noted ?_
  rw [compTurn_two1]
  refine wpAny_bind (wpAny_standAt (wpAny_bind (wpAny_mono (turn n s hI) (fun r s₁ h₁ => ?_) fun _ _ h' => h')))
  rcases h₁ with ⟨rfl, h₁⟩ | ⟨v, rfl, h₁⟩
  · exact wpAny_pure h₁
  · refine wpAny_bind (wpAny_mono h₁ (fun _ s₁' h₁' => ?_) fun _ _ h' => h')
    refine wpAny_bind (wpAny_mono h₁' (fun _ s₂ h₂ => ?_) fun _ _ h' => h')
    exact wpAny_bind (wpAny_bind (wpAny_mono h₂ (fun x s₄ h₄ => wpAny_bind (wpAny_mono h₄ (fun _ s₅ h₅ => wpAny_pure (wpAny_pure ⟨rfl, h₅⟩)) fun _ _ h' => h')) fun _ _ h' => h'))
theorem comp2_turns0 {elt t1 i1 t2 i2 : Expr} {scope : Scope} {pos : Pos} {it acc : Value} {env : Env} (hs : ∀ x, foldedSetIterable i2 env x = pure x) (I : Nat → Shared → Prop)
    (turn : ∀ n s, I n s → wpAny (model prog w) A (pyNext it) (fun r s₁ => (r = none ∧ R (.ok .next) s₁) ∨ ∃ v, r = some v ∧
      wpAny (model prog w) A (letOwnedTupleGo t1 it v) (fun _ s₁' => wpAny (model prog w) A (assign t1 env v) (fun _ s₂ =>
        wpAny (model prog w) A (eval i2 env) (fun x s₃ => wpAny (model prog w) A (pyIter x) (fun it2 s₄ => codeAny (model prog w) A (.compStart (comp2 elt t1 i1 t2 i2 scope pos) 1 it2 acc env) (okOr (fun s' => ∃ m, m < n ∧ I m s') (cameBackBy (model prog w) A env (notedBy (model prog w) A env fun e s' => R (.error e) s'))) s₄)
          (notedBy (model prog w) A env fun e s' => R (.error e) s') s₃) (notedBy (model prog w) A env fun e s' => R (.error e) s') s₂)
          (notedBy (model prog w) A env fun e s' => R (.error e) s') s₁') (notedBy (model prog w) A env fun e s' => R (.error e) s') s₁) (notedBy (model prog w) A env fun e s' => R (.error e) s') s)
    (n : Nat) (s : Shared) (h : I n s) :
    codeAny (model prog w) A (.compLoop (comp2 elt t1 i1 t2 i2 scope pos) 0 it acc env) R s := by
  refine codeAny_loop rfl I (fun n s hI => ?_) n h
  show wpAny _ A ((compTurn (comp2 elt t1 i1 t2 i2 scope pos) 0 it acc env).onRaise (fun x => do noteFrame x env; theTreesLotGoes x)) _ _ s
  refine wpAny_noted ?_
  rw [compTurn_two0]
  refine wpAny_bind (wpAny_standAt (wpAny_bind (wpAny_mono (turn n s hI) (fun r s₁ h₁ => ?_) fun _ _ h' => h')))
  rcases h₁ with ⟨rfl, h₁⟩ | ⟨v, rfl, h₁⟩
  · exact wpAny_pure h₁
  · refine wpAny_bind (wpAny_mono h₁ (fun _ s₁' h₁' => ?_) fun _ _ h' => h')
    refine wpAny_bind (wpAny_mono h₁' (fun _ s₂ h₂ => ?_) fun _ _ h' => h')
    refine wpAny_bind (wpAny_mono h₂ (fun x s₃ h₃ => ?_) fun _ _ h' => h')
    refine wpAny_bind (wpAny_standAt (wpAny_bind (wpAny_of_eq (hs x) (wpAny_bind (wpAny_holding (wpAny_mono h₃ (fun it2 s₄ h₄ => ?_) fun _ _ h' => h'))))))
    refine wpAny_bind (wpAny_runOwn (h := none) (codeAny_mono h₄ fun r s' h' => ?_))
    cases r with
    | ok f => exact wpAny_pure ⟨rfl, h'⟩
    | error e => exact h'
theorem compStart_two1 {elt t1 i1 t2 i2 : Expr} {scope : Scope} {pos : Pos} {it acc : Value} {env : Env}
    (h0 : codeAny (model prog w) A (.compLoop (comp2 elt t1 i1 t2 i2 scope pos) 1 it acc env) R s)
    (h : wpAny (model prog w) A (pyIter it) (fun it' s' => codeAny (model prog w) A (.compLoop (comp2 elt t1 i1 t2 i2 scope pos) 1 it' acc env) R s') (notedBy (model prog w) A env fun x s' => R (.error x) s') s) :
    codeAny (model prog w) A (.compStart (comp2 elt t1 i1 t2 i2 scope pos) 1 it acc env) R s := by
  refine codeAny_of_tree ?_
  show wpAny _ _ ((compStart (comp2 elt t1 i1 t2 i2 scope pos) 1 it acc env).onRaise (fun x => do noteFrame x env; standAt theWindowsPlace)) _ _ s
  refine wpAny_notedAt ?_
  unfold compStart
  show wpAny _ _ (ask >>= _) _ _ s
  refine wpAny_bind (wpAny_askSetting (wpAny_ite ?_))
  split
  · first
      | exact wpAny_bind (wpAny_pure (wpAny_pure (And.intro rfl h0)))
      | exact wpAny_pure (And.intro rfl h0)
  · first
      | exact wpAny_bind (wpAny_rule (wpAny_bind (wpAny_standAt (wpAny_bind (wpAny_mono h (fun it' s' h' => wpAny_pure (And.intro rfl h')) fun _ _ x => x)))))
      | (refine wpAny_bind (wpAny_rule ?_); show wpAny _ _ (standAt i2.pos >>= _) _ _ s; exact wpAny_bind (wpAny_standAt (wpAny_bind (wpAny_mono h (fun it' s' h' => wpAny_pure (And.intro rfl h')) fun _ _ x => x))))
end
end Mine

-- part H3
namespace Mine
theorem extC_skip : ∀ {xs : List Str} {ds : List D} {σ : Ctx0} {x : Str}, x ∉ xs → (extC xs ds σ).lookup x = σ.lookup x
  | [], _, _, _, _ => rfl
  | _ :: _, [], _, _, _ => rfl
  | z :: xs, d :: ds, σ, x, h => by
    rw [extC, extC_skip fun q => h (by simp [q]), List.lookup_cons]
    have : (x == z) = false := by simpa using fun q => h (by simp [q])
    rw [this]
theorem extC_mono : ∀ {xs : List Str} {ds : List D} {σ τ : Ctx0}, (∀ x y, σ.lookup x = some y → τ.lookup x = some y) → ∀ x y, (extC xs ds σ).lookup x = some y → (extC xs ds τ).lookup x = some y
  | [], _, _, _, h => h
  | _ :: _, [], _, _, h => h
  | z :: xs, d :: ds, σ, τ, h => extC_mono (xs := xs) (ds := ds) fun x y e => by
    rw [List.lookup_cons] at e ⊢
    cases q : x == z with
    | true => rw [q] at e; exact e
    | false => rw [q] at e; exact h x y e
theorem extC_mem {xs : List Str} {ds : List D} {x : Str} {y : Bool × D} (h : (extC xs ds []).lookup x = some y) : x ∈ xs := by
  by_cases q : x ∈ xs
  · exact q
  · rw [extC_skip q] at h; cases h
/-- the hidden name of a comprehension's list -/
def acc0 : Str := ".acc"
section
variable {prog : Program} {w : World} {h₀ : Heap} {k : Nat} {mg mb : Str → Option Value} {sc : Scope} {σ : Ctx0} {Y : Addr → Prop} {Rl : Shared → Prop} {env : Env} {X : Addr → Prop} {s : Shared} {A : Around} {E : Value → Shared → Prop}
theorem acc_append {x : Str} {D' : Addr} {ds : List D} {d : D} {v : Value} {J : Shared → Prop} (i : Inv prog w h₀ Y Rl env X σ s) (hl : σ.lookup x = some (false, .lst ds)) (tie : ∀ a, X a → Y a → ¬ FmAddr env a → a = D') (r : Rep prog w X s.heap d v) (hsz : ds.length ≤ 2 ^ 20)
    (hQ : ∀ s', Inv prog w h₀ Y Rl env X ((x, false, .lst (ds ++ [d])) :: σ) s' → J s') : wpAny (model prog w) A (call (.builtin "list.append") [.ref D', v]) (fun _ s' => J s') E s := by
  obtain ⟨m, hf⟩ := i.fm
  have hf' := hf
  obtain ⟨f, n, h1, h2⟩ := hf'
  obtain ⟨a, ha, hXa, hYa, hns⟩ := h1 _ _ hl
  obtain rfl := tie a hXa hYa hns
  obtain ⟨v', hv', rv⟩ := n _ _ _ hl
  rw [ha] at hv'; cases hv'
  obtain ⟨a', vs, ea, hpl, rs⟩ := rv
  cases ea
  refine wpAny_list_append_plain hpl (fun h' hl' hs' => hQ _ (i.change' (m := m) (tk := s.toks) hl hf ha (fun b o hb e => hs'.extBut b o hb e) ?_ ?_)) (by have := rs.length; rw [sizeLine_eq, List.size_toArray]; omega)
  · have hX : ∀ b o, ¬ X b → s.heap.get? b = some o → ¬ X b ∧ h'.get? b = some o := fun b o hb e => ⟨hb, hs'.extBut b o (fun q => hb (q ▸ hXa)) e⟩
    exact ⟨a, vs ++ [v], rfl, by simpa using hl', (rs.mono hX).append (.cons (Rep.mono r hX) .nil)⟩
  · obtain ⟨n, ho⟩ := hl'; exact ⟨_, ho⟩
/-- a comprehension of two clauses -/
theorem Ev.compTwo {α β : Type} {elt t1 i1 t2 i2 : Expr} {scope : Scope} {pos : Pos} {pr1 pr2 : Bool} {xs ys : List Str} {ls : List α} {ms : α → List β} {dat : α → List D} {dat2 : α → β → List D} {f : α → β → D}
    (hit : ItL prog w h₀ k sc σ i1 ls dat pr1 true) (ht : Tgt t1 pr1 xs)
    (hit2 : ∀ a ∈ ls, ItL prog w h₀ k (relab scope sc) (extC xs (dat a) []) i2 (ms a) (dat2 a) pr2 true) (ht2 : Tgt t2 pr2 ys)
    (hkind : scope.kind = .function) (hloc : ∀ y ∈ scope.names, y.2 = .local) (honce : (scope.names.map (·.1)).Nodup)
    (hx : ∀ x ∈ xs, scope.names.lookup x = some .local) (hy : ∀ x ∈ ys, scope.names.lookup x = some .local) (hdis : ∀ x ∈ xs, x ∉ ys)
    (hlen : ∀ a ∈ ls, (dat a).length = xs.length) (hlen2 : ∀ a ∈ ls, ∀ b ∈ ms a, (dat2 a b).length = ys.length)
    (helt : ∀ a ∈ ls, ∀ b ∈ ms a, Ev prog w h₀ k (relab scope sc) (extC ys (dat2 a b) (extC xs (dat a) [])) elt true (f a b))
    (hn : (ls.flatMap fun a => (ms a).map (f a)).length ≤ 2 ^ 20) (hna : scope.names.lookup acc0 = none)
    (hs1 : ∀ env x, foldedSetIterable i1 env x = pure x := by intro _ _; rfl) (hs2 : ∀ env x, foldedSetIterable i2 env x = pure x := by intro _ _; rfl) :
    Ev prog w h₀ k sc σ (comp2 elt t1 i1 t2 i2 scope pos) true (.lst (ls.flatMap fun a => (ms a).map (f a))) := by
  intro A env X s Q E he hr hsee hq
  rw [eval_ListComp]
  obtain ⟨m₀, f₀, kn₀⟩ := hsee.fm
  have hok : CompOk sc scope := ⟨hkind, (fun n hn => by have := hloc _ hn; cases this), honce⟩
  refine wpAny_comprehension_free (use := none) rfl (hs1 env) (comp_frame he hok f₀).1 hok.kind (fun x hx hl => by obtain ⟨y, q⟩ := x; subst hl; exact look_of_mem hok.once hx) ?_
  refine hit A env X s _ E he hr hsee fun I s₂ fp wr St hk W hst hwr hfp hcl => ?_
  have hcl' := hcl rfl
  have hsee2 := hsee.keeps hk
  have fm2 := f₀.ext hk.ext
  refine wpAny_newObj_type (newComp ?_)
  dsimp only
  rw [show (s₂.heap.push { cls := Value.type "list", dict := none, data := Data.seq ([] : List Value).toArray }).objs.size = s₂.heap.objs.size + 1 from Heap.size_push ..]
  generalize hH3 : s₂.heap.push { cls := Value.type "list", dict := none, data := Data.seq ([] : List Value).toArray } = H3
  have hz3 : H3.objs.size = s₂.heap.objs.size + 1 := by rw [← hH3]; exact Heap.size_push ..
  have e3 : Ext s₂.heap H3 := fun b o e => by rw [← hH3]; exact Heap.get?_push_of_some _ e
  obtain ⟨hcl3, fm4⟩ := comp_frame he hok (fm2.ext e3)
  have e4 : Ext H3 (pushCells (H3.push { cls := .type "dict", data := .dict #[] }) scope.names) := fun b o e => pushCells_ext _ _ b o (Heap.get?_push_of_some _ e)
  rw [hz3] at fm4
  generalize hH4 : pushCells (H3.push { cls := .type "dict", data := .dict #[] }) scope.names = H4 at fm4 e4
  have hDl : H4.PlainList s₂.heap.objs.size #[] := ⟨_, e4 _ _ (by rw [← hH3]; exact Heap.get?_push_size _ rfl)⟩
  have hcenv : cenvOf scope env (s₂.heap.objs.size + 1) = { scope := relabel scope env, locals := s₂.heap.objs.size + 1, globals := env.globals, cells := cellsFrom (s₂.heap.objs.size + 1 + 1) scope.names (clo env.cells scope.names []), qual := env.qual, func := none, code := env.code, frame := env.frame, builtins := env.builtins } := rfl
  show codeAny _ A (.compStart _ 0 (.ref I) (.ref s₂.heap.objs.size) { scope := relabel scope env, locals := s₂.heap.objs.size + 1, globals := env.globals, cells := cellsFrom (s₂.heap.objs.size + 1 + 1) scope.names (clo env.cells scope.names []), qual := env.qual, func := none, code := env.code, frame := env.frame, builtins := env.builtins })
    (compPost (model prog w) A E none Q (.ref s₂.heap.objs.size) (s₂.heap.objs.size + 1)) { s₂ with heap := H4 }
  rw [← hcenv]
  have hcells : ∀ x c, (cenvOf scope env (s₂.heap.objs.size + 1)).cells.lookup x ≠ some c := fun x c hc => by
    have hc' : (cellsFrom (s₂.heap.objs.size + 1 + 1) scope.names (clo env.cells scope.names [])).lookup x = some c := hc
    rw [cf_other _ _ _ _ fun q => by have := hloc _ q; cases this] at hc'
    rcases clo_look _ _ _ _ _ hc' with q | ⟨q, _⟩
    · simp at q
    · have := hloc _ q; cases this
  generalize hC : cenvOf scope env (s₂.heap.objs.size + 1) = cenv at fm4 hcells
  have hCl : cenv.locals = s₂.heap.objs.size + 1 := by rw [← hC]; rfl
  have hCs : cenv.scope = relab scope sc := by rw [← hC]; exact relab_is he
  rw [← hCl]
  generalize hD' : s₂.heap.objs.size = D' at hDl hCl
  have e24 : Ext s₂.heap H4 := e3.trans e4
  have newNone : ∀ a, D' ≤ a → s₂.heap.get? a = none := fun a ha => by
    cases q : s₂.heap.get? a with
    | none => rfl
    | some o => exact absurd (Heap.lt_size q) (Nat.not_lt.mpr (hD' ▸ ha))
  have newNone0 : ∀ a, D' ≤ a → s.heap.get? a = none := fun a ha => by
    cases q : s.heap.get? a with
    | none => rfl
    | some o => have := hk.ext _ _ q; rw [newNone a ha] at this; cases this
  have hDC : D' ≠ cenv.locals := by rw [hCl]; exact Nat.ne_of_lt (Nat.lt_succ_self _)
  have hD2 := newNone D' (Nat.le_refl _)
  have hC2 : s₂.heap.get? cenv.locals = none := newNone _ (by rw [hCl]; exact Nat.le_succ _)
  have hD0 := newNone0 D' (Nat.le_refl _)
  have hC0 : s.heap.get? cenv.locals = none := newNone0 _ (by rw [hCl]; exact Nat.le_succ _)
  have hfmA : ∀ b, FmAddr cenv b → b = cenv.locals := fun b hb => hb.elim id fun ⟨x, hc⟩ => (hcells x b hc).elim
  have rkind : ∀ x : Str, scope.names.lookup x = some .local → (relab scope sc).names.lookup x = some .local := fun x h => by
    show (relabel scope _).names.lookup x = _
    rw [relabel_look, h]; rfl
  have rnone : ∀ x : Str, scope.names.lookup x = none → cenv.kindOf x = none := fun x h => by
    unfold Env.kindOf
    rw [hCs]
    show (relabel scope _).names.lookup x = _
    rw [relabel_look, h]; rfl
  have hacc : cenv.kindOf acc0 = none := rnone _ hna
  have hxa : acc0 ∉ xs := fun q => by have := hx _ q; rw [hna] at this; cases this
  have hya : acc0 ∉ ys := fun q => by have := hy _ q; rw [hna] at this; cases this
  let X0 : Addr → Prop := fun a => X a ∨ a = D' ∨ a = cenv.locals
  let Y0 : Addr → Prop := fun a => s.heap.get? a = none
  have liveX : ∀ a, X a → ∃ o, s.heap.get? a = some o := hsee.live
  have tie : ∀ a, X0 a → Y0 a → ¬ FmAddr cenv a → a = D' := fun a h1 h2 h3 => by
    rcases h1 with q | q | q
    · obtain ⟨o, ho⟩ := liveX a q
      have h2' : s.heap.get? a = none := h2
      rw [ho] at h2'; cases h2'
    · exact q
    · exact (h3 (.inl q)).elim
  have wrX : ∀ b, wr b → ¬ X0 b := fun b hb q => by
    obtain ⟨o, ho⟩ := (hwr b hb).2
    rcases q with q | rfl | rfl
    · obtain ⟨o', ho'⟩ := liveX b q; rw [(hwr b hb).1] at ho'; cases ho'
    · rw [hD2] at ho; cases ho
    · rw [hC2] at ho; cases ho
  have wrY : ∀ b, wr b → Y0 b := fun b hb => (hwr b hb).1
  have fpX : ∀ b, fp b → ¬ X0 b := fun b hb q => by
    rcases hcl' b hb with q' | q'
    · exact wrX b q' q
    · obtain ⟨o, ho⟩ := hfp b hb
      rcases q with q | rfl | rfl
      · exact q' q
      · rw [hD2] at ho; cases ho
      · rw [hC2] at ho; cases ho
  have fa0 : ∀ b, FmAddr cenv b → X0 b ∧ Y0 b := fun b hb => by rw [hfmA b hb]; exact ⟨.inr (.inr rfl), hC0⟩
  have base0 : ∀ b, Y0 b → b ≠ 23 → h₀.get? b = none := fun b hb h23 => by
    cases q : h₀.get? b with
    | none => rfl
    | some o =>
      have := hsee.st b o h23 q
      have hb' : s.heap.get? b = none := hb
      rw [this] at hb'; cases hb'
  have rstep0 : Rel Y0 (Kp s) := fun s1 h' tk kp hh => by
    obtain ⟨h1, t1, rfl, k1⟩ := kp
    exact ⟨h', tk, rfl, fun b o e => hh b o (fun q => by have q' : s.heap.get? b = none := q; rw [e] at q'; cases q') (k1 b o e)⟩
  have kp4 : Kp s { s₂ with heap := H4 } := hk.trans ⟨H4, s₂.toks, rfl, e24⟩
  have fpD : ∀ b, fp b → b ≠ D' ∧ b ≠ cenv.locals := fun b hb => by
    obtain ⟨o, ho⟩ := hfp b hb
    exact ⟨(fun q => by rw [q, hD2] at ho; cases ho), (fun q => by rw [q, hC2] at ho; cases ho)⟩
  have i₂ : Inv prog w h₀ (fun a => Y0 a ∧ ¬ fp a) (Kp s) cenv (fun a => X0 a ∨ wr a) [(acc0, false, .lst [])] { s₂ with heap := H4 } := by
    refine ⟨hsee.st.ext kp4.ext, fun a ha => ?_, ⟨fun x => if x = acc0 then some (.ref D') else (if scope.names.lookup x = some .free then m₀ x else none), ⟨fm4.kind, fm4.gl, fm4.bu, ?_, ?_, fm4.inj⟩, ?_, ?_, ?_⟩, fun b hb => ?_, fun a ha => ?_, fun b hb => base0 b hb.1, ?_, kp4⟩
    · rcases ha with (ha | rfl | rfl) | ha
      · obtain ⟨o, ho⟩ := hsee2.live a ha; exact ⟨o, e24 _ _ ho⟩
      · obtain ⟨n, ho⟩ := hDl; exact ⟨_, ho⟩
      · obtain ⟨ml, ⟨o, _, _, ho, _⟩, _⟩ := fm4.ns; exact ⟨o, ho⟩
      · obtain ⟨o, ho⟩ := (hwr a ha).2; exact ⟨o, e24 _ _ ho⟩
    · obtain ⟨ml, hns, hml⟩ := fm4.ns
      refine ⟨ml, hns, fun x hx' => ?_⟩
      have hne : x ≠ acc0 := fun q => by rw [q, hacc] at hx'; cases hx'
      rw [hml x hx']; exact (if_neg hne).symm
    · intro x hx'
      obtain ⟨c, hc, _⟩ := fm4.cell x hx'
      exact (hcells x c hc).elim
    · intro x b d e
      rw [List.lookup_cons] at e
      cases q : x == acc0 with
      | false => rw [q] at e; cases e
      | true =>
        rw [q] at e; cases e
        rw [beq_iff_eq.mp q]
        exact ⟨.ref D', by simp, D', [], rfl, hDl, .nil⟩
    · intro x d e
      rw [List.lookup_cons] at e
      cases q : x == acc0 with
      | false => rw [q] at e; cases e
      | true =>
        rw [beq_iff_eq.mp q]
        exact ⟨D', by simp, .inl (.inr (.inl rfl)), ⟨hD0, fun q => (fpD D' q).1 rfl⟩, fun q => hDC (hfmA _ q)⟩
    · intro x y dx dy e1 e2 hne
      rw [List.lookup_cons] at e1 e2
      cases q : x == acc0 with
      | false => rw [q] at e1; cases e1
      | true =>
        cases q2 : y == acc0 with
        | false => rw [q2] at e2; cases e2
        | true => exact (hne (by rw [beq_iff_eq.mp q, beq_iff_eq.mp q2])).elim
    · rw [hfmA b hb]
      exact ⟨.inl (.inr (.inr rfl)), hC0, fun q => (fpD _ q).2 rfl⟩
    · refine ⟨?_, fun q => ?_⟩
      · show s.heap.get? a = none
        cases q : s.heap.get? a with
        | none => rfl
        | some o => have := kp4.ext _ _ q; rw [this] at ha; cases ha
      · obtain ⟨o, ho⟩ := hfp a q
        have := e24 _ _ ho
        have ha' : H4.get? a = none := ha
        rw [this] at ha'; cases ha'
    · exact fun s1 h' tk hr' hkk => rstep0 s1 h' tk hr' fun b o hb e => hkk b o (fun q => hb q.1) e
  have hst4 : St (fun a => X0 a ∨ wr a) 0 H4 := W.mono _ _ _ _ _ hst (fun b o hb e => ⟨fun q => by
    rcases q with (q | rfl | rfl) | q
    · exact hb (.inl q)
    · rw [hD2] at e; cases e
    · rw [hC2] at e; cases e
    · exact hb (.inr q), e24 _ _ e⟩) fun b o _ e => e24 _ _ e
  have hfp4 : ∀ b, fp b → ∃ o, H4.get? b = some o := fun b hb => by obtain ⟨o, ho⟩ := hfp b hb; exact ⟨o, e24 _ _ ho⟩
  have turns : codeAny (model prog w) A (.compLoop (comp2 elt t1 i1 t2 i2 scope pos) 0 (.ref I) (.ref D') cenv) (compPost (model prog w) A E none Q (.ref D') cenv.locals) { s₂ with heap := H4 } := by
    generalize hE1 : (notedBy (model prog w) A cenv fun e s' => compPost (model prog w) A E none Q (.ref D') cenv.locals (.error e) s') = E1
    refine loop_core (E' := E1) (body := fun J s9 => wpAny (model prog w) A (eval i2 cenv) (fun x s₃ => wpAny (model prog w) A (pyIter x) (fun it2 s₄ => codeAny (model prog w) A (.compStart (comp2 elt t1 i1 t2 i2 scope pos) 1 it2 (.ref D') cenv) (okOr J (cameBackBy (model prog w) A cenv E1)) s₄) E1 s₃) E1 s9) (fun j => [(acc0, false, .lst ((ls.take j).flatMap fun a => (ms a).map (f a)))]) (fun Iv turn => comp2_turns0 (hs2 cenv) Iv (by rw [hE1]; exact turn)) hCs hr W hst4 hfp4 fa0 base0 rstep0 wrX wrY fpX (by simpa using i₂) ht (fun x hx' => .inl (rkind x (hx x hx'))) (fun j hj => ?_) (fun j Y' Rl' X' s' J hj hwi hxy ij hJ => ?_) fun s' i' => ?_
    · have e : ls[j]? = some ls[j] := by simp [hj]
      rw [e]; exact hlen _ (List.getElem_mem _)
    · have e : ls[j]? = some ls[j] := by simp [hj]
      have ha : ls[j] ∈ ls := List.getElem_mem _
      generalize ls[j] = a at e ha
      rw [e] at ij
      have hw : ∀ x y, (extC xs (dat a) []).lookup x = some y → (extC xs (dat a) [(acc0, false, .lst ((ls.take j).flatMap fun a => (ms a).map (f a)))]).lookup x = some y := extC_mono fun _ _ h => by cases h
      have ijw := ij.weaken hw
      refine hit2 a ha A cenv X' s' _ _ hCs hr ijw.see fun I2 s3 fp2 wr2 St2 hk2 W2 hst2 hwr2 hfp2 hcl2 => ?_
      have wrX2 : ∀ b, wr2 b → ¬ X' b := fun b hb q => by obtain ⟨o, ho⟩ := ij.live b q; rw [(hwr2 b hb).1] at ho; cases ho
      have fpX2 : ∀ b, fp2 b → ¬ X' b := fun b hb => (hcl2 rfl b hb).elim (wrX2 b) id
      have wrY2 : ∀ b, wr2 b → Y' b := fun b hb => ij.new b (hwr2 b hb).1
      let τ2 : Nat → Ctx0 := fun jj => (acc0, false, .lst ((ls.take j).flatMap (fun a => (ms a).map (f a)) ++ ((ms a).take jj).map (f a))) :: extC xs (dat a) []
      have hne : ∀ x y, (extC xs (dat a) []).lookup x = some y → (x == acc0) = false := fun x y h => by
        have := extC_mem h
        simpa using fun q : x = acc0 => hxa (q ▸ this)
      have h20 : ∀ x y, (τ2 0).lookup x = some y → (extC xs (dat a) [(acc0, false, .lst ((ls.take j).flatMap fun a => (ms a).map (f a)))]).lookup x = some y := fun x y h => by
        have h' : List.lookup x ((acc0, false, D.lst ((ls.take j).flatMap (fun a => (ms a).map (f a)) ++ ((ms a).take 0).map (f a))) :: extC xs (dat a) []) = some y := h
        rw [List.lookup_cons] at h'
        cases q : x == acc0 with
        | false => rw [q] at h'; exact hw x y h'
        | true =>
          rw [q] at h'
          rw [beq_iff_eq.mp q, extC_skip hxa]
          simpa using h'
      have i3 := ij.iter (τ := τ2 0) hk2 hwr2 hfp2 fpX2 h20
      have turns2 : codeAny (model prog w) A (.compLoop (comp2 elt t1 i1 t2 i2 scope pos) 1 (.ref I2) (.ref D') cenv) (okOr J (cameBackBy (model prog w) A cenv E1)) s3 := by
        generalize hE2 : (notedBy (model prog w) A cenv fun e s' => okOr J (cameBackBy (model prog w) A cenv E1) (.error e) s') = E2
        refine loop_core (E' := E2) (body := fun J s9 => wpAny (model prog w) A (eval elt cenv) (fun x s₄ => wpAny (model prog w) A (call (.builtin "list.append") [.ref D', x]) (fun _ s₅ => J s₅) E2 s₄) E2 s9) τ2 (fun Iv turn => comp2_turns1 Iv (by rw [hE2]; exact turn)) hCs hr W2 hst2 hfp2 ij.fa ij.base ij.rstep wrX2 wrY2 fpX2 i3 ht2 (fun x hx' => .inl (rkind x (hy x hx'))) (fun jj hjj => ?_) (fun jj Y'' Rl'' X'' s'' J2 hjj hwi2 hxy2 ijj hJ2 => ?_) fun s'' i'' => ?_
        · have e2 : (ms a)[jj]? = some (ms a)[jj] := by simp [hjj]
          rw [e2]; exact hlen2 a ha _ (List.getElem_mem _)
        · have e2 : (ms a)[jj]? = some (ms a)[jj] := by simp [hjj]
          have hb : (ms a)[jj] ∈ ms a := List.getElem_mem _
          generalize (ms a)[jj] = b at e2 hb
          rw [e2] at ijj
          have hw2 : ∀ x y, (extC xs (dat a) []).lookup x = some y → (τ2 jj).lookup x = some y := fun x y h => by
            show List.lookup x ((acc0, false, D.lst _) :: extC xs (dat a) []) = some y
            rw [List.lookup_cons, hne x y h]; exact h
          refine helt a ha b hb A cenv X'' s'' _ _ hCs hr (ijj.weaken (extC_mono hw2)).see fun v s4 k4 r4 => ?_
          have i4 := ijj.keeps k4
          have hl0 : (extC ys (dat2 a b) (τ2 jj)).lookup acc0 = some (false, .lst ((ls.take j).flatMap (fun a => (ms a).map (f a)) ++ ((ms a).take jj).map (f a))) := by
            rw [extC_skip hya]
            show List.lookup acc0 ((acc0, false, D.lst _) :: extC xs (dat a) []) = _
            rw [List.lookup_cons]; simp
          refine acc_append i4 hl0 (fun c q1 q2 q3 => tie c (hxy c (hxy2 c q1 q2) (hwi2.y c q2)) (hwi.y c (hwi2.y c q2)) q3) r4 ?_ fun s5 i5 => hJ2 s5 _ i5 fun x y h => ?_
          · refine Nat.le_trans ?_ hn
            have e5 : ls = ls.take j ++ a :: ls.drop (j + 1) := by
              have hj' := (List.getElem?_eq_some_iff.mp e)
              obtain ⟨hj1, hj2⟩ := hj'
              rw [← hj2, List.getElem_cons_drop hj1, List.take_append_drop]
            conv => rhs; rw [e5]
            rw [List.flatMap_append, List.flatMap_cons, List.length_append, List.length_append, List.length_append, List.length_map, List.length_map, List.length_take]
            omega
          · have h' : List.lookup x ((acc0, false, D.lst ((ls.take j).flatMap (fun a => (ms a).map (f a)) ++ ((ms a).take (jj + 1)).map (f a))) :: extC xs (dat a) []) = some y := h
            rw [List.lookup_cons] at h' ⊢
            cases q : x == acc0 with
            | false =>
              rw [q] at h'
              show (extC ys (dat2 a b) (τ2 jj)).lookup x = some y
              rw [extC_skip (hdis x (extC_mem h'))]
              exact hw2 x y h'
            | true =>
              rw [q] at h'
              rw [List.take_add_one, e2, Option.toList_some, List.map_append, ← List.append_assoc] at h'
              exact h'
        · refine hJ s'' _ i'' fun x y h => ?_
          show List.lookup x ((acc0, false, D.lst ((ls.take j).flatMap (fun a => (ms a).map (f a)) ++ ((ms a).take (ms a).length).map (f a))) :: extC xs (dat a) []) = some y
          have h' : List.lookup x [(acc0, false, D.lst ((ls.take (j + 1)).flatMap fun a => (ms a).map (f a)))] = some y := h
          rw [List.lookup_cons] at h' ⊢
          cases q : x == acc0 with
          | false => rw [q] at h'; cases h'
          | true =>
            rw [q] at h'
            rw [List.take_add_one, e, Option.toList_some, List.flatMap_append, List.flatMap_cons, List.flatMap_nil, List.append_nil] at h'
            rw [List.take_length]; exact h'
      exact compStart_two1 turns2 (W2.self _ 0 _ _ _ hst2 turns2)
    · rw [List.take_length] at i'
      obtain ⟨m, f', n, h1, h2⟩ := i'.fm
      obtain ⟨ml, hml, _⟩ := f'.ns
      have hl0 : List.lookup acc0 [(acc0, false, D.lst (ls.flatMap fun a => (ms a).map (f a)))] = some (false, .lst (ls.flatMap fun a => (ms a).map (f a))) := by rw [List.lookup_cons]; simp
      obtain ⟨a, ha, q1, q2, q3⟩ := h1 acc0 _ hl0
      obtain rfl := tie a q1 q2 q3
      obtain ⟨v, hv, rv⟩ := n acc0 _ _ hl0
      rw [ha] at hv; cases hv
      refine ⟨ml, hml, fun h2 hs2 => ?_⟩
      have x2 : ∀ b o, b ≠ cenv.locals → s'.heap.get? b = some o → h2.get? b = some o := fun b o hb e => hs2.extBut b o hb e
      have kp' := i'.rel
      refine hq _ _ ?_ ?_
      · obtain ⟨h5, t5, rfl, k5⟩ := kp'
        exact ⟨h2, t5, rfl, fun b o e => x2 b o (fun q => by rw [q, hC0] at e; cases e) (k5 b o e)⟩
      · obtain ⟨a', vs, ea, hpl, rs⟩ := rv
        cases ea
        refine Rep.lst (vs := vs) (fun q => ?_) (let ⟨n, ho⟩ := hpl; ⟨n, x2 _ _ hDC ho⟩) (rs.mono fun b o hb e => ⟨fun q => hb (.inl q), x2 b o (fun q => hb (.inr (.inr q))) e⟩)
        obtain ⟨o, ho⟩ := liveX _ q
        rw [hD0] at ho; cases ho
  exact codeAny_compStart_list turns (W.self _ 0 _ _ _ hst4 turns)
end
end Mine

-- part I1
namespace Mine
/-- the two are equal, here -/
def SameV (prog : Program) (w : World) (A : Around) (s : Shared) (v v' : Value) : Prop := ∀ (E : Value → Shared → Prop) (Q : Bool → Shared → Prop), Q true s → wpAny (model prog w) A (eqBool v v') Q E s
def SameR (prog : Program) (w : World) (A : Around) (s : Shared) (v v' : Value) : Prop := ∀ (E : Value → Shared → Prop) (Q : Value → Shared → Prop), Q (.bool true) s → wpAny (model prog w) A (richCompare .Eq v v') Q E s
section
variable {prog : Program} {w : World} {A : Around} {s : Shared}
theorem SameV.at {v v' : Value} (h : SeqAt.EqAt A s v v' true) : SameV prog w A s v v' := fun E Q hq => h prog w E Q hq
theorem SameR.v {a b : Addr} (h : SameR prog w A s (.ref a) (.ref b)) : SameV prog w A s (.ref a) (.ref b) := by
  by_cases q : a = b
  · subst q; exact SameV.at (SeqAt.EqAt.same _)
  · intro E Q hq
    unfold eqBool
    refine wpAny_holding (wpAny_ite_split (fun hab => absurd (by have := eq_of_beq hab; injection this) q) fun _ => ?_)
    exact wpAny_bind (h E _ (wpAny_truthy_bool hq))
theorem tuple_meets (l b : Addr) (items items2 : Array Value) (n n2 : Nat) (dd dd2 : Option Addr) (sl sl2 : Array (Option Value)) (hsz : items.size = items2.size) :
    MeetsIn prog w (Builtin.«tuple.__eq__» ⟨[.ref l, .ref b], []⟩)
      (fun A R s => s.heap.get? l = some { cls := .type "tuple", dict := dd, data := .seq items n, slots := sl } ∧ s.heap.get? b = some { cls := .type "tuple", dict := dd2, data := .seq items2 n2, slots := sl2 } ∧
        (∀ p ∈ items.toList.zip items2.toList, SameV prog w A.in1 s p.1 p.2) ∧ R (.ok (.ret (.bool true))) s) :=
  .of_wp fun A R s h => by
    obtain ⟨hp, g, d, tk, os⟩ := s; obtain ⟨hl, hb, he, h⟩ := h
    have f2 := AutoSeq1.sub_tuple_tuple
    wp_walk using AutoSeq1.wpAny_loadPart' hl, AutoSeq1.wpAny_loadPart' hb, wpAny_forIn_list _ (fun rest b s' => b.1 = none ∧ s' = ⟨hp, g, d, tk, os⟩ ∧ ∀ p ∈ rest, SameV prog w A.in1 ⟨hp, g, d, tk, os⟩ p.1 p.2) _
    case turn =>
      rintro ⟨y, x⟩ rest b s' ⟨hb', rfl, hz⟩
      refine wpAny_bind (hz (y, x) (List.mem_cons_self ..) _ _ ?_)
      wp_walk
      exact ⟨rfl, rfl, fun p hp => hz p (List.mem_cons_of_mem _ hp)⟩
    case fin =>
      rintro ⟨b1, b2⟩ s' ⟨hb', rfl, hz⟩
      simp only at hb'
      subst hb'
      wp_walk
      exact ⟨_, rfl, by simpa [Builtin.Tuple.tupleCompareSizes, hsz] using h⟩
    case h => exact ⟨rfl, rfl, he⟩
theorem tuple_same {l b : Addr} {items items2 : Array Value} (hl : s.heap.IsTuple l items) (hb : s.heap.IsTuple b items2) (hsz : items.size = items2.size) (hu : A.units < cLine)
    (he : ∀ p ∈ items.toList.zip items2.toList, SameV prog w A.in1 s p.1 p.2) : SameR prog w A s (.ref l) (.ref b) := fun E Q h => by
  obtain ⟨⟨cls, dd, data, sl⟩, ho, hc, n, hd⟩ := id hl
  obtain ⟨⟨cls2, dd2, data2, sl2⟩, ho2, hc2, n2, hd2⟩ := id hb
  simp only at hc hd hc2 hd2
  subst hc hd hc2 hd2
  exact wpAny_richCompare_same_room (op := .Eq) ⟨_, ho, rfl⟩ ⟨_, ho2, rfl⟩ F.slot_tuple_eq (call_meetsIn F.slot_tuple_eq ⟨_, ho, rfl⟩ F.entry_tuple_eq (F.args_tuple_eq_2 _ _) (tuple_meets l b items items2 n n2 dd dd2 sl sl2 hsz)
    ⟨ho, ho2, he, show Value.bool true ≠ Value.notImplemented ∧ Q (.bool true) s from ⟨(fun x => nomatch x), h⟩⟩) hu
theorem list_loop (l b : Addr) (items items2 : Array Value) (n n2 : Nat) (dd dd2 : Option Addr) (sl sl2 : Array (Option Value)) (hsz : items.size = items2.size) (k : Nat) :
    ∀ i : Nat, items.size - i = k → MeetsIn prog w (Builtin.«list.__eq__.loop» ⟨[.ref l, .ref b, rawInt i, rawInt 2], []⟩)
      (fun A R s => s.heap.get? l = some { cls := .type "list", dict := dd, data := .seq items n, slots := sl } ∧ s.heap.get? b = some { cls := .type "list", dict := dd2, data := .seq items2 n2, slots := sl2 } ∧
        (∀ j (h1 : j < items.size) (h2 : j < items2.size), SameV prog w A.in1 s items[j] items2[j]) ∧ R (.ok (.ret (.bool true))) s) := by
  induction k with
  | zero =>
    intro i hk A R s h
    obtain ⟨hp, g, d, tk, os⟩ := s; obtain ⟨hl, hb, he, h⟩ := h
    wp_walk using AutoSeq1.wpAny_loadPart' hl, AutoSeq1.wpAny_loadPart' hb
    have hi1 : items[((i : Nat) : Int).toNat]? = none := by simp; omega
    have hi2 : items2[((i : Nat) : Int).toNat]? = none := by simp; omega
    rw [hi1, hi2]
    wp_walk using AutoSeq1.wpAny_loadPart' hl, AutoSeq1.wpAny_loadPart' hb
    show R (.ok (.ret (.bool (items.size == items2.size)))) _
    rw [hsz]; simpa using h
  | succ k ih =>
    intro i hk A R s h
    obtain ⟨hp, g, d, tk, os⟩ := s; obtain ⟨hl, hb, he, h⟩ := h
    wp_walk using AutoSeq1.wpAny_loadPart' hl, AutoSeq1.wpAny_loadPart' hb
    have hlt : i < items.size := by omega
    have hlt2 : i < items2.size := by omega
    have hi1 : items[((i : Nat) : Int).toNat]? = some items[i] := by simp [hlt]
    have hi2 : items2[((i : Nat) : Int).toNat]? = some items2[i] := by simp [hlt2]
    have hc : ((i : Int) + 1) = ((i + 1 : Nat) : Int) := by push_cast; rfl
    rw [hi1, hi2]
    refine wpAny_bind (he i hlt hlt2 _ _ ?_)
    wp_walk
    rw [hc]
    exact ⟨plainId_quiet MeetsSeq3.plain_eq_loop _, codeAny_builtin MeetsSeq3.entry_eq_loop (by
      rw [Around.under_plainId MeetsSeq3.plain_eq_loop _]
      exact ih (i + 1) (by omega) A R _ ⟨hl, hb, he, h⟩)⟩
theorem list_meets (l b : Addr) (items items2 : Array Value) (n n2 : Nat) (dd dd2 : Option Addr) (sl sl2 : Array (Option Value)) (hsz : items.size = items2.size) :
    MeetsIn prog w (Builtin.«list.__eq__» ⟨[.ref l, .ref b], []⟩)
      (fun A R s => s.heap.get? l = some { cls := .type "list", dict := dd, data := .seq items n, slots := sl } ∧ s.heap.get? b = some { cls := .type "list", dict := dd2, data := .seq items2 n2, slots := sl2 } ∧
        (∀ j (h1 : j < items.size) (h2 : j < items2.size), SameV prog w A.in1 s items[j] items2[j]) ∧ R (.ok (.ret (.bool true))) s) := by
  intro A R s h
  obtain ⟨hp, g, d, tk, os⟩ := s; obtain ⟨hl, hb, he, h⟩ := h
  have f3 := AutoSeq1.sub_list_list
  have hne : ¬ (items.size != items2.size) = true := by simp [hsz]
  wp_walk using AutoSeq1.wpAny_loadPart' hl, AutoSeq1.wpAny_loadPart' hb
  exact ⟨plainId_quiet MeetsSeq3.plain_eq_loop _, codeAny_builtin MeetsSeq3.entry_eq_loop (by
    rw [Around.under_plainId MeetsSeq3.plain_eq_loop _]
    exact list_loop l b items items2 n n2 dd dd2 sl sl2 hsz _ 0 rfl A R _ ⟨hl, hb, he, h⟩)⟩
theorem list_same {l b : Addr} {items items2 : Array Value} (hl : s.heap.IsList l items) (hb : s.heap.IsList b items2) (hsz : items.size = items2.size) (hu : A.units < cLine)
    (he : ∀ j (h1 : j < items.size) (h2 : j < items2.size), SameV prog w A.in1 s items[j] items2[j]) : SameR prog w A s (.ref l) (.ref b) := fun E Q h => by
  obtain ⟨⟨cls, dd, data, sl⟩, ho, hc, n, hd⟩ := id hl
  obtain ⟨⟨cls2, dd2, data2, sl2⟩, ho2, hc2, n2, hd2⟩ := id hb
  simp only at hc hd hc2 hd2
  subst hc hd hc2 hd2
  exact wpAny_richCompare_same_room (op := .Eq) ⟨_, ho, rfl⟩ ⟨_, ho2, rfl⟩ F.slot_list_eq (call_meetsIn F.slot_list_eq ⟨_, ho, rfl⟩ F.entry_list_eq (F.args_list_eq_2 _ _) (list_meets l b items items2 n n2 dd dd2 sl sl2 hsz)
    ⟨ho, ho2, he, show Value.bool true ≠ Value.notImplemented ∧ Q (.bool true) s from ⟨(fun x => nomatch x), h⟩⟩) hu
end
section
variable {prog : Program} {w : World} {A : Around} {s : Shared} {X X' : Addr → Prop}
theorem Rep.sameAt {d : D} {v v' : Value} (r : Rep prog w X s.heap d v) (r' : Rep prog w X' s.heap d v') (hd : (toP d).canLay0 = true) (hu : A.units + (toP d).depth < cLine) : SeqAt.EqAt A s v v' true := by
  obtain ⟨as, ra⟩ := r.reads hd; obtain ⟨bs, rb⟩ := r'.reads hd
  have := SeqAt.eqAt_reads _ _ A s v v' as bs ra rb hd hd (by rw [Nat.min_self]; exact hu)
  rw [SeqAt.eqv_refl _ hd] at this; exact this
theorem Repk.nodup {h : Heap} {kds kvs} {a : Addr} (r : Repk prog w X h kds kvs) (d : h.DictOf (strKind prog w) a kvs) : (kds.map (·.1)).Nodup := by
  obtain ⟨_, _, _, _, _, _, _, _, hn⟩ := d
  rw [← r.keys]; exact hn
theorem look_nodup {kds : List (Str × D)} (hn : (kds.map (·.1)).Nodup) {x : Str} {d : D} (hm : (x, d) ∈ kds) : look kds x = some d := by
  induction kds with
  | nil => cases hm
  | cons p r ih =>
    unfold look
    rw [List.find?_cons]
    by_cases q : p.1 = x
    · rcases List.mem_cons.mp hm with e | e
      · subst e; simp
      · exfalso
        rw [List.map_cons, List.nodup_cons] at hn
        exact hn.1 (q ▸ List.mem_map.mpr ⟨_, e, rfl⟩)
    · rcases List.mem_cons.mp hm with e | e
      · subst e; exact absurd rfl q
      · simp only [q, decide_false]
        rw [List.map_cons, List.nodup_cons] at hn
        exact ih hn.2 e
theorem hits_of {kds0 : List (Str × D)} {kb : List (Str × Value)} (rb : Repk prog w X' s.heap kds0 kb) (hn : (kds0.map (·.1)).Nodup) (hlay : ∀ p ∈ kds0, (toP p.2).canLay0 = true) (hu : ∀ p ∈ kds0, A.units + (toP p.2).depth < cLine) :
    ∀ {kds : List (Str × D)} {ka : List (Str × Value)}, Repk prog w X s.heap kds ka → (∀ p ∈ kds, p ∈ kds0) → KeqHits A s kb ka true
  | _, _, .nil, _ => .nil
  | _, _, .cons (k := k) (d := d) (v := v) r rs, hs => by
    have hm := hs (k, d) (by simp)
    have hl := look_nodup hn hm
    rcases rb.valueAt k with ⟨d', y, e1, e2, ry⟩ | ⟨e1, _⟩
    · rw [hl] at e1; cases e1
      have := KeqHits.hit (k := k) (v := v) e2 (r.sameAt ry (hlay _ hm) (hu _ hm)) (hits_of rb hn hlay hu rs fun p hp => hs p (by simp [hp]))
      exact this
    · rw [hl] at e1; cases e1
theorem dict_same {kds : List (Str × D)} {v v' : Value} (r : Rep prog w X s.heap (.dic kds) v) (r' : Rep prog w X' s.heap (.dic kds) v') (hlay : ∀ p ∈ kds, (toP p.2).canLay0 = true) (hu0 : A.units < cLine) (hu : ∀ p ∈ kds, A.units + 1 + (toP p.2).depth < cLine) : SameV prog w A s v v' := by
  obtain ⟨a, ka, rfl, ha, da, ra⟩ := r.one
  obtain ⟨b, kb, rfl, hb, db, rb⟩ := r'.one
  have hn := ra.nodup da
  refine SameR.v fun E Q hq => ?_
  have hlen : ka.length = kb.length := by have h1 := congrArg List.length ra.keys; have h2 := congrArg List.length rb.keys; simp at h1 h2; omega
  refine keq_eq ha hb da db hu0 (fun _ => hits_of rb hn hlay hu ra fun p hp => hp) ?_
  rw [hlen]; simpa using hq
/-- an entry whose parts may be compared -/
structure En.Lay (e : En) : Prop where
  m : (PyData.str e.m).canLay0 = true
  r : (PyData.str e.r).canLay0 = true
  pr : (toP (.tup e.pr)).canLay0 = true ∧ (toP (.tup e.pr)).depth ≤ 20
  cs : ∀ p ∈ e.cs, (toP p.2).canLay0 = true ∧ (toP p.2).depth ≤ 20
theorem entry_same {e : En} (ok : e.Lay) {v v' : Value} (r : Rep prog w X s.heap e.d v) (r' : Rep prog w X' s.heap e.d v') (hu : A.units + 100 < cLine) : SameV prog w A s v v' := by
  obtain ⟨a, vs, rfl, ha, rs⟩ := r.one
  obtain ⟨b, us, rfl, hb, ru⟩ := r'.one
  refine SameR.v (tuple_same ha hb (by rw [List.size_toArray, List.size_toArray, rs.length, ru.length]) (by omega) ?_)
  have hu1 : A.in1.units = A.units + 1 := rfl
  cases rs with | cons q1 rs =>
  cases rs with | cons q2 rs =>
  cases rs with | cons q3 rs =>
  cases rs with | cons q4 rs =>
  cases rs with | cons q5 rs =>
  cases rs
  cases ru with | cons p1 ru =>
  cases ru with | cons p2 ru =>
  cases ru with | cons p3 ru =>
  cases ru with | cons p4 ru =>
  cases ru with | cons p5 ru =>
  cases ru
  intro p hp
  simp only [List.zip_cons_cons, List.zip_nil_right, List.mem_cons, List.not_mem_nil, or_false] at hp
  rcases hp with rfl | rfl | rfl | rfl | rfl
  · exact SameV.at (q1.sameAt p1 (by rw [toP]; rfl) (by rw [toP]; show A.units + 1 + 0 < cLine; omega))
  · exact SameV.at (q2.sameAt p2 (by rw [toP]; exact ok.m) (by rw [toP]; show A.units + 1 + 0 < cLine; omega))
  · exact SameV.at (q3.sameAt p3 ok.pr.1 (by have := ok.pr.2; rw [hu1]; omega))
  · exact SameV.at (q4.sameAt p4 (by rw [toP]; exact ok.r) (by rw [toP]; show A.units + 1 + 0 < cLine; omega))
  · exact dict_same q5 p5 (fun p hp => (ok.cs p hp).1) (by rw [hu1]; omega) fun p hp => by have := (ok.cs p hp).2; rw [hu1]; omega
end
section
variable {prog : Program} {w : World} {h₀ : Heap} {k : Nat}
theorem op_eq_entries {es : List En} (ok : ∀ e ∈ es, e.Lay) : Op2 prog w h₀ k (compareOp .Eq) true (.lst (es.map En.d)) true (.lst (es.map En.d)) true (.bool true) := by
  intro A X s _ _ Q E hr hs hl r1 r2 hq
  obtain ⟨a, vs, rfl, ha, rs⟩ := r1.one
  obtain ⟨b, us, rfl, hb, ru⟩ := r2.one
  have hun := hr.units
  have l1 := rs.length; have l2 := ru.length
  refine list_same ha.isList hb.isList (by rw [List.size_toArray, List.size_toArray, l1, l2]) (by omega) (fun j h1 h2 => ?_) E Q (hq _ _ (Kp.rfl' s) (.bool _))
  have hj : j < es.length := by rw [List.size_toArray, l1, List.length_map] at h1; exact h1
  have e0 : (es.map En.d)[j]? = some (es[j]).d := by simp [hj]
  obtain ⟨v, hv, rv⟩ := rs.get e0
  obtain ⟨u, hu, ru'⟩ := ru.get e0
  have ev : vs.toArray[j] = v := by
    have := List.getElem?_eq_some_iff.mp hv
    obtain ⟨_, h⟩ := this
    simpa using h
  have eu : us.toArray[j] = u := by
    have := List.getElem?_eq_some_iff.mp hu
    obtain ⟨_, h⟩ := this
    simpa using h
  rw [ev, eu]
  exact entry_same (ok _ (List.getElem_mem hj)) rv ru' (by show A.units + 1 + 100 < cLine; omega)
end
end Mine

-- part P1
namespace Mine
def Val.k : Val → Bool
  | .n _ => false
  | .r _ => true
def comb : Val → Val → Val
  | .n o, .n c => .n (o + c)
  | .r os, .r cs => .r (joined cs os)
  | o, _ => o
theorem comb_k (o c : Val) : (comb o c).k = o.k := by cases o <;> cases c <;> rfl
def both : Option Val → Option Val → Option Val
  | some o, some c => some (comb o c)
  | some o, none => some o
  | none, y => y
theorem addOne_eq (acc : Calls0) (p : Str × Val) : addOne acc p = match lookV acc p.1 with
    | none => some (putV acc p.1 p.2)
    | some o => if o.k = p.2.k then some (putV acc p.1 (comb o p.2)) else none := by
  obtain ⟨x, v⟩ := p
  unfold addOne
  cases h : lookV acc x with
  | none => simp
  | some o => cases o <;> cases v <;> simp [Val.k, comb]
theorem lookV_cons (p : Str × Val) (l : Calls0) (x : Str) : lookV (p :: l) x = if p.1 = x then some p.2 else lookV l x := by
  unfold lookV
  rw [List.find?_cons]
  by_cases q : p.1 = x <;> simp [q]
theorem lookV_none {l : Calls0} {x : Str} : lookV l x = none ↔ x ∉ l.map (·.1) := by
  induction l with
  | nil => simp [lookV]
  | cons p l ih =>
    rw [lookV_cons, List.map_cons, List.mem_cons]
    by_cases q : p.1 = x
    · simp [q]
    · have q' : ¬ x = p.1 := fun e => q e.symm
      simp only [q, if_false, q', false_or]; exact ih
theorem lookV_app (l r : Calls0) (x : Str) : lookV (l ++ r) x = match lookV l x with | some v => some v | none => lookV r x := by
  induction l with
  | nil => simp [lookV]
  | cons p l ih =>
    rw [List.cons_append, lookV_cons, lookV_cons, ih]
    by_cases q : p.1 = x <;> simp [q]
theorem lookV_put (l : Calls0) (x : Str) (d : Val) (y : Str) : lookV (putV l x d) y = if y = x then some d else lookV l y := by
  unfold putV
  by_cases h : (l.any fun p => decide (p.1 = x)) = true
  · rw [if_pos h]
    have hm : ∀ l : Calls0, lookV (l.map fun p => if p.1 = x then (p.1, d) else p) y = if y = x then (lookV l y).map (fun _ => d) else lookV l y := by
      intro l
      induction l with
      | nil => simp [lookV]
      | cons p l ih =>
        rw [List.map_cons, lookV_cons, lookV_cons, ih]
        by_cases q1 : p.1 = x
        · by_cases q2 : y = x
          · have : p.1 = y := q1.trans q2.symm
            simp [q1, q2]
          · have : ¬ p.1 = y := fun e => q2 (e.symm.trans q1)
            have q3 : ¬ x = y := fun e => q2 e.symm
            simp [q1, q2, q3]
        · by_cases q2 : y = x
          · have : ¬ p.1 = y := fun e => q1 (e.trans q2)
            simp [q1, q2]
          · simp [q1, q2]
    rw [hm]
    by_cases q : y = x
    · rw [if_pos q, if_pos q]
      cases e : lookV l y with
      | some v => rfl
      | none =>
        exfalso
        rw [lookV_none] at e
        obtain ⟨p, hp, hx⟩ := List.any_eq_true.mp h
        exact e (by rw [q]; exact List.mem_map.mpr ⟨p, hp, by simpa using hx⟩)
    · rw [if_neg q, if_neg q]
  · rw [if_neg h, lookV_app, lookV_cons]
    have hn : lookV l x = none := by
      rw [lookV_none]
      intro hm
      obtain ⟨p, hp, e⟩ := List.mem_map.mp hm
      exact h (List.any_eq_true.mpr ⟨p, hp, by simpa using e⟩)
    by_cases q : y = x
    · subst q; rw [hn]; simp
    · have q' : ¬ x = y := fun e => q e.symm
      simp only [q, q', if_false]
      cases lookV l y <;> rfl
theorem keys_put (l : Calls0) (x : Str) (d : Val) : (putV l x d).map (·.1) = if x ∈ l.map (·.1) then l.map (·.1) else l.map (·.1) ++ [x] := by
  unfold putV
  by_cases h : (l.any fun p => decide (p.1 = x)) = true
  · rw [if_pos h, if_pos]
    · rw [List.map_map]
      refine List.map_congr_left fun p _ => ?_
      by_cases q : p.1 = x <;> simp [q]
    · obtain ⟨p, hp, e⟩ := List.any_eq_true.mp h
      exact List.mem_map.mpr ⟨p, hp, by simpa using e⟩
  · rw [if_neg h, if_neg]
    · rw [List.map_append]; rfl
    · intro hm
      obtain ⟨p, hp, e⟩ := List.mem_map.mp hm
      exact h (List.any_eq_true.mpr ⟨p, hp, by simpa using e⟩)
theorem lookV_mem' {l : Calls0} (hn : (l.map (·.1)).Nodup) {p : Str × Val} (hp : p ∈ l) : lookV l p.1 = some p.2 := by
  induction l with
  | nil => cases hp
  | cons q l ih =>
    rw [lookV_cons]
    rw [List.map_cons, List.nodup_cons] at hn
    rcases List.mem_cons.mp hp with rfl | hp
    · simp
    · have hne : ¬ q.1 = p.1 := fun e => hn.1 (by rw [e]; exact List.mem_map.mpr ⟨p, hp, rfl⟩)
      rw [if_neg hne]
      exact ih hn.2 hp
theorem lookV_in {l : Calls0} {x : Str} {v : Val} (h : lookV l x = some v) : (x, v) ∈ l := by
  induction l with
  | nil => simp [lookV] at h
  | cons p l ih =>
    rw [lookV_cons] at h
    by_cases q : p.1 = x
    · rw [if_pos q] at h; cases h; subst q; simp
    · rw [if_neg q] at h; exact List.mem_cons_of_mem _ (ih h)
def Clash (acc l : Calls0) : Prop := ∃ p ∈ l, ∃ o, lookV acc p.1 = some o ∧ o.k ≠ p.2.k
theorem added_cons (acc : Calls0) (p : Str × Val) (l : Calls0) : added acc (p :: l) = (addOne acc p).bind fun a => added a l := by
  unfold added
  rw [List.foldlM_cons]; rfl
theorem added_clash : ∀ (l acc : Calls0), (l.map (·.1)).Nodup → Clash acc l → added acc l = none
  | [], _, _, ⟨_, h, _⟩ => by cases h
  | p :: l, acc, hn, ⟨q, hq, o, ho, hk⟩ => by
    rw [List.map_cons, List.nodup_cons] at hn
    rw [added_cons]
    cases ha : addOne acc p with
    | none => rfl
    | some a =>
      rcases List.mem_cons.mp hq with rfl | hq
      · rw [addOne_eq, ho] at ha
        simp only [if_neg hk] at ha; cases ha
      · refine added_clash l a hn.2 ⟨q, hq, o, ?_, hk⟩
        have hne : ¬ q.1 = p.1 := fun e => hn.1 (e ▸ List.mem_map.mpr ⟨q, hq, rfl⟩)
        rw [addOne_eq] at ha
        cases hl : lookV acc p.1 with
        | none => rw [hl] at ha; cases ha; rw [lookV_put, if_neg hne]; exact ho
        | some o' =>
          rw [hl] at ha
          simp only at ha
          split at ha
          · cases ha; rw [lookV_put, if_neg hne]; exact ho
          · cases ha
theorem added_ok : ∀ (l acc : Calls0), (l.map (·.1)).Nodup → ¬ Clash acc l → ∃ a, added acc l = some a ∧ a.map (·.1) = acc.map (·.1) ++ (l.map (·.1)).filter (fun x => !(acc.map (·.1)).contains x) ∧ ∀ x, lookV a x = both (lookV acc x) (lookV l x)
  | [], acc, _, _ => ⟨acc, rfl, by simp, fun x => by cases h : lookV acc x <;> simp [lookV, both]⟩
  | p :: l, acc, hn, hc => by
    rw [List.map_cons, List.nodup_cons] at hn
    have key : ∃ v, addOne acc p = some (putV acc p.1 v) ∧ some v = both (lookV acc p.1) (some p.2) := by
      rw [addOne_eq]
      cases hl : lookV acc p.1 with
      | none => exact ⟨p.2, rfl, rfl⟩
      | some o =>
        have : o.k = p.2.k := by
          cases Decidable.em (o.k = p.2.k) with
          | inl h => exact h
          | inr h => exact (hc ⟨p, by simp, o, hl, h⟩).elim
        exact ⟨comb o p.2, by simp [this], rfl⟩
    obtain ⟨v, ha, hv⟩ := key
    have hne : ∀ x, x ∈ l.map (·.1) → ¬ x = p.1 := fun x hx e => hn.1 (e ▸ hx)
    have hc' : ¬ Clash (putV acc p.1 v) l := by
      rintro ⟨q, hq, o, ho, hk⟩
      rw [lookV_put, if_neg (hne q.1 (List.mem_map.mpr ⟨q, hq, rfl⟩))] at ho
      exact hc ⟨q, by simp [hq], o, ho, hk⟩
    obtain ⟨a, h1, h2, h3⟩ := added_ok l (putV acc p.1 v) hn.2 hc'
    refine ⟨a, by rw [added_cons, ha]; exact h1, ?_, fun x => ?_⟩
    · rw [h2, keys_put, List.map_cons, List.filter_cons]
      by_cases hm : p.1 ∈ acc.map (·.1)
      · rw [if_pos hm]
        simp [hm]
      · rw [if_neg hm]
        have e : (l.map (·.1)).filter (fun x => !(acc.map (·.1) ++ [p.1]).contains x) = (l.map (·.1)).filter (fun x => !(acc.map (·.1)).contains x) := by
          refine List.filter_congr fun x hx => ?_
          have hx' := hne x hx
          rw [List.contains_append, List.contains_cons, List.contains_nil]
          have : (x == p.1) = false := by simpa using hx'
          rw [this]; simp
        rw [e]
        have hm' : (acc.map (·.1)).contains p.1 = false := by simpa using hm
        rw [hm']
        simp
    · rw [h3 x, lookV_put, lookV_cons]
      by_cases q : x = p.1
      · subst q
        have : lookV l p.1 = none := lookV_none.mpr hn.1
        rw [if_pos rfl, if_pos rfl, this, ← hv]; rfl
      · have q' : ¬ p.1 = x := fun e => q e.symm
        rw [if_neg q, if_neg q']
theorem copied_self {t : Calls0} (hn : (t.map (·.1)).Nodup) : copied t = t := by
  induction t using snoc_ind with
  | h0 => rfl
  | h1 l p ih =>
    rw [List.map_append, List.nodup_append] at hn
    rw [copied_snoc, ih hn.1]
    unfold putV
    rw [if_neg]
    intro h
    obtain ⟨q, hq, e⟩ := List.any_eq_true.mp h
    exact hn.2.2 q.1 (List.mem_map.mpr ⟨q, hq, rfl⟩) p.1 (by simp) (by simpa using e)
theorem nodup_more {as bs : List Str} (ha : as.Nodup) (hb : bs.Nodup) : (as ++ bs.filter (fun x => !as.contains x)).Nodup := by
  rw [List.nodup_append]
  refine ⟨ha, hb.filter _, fun x hx y hy e => ?_⟩
  subst e
  have := (List.mem_filter.mp hy).2
  simp [hx] at this
/-- an entry, its callers as values -/
structure PE where
  n : Int
  m : Str
  pr : List D
  r : Str
  c : Calls0
def PE.en (e : PE) : En := ⟨e.n, e.m, e.pr, e.r, kd e.c⟩
theorem isTup_d (v : Val) : v.d.isTup = v.k := by cases v <;> rfl
theorem clashB_iff {t o : Calls0} (hn : (t.map (·.1)).Nodup) : clashB (kd t) (kd o) = true ↔ ∃ p ∈ t, ∃ v, lookV o p.1 = some v ∧ v.k ≠ p.2.k := by
  unfold clashB clashing
  constructor
  · intro h
    have : ∃ p, p ∈ (((kd t).filter fun p => (look (kd o) p.1).isSome).filter fun p => ((look (kd t) p.1).elim false D.isTup) != ((look (kd o) p.1).elim false D.isTup)) := by
      cases q : (((kd t).filter fun p => (look (kd o) p.1).isSome).filter fun p => ((look (kd t) p.1).elim false D.isTup) != ((look (kd o) p.1).elim false D.isTup)) with
      | nil => rw [q] at h; simp at h
      | cons p r => exact ⟨p, by simp⟩
    obtain ⟨p, hp⟩ := this
    obtain ⟨hp1, hp2⟩ := List.mem_filter.mp hp
    obtain ⟨hp3, hp4⟩ := List.mem_filter.mp hp1
    obtain ⟨q, hq, rfl⟩ := List.mem_map.mp hp3
    dsimp only at hp2 hp4
    rw [look_kd, lookV_mem' hn hq] at hp2
    rw [look_kd] at hp2 hp4
    cases e : lookV o q.1 with
    | none => rw [e] at hp4; simp at hp4
    | some v =>
      rw [e] at hp2
      refine ⟨q, hq, v, e, fun he => ?_⟩
      simp only [Option.map_some, Option.elim_some, isTup_d, he, bne_self_eq_false] at hp2
      cases hp2
  · rintro ⟨p, hp, v, hv, hk⟩
    have hm : (p.1, p.2.d) ∈ (((kd t).filter fun p => (look (kd o) p.1).isSome).filter fun p => ((look (kd t) p.1).elim false D.isTup) != ((look (kd o) p.1).elim false D.isTup)) := by
      refine List.mem_filter.mpr ⟨List.mem_filter.mpr ⟨List.mem_map.mpr ⟨p, hp, rfl⟩, ?_⟩, ?_⟩
      · dsimp only; rw [look_kd, hv]; rfl
      · dsimp only
        rw [look_kd, look_kd, hv, lookV_mem' hn hp]
        simp only [Option.map_some, Option.elim_some, isTup_d]
        simpa using fun e => hk e.symm
    cases q : (((kd t).filter fun p => (look (kd o) p.1).isSome).filter fun p => ((look (kd t) p.1).elim false D.isTup) != ((look (kd o) p.1).elim false D.isTup)) with
    | nil => rw [q] at hm; cases hm
    | cons _ _ => rfl
def partStepP (acc : List PE × List Nat) (p : PE × Nat) : List PE × List Nat :=
  if acc.1.any (fun e => clashB (kd p.1.c) (kd e.c)) then (acc.1, acc.2 ++ [p.2]) else (acc.1 ++ [p.1], acc.2)
def partedP (l : List (PE × Nat)) : List PE × List Nat := l.foldl partStepP ([], [])
theorem partedP_snoc (l : List (PE × Nat)) (p : PE × Nat) : partedP (l ++ [p]) = partStepP (partedP l) p := by unfold partedP; rw [List.foldl_append]; rfl
theorem partedP_en (l : List (PE × Nat)) : partedOf (l.map fun q => (q.1.en, q.2)) = ((partedP l).1.map PE.en, (partedP l).2) := by
  induction l using snoc_ind with
  | h0 => rfl
  | h1 l p ih =>
    rw [List.map_append, List.map_cons, List.map_nil, partedOf_snoc, partedP_snoc, ih]
    unfold partStep partStepP
    rw [List.any_map]
    have e : ((fun e : En => clashB (p.1.en).cs e.cs) ∘ PE.en) = fun e : PE => clashB (kd p.1.c) (kd e.c) := rfl
    dsimp only
    rw [e]
    split <;> simp
structure Acc where
  n : Int
  m : Str
  p : List D
  r : Str
  c : Calls0
  miss : List Nat
def accStep (a : Acc) (q : PE × Nat) : Acc :=
  match merged a.c q.1.c with
  | some l => ⟨q.1.n + a.n, q.1.m ++ a.m, q.1.pr ++ a.p, q.1.r ++ a.r, l, a.miss⟩
  | none => { a with miss := a.miss ++ [q.2] }
def accOf (l : List (PE × Nat)) : Acc := l.foldl accStep ⟨0, Str.ofString "", [], Str.ofString "", [], []⟩
theorem accOf_snoc (l : List (PE × Nat)) (p : PE × Nat) : accOf (l ++ [p]) = accStep (accOf l) p := by unfold accOf; rw [List.foldl_append]; rfl
def cat (l : List Str) : Str := l.foldr (fun a b => a ++ b) (Str.ofString "")
def valsP (tk : List PE) (x : Str) : List Val := tk.filterMap fun e => lookV e.c x
def tog (vs : List Val) : Option Val := vs.foldl (fun o v => both o (some v)) none
theorem tog_snoc (vs : List Val) (v : Val) : tog (vs ++ [v]) = both (tog vs) (some v) := by unfold tog; rw [List.foldl_append]; rfl
theorem both_some (o : Option Val) (v : Val) : ∃ u, both o (some v) = some u := by cases o <;> exact ⟨_, rfl⟩
theorem tog_some : ∀ {vs : List Val}, vs ≠ [] → ∃ o, tog vs = some o := by
  intro vs
  induction vs using snoc_ind with
  | h0 => intro h; exact absurd rfl h
  | h1 l v _ => intro _; rw [tog_snoc]; exact both_some _ _
theorem tog_ne {vs : List Val} {o : Val} (h : tog vs = some o) : vs ≠ [] := fun e => by rw [e] at h; cases h
structure Good (l : List (PE × Nat)) (tk : List PE) (rf : List Nat) (a : Acc) : Prop where
  miss : a.miss = rf
  n : a.n = (tk.map (·.n)).sum
  m : a.m = cat (tk.reverse.map (·.m))
  p : a.p = tk.reverse.flatMap (·.pr)
  r : a.r = cat (tk.reverse.map (·.r))
  keys : a.c.map (·.1) = orderOf (tk.map PE.en)
  nodup : (a.c.map (·.1)).Nodup
  look : ∀ x, lookV a.c x = tog (valsP tk x)
  kinds : ∀ x, ∀ v ∈ valsP tk x, ∀ o, lookV a.c x = some o → o.k = v.k
theorem good_of : ∀ (l : List (PE × Nat)), (∀ q ∈ l, (q.1.c.map (·.1)).Nodup) → Good l (partedP l).1 (partedP l).2 (accOf l) := by
  intro l
  induction l using snoc_ind with
  | h0 => intro _; exact ⟨rfl, rfl, rfl, rfl, rfl, rfl, .nil, fun _ => rfl, fun _ v hv => by cases hv⟩
  | h1 l q ih =>
    intro hn
    have g := ih fun q' hq' => hn q' (by simp [hq'])
    have hq := hn q (by simp)
    have hiff : Clash (accOf l).c q.1.c ↔ (partedP l).1.any (fun e => clashB (kd q.1.c) (kd e.c)) = true := by
      rw [List.any_eq_true]
      constructor
      · rintro ⟨p, hp, o, ho, hk⟩
        have hne := tog_ne ((g.look p.1).symm.trans ho)
        cases hv : valsP (partedP l).1 p.1 with
        | nil => exact absurd hv hne
        | cons v r =>
          have hmem : v ∈ valsP (partedP l).1 p.1 := by rw [hv]; simp
          have hk2 := g.kinds p.1 v hmem o ho
          obtain ⟨e, he, hlv⟩ := List.mem_filterMap.mp hmem
          exact ⟨e, he, (clashB_iff hq).mpr ⟨p, hp, v, hlv, fun h => hk (hk2.trans h)⟩⟩
      · rintro ⟨e, he, hc⟩
        obtain ⟨p, hp, v, hv, hk⟩ := (clashB_iff hq).mp hc
        have hmem : v ∈ valsP (partedP l).1 p.1 := List.mem_filterMap.mpr ⟨e, he, hv⟩
        obtain ⟨o, ho⟩ := tog_some (vs := valsP (partedP l).1 p.1) fun h => by rw [h] at hmem; cases hmem
        have ho' : lookV (accOf l).c p.1 = some o := (g.look p.1).trans ho
        exact ⟨p, hp, o, ho', fun h => hk ((g.kinds p.1 v hmem o ho').symm.trans h)⟩
    rw [partedP_snoc, accOf_snoc]
    unfold partStepP accStep
    have hmg : merged (accOf l).c q.1.c = added (accOf l).c q.1.c := by unfold merged; rw [copied_self g.nodup]
    rw [hmg]
    by_cases hc : Clash (accOf l).c q.1.c
    · rw [if_pos (hiff.mp hc), added_clash _ _ hq hc]
      exact ⟨by dsimp only; rw [g.miss], g.n, g.m, g.p, g.r, g.keys, g.nodup, g.look, g.kinds⟩
    · rw [if_neg fun h => hc (hiff.mpr h)]
      obtain ⟨a, h1, h2, h3⟩ := added_ok _ _ hq hc
      rw [h1]
      have hv : ∀ x, valsP ((partedP l).1 ++ [q.1]) x = valsP (partedP l).1 x ++ (lookV q.1.c x).toList := fun x => by
        unfold valsP
        rw [List.filterMap_append]
        congr 1
      refine ⟨g.miss, ?_, ?_, ?_, ?_, ?_, ?_, fun x => ?_, fun x v hvm o ho => ?_⟩
      · dsimp only; rw [List.map_append, List.sum_append, g.n]; simp; omega
      · dsimp only; rw [List.reverse_append, g.m]; rfl
      · dsimp only; rw [List.reverse_append, g.p]; rfl
      · dsimp only; rw [List.reverse_append, g.r]; rfl
      · dsimp only
        rw [h2, g.keys, List.map_append, List.map_cons, List.map_nil, orderOf_snoc, orderStep]
        congr 1
        show _ = ((kd q.1.c).filter _).map (·.1)
        unfold kd
        rw [List.filter_map, List.filter_map, List.map_map]; rfl
      · dsimp only; rw [h2]; exact nodup_more g.nodup hq
      · dsimp only
        rw [h3 x, hv x, g.look x]
        cases e : lookV q.1.c x with
        | none => simp [both]; cases tog (valsP (partedP l).1 x) <;> rfl
        | some v => rw [Option.toList_some, tog_snoc]
      · dsimp only at ho
        rw [hv x] at hvm
        rw [h3 x] at ho
        cases e : lookV (accOf l).c x with
        | none =>
          rw [e] at ho
          have hnil : valsP (partedP l).1 x = [] := by
            cases hh : valsP (partedP l).1 x with
            | nil => rfl
            | cons u r =>
              obtain ⟨o', ho'⟩ := tog_some (vs := valsP (partedP l).1 x) (by rw [hh]; simp)
              rw [g.look x, ho'] at e; cases e
          rw [hnil, List.nil_append] at hvm
          cases e2 : lookV q.1.c x with
          | none => rw [e2] at hvm; cases hvm
          | some u =>
            rw [e2] at hvm ho
            rw [Option.toList_some, List.mem_singleton] at hvm
            cases ho; rw [hvm]
        | some o0 =>
          rw [e] at ho
          have hold : ∀ u ∈ valsP (partedP l).1 x, o0.k = u.k := fun u hu => g.kinds x u hu o0 e
          cases e2 : lookV q.1.c x with
          | none =>
            rw [e2] at hvm ho
            cases ho
            simp at hvm
            exact hold v hvm
          | some u =>
            rw [e2] at hvm ho
            have ho' : o = comb o0 u := by simp [both] at ho; exact ho.symm
            have hk0 : o0.k = u.k := by
              cases Decidable.em (o0.k = u.k) with
              | inl h => exact h
              | inr h => exact (hc ⟨(x, u), lookV_in e2, o0, e, h⟩).elim
            rw [ho', comb_k]
            rw [Option.toList_some, List.mem_append, List.mem_singleton] at hvm
            rcases hvm with hvm | rfl
            · exact hold v hvm
            · exact hk0
end Mine

-- part P2
namespace Mine
def flat (l : List Str) : Array Nat := l.foldr (fun p r => p.cps ++ r) #[]
theorem empty_cps : (Str.ofString "").cps = #[] := by decide +kernel
theorem foldl_flat (l : List Str) : ∀ a : Array Nat, l.foldl (fun acc p => acc ++ (Str.ofString "").cps ++ p.cps) a = a ++ flat l := by
  rw [empty_cps]
  induction l with
  | nil => intro a; simp [flat]
  | cons x l ih =>
    intro a
    rw [List.foldl_cons, ih]
    simp [flat, Array.append_assoc]
theorem join_eq (l : List Str) : Txt.join (Str.ofString "") l = ⟨flat l⟩ := by
  cases l with
  | nil => rfl
  | cons x l =>
    show (⟨l.foldl (fun acc p => acc ++ (Str.ofString "").cps ++ p.cps) x.cps⟩ : Str) = _
    rw [foldl_flat]; rfl
theorem str_app (x y : Str) : x ++ y = ⟨x.cps ++ y.cps⟩ := rfl
theorem join_cons (x : Str) (l : List Str) : Txt.join (Str.ofString "") (x :: l) = x ++ Txt.join (Str.ofString "") l := by rw [join_eq, join_eq]; rfl
theorem join_nil : Txt.join (Str.ofString "") [] = Str.ofString "" := by rw [join_eq]; exact (congrArg Str.mk empty_cps).symm
theorem app_empty (x : Str) : x ++ Str.ofString "" = x := by
  rw [str_app, empty_cps, Array.append_empty]
theorem cat_join : ∀ l : List Str, cat l = Txt.join (Str.ofString "") l
  | [] => join_nil.symm
  | x :: l => by rw [join_cons, ← cat_join l]; rfl
theorem app_length (x y : Str) : (x ++ y).length = x.length + y.length := by rw [str_app]; show (x.cps ++ y.cps).size = _; rw [Array.size_append]; rfl
def sOk (x : Str) : Bool := x.cps.all fun c => decide (c < 0x110000)
theorem lay_str (x : Str) : PyData.canLay0 (.str x) = sOk x := by rw [PyData.canLay0]; rfl
theorem sOk_app {x y : Str} (hx : sOk x = true) (hy : sOk y = true) : sOk (x ++ y) = true := by
  unfold sOk at *
  rw [str_app, Array.all_append, hx, hy]; rfl
theorem sOk_empty : sOk (Str.ofString "") = true := by decide +kernel
theorem sOk_join {l : List Str} (h : ∀ x ∈ l, sOk x = true) : sOk (Txt.join (Str.ofString "") l) = true := by
  induction l with
  | nil => rw [join_nil]; exact sOk_empty
  | cons x l ih => rw [join_cons]; exact sOk_app (h x (by simp)) (ih fun y hy => h y (by simp [hy]))
theorem join_length (l : List Str) : (Txt.join (Str.ofString "") l).length = (l.map (·.length)).sum := by
  induction l with
  | nil => rw [join_nil]; show (Str.ofString "").cps.size = 0; rw [empty_cps]; rfl
  | cons x l ih => rw [join_cons, app_length, ih]; simp
theorem tog_ints : ∀ ns : List Int, ns ≠ [] → tog (ns.map .n) = some (.n ns.sum) := by
  intro ns
  induction ns using snoc_ind with
  | h0 => intro h; exact absurd rfl h
  | h1 l n ih =>
    intro _
    rw [List.map_append, List.map_cons, List.map_nil, tog_snoc]
    cases l with
    | nil => simp [tog, both]
    | cons a r => rw [ih (by simp), List.sum_append]; simp [both, comb]
theorem zipped_get (rows : List (List Str)) (m i : Nat) : (zipped rows m)[i]? = if i < m then some (Txt.join (Str.ofString "") (rows.reverse.map fun r => (r[i]?).getD (Str.ofString ""))) else none := by
  unfold zipped
  rw [List.getElem?_map]
  by_cases h : i < m
  · rw [List.getElem?_range h, if_pos h]; rfl
  · rw [List.getElem?_eq_none (by simpa using h), if_neg h]; rfl
theorem zipped_one (r : List Str) : zipped [r] r.length = r := by
  refine List.ext_getElem? fun i => ?_
  rw [zipped_get]
  by_cases h : i < r.length
  · rw [if_pos h]
    have e : r[i]? = some r[i] := by simp
    simp only [List.reverse_singleton, List.map_cons, List.map_nil, e, Option.getD_some]
    rw [join_cons, join_nil, app_empty]
  · rw [if_neg h, List.getElem?_eq_none (by omega)]
theorem zipped_snoc (l : List (List Str)) (r : List Str) (m : Nat) : zipped (l ++ [r]) (min m r.length) = joined r (zipped l m) := by
  refine List.ext_getElem? fun i => ?_
  unfold joined
  rw [zipped_get, List.getElem?_zipWith, zipped_get]
  by_cases h1 : i < r.length
  · have e : r[i]? = some r[i] := by simp
    rw [e]
    by_cases h2 : i < m
    · rw [if_pos (by omega), if_pos h2]
      simp only [List.reverse_append, List.reverse_singleton, List.singleton_append, List.map_cons, e, Option.getD_some]
      rw [join_cons]
    · rw [if_neg (by omega), if_neg h2]
  · rw [if_neg (by omega), List.getElem?_eq_none (by omega)]
theorem tog_rows : ∀ rows : List (List Str), rows ≠ [] → ∃ m, (∃ x ∈ rows, x.length = m) ∧ (∀ x ∈ rows, m ≤ x.length) ∧ tog (rows.map .r) = some (.r (zipped rows m)) := by
  intro rows
  induction rows using snoc_ind with
  | h0 => intro h; exact absurd rfl h
  | h1 l r ih =>
    intro _
    cases l with
    | nil => exact ⟨r.length, ⟨r, by simp, rfl⟩, fun x hx => by simp at hx; rw [hx]; exact Nat.le_refl _, by rw [List.nil_append, zipped_one]; rfl⟩
    | cons a l' =>
      obtain ⟨m, ⟨x, hx, hm⟩, hle, ht⟩ := ih (by simp)
      refine ⟨min m r.length, ?_, fun y hy => ?_, ?_⟩
      · by_cases q : m ≤ r.length
        · exact ⟨x, List.mem_append_left _ hx, by omega⟩
        · exact ⟨r, by simp, by omega⟩
      · rcases List.mem_append.mp hy with hy | hy
        · have := hle y hy; omega
        · simp at hy; rw [hy]; omega
      · rw [List.map_append, show List.map Val.r [r] = [.r r] from rfl, tog_snoc, ht, zipped_snoc]; rfl
def Val.Sz (b : Nat) : Val → Prop
  | .n _ => True
  | .r l => l.length ≤ 5 ∧ ∀ x ∈ l, x.length ≤ b ∧ sOk x = true
theorem Val.Sz.le {b b' : Nat} (hb : b ≤ b') {v : Val} (h : v.Sz b) : v.Sz b' := by
  cases v with
  | n _ => trivial
  | r l => exact ⟨h.1, fun x hx => ⟨Nat.le_trans (h.2 x hx).1 hb, (h.2 x hx).2⟩⟩
theorem mem_zw {α β γ : Type} {f : α → β → γ} : ∀ {as : List α} {bs : List β} {x : γ}, x ∈ List.zipWith f as bs → ∃ a ∈ as, ∃ b ∈ bs, x = f a b
  | [], _, _, h => by simp at h
  | _ :: _, [], _, h => by simp at h
  | a :: as, b :: bs, x, h => by
    rw [List.zipWith_cons_cons] at h
    rcases List.mem_cons.mp h with rfl | h
    · exact ⟨a, by simp, b, by simp, rfl⟩
    · obtain ⟨a', ha, b', hb, e⟩ := mem_zw h
      exact ⟨a', by simp [ha], b', by simp [hb], e⟩
theorem comb_sz {b b' : Nat} {o c : Val} (ho : o.Sz b) (hc : c.Sz b') : (comb o c).Sz (b + b') := by
  cases o with
  | n i => cases c <;> trivial
  | r os =>
    cases c with
    | n i => exact Val.Sz.le (Nat.le_add_right _ _) ho
    | r cs =>
      refine ⟨?_, fun x hx => ?_⟩
      · show (List.zipWith _ cs os).length ≤ 5
        rw [List.length_zipWith]; have := hc.1; omega
      · obtain ⟨y, hy, z, hz, rfl⟩ := mem_zw hx
        have h1 := hc.2 y hy; have h2 := ho.2 z hz
        exact ⟨by rw [app_length]; omega, sOk_app h1.2 h2.2⟩
theorem added_sz {b b' : Nat} {acc l a : Calls0} (hl : (l.map (·.1)).Nodup) (ha : (acc.map (·.1)).Nodup) (h1 : ∀ q ∈ acc, q.2.Sz b) (h2 : ∀ q ∈ l, q.2.Sz b') (h : added acc l = some a) : ∀ q ∈ a, q.2.Sz (b + b') := by
  have hc : ¬ Clash acc l := fun hc => by rw [added_clash l acc hl hc] at h; cases h
  obtain ⟨a', e1, e2, e3⟩ := added_ok l acc hl hc
  rw [e1] at h; cases h
  intro q hq
  have hn : (a.map (·.1)).Nodup := by rw [e2]; exact nodup_more ha hl
  have := lookV_mem' hn hq
  rw [e3] at this
  cases x : lookV acc q.1 with
  | none =>
    rw [x] at this
    have : lookV l q.1 = some q.2 := this
    exact Val.Sz.le (Nat.le_add_left _ _) (h2 _ (lookV_in this))
  | some o =>
    rw [x] at this
    cases y : lookV l q.1 with
    | none => rw [y] at this; cases this; exact Val.Sz.le (Nat.le_add_right _ _) (h1 _ (lookV_in x))
    | some c =>
      rw [y] at this
      have e : comb o c = q.2 := by simpa [both] using this
      rw [← e]; exact comb_sz (h1 _ (lookV_in x)) (h2 _ (lookV_in y))
/-- an entry of the small kind -/
structure PE.Small (e : PE) : Prop where
  nodup : (e.c.map (·.1)).Nodup
  len : e.c.length ≤ 3
  sz : ∀ p ∈ e.c, p.2.Sz 2
  key : ∀ p ∈ e.c, sOk p.1 = true
  m : e.m.length ≤ 1 ∧ sOk e.m = true
  r : e.r.length ≤ 2 ∧ sOk e.r = true
  pr : e.pr.length ≤ 2 ∧ PyData.canLayAll0 (toPs e.pr) = true ∧ PyData.depthAll (toPs e.pr) ≤ 10
structure Acc.Small (a : Acc) (j : Nat) : Prop where
  nodup : (a.c.map (·.1)).Nodup
  len : a.c.length ≤ 3 * j
  sz : ∀ p ∈ a.c, p.2.Sz (2 * j)
  m : a.m.length ≤ j ∧ sOk a.m = true
  r : a.r.length ≤ 2 * j ∧ sOk a.r = true
  p : a.p.length ≤ 2 * j ∧ PyData.canLayAll0 (toPs a.p) = true ∧ PyData.depthAll (toPs a.p) ≤ 10
  miss : a.miss.length ≤ j
theorem toPs_app (a b : List D) : toPs (a ++ b) = toPs a ++ toPs b := by rw [toPs_map, toPs_map, toPs_map, List.map_append]
theorem lay_app (a b : List PyData) : PyData.canLayAll0 (a ++ b) = (PyData.canLayAll0 a && PyData.canLayAll0 b) := by
  induction a with
  | nil => rw [List.nil_append, PyData.canLayAll0, Bool.true_and]
  | cons x a ih => rw [List.cons_append, PyData.canLayAll0, PyData.canLayAll0, ih, Bool.and_assoc]
theorem depth_app (a b : List PyData) : PyData.depthAll (a ++ b) = max (PyData.depthAll a) (PyData.depthAll b) := by
  induction a with
  | nil => rw [List.nil_append, PyData.depthAll]; omega
  | cons x a ih => rw [List.cons_append, PyData.depthAll, PyData.depthAll, ih]; omega
theorem acc_small : ∀ (l : List (PE × Nat)), (∀ q ∈ l, q.1.Small) → (accOf l).Small l.length := by
  intro l
  induction l using snoc_ind with
  | h0 => intro _; exact ⟨.nil, Nat.le_refl _, (fun p hp => by cases hp), ⟨Nat.le_of_eq (by decide +kernel), sOk_empty⟩, ⟨Nat.le_of_eq (by decide +kernel), sOk_empty⟩, ⟨Nat.le_refl _, rfl, Nat.zero_le _⟩, Nat.le_refl _⟩
  | h1 l q ih =>
    intro hs
    have g := ih fun q' h' => hs q' (by simp [h'])
    have e := hs q (by simp)
    rw [accOf_snoc, List.length_append, List.length_singleton]
    unfold accStep
    have hmg : merged (accOf l).c q.1.c = added (accOf l).c q.1.c := by unfold merged; rw [copied_self g.nodup]
    rw [hmg]
    cases h : added (accOf l).c q.1.c with
    | none =>
      have gm := g.m; have gr := g.r; have gp := g.p; have gl := g.len; have gs := g.miss
      refine ⟨g.nodup, by dsimp only; omega, fun p hp => Val.Sz.le (by omega) (g.sz p hp), ⟨by dsimp only; omega, gm.2⟩, ⟨by dsimp only; omega, gr.2⟩, ⟨by dsimp only; omega, gp.2⟩, by dsimp only; rw [List.length_append]; simp; omega⟩
    | some a =>
      have hc : ¬ Clash (accOf l).c q.1.c := fun hc => by rw [added_clash _ _ e.nodup hc] at h; cases h
      obtain ⟨a', e1, e2, _⟩ := added_ok _ _ e.nodup hc
      rw [h] at e1; cases e1
      have hl := added_length h
      have gm := g.m; have gr := g.r; have gp := g.p; have gl := g.len; have el := e.len; have em := e.m; have er := e.r; have ep := e.pr; have gs := g.miss
      refine ⟨by dsimp only; rw [e2]; exact nodup_more g.nodup e.nodup, by dsimp only; omega, fun p hp => Val.Sz.le (by omega) (added_sz e.nodup g.nodup g.sz e.sz h p hp), ⟨?_, sOk_app em.2 gm.2⟩, ⟨?_, sOk_app er.2 gr.2⟩, ⟨?_, ?_, ?_⟩, by dsimp only; omega⟩
      · dsimp only; rw [app_length]; omega
      · dsimp only; rw [app_length]; omega
      · dsimp only; rw [List.length_append]; omega
      · dsimp only; rw [toPs_app, lay_app, ep.2.1, gp.2.1]; rfl
      · dsimp only; rw [toPs_app, depth_app]; omega
end Mine

-- part P3
namespace Mine
def valV (m : Str) (x c : Nat) : Val :=
  if (decide (c % 4 < 2)) != (c / 4 == 9) then .n ((x / 1000 : Nat) - (c / 4 : Nat)) else .r (((abc (c / 4 % 6)).cps.toList).map fun l => m ++ ⟨#[l]⟩)
theorem valV_d (m : Str) (x c : Nat) : (valV m x c).d = valAt m x c := by
  unfold valV valAt
  split
  · rfl
  · show D.tup ((((abc (c / 4 % 6)).cps.toList).map fun l => m ++ ⟨#[l]⟩).map .str) = _
    rw [List.map_map]; rfl
def callersV (m : Str) (x : Nat) : Nat → Calls0
  | 0 => []
  | n + 1 => putV (callersV m x n) (keyAt (codeAt x n)) (valV m x (codeAt x n))
theorem callersV_kd (m : Str) (x : Nat) : ∀ n, kd (callersV m x n) = callersOf m x n
  | 0 => rfl
  | n + 1 => by rw [callersV, callersOf, ← put_kd, callersV_kd m x n, valV_d]
def peOf (m : Str) (x : Nat) : PE := ⟨(x : Int) - 500000, m, [.str m, .int x], Txt.mul m ((x % 3 : Nat) : Int), callersV m x (x % 4)⟩
theorem peOf_d (m : Str) (x : Nat) : (peOf m x).en.d = entryOf m x := by
  unfold PE.en En.d peOf entryOf
  dsimp only
  rw [callersV_kd]
def pesOf (ns : List Int) : List PE := (cellsOf ns).zipIdx.map fun p => peOf (markAt p.2) p.1
theorem pes_entries (ns : List Int) : ((pesOf ns).map PE.en).map En.d = entriesOf ns := by
  unfold pesOf entriesOf
  rw [List.map_map, List.map_map]
  exact List.map_congr_left fun p _ => peOf_d _ _
theorem pes_length (ns : List Int) : (pesOf ns).length ≤ 12 := by
  unfold pesOf
  rw [List.length_map, List.length_zipIdx]; exact cells_length ns
theorem callersV_all (m : Str) (x : Nat) {P : Str × Val → Prop} (hp : ∀ n, P (keyAt (codeAt x n), valV m x (codeAt x n))) (hx : ∀ n, ∀ q, P q → q.1 = keyAt (codeAt x n) → P (q.1, valV m x (codeAt x n))) : ∀ n, ∀ q ∈ callersV m x n, P q := by
  intro n
  induction n with
  | zero => intro q hq; cases hq
  | succ n ih =>
    intro q hq
    rw [callersV] at hq
    unfold putV at hq
    split at hq
    · obtain ⟨q0, hq0, rfl⟩ := List.mem_map.mp hq
      split
      · exact hx n q0 (ih q0 hq0) (by assumption)
      · exact ih q0 hq0
    · rcases List.mem_append.mp hq with hq | hq
      · exact ih q hq
      · rw [List.mem_singleton] at hq; subst hq; exact hp n
theorem valV_sz (i x c : Nat) (hi : i < 12) : (valV (markAt i) x c).Sz 2 := by
  unfold valV
  split
  · trivial
  · have hz : c / 4 % 6 ≤ 5 := by omega
    obtain ⟨a1, a2⟩ := abc_small hz
    refine ⟨by rw [List.length_map]; exact a2, fun y hy => ?_⟩
    obtain ⟨l, hl, rfl⟩ := List.mem_map.mp hy
    have hl128 : l < 128 := by
      have := Array.all_eq_true_iff_forall_mem.mp a1 l (Array.mem_toList_iff.mp hl)
      simpa using this
    refine ⟨by rw [app_length]; exact Nat.le_refl 2, sOk_app ?_ ?_⟩
    · have : 65 + i < 0x110000 := by omega
      simp [sOk, markAt, this]
    · have : l < 0x110000 := by omega
      simp [sOk, this]
theorem callersV_nodup (m : Str) (x : Nat) : ∀ n, ((callersV m x n).map (·.1)).Nodup
  | 0 => .nil
  | n + 1 => by
    rw [callersV, keys_put]
    split
    · exact callersV_nodup m x n
    · rw [List.nodup_append]
      refine ⟨callersV_nodup m x n, by simp, fun a ha b hb e => ?_⟩
      rw [List.mem_singleton] at hb
      subst e; subst hb; contradiction
theorem callersV_length (m : Str) (x : Nat) : ∀ n, (callersV m x n).length ≤ n
  | 0 => Nat.le_refl _
  | n + 1 => Nat.le_trans (putV_length _ _ _) (Nat.succ_le_succ (callersV_length m x n))
theorem mark_ok (i : Nat) (hi : i < 12) : (markAt i).length ≤ 1 ∧ sOk (markAt i) = true := by
  have : 65 + i < 0x110000 := by omega
  exact ⟨Nat.le_refl 1, by simp [sOk, markAt, this]⟩
theorem mul_ok (i x : Nat) (hi : i < 12) : (Txt.mul (markAt i) ((x % 3 : Nat) : Int)).length ≤ 2 ∧ sOk (Txt.mul (markAt i) ((x % 3 : Nat) : Int)) = true := by
  have h1 := mark_ok i hi
  have : x % 3 = 0 ∨ x % 3 = 1 ∨ x % 3 = 2 := by omega
  rcases this with h | h | h <;> rw [h]
  · have e : Txt.mul (markAt i) ((0 : Nat) : Int) = ⟨#[]⟩ := rfl
    rw [e]; exact ⟨Nat.zero_le _, by decide +kernel⟩
  · exact ⟨Nat.le_succ_of_le h1.1, h1.2⟩
  · have e : Txt.mul (markAt i) ((2 : Nat) : Int) = ⟨#[65 + i, 65 + i]⟩ := rfl
    rw [e]
    have : 65 + i < 0x110000 := by omega
    exact ⟨Nat.le_refl 2, by simp [sOk, this]⟩
theorem key_ok (c : Nat) : sOk (keyAt c) = true := by
  have : 102 + c % 4 < 0x110000 := by omega
  simp [sOk, keyAt, this]
theorem peOf_small (i x : Nat) (hi : i < 12) : (peOf (markAt i) x).Small where
  nodup := callersV_nodup _ _ _
  len := Nat.le_trans (callersV_length _ _ _) (by omega)
  sz := callersV_all (markAt i) x (P := fun q => q.2.Sz 2) (fun _ => valV_sz i x _ hi) (fun _ _ _ _ => valV_sz i x _ hi) _
  key := callersV_all (markAt i) x (P := fun q => sOk q.1 = true) (fun _ => key_ok _) (fun _ q h _ => h) _
  m := mark_ok i hi
  r := mul_ok i x hi
  pr := ⟨Nat.le_refl 2, by
    show PyData.canLayAll0 [.str (markAt i), .int x] = true
    rw [PyData.canLayAll0, lay_str, (mark_ok i hi).2]; rfl, by
    show PyData.depthAll [.str (markAt i), .int x] ≤ 10
    exact Nat.zero_le _⟩
theorem pes_small (ns : List Int) : ∀ e ∈ pesOf ns, e.Small := fun e he => by
  obtain ⟨p, hp, rfl⟩ := List.mem_map.mp he
  refine peOf_small _ _ ?_
  have h1 := List.snd_lt_of_mem_zipIdx hp
  have h2 := cells_length ns
  omega
theorem d_lay {b : Nat} {v : Val} (h : v.Sz b) : (toP v.d).canLay0 = true ∧ (toP v.d).depth ≤ 1 := by
  cases v with
  | n i => exact ⟨rfl, Nat.zero_le _⟩
  | r l =>
    have e : toP (Val.r l).d = .tuple (l.map .str) := by
      show toP (.tup (l.map .str)) = _
      rw [toP, toPs_strs]
    rw [e]
    have hd : PyData.depthAll (l.map PyData.str) = 0 := by
      clear h e
      induction l with
      | nil => rfl
      | cons x r ih => rw [List.map_cons, PyData.depthAll, ih]; rfl
    refine ⟨?_, by rw [PyData.depth, hd]; exact Nat.le_refl _⟩
    rw [PyData.canLay0]
    have := lay_strs (l := l) fun x hx => by rw [lay_str]; exact (h.2 x hx).2
    rwa [toPs_strs] at this
theorem kd_mem {c : Calls0} {p : Str × D} (h : p ∈ kd c) : ∃ q ∈ c, p = (q.1, q.2.d) := by
  obtain ⟨q, hq, rfl⟩ := List.mem_map.mp h; exact ⟨q, hq, rfl⟩
theorem PE.Small.ok {e : PE} (h : e.Small) : e.en.Ok where
  plain := fun p hp => by
    obtain ⟨q, hq, rfl⟩ := kd_mem hp
    show q.2.d.plain
    cases q.2 <;> trivial
  len := by show (kd e.c).length ≤ 1000; unfold kd; rw [List.length_map]; have := h.len; omega
  lay := fun p hp => by
    obtain ⟨q, hq, rfl⟩ := kd_mem hp
    rw [lay_str]; exact h.key q hq
theorem PE.Small.lay {e : PE} (h : e.Small) : e.en.Lay where
  m := by rw [lay_str]; exact h.m.2
  r := by rw [lay_str]; exact h.r.2
  pr := by
    have h1 := h.pr.2.1; have h2 := h.pr.2.2
    refine ⟨?_, ?_⟩
    · rw [toP, PyData.canLay0]; exact h1
    · rw [toP, PyData.depth]
      show PyData.depthAll (toPs e.pr) + 1 ≤ 20
      omega
  cs := fun p hp => by
    obtain ⟨q, hq, rfl⟩ := kd_mem hp
    have := d_lay (h.sz q hq)
    exact ⟨this.1, by have := this.2; dsimp only; omega⟩
/-- the value of a caller in what has come together -/
def Tof (c : Calls0) (x : Str) : D := ((lookV c x).map Val.d).getD (.int 0)
theorem pairs_eq {c : Calls0} (hn : (c.map (·.1)).Nodup) : pairsOf (kd c) = (c.map (·.1)).map fun x => .tup [.str x, Tof c x] := by
  unfold pairsOf kd
  rw [List.map_map, List.map_map]
  refine List.map_congr_left fun p hp => ?_
  show D.tup [.str p.1, p.2.d] = .tup [.str p.1, Tof c p.1]
  unfold Tof
  rw [lookV_mem' hn hp]; rfl
theorem valsOf_en (tk : List PE) (x : Str) : valsOf (tk.map PE.en) x = (valsP tk x).map Val.d := by
  unfold valsOf valsP
  induction tk with
  | nil => rfl
  | cons e tk ih =>
    rw [List.map_cons, List.filter_cons]
    have e1 : look (PE.en e).cs x = (lookV e.c x).map Val.d := look_kd e.c x
    rw [e1]
    cases h : lookV e.c x with
    | none =>
      rw [if_neg (by simp), List.filterMap_cons_none (f := fun e : PE => lookV e.c x) h]; exact ih
    | some v =>
      rw [if_pos (by simp), List.filterMap_cons_some (f := fun e : PE => lookV e.c x) h, List.map_cons, List.map_cons, e1, h, ih]; rfl
theorem all_n : ∀ {vs : List Val}, (∀ v ∈ vs, v.k = false) → ∃ ns : List Int, vs = ns.map .n
  | [], _ => ⟨[], rfl⟩
  | .n i :: r, h => by
    obtain ⟨ns, e⟩ := all_n (vs := r) fun v hv => h v (by simp [hv])
    exact ⟨i :: ns, by rw [e]; rfl⟩
  | .r l :: r, h => by have := h (.r l) (by simp); cases this
theorem all_r : ∀ {vs : List Val}, (∀ v ∈ vs, v.k = true) → ∃ ns : List (List Str), vs = ns.map .r
  | [], _ => ⟨[], rfl⟩
  | .r i :: r, h => by
    obtain ⟨ns, e⟩ := all_r (vs := r) fun v hv => h v (by simp [hv])
    exact ⟨i :: ns, by rw [e]; rfl⟩
  | .n l :: r, h => by have := h (.n l) (by simp); cases this
end Mine

-- part L0
namespace Mine
section
variable {prog : Program} {w : World} {h₀ : Heap} {k : Nat} {mg mb : Str → Option Value} {sc : Scope} {σ : Ctx0}
theorem together_T (B : Bs h₀ mg mb) (N : Names mg mb) (F : IsFn h₀ 53 "_law_together" ["values"] (bodyOf (fdef 8)) (scopeOf (fdef 8)) (.ref 52)) {l : List (PE × Nat)} {tk : List PE} {rf : List Nat} {a : Acc} (g : Good l tk rf a)
    (hs : ∀ e ∈ tk, e.Small) (hn : tk.length ≤ 12) {x : Str} (hx : x ∈ orderOf (tk.map PE.en)) : Fn prog w h₀ (k + 1) 53 [.lst (valsOf (tk.map PE.en) x)] (Tof a.c x) := by
  rw [← g.keys] at hx
  obtain ⟨o, ho⟩ : ∃ o, lookV a.c x = some o := by
    cases h : lookV a.c x with
    | none => exact absurd hx (lookV_none.mp h)
    | some o => exact ⟨o, rfl⟩
  have ht : tog (valsP tk x) = some o := (g.look x).symm.trans ho
  have hne := tog_ne ht
  have hk := fun v hv => g.kinds x v hv o ho
  rw [valsOf_en]
  unfold Tof
  rw [ho]
  have hlen : (valsP tk x).length ≤ 12 := Nat.le_trans (List.length_filterMap_le _ _) hn
  have hsz : ∀ v ∈ valsP tk x, v.Sz 2 := fun v hv => by
    obtain ⟨e, he, hl⟩ := List.mem_filterMap.mp hv
    exact (hs e he).sz _ (lookV_in hl)
  cases o with
  | n i =>
    obtain ⟨ns, e⟩ := all_n (vs := valsP tk x) fun v hv => (hk v hv).symm
    rw [e] at ht hne ⊢
    have hns : ns ≠ [] := fun q => hne (by rw [q]; rfl)
    rw [tog_ints ns hns] at ht
    cases ht
    rw [List.map_map]
    cases ns with
    | nil => exact absurd rfl hns
    | cons n ns => exact together_ints B N F
  | r row =>
    obtain ⟨rows, e⟩ := all_r (vs := valsP tk x) fun v hv => (hk v hv).symm
    rw [e] at ht hne hlen hsz ⊢
    have hns : rows ≠ [] := fun q => hne (by rw [q]; rfl)
    obtain ⟨m, h1, h2, h3⟩ := tog_rows rows hns
    rw [h3] at ht
    cases ht
    rw [List.map_map]
    rw [List.length_map] at hlen
    have hall : ∀ y ∈ rows, y.length ≤ 1000 ∧ ∀ z ∈ y, z.length ≤ 1000 := fun y hy => by
      have := hsz (.r y) (List.mem_map.mpr ⟨y, hy, rfl⟩)
      exact ⟨by have := this.1; omega, fun z hz => by have := (this.2 z hz).1; omega⟩
    cases rows with
    | nil => exact absurd rfl hns
    | cons r rs =>
      refine together_rows B N F (by simp at hlen; omega) h1 h2 ?_ hall
      obtain ⟨y, hy, rfl⟩ := h1
      exact (hall y hy).1
theorem Tr.or3 {a b c : Expr} {pos : Pos} (h1 : Tr prog w h₀ k sc σ a false) (h2 : Tr prog w h₀ k sc σ b false) (h3 : Tr prog w h₀ k sc σ c false) : Tr prog w h₀ k sc σ (.BoolOp .Or [a, b, c] pos) false := by
  intro A env X s Q E he hr hs hq
  refine isTrue_or (h1 A env X s _ E he hr hs fun s1 k1 => ?_)
  rw [if_neg (by decide)]
  refine isTrue_or (h2 A env X s1 _ E he hr (hs.keeps k1) fun s2 k2 => ?_)
  rw [if_neg (by decide)]
  refine isTrue_or (h3 A env X s2 _ E he hr ((hs.keeps k1).keeps k2) fun s3 k3 => ?_)
  rw [if_neg (by decide)]
  exact isTrue_or_nil (hq s3 (k1.trans (k2.trans k3)))
theorem Ev.and2 {a b : Expr} {pos : Pos} {bb : Bool} {d : D} (h1 : Ev prog w h₀ k sc σ a true (.bool true)) (h2 : Ev prog w h₀ k sc σ b bb d) : Ev prog w h₀ k sc σ (.BoolOp .And [a, b] pos) bb d := by
  intro A env X s Q E he hr hs hq
  refine BoolOp_and (h1 A env X s _ E he hr hs fun v s1 k1 r1 => ?_)
  cases r1
  refine wpAny_truthy_bool ?_
  rw [if_pos rfl]
  exact BoolOp_one (h2 A env X s1 _ E he hr (hs.keeps k1) fun v s2 k2 r2 => hq v s2 (k1.trans k2) r2)
theorem op_ne_self {b1 b2 : Bool} {d : D} (hd : (toP d).canLay0 = true) (hn : (toP d).depth ≤ 60) : Op2 prog w h₀ k (compareOp .NotEq) b1 d b2 d true (.bool false) := by
  have := op_ne_data (prog := prog) (w := w) (h₀ := h₀) (k := k) (b1 := b1) (b2 := b2) hd hd hn
  rwa [SeqAt.eqv_refl _ hd] at this
theorem FnR.le {fa : Addr} {args : List D} {res : Option D} {j : Nat} (h : FnR prog w h₀ j fa args res) (hj : j ≤ k) : FnR prog w h₀ k fa args res :=
  fun A X s vs Q E outer hr => h A X s vs Q E outer (hr.le hj)
/-- a def called by the machine itself, no frame below it -/
theorem code0_of {fa name ps body scope code} (F : IsFn h₀ fa name ps body scope code) (lim : h₀.NoLimit) {args : List D} {res : D} (hl : args.length = ps.length)
    (h : ∀ (A : Around) (env : Env) (Y : Addr → Prop) (Rl : Shared → Prop) (X : Addr → Prop) (s : Shared) (E : Value → Shared → Prop), env.scope = scope → interactive env = false → Room A k → A.frames = some [env] →
      Inv prog w h₀ Y Rl env X (ctxOf ps args) s → Gr Y Rl X → env.frame = some env.locals →
      wpAny (model prog w) A (execs body env) (EndsR prog w Y Rl X (some res)) E s)
    {A : Around} {X : Addr → Prop} {s : Shared} {vs : List Value} {R : Result → Shared → Prop} (hr : Room A (k + 1)) (st : Stands h₀ s.heap) (live : ∀ a, X a → ∃ o, s.heap.get? a = some o) (h23 : X 23) (t : Tbl s.heap) (hfr : A.frames = some [])
    (r : Reps prog w X s.heap args vs) (hq : ∀ v s', Gs s s' → Rep prog w X s'.heap res v → R (.ok (.ret v)) s') : codeAny (model prog w) A (.call (.ref fa) ⟨vs, []⟩) R s := by
  refine enter F lim (by have := hr.depth; have e : recursionLimit = 1000 := rfl; omega) st live hl r fun L X' s' hL hX hX' i => ?_
  have hr' : Room (A.deeper (callEnv0 name scope code fa L)) k := ⟨hr.handled, by show A.depth + 1 + k < 600; have := hr.depth; omega, by show A.units + 3 + 50 * k + 500 < cLine; have := hr.units; omega⟩
  have hin : interactive (callEnv0 name scope code fa L) = false := by
    show (scope.kind == .module && _) = false
    rw [F.kind]; rfl
  have hL0 : s.heap.get? L = none := none_new (Kp.rfl' s) hL
  have a23 := t.alive.1
  have a27 := t.alive.2
  have i' : Inv prog w h₀ (fun a => s.heap.get? a = none) (Gs s) (callEnv0 name scope code fa L) X' (ctxOf ps args) s' := by
    refine ⟨i.st, i.live, i.fm, i.fa, i.new, i.base, fun s1 h' tk g hk => ?_, i.rel.gs⟩
    have kk : ∀ b o, (∃ o', s.heap.get? b = some o') → s1.heap.get? b = some o → h'.get? b = some o := fun b o ⟨o', e⟩ e1 => hk b o (fun q => by have q' : s.heap.get? b = none := q; rw [e] at q'; cases q') e1
    refine ⟨fun b o hb e => kk b o ⟨o, e⟩ (g.heap b o hb e), fun ps c tb => ?_, g.gens, g.drawn, g.os⟩
    obtain ⟨more, c3, tb3⟩ := g.tbl ps c tb
    exact ⟨more, code_keep c3 (fun o e => kk _ o a27 e) (fun o e => kk _ o a23 e), table_keep tb3 (fun o e => kk _ o a27 e) (fun o e => kk _ o a23 e)⟩
  have n23 : ¬ s.heap.get? 23 = none := fun q => by obtain ⟨o, ho⟩ := a23; rw [ho] at q; cases q
  have gr : Gr (fun a => s.heap.get? a = none) (Gs s) X' := ⟨hX _ h23, n23, fun _ _ a b => Gs.trans a b, fun _ g => Gs.table g t⟩
  have hfr' : (A.deeper (callEnv0 name scope code fa L)).frames = some [callEnv0 name scope code fa L] := Around.frames_deeper hfr
  refine wpAny_mono (h _ _ _ _ X' s' _ rfl hin hr' hfr' i' gr rfl) (fun f s'' hf => ?_) fun _ _ e => e
  obtain ⟨d, hres, v, X2, rfl, hX2, hkp, rv⟩ := hf
  cases hres
  refine hq v s'' hkp (rv.mono fun b o hb e => ⟨fun q => hb (hX2 b (hX b q) fun q2 => ?_), e⟩)
  obtain ⟨o', ho'⟩ := live b q
  have q2' : s.heap.get? b = none := q2
  rw [q2'] at ho'; cases ho'
end
end Mine

-- part L1
namespace Mine
def wholeD (a : Acc) : D := .tup [.int a.n, .str a.m, .tup a.p, .str a.r, .dic (kd a.c)]
def missD (i : Nat) : List D := [.str (Str.ofString "entry"), .str (Str.ofString "callers")].map fun d => .tup [.int i, d]
/-- the defs of the text, as they stand -/
structure Defs (h₀ : Heap) : Prop where
  f21 : IsFn h₀ 21 "add_func_stats" ["target", "source"] (bodyOf (fdef 1)) (scopeOf (fdef 1)) (.ref 20)
  f28 : IsFn h₀ 28 "add_callers" ["target", "source"] (bodyOf (fdef 2)) (scopeOf (fdef 2)) (.ref 27)
  f33 : IsFn h₀ 33 "_law_entry" ["x", "mark"] (bodyOf (fdef 4)) (scopeOf (fdef 4)) (.ref 32)
  f38 : IsFn h₀ 38 "_law_entries" ["script"] (bodyOf (fdef 5)) (scopeOf (fdef 5)) (.ref 37)
  f43 : IsFn h₀ 43 "_law_clash" ["table", "other"] (bodyOf (fdef 6)) (scopeOf (fdef 6)) (.ref 42)
  f48 : IsFn h₀ 48 "_law_parted" ["entries"] (bodyOf (fdef 7)) (scopeOf (fdef 7)) (.ref 47)
  f53 : IsFn h₀ 53 "_law_together" ["values"] (bodyOf (fdef 8)) (scopeOf (fdef 8)) (.ref 52)
  f58 : IsFn h₀ 58 "_law_callers" ["taken"] (bodyOf (fdef 9)) (scopeOf (fdef 9)) (.ref 57)
  f63 : IsFn h₀ 63 "law" ["script"] (bodyOf (fdef 10)) (scopeOf (fdef 10)) (.ref 62)
section
variable {prog : Program} {w : World} {h₀ : Heap} {k : Nat} {mg mb : Str → Option Value}
set_option maxRecDepth 10000
theorem callers_R (B : Bs h₀ mg mb) (N : Names mg mb) (Mo : Mod h₀ mg) (F : Defs h₀) {a : Acc} {j : Nat} (ha : a.Small j) (hj : j ≤ 12) {e : PE} (he : e.Small) :
    FnR prog w h₀ (k + 1) 28 [.dic (kd a.c), .dic (kd e.c)] ((merged a.c e.c).map fun l => .dic (kd l)) := by
  have sm : ∀ {b : Nat} {v : Val}, b ≤ 100000 → v.Sz b → v.Small := fun {b v} hb h => by
    cases v with
    | n _ => trivial
    | r l => exact ⟨by have := h.1; omega, fun x hx => by have := (h.2 x hx).1; omega⟩
  refine add_callers_fn B N Mo F.f28 (by have := ha.len; omega) (by have := he.len; omega) (fun q hq => sm (by omega) (he.sz q hq)) fun pre post acc hsp h => ?_
  rw [copied_self ha.nodup] at h
  have hpn : (pre.map (·.1)).Nodup := by
    have := he.nodup
    rw [hsp, List.map_append, List.nodup_append] at this
    exact this.1
  intro q hq
  exact sm (by omega) (added_sz (b := 2 * j) (b' := 2) hpn ha.nodup ha.sz (fun q hq => he.sz q (by rw [hsp]; simp [hq])) h q hq)
theorem stats_R (B : Bs h₀ mg mb) (N : Names mg mb) (Mo : Mod h₀ mg) (F : Defs h₀) {a : Acc} {j : Nat} (ha : a.Small j) (hj : j ≤ 12) {e : PE} (he : e.Small) :
    FnR prog w h₀ (k + 2) 21 [wholeD a, e.en.d] ((merged a.c e.c).map fun l => wholeD ⟨e.n + a.n, e.m ++ a.m, e.pr ++ a.p, e.r ++ a.r, l, a.miss⟩) := by
  have H := callers_R (prog := prog) (w := w) (k := k) B N Mo F ha hj he
  have e1 : ((merged a.c e.c).map fun l => D.dic (kd l)) = ((merged a.c e.c).map kd).map .dic := by rw [Option.map_map]; rfl
  rw [e1] at H
  have h1 := ha.m; have h2 := ha.r; have h3 := ha.p; have h4 := he.m; have h5 := he.r; have h6 := he.pr
  have := add_func_fn B N F.f21 F.f28 (n := e.n) (tn := a.n) (m := e.m) (tm := a.m) (r := e.r) (tr := a.r) (p := e.pr) (tp := a.p) (by omega) (by omega) (by omega) H
  rw [Option.map_map] at this
  exact this
end
end Mine

-- part L2
namespace Mine
def lawSc : Scope := scopeOf (fdef 10)
def loopOf : List Stmt → List Stmt
  | _ :: _ :: _ :: _ :: _ :: Stmt.For _ _ b _ _ :: _ => b
  | _ => []
def loopBody : List Stmt := loopOf (bodyOf (fdef 10))
abbrev baseC (ns : List Int) (es tk : List PE) (rf : List Nat) : Ctx0 :=
  [("refused", true, .lst (rf.map fun n => .int (n : Nat))), ("taken", true, .lst (tk.map fun e => e.en.d)), ("entries", true, .lst (es.map fun e => e.en.d)), ("script", true, .lst (ns.map .int))]
abbrev lawC (ns : List Int) (es tk : List PE) (rf : List Nat) (a : Acc) : Ctx0 :=
  ("missed", false, .lst (a.miss.flatMap missD)) :: ("whole", true, wholeD a) :: ("table", true, .dic (kd a.c)) :: baseC ns es tk rf
section
variable {prog : Program} {w : World} {h₀ : Heap} {k : Nat} {mg mb : Str → Option Value} {Y : Addr → Prop} {Rl : Shared → Prop} {env : Env} {X : Addr → Prop} {s : Shared} {A : Around} {E : Value → Shared → Prop}
set_option maxRecDepth 10000
theorem sub_base {ns : List Int} {es tk : List PE} {rf : List Nat} {a : Acc} {σ : Ctx0} (h1 : σ.lookup ("missed" : Str) = some (false, .lst (a.miss.flatMap missD))) (h2 : σ.lookup ("whole" : Str) = some (true, wholeD a)) (h3 : σ.lookup ("table" : Str) = some (true, .dic (kd a.c)))
    (h4 : σ.lookup ("refused" : Str) = some (true, .lst (rf.map fun n => .int (n : Nat)))) (h5 : σ.lookup ("taken" : Str) = some (true, .lst (tk.map fun e => e.en.d))) (h6 : σ.lookup ("entries" : Str) = some (true, .lst (es.map fun e => e.en.d))) (h7 : σ.lookup ("script" : Str) = some (true, .lst (ns.map .int))) :
    ∀ x y, (lawC ns es tk rf a).lookup x = some y → σ.lookup x = some y :=
  sub_cons h1 (sub_cons h2 (sub_cons h3 (sub_cons h4 (sub_cons h5 (sub_cons h6 (sub_cons h7 sub_nil))))))
/-- one turn of the law's loop -/
theorem law_turn (B : Bs h₀ mg mb) (N : Names mg mb) (Mo : Mod h₀ mg) (F : Defs h₀) {ns : List Int} {es tk : List PE} {rf : List Nat} {a : Acc} {j : Nat} {q : PE × Nat} {Q : Flow → Shared → Prop}
    (he : env.scope = lawSc) (hr : Room A (k + 2)) (hfr : A.frames = some [env]) (hfm : env.frame = some env.locals) (hint : interactive env = false) (gr : Gr Y Rl X) (ha : a.Small j) (hj : j ≤ 12) (hq : q.1.Small)
    (i : Inv prog w h₀ Y Rl env X (extC ["place", "entry"] [.int (q.2 : Nat), q.1.en.d] (lawC ns es tk rf a)) s)
    (fin : ∀ σ' s', Inv prog w h₀ Y Rl env X σ' s' → (∀ x y, (lawC ns es tk rf (accStep a q)).lookup x = some y → σ'.lookup x = some y) → Q .next s') :
    wpAny (model prog w) A (execs loopBody env) Q E s := by
  have hm := ha.miss
  have hmd : ∀ i, (missD i).length = 2 := fun _ => rfl
  have hml : (a.miss.flatMap missD).length ≤ 24 := by
    rw [List.length_flatMap]
    have : (a.miss.map fun i => (missD i).length).sum ≤ (a.miss.map fun i => (missD i).length).length * 2 := sum_le fun x hx => by obtain ⟨i, _, rfl⟩ := List.mem_map.mp hx; exact Nat.le_of_eq (hmd i)
    rw [List.length_map] at this
    omega
  have H1 := stats_R (prog := prog) (w := w) (k := k) B N Mo F ha hj hq
  have H2 := callers_R (prog := prog) (w := w) (k := k + 1) B N Mo F ha hj hq
  cases hmg : merged a.c q.1.c with
  | some l =>
    have hst : accStep a q = ⟨q.1.n + a.n, q.1.m ++ a.m, q.1.pr ++ a.p, q.1.r ++ a.r, l, a.miss⟩ := by unfold accStep; rw [hmg]
    rw [hmg] at H1 H2
    refine st_try (sc := lawSc) (ds := a.miss.flatMap missD) (dz := .int (q.2 : Nat)) B N he hr hfr hfm hint i gr (gname B (by decide +kernel) N.add_func_stats (by decide +kernel)) (plainly_fn F.f21) (nm (d := wholeD a) rfl (by decide +kernel)) (nm (d := q.1.en.d) rfl (by decide +kernel)) H1 (by decide +kernel) (by decide +kernel) rfl (by decide +kernel) rfl (by decide +kernel) (by omega) (fun d hd s1 i1 => ?_) fun h => by cases h
    cases hd
    refine st_try (sc := lawSc) (ds := a.miss.flatMap missD) (dz := .int (q.2 : Nat)) B N he hr hfr hfm hint i1 gr (gname B (by decide +kernel) N.add_callers (by decide +kernel)) (plainly_fn F.f28) (nm (d := .dic (kd a.c)) rfl (by decide +kernel)) (Ev.sub (b1 := true) (b2 := true) (nm (d := .tup [.int q.1.n, .str q.1.m, .tup q.1.pr, .str q.1.r, .dic (kd q.1.c)]) rfl (by decide +kernel)) (Ev.cint (i := 4)) (op_item_tup (by decide) (by decide) rfl)) H2 (by decide +kernel) (by decide +kernel) rfl (by decide +kernel) rfl (by decide +kernel) (by omega) (fun d hd s2 i2 => ?_) fun h => by cases h
    cases hd
    refine wpAny_execs_nil (fin _ _ i2 ?_)
    rw [hst]
    exact sub_base rfl rfl rfl rfl rfl rfl rfl
  | none =>
    have hst : accStep a q = { a with miss := a.miss ++ [q.2] } := by unfold accStep; rw [hmg]
    rw [hmg] at H1 H2
    refine st_try (sc := lawSc) (ds := a.miss.flatMap missD) (dz := .int (q.2 : Nat)) B N he hr hfr hfm hint i gr (gname B (by decide +kernel) N.add_func_stats (by decide +kernel)) (plainly_fn F.f21) (nm (d := wholeD a) rfl (by decide +kernel)) (nm (d := q.1.en.d) rfl (by decide +kernel)) H1 (by decide +kernel) (by decide +kernel) rfl (by decide +kernel) rfl (by decide +kernel) (by omega) (fun d hd => by cases hd) fun _ s1 i1 => ?_
    refine st_try (sc := lawSc) (ds := a.miss.flatMap missD ++ [.tup [.int (q.2 : Nat), .str (Str.ofString "entry")]]) (dz := .int (q.2 : Nat)) B N he hr hfr hfm hint i1 gr (gname B (by decide +kernel) N.add_callers (by decide +kernel)) (plainly_fn F.f28) (nm (d := .dic (kd a.c)) rfl (by decide +kernel)) (Ev.sub (b1 := true) (b2 := true) (nm (d := .tup [.int q.1.n, .str q.1.m, .tup q.1.pr, .str q.1.r, .dic (kd q.1.c)]) rfl (by decide +kernel)) (Ev.cint (i := 4)) (op_item_tup (by decide) (by decide) rfl)) H2 (by decide +kernel) (by decide +kernel) rfl (by decide +kernel) rfl (by decide +kernel) (by rw [List.length_append, List.length_singleton]; omega) (fun d hd => by cases hd) fun _ s2 i2 => ?_
    refine wpAny_execs_nil (fin _ _ i2 ?_)
    rw [hst]
    refine sub_base ?_ rfl rfl rfl rfl rfl rfl
    show some (false, D.lst ((a.miss.flatMap missD ++ [.tup [.int (q.2 : Nat), .str (Str.ofString "entry")]]) ++ [.tup [.int (q.2 : Nat), .str (Str.ofString "callers")]])) = some (false, D.lst ((a.miss ++ [q.2]).flatMap missD))
    rw [List.flatMap_append, List.append_assoc]; rfl
end
end Mine

-- part L3
namespace Mine
theorem order_len (tk : List PE) {l : List (PE × Nat)} {rf : List Nat} {a : Acc} (g : Good l tk rf a) : (orderOf (tk.map PE.en)).length = a.c.length := by rw [← g.keys, List.length_map]
theorem part_mem {l : List (PE × Nat)} : ∀ e ∈ (partedP l).1, ∃ i, (e, i) ∈ l := by
  induction l using snoc_ind with
  | h0 => intro e he; cases he
  | h1 l p ih =>
    intro e he
    rw [partedP_snoc] at he
    unfold partStepP at he
    split at he
    · obtain ⟨i, hi⟩ := ih e he; exact ⟨i, by simp [hi]⟩
    · rcases List.mem_append.mp he with h | h
      · obtain ⟨i, hi⟩ := ih e h; exact ⟨i, by simp [hi]⟩
      · rw [List.mem_singleton] at h; exact ⟨p.2, by rw [h]; simp⟩
theorem part_len (l : List (PE × Nat)) : (partedP l).1.length + (partedP l).2.length = l.length := by
  induction l using snoc_ind with
  | h0 => rfl
  | h1 l p ih =>
    rw [partedP_snoc]
    unfold partStepP
    split <;> simp <;> omega
theorem lay_tup {l : List D} (h : ∀ d ∈ l, (toP d).canLay0 = true ∧ (toP d).depth ≤ 20) : PyData.canLayAll0 (toPs l) = true ∧ PyData.depthAll (toPs l) ≤ 20 := by
  induction l with
  | nil => exact ⟨rfl, Nat.zero_le _⟩
  | cons d r ih =>
    have h1 := h d (by simp)
    have h2 := ih fun x hx => h x (by simp [hx])
    rw [toPs, PyData.canLayAll0, PyData.depthAll, h1.1, h2.1]
    exact ⟨rfl, by have := h1.2; have := h2.2; omega⟩
theorem lay_lst {l : List D} (h : ∀ d ∈ l, (toP d).canLay0 = true ∧ (toP d).depth ≤ 20) : (toP (.lst l)).canLay0 = true ∧ (toP (.lst l)).depth ≤ 60 := by
  have := lay_tup h
  rw [toP, PyData.canLay0, PyData.depth]
  exact ⟨this.1, by have := this.2; omega⟩
theorem lay_tp {l : List D} (h : ∀ d ∈ l, (toP d).canLay0 = true ∧ (toP d).depth ≤ 19) : (toP (.tup l)).canLay0 = true ∧ (toP (.tup l)).depth ≤ 20 := by
  have h' : PyData.canLayAll0 (toPs l) = true ∧ PyData.depthAll (toPs l) ≤ 19 := by
    induction l with
    | nil => exact ⟨rfl, Nat.zero_le _⟩
    | cons d r ih =>
      have h1 := h d (by simp)
      have h2 := ih fun x hx => h x (by simp [hx])
      rw [toPs, PyData.canLayAll0, PyData.depthAll, h1.1, h2.1]
      exact ⟨rfl, by have := h1.2; have := h2.2; omega⟩
  rw [toP, PyData.canLay0, PyData.depth]
  exact ⟨h'.1, by have := h'.2; omega⟩
theorem lay_s {x : Str} (h : sOk x = true) {n : Nat} : (toP (.str x)).canLay0 = true ∧ (toP (.str x)).depth ≤ n := by
  rw [toP]; exact ⟨by rw [lay_str]; exact h, Nat.zero_le _⟩
theorem lay_i {i : Int} {n : Nat} : (toP (.int i)).canLay0 = true ∧ (toP (.int i)).depth ≤ n := by
  rw [toP]; exact ⟨rfl, Nat.zero_le _⟩
theorem miss_lay (l : List Nat) : (toP (.lst (l.flatMap missD))).canLay0 = true ∧ (toP (.lst (l.flatMap missD))).depth ≤ 60 := by
  refine lay_lst fun d hd => ?_
  obtain ⟨i, _, hi⟩ := List.mem_flatMap.mp hd
  obtain ⟨x, hx, rfl⟩ := List.mem_map.mp hi
  refine lay_tp fun y hy => ?_
  rcases List.mem_cons.mp hy with rfl | hy
  · exact lay_i
  · rw [List.mem_singleton] at hy; subst hy
    simp only [List.mem_cons, List.not_mem_nil, or_false] at hx
    rcases hx with rfl | rfl
    · exact lay_s (by decide +kernel)
    · exact lay_s (by decide +kernel)
theorem pairs_lay {c : Calls0} {b : Nat} (hk : ∀ p ∈ c, sOk p.1 = true) (hs : ∀ p ∈ c, p.2.Sz b) : (toP (.lst (pairsOf (kd c)))).canLay0 = true ∧ (toP (.lst (pairsOf (kd c)))).depth ≤ 60 := by
  refine lay_lst fun d hd => ?_
  obtain ⟨p, hp, rfl⟩ := List.mem_map.mp hd
  obtain ⟨q, hq, rfl⟩ := kd_mem hp
  refine lay_tp fun y hy => ?_
  rcases List.mem_cons.mp hy with rfl | hy
  · exact lay_s (hk q hq)
  · rw [List.mem_singleton] at hy; subst hy
    have := d_lay (hs q hq)
    exact ⟨this.1, Nat.le_trans this.2 (by decide)⟩
theorem whole_lay {a : Acc} {j : Nat} (h : a.Small j) : (toP (.tup [.int a.n, .str a.m, .tup a.p, .str a.r])).canLay0 = true ∧ (toP (.tup [.int a.n, .str a.m, .tup a.p, .str a.r])).depth ≤ 60 := by
  have : (toP (.tup [.int a.n, .str a.m, .tup a.p, .str a.r])).canLay0 = true ∧ (toP (.tup [.int a.n, .str a.m, .tup a.p, .str a.r])).depth ≤ 20 := by
    refine lay_tp fun y hy => ?_
    simp only [List.mem_cons, List.not_mem_nil, or_false] at hy
    rcases hy with rfl | rfl | rfl | rfl
    · exact lay_i
    · exact lay_s h.m.2
    · have h1 := h.p.2.1; have h2 := h.p.2.2
      rw [toP, PyData.canLay0, PyData.depth]
      exact ⟨h1, by omega⟩
    · exact lay_s h.r.2
  exact ⟨this.1, Nat.le_trans this.2 (by decide)⟩
section
variable {prog : Program} {w : World} {h₀ : Heap} {k : Nat} {mg mb : Str → Option Value} {Y : Addr → Prop} {Rl : Shared → Prop} {env : Env} {X : Addr → Prop} {s : Shared} {A : Around} {E : Value → Shared → Prop}
set_option maxRecDepth 10000
theorem law_body (B : Bs h₀ mg mb) (N : Names mg mb) (Mo : Mod h₀ mg) (F : Defs h₀) {ns : List Int} (hn : ns.length ≤ 63) (he : env.scope = lawSc) (hint : interactive env = false) (hr : Room A (k + 2)) (hfr : A.frames = some [env])
    (i : Inv prog w h₀ Y Rl env X (ctxOf ["script"] [.lst (ns.map .int)]) s) (gr : Gr Y Rl X) (hfm : env.frame = some env.locals) :
    wpAny (model prog w) A (execs (bodyOf (fdef 10)) env) (EndsR prog w Y Rl X (some (.bool true))) E s := by
  generalize hes : pesOf ns = es
  have hsm : ∀ e ∈ es, e.Small := hes ▸ pes_small ns
  have hlen : es.length ≤ 12 := hes ▸ pes_length ns
  have hent : entriesOf ns = es.map fun e => e.en.d := by rw [← pes_entries, hes, List.map_map]; rfl
  have hEnt : Fn prog w h₀ (k + 2) 38 [.lst (ns.map .int)] (.lst (es.map fun e => e.en.d)) := by rw [← hent]; exact entries_fn B N F.f38 F.f33 (by omega)
  have hsmq : ∀ q ∈ es.zipIdx, q.1.Small := fun q hq => hsm _ (List.fst_mem_of_mem_zipIdx hq)
  have g := good_of es.zipIdx fun q hq => (hsmq q hq).nodup
  have hPar : Fn prog w h₀ (k + 2) 48 [.lst (es.map fun e => e.en.d)] (.tup [.lst ((partedP es.zipIdx).1.map fun e => e.en.d), .lst ((partedP es.zipIdx).2.map fun n => .int (n : Nat))]) := by
    have := parted_fn (prog := prog) (w := w) (k := k) B N F.f48 F.f43 (es := es.map PE.en) (by rw [List.length_map]; omega) (fun e he => by obtain ⟨p, hp, rfl⟩ := List.mem_map.mp he; exact (hsm p hp).ok)
    have hz : (es.map PE.en).zipIdx = es.zipIdx.map fun q => (q.1.en, q.2) := by rw [List.zipIdx_map]; rfl
    rw [hz, partedP_en, List.map_map, List.map_map] at this
    exact this
  have hac := acc_small es.zipIdx hsmq
  have hql : es.zipIdx.length = es.length := List.length_zipIdx
  have htkm : ∀ e ∈ (partedP es.zipIdx).1, e.Small := fun e he => by obtain ⟨ix, hix⟩ := part_mem e he; exact hsmq _ hix
  have hpl := part_len es.zipIdx
  generalize htk : (partedP es.zipIdx).1 = tk at g hPar htkm hpl
  generalize hrf : (partedP es.zipIdx).2 = rf at g hPar hpl
  refine st_assign (sc := lawSc) (d := .lst (es.map fun e => e.en.d)) he hr i (Ev.call1 (b1 := true) (gname B (by decide +kernel) N.entries (by decide +kernel)) (plainly_fn F.f38) (nm (d := .lst (ns.map .int)) rfl (by decide +kernel)) (Fn.op1 hEnt)) (by decide +kernel) fun s1 i1 => ?_
  refine st_unpack (sc := lawSc) (ds := [.lst (tk.map fun e => e.en.d), .lst (rf.map fun n => .int (n : Nat))]) (.cons _ _ (.cons _ _ .nil)) he hr i1 (Ev.call1 (b1 := true) (gname B (by decide +kernel) N.parted (by decide +kernel)) (plainly_fn F.f48) (nm (d := .lst (es.map fun e => e.en.d)) rfl (by decide +kernel)) (Fn.op1 hPar)) (names_ok (by decide +kernel)) rfl fun s2 i2 => ?_
  refine st_assign (sc := lawSc) (d := wholeD (accOf [])) he hr i2 (Ev.tuple (.c (Ev.cint (i := 0)) (.c Ev.cstr (.c (Ev.tuple .nil (by decide)) (.c Ev.cstr (.c (Ev.dict0 B) .nil))))) (by show 5 ≤ 1000; decide)) (by decide +kernel) fun s3 i3 => ?_
  refine st_assign (sc := lawSc) (d := .dic (kd (accOf []).c)) he hr i3 (Ev.dict0 B) (by decide +kernel) fun s4 i4 => ?_
  refine st_list (sc := lawSc) he i4 (by decide +kernel) fun X5 s5 hX5 i5 => ?_
  have gr5 := gr.up hX5
  refine st_forLG (sc := lawSc) (fun pre => lawC ns es tk rf (accOf pre)) he hr i5 (ItL.enumMap (b := true) (g := fun e : PE => e.en.d) (ls := es) (gn B N.enumerate (by decide +kernel)) (nm rfl (by decide +kernel))) (.pair _ _ _ _ _ _) (names_ok (by decide +kernel)) (fun _ _ => rfl)
    (sub_base rfl rfl rfl rfl rfl rfl rfl) (fun pre q post Y' Rl' X' s' hsp wi ij => ?_) fun s6 i6 => ?_
  · have hpre : ∀ p ∈ pre, p.1.Small := fun p hp => hsmq p (by rw [hsp]; simp [hp])
    have hj : pre.length ≤ 12 := by have := congrArg List.length hsp; simp at this; omega
    exact law_turn B N Mo F he hr hfr hfm hint (wi.gr' gr5) (acc_small pre hpre) hj (hsmq q (by rw [hsp]; simp)) ij fun σ' s' i' hsub => ⟨.inl rfl, σ', i', by rw [accOf_snoc]; exact hsub⟩
  · generalize accOf es.zipIdx = a at g hac i6
    rw [hql] at hac
    have htl : tk.length ≤ 12 := by omega
    have hrl : rf.length ≤ 12 := by omega
    have hkey : ∀ p ∈ a.c, sOk p.1 = true := fun p hp => by
      have hm : p.1 ∈ orderOf (tk.map PE.en) := by rw [← g.keys]; exact List.mem_map.mpr ⟨p, hp, rfl⟩
      obtain ⟨e, he', p', hp', hq'⟩ := orderOf_mem _ hm
      obtain ⟨e0, he0, rfl⟩ := List.mem_map.mp he'
      obtain ⟨q0, hq0, rfl⟩ := kd_mem hp'
      rw [← hq']; exact (htkm e0 he0).key q0 hq0
    have hmiss := g.miss
    have hml := miss_lay rf
    refine st_if (sc := lawSc) (p := false) he hr i6 ?_ (fun h => by cases h) fun _ s7 i7 => wpAny_execs_nil ?_
    · refine Tr.cmp (b1 := false) (b2 := true) (d1 := .lst (rf.flatMap missD)) (d2 := .lst (rf.flatMap missD)) (nm (by rw [← hmiss]; rfl) (by decide +kernel)) ?_ (op_ne_self hml.1 hml.2)
      refine Ev.compTwo (α := Nat) (β := D) (xs := ["place"]) (ys := ["kind"]) (ls := rf) (ms := fun _ => [.str (Str.ofString "entry"), .str (Str.ofString "callers")]) (dat := fun n => [.int (n : Nat)]) (dat2 := fun _ d => [d]) (f := fun n d => .tup [.int (n : Nat), d])
        (ItL.lstMap (b := true) (g := fun n : Nat => .int (n : Nat)) (nm rfl (by decide +kernel))) (.name _ _) (fun n _ => ItL.tup (b := true) (Ev.tuple (.c Ev.cstr (.c Ev.cstr .nil)) (by show 2 ≤ 1000; decide))) (.name _ _) rfl (by decide +kernel) (by decide +kernel) (by decide +kernel) (by decide +kernel) (by decide +kernel) (fun _ _ => rfl) (fun _ _ _ _ => rfl) (fun n _ d _ => ?_) ?_ (by decide +kernel)
      · exact Ev.tuple (.c (nm rfl (by decide +kernel)) (.c (nm rfl (by decide +kernel)) .nil)) (by show 2 ≤ 1000; decide)
      · rw [List.length_flatMap]
        have : (rf.map fun i => (missD i).length).sum ≤ (rf.map fun i => (missD i).length).length * 2 := sum_le fun x hx => by obtain ⟨i, _, rfl⟩ := List.mem_map.mp hx; exact Nat.le_refl 2
        rw [List.length_map] at this
        exact Nat.le_trans this (by omega)
    refine st_assign (sc := lawSc) (d := .lst (tk.reverse.map fun e => e.en.d)) he hr i7 ?_ (by decide +kernel) fun s8 i8 => ?_
    · rw [List.map_reverse]
      exact Ev.rev_lst (b := true) (nm (d := .lst (tk.map fun e => e.en.d)) rfl (by decide +kernel)) (by rw [List.length_map]; omega)
    have hitem : ∀ {σ : Ctx0} {sc' : Scope} {p1 p2 p3 : Pos} {qq : Nat} {e : PE} {ix : Int} {d : D}, σ.lookup ("entry" : Str) = some (true, e.en.d) → (sc'.names.lookup ("entry" : Str) == some .local || sc'.names.lookup ("entry" : Str) == some .cell || sc'.names.lookup ("entry" : Str) == some .free) = true → 0 ≤ ix → ix < 2 ^ 62 → [D.int e.n, .str e.m, .tup e.pr, .str e.r, .dic (kd e.c)][ix.toNat]? = some d →
        Ev prog w h₀ (k + 2) sc' σ (.Subscript (.Name ("entry" : Str) p1) (.Constant (.int ix) qq p2) p3) true d := fun hl hk h0 h1 hd =>
      Ev.sub (b1 := true) (b2 := true) (nm hl hk) (Ev.cint) (op_item_tup h0 h1 hd)
    refine st_assign (sc := lawSc) (d := .tup [.int a.n, .str a.m, .tup a.p, .str a.r]) he hr i8 ?_ (by decide +kernel) fun s9 i9 => ?_
    · rw [g.n, g.m, g.p, g.r, cat_join, cat_join]
      have hlate : ∀ {f : PE → Str} {b : Nat}, (∀ e ∈ tk, (f e).length ≤ b) → b ≤ 1000 → ((tk.reverse.map f).map (·.length)).sum + (tk.reverse.map f).length * (Str.ofString "").length ≤ 16777216 := fun {f b} hf hb => by
        have h1 : ((tk.reverse.map f).map (·.length)).sum ≤ ((tk.reverse.map f).map (·.length)).length * b := sum_le fun x hx => by
          obtain ⟨y, hy, rfl⟩ := List.mem_map.mp hx
          obtain ⟨e, he', rfl⟩ := List.mem_map.mp hy
          exact hf e (List.mem_reverse.mp he')
        rw [List.length_map, List.length_map, List.length_reverse] at h1
        have h2 : tk.length * b ≤ 12 * 1000 := Nat.mul_le_mul htl hb
        have h3 : (Str.ofString "").length = 0 := by decide +kernel
        rw [h3]; omega
      refine Ev.tuple (.c (Ev.call1 (b1 := true) (d1 := .lst ((tk.map (·.n)).map .int)) (gn B N.sum (by decide +kernel)) (plainly_builtin _) ?_ op_sum) (.c (Ev.join (b := true) (ys := tk.reverse.map (·.m)) ?_ (hlate (b := 1) (fun e he' => (htkm e he').m.1) (by decide))) (.c (Ev.call1 (b1 := true) (d1 := .lst (tk.reverse.flatMap (·.pr))) (gn B N.tuple (by decide +kernel)) (plainly_type _) ?_ (op_tuple_lst ?_)) (.c (Ev.join (b := true) (ys := tk.reverse.map (·.r)) ?_ (hlate (b := 2) (fun e he' => (htkm e he').r.1) (by decide))) .nil)))) (by show 4 ≤ 1000; decide)
      · rw [List.map_map]
        exact Ev.mapL (ItL.lstMap (b := true) (g := fun e : PE => e.en.d) (ls := tk) (nm rfl (by decide +kernel))) (.name _ _) (comp_ok (by decide +kernel)) (names_ok (by decide +kernel)) (fun _ _ => rfl) (fun e _ => hitem rfl (by decide +kernel) (by decide) (by decide) rfl) (by omega)
      · rw [List.map_map]
        exact Ev.mapL (ItL.lstMap (b := true) (g := fun e : PE => e.en.d) (ls := tk.reverse) (nm rfl (by decide +kernel))) (.name _ _) (comp_ok (by decide +kernel)) (names_ok (by decide +kernel)) (fun _ _ => rfl) (fun e _ => hitem rfl (by decide +kernel) (by decide) (by decide) rfl) (by rw [List.length_reverse]; omega)
      · have e0 : (tk.reverse.flatMap (·.pr)) = tk.reverse.flatMap fun e => e.pr.map fun d => d := by simp
        rw [e0]
        refine Ev.compTwo (α := PE) (β := D) (xs := ["entry"]) (ys := ["thing"]) (ls := tk.reverse) (ms := fun e => e.pr) (dat := fun e => [e.en.d]) (dat2 := fun _ d => [d]) (f := fun _ d => d)
          (ItL.lstMap (b := true) (g := fun e : PE => e.en.d) (nm rfl (by decide +kernel))) (.name _ _) (fun e _ => ItL.tup (b := true) (hitem rfl (by decide +kernel) (by decide) (by decide) rfl)) (.name _ _) rfl (by decide +kernel) (by decide +kernel) (by decide +kernel) (by decide +kernel) (by decide +kernel) (fun _ _ => rfl) (fun _ _ _ _ => rfl) (fun n _ d _ => nm rfl (by decide +kernel)) ?_ (by decide +kernel)
        rw [← e0, ← g.p]; have := hac.p.1; omega
      · rw [← g.p]; have := hac.p.1; omega
      · rw [List.map_map]
        exact Ev.mapL (ItL.lstMap (b := true) (g := fun e : PE => e.en.d) (ls := tk.reverse) (nm rfl (by decide +kernel))) (.name _ _) (comp_ok (by decide +kernel)) (names_ok (by decide +kernel)) (fun _ _ => rfl) (fun e _ => hitem rfl (by decide +kernel) (by decide) (by decide) rfl) (by rw [List.length_reverse]; omega)
    have hcal : Fn prog w h₀ (k + 2) 58 [.lst (tk.map fun e => e.en.d)] (.lst (pairsOf (kd a.c))) := by
      have := callers_fn (prog := prog) (w := w) (k := k) B N F.f58 F.f53 (es := tk.map PE.en) (by rw [List.length_map]; omega) (fun e he => by obtain ⟨p, hp, rfl⟩ := List.mem_map.mp he; exact (htkm p hp).ok) (by rw [order_len tk g]; have := hac.len; omega) (T := Tof a.c) fun x hx => together_T B N F.f53 g htkm htl hx
      rw [List.map_map, ← g.keys, ← pairs_eq g.nodup] at this
      exact this
    refine st_assign (sc := lawSc) (d := .lst (pairsOf (kd a.c))) he hr i9 (Ev.call1 (b1 := true) (gname B (by decide +kernel) N.callers (by decide +kernel)) (plainly_fn F.f58) (nm (d := .lst (tk.map fun e => e.en.d)) rfl (by decide +kernel)) (Fn.op1 hcal)) (by decide +kernel) fun s10 i10 => ?_
    have hwl := whole_lay hac
    have hpl' := pairs_lay hkey hac.sz
    have hcl : (kd a.c).length ≤ 2 ^ 20 := by unfold kd; rw [List.length_map]; have := hac.len; omega
    refine st_if (sc := lawSc) (p := false) he hr i10 (Tr.or3 ?_ ?_ ?_) (fun h => by cases h) fun _ s11 i11 => wpAny_execs_nil ?_
    · exact Tr.cmp (b1 := true) (b2 := true) (Ev.upto4 (b := true) (nm (d := .tup [.int a.n, .str a.m, .tup a.p, .str a.r, .dic (kd a.c)]) rfl (by decide +kernel))) (nm rfl (by decide +kernel)) (op_ne_self hwl.1 hwl.2)
    · exact Tr.cmp (b1 := true) (b2 := true) (Ev.listItems (b := true) (gn B N.list (by decide +kernel)) (Ev.sub (b1 := true) (b2 := true) (nm (d := .tup [.int a.n, .str a.m, .tup a.p, .str a.r, .dic (kd a.c)]) rfl (by decide +kernel)) (Ev.cint (i := 4)) (op_item_tup (by decide) (by decide) rfl)) hcl) (nm rfl (by decide +kernel)) (op_ne_self hpl'.1 hpl'.2)
    · exact Tr.cmp (b1 := true) (b2 := true) (Ev.listItems (b := true) (gn B N.list (by decide +kernel)) (nm (d := .dic (kd a.c)) rfl (by decide +kernel)) hcl) (nm rfl (by decide +kernel)) (op_ne_self hpl'.1 hpl'.2)
    refine st_return (sc := lawSc) he hr i11 (b := true) (d := .bool true) (Ev.and2 ?_ ?_) fun v s'' i'' r => ⟨_, rfl, v, X5, rfl, fun x q1 _ => hX5 x q1, i''.rel, r⟩
    · have h5 := op_len_tup (prog := prog) (w := w) (h₀ := h₀) (k := k + 2) (b1 := true) (ds := [.int a.n, .str a.m, .tup a.p, .str a.r, .dic (kd a.c)]) (by show 5 < 2 ^ 60; decide)
      exact Ev.cmp (b1 := true) (b2 := true) (Ev.call1 (b1 := true) (gn B N.len (by decide +kernel)) (plainly_builtin _) (nm (d := .tup [.int a.n, .str a.m, .tup a.p, .str a.r, .dic (kd a.c)]) rfl (by decide +kernel)) h5) (Ev.cint (i := 5)) op_eq_int
    · have hop := op_eq_entries (prog := prog) (w := w) (h₀ := h₀) (k := k + 2) (es := es.map PE.en) fun e he => by obtain ⟨p, hp, rfl⟩ := List.mem_map.mp he; exact (hsm p hp).lay
      rw [List.map_map] at hop
      exact Ev.cmp (b1 := true) (b2 := true) (nm (d := .lst (es.map fun e => e.en.d)) rfl (by decide +kernel)) (Ev.call1 (b1 := true) (gname B (by decide +kernel) N.entries (by decide +kernel)) (plainly_fn F.f38) (nm (d := .lst (ns.map .int)) rfl (by decide +kernel)) (Fn.op1 hEnt)) hop
end
end Mine

-- part E1
section
set_option maxRecDepth 100000
namespace Mine
section
variable {P : Params} {h : Heap} {mg mb : Str → Option Value}
theorem at_ (K : (hd.heap_39 P).In h) (a : Addr) (o : Obj) (e : (hd.heap_39 P).lookup a = some o) : h.get? a = some o := K a o e
theorem glob (K : (hd.heap_39 P).In h) (g : h.Ns mainGlobals mg) (x : Str) (v : Option Value) (e : (match (hd.heap_39 P).lookup 3 with | some o => (match o.data with | .dict es _ => nsFind es x | _ => none) | none => none) = v) : mg x = v := by
  obtain ⟨o, es, ep, ho, hd', _, hf⟩ := g
  rw [← hf x, ← e]
  have h3 : (hd.heap_39 P).lookup 3 = some o := by
    cases q : (hd.heap_39 P).lookup 3 with
    | none => have : ((hd.heap_39 P).lookup 3).isSome = true := by kernel_rfl
              rw [q] at this; cases this
    | some o' =>
      have := K 3 o' q
      have e3 : mainGlobals = 3 := rfl
      rw [e3] at ho
      rw [ho] at this; cases this; rfl
  rw [h3]
  show _ = (match o.data with | .dict es _ => nsFind es x | _ => none)
  rw [hd']
theorem names_of (K : (hd.heap_39 P).In h) (g : h.Ns mainGlobals mg) (hb : ∀ x : Str, x ≠ "__name__" → mb x = bootBuiltins x) : Names mg mb where
  add_callers := glob K g _ _ (by kernel_rfl)
  add_func_stats := glob K g _ _ (by kernel_rfl)
  entry := glob K g _ _ (by kernel_rfl)
  entries := glob K g _ _ (by kernel_rfl)
  clash := glob K g _ _ (by kernel_rfl)
  parted := glob K g _ _ (by kernel_rfl)
  together := glob K g _ _ (by kernel_rfl)
  callers := glob K g _ _ (by kernel_rfl)
  isinstance := ⟨glob K g _ _ (by kernel_rfl), (hb _ (by decide +kernel)).trans PyProof.Rows.Boot.«isinstance»⟩
  tuple := ⟨glob K g _ _ (by kernel_rfl), (hb _ (by decide +kernel)).trans PyProof.Rows.Boot.«tuple»⟩
  zip := ⟨glob K g _ _ (by kernel_rfl), (hb _ (by decide +kernel)).trans PyProof.Rows.Boot.«zip»⟩
  range := ⟨glob K g _ _ (by kernel_rfl), (hb _ (by decide +kernel)).trans PyProof.Rows.Boot.«range»⟩
  enumerate := ⟨glob K g _ _ (by kernel_rfl), (hb _ (by decide +kernel)).trans PyProof.Rows.Boot.«enumerate»⟩
  sum := ⟨glob K g _ _ (by kernel_rfl), (hb _ (by decide +kernel)).trans PyProof.Rows.Boot.«sum»⟩
  min := ⟨glob K g _ _ (by kernel_rfl), (hb _ (by decide +kernel)).trans PyProof.Rows.Boot.«min»⟩
  len := ⟨glob K g _ _ (by kernel_rfl), (hb _ (by decide +kernel)).trans PyProof.Rows.Boot.«len»⟩
  list := ⟨glob K g _ _ (by kernel_rfl), (hb _ (by decide +kernel)).trans PyProof.Rows.Boot.«list»⟩
  typeError := ⟨glob K g _ _ (by kernel_rfl), (hb _ (by decide +kernel)).trans PyProof.Rows.Boot.«TypeError»⟩
/-- the function record at an address of the head -/
noncomputable def funcAt (P : Params) (a : Addr) : Option FuncData :=
  match (hd.heap_39 P).lookup a with
  | some o => (match o.data with | .func fd => some fd | _ => none)
  | none => none
noncomputable def fieldsAt (P : Params) (a : Addr) : Option (Array Value) :=
  match (hd.heap_39 P).lookup a with
  | some o => (match o.data with | .fields vs => some vs | _ => none)
  | none => none
theorem func_of (K : (hd.heap_39 P).In h) {a : Addr} {fd : FuncData} (e : funcAt P a = some fd) : ∃ o, h.get? a = some o ∧ o.data = .func fd := by
  unfold funcAt at e
  split at e
  · split at e
    · cases e; exact ⟨_, K a _ (by assumption), by assumption⟩
    · cases e
  · cases e
theorem fields_of (K : (hd.heap_39 P).In h) {a : Addr} {vs : Array Value} (e : fieldsAt P a = some vs) : ∃ o, h.get? a = some o ∧ o.data = .fields vs := by
  unfold fieldsAt at e
  split at e
  · split at e
    · cases e; exact ⟨_, K a _ (by assumption), by assumption⟩
    · cases e
  · cases e
theorem isFn_of (K : (hd.heap_39 P).In h) {fa ca : Addr} {name : Str} {ps : List Str} {body : List Stmt} {scope : Scope} {fd : FuncData} {vs : Array Value} {t : Tok} (hf : funcAt P fa = some fd) (hc : fieldsAt P ca = some vs)
    (h1 : fd.scope = scope) (h2 : fd.globals = mainGlobals) (h3 : fd.closure = []) (h4 : fd.builtins = builtinsNs) (h5 : fd.body = .stmts body) (h6 : fd.qualname = name) (h7 : fd.code = .ref ca)
    (h8 : ∀ vs : List Value, vs.length = ps.length → bindArgs fd ⟨vs, []⟩ = pure (ps.zip vs)) (h9 : vs[1]? = some (.str name t)) (n1 : fa ≠ 23) (n2 : ca ≠ 23)
    (k1 : scope.kind = .function) (k2 : scope.isCoroutine = false) (k3 : scope.isGenerator = false) (k4 : okNames scope ps = true) (k5 : (scope.names.all fun p => p.2 != .free) = true) (k6 : ps.Nodup) : IsFn h fa name ps body scope (.ref ca) where
  ne := n1
  obj := by
    obtain ⟨o, ho, hd'⟩ := func_of K hf
    exact ⟨o, fd, ho, hd', h1, h2, h3, h4, h5, h6, h7, h8⟩
  cd := fun h' st => by
    obtain ⟨o, ho, hd'⟩ := fields_of K hc
    exact ⟨ca, o, vs, t, rfl, st _ _ n2 ho, hd', h9⟩
  kind := k1
  co := k2
  gen := k3
  params := names_ok k4
  nofree := fun x hx => by
    have := List.all_eq_true.mp k5 _ (mem_of_look hx)
    simp at this
  onceP := k6
theorem two_args {vs : List Value} (h : vs.length = 2) : ∃ a b, vs = [a, b] := by
  match vs, h with
  | [a, b], _ => exact ⟨a, b, rfl⟩
theorem one_arg {vs : List Value} (h : vs.length = 1) : ∃ a, vs = [a] := by
  match vs, h with
  | [a], _ => exact ⟨a, rfl⟩
theorem defs_of (K : (hd.heap_39 P).In h) : Defs h where
  f21 := isFn_of K (fa := 21) (ca := 20) rfl rfl rfl rfl rfl rfl rfl rfl rfl (fun vs hv => by obtain ⟨a, b, rfl⟩ := two_args hv; rfl) rfl (by decide) (by decide) rfl rfl rfl (by decide +kernel) (by decide +kernel) (by decide +kernel)
  f28 := isFn_of K (fa := 28) (ca := 27) rfl rfl rfl rfl rfl rfl rfl rfl rfl (fun vs hv => by obtain ⟨a, b, rfl⟩ := two_args hv; rfl) rfl (by decide) (by decide) rfl rfl rfl (by decide +kernel) (by decide +kernel) (by decide +kernel)
  f33 := isFn_of K (fa := 33) (ca := 32) rfl rfl rfl rfl rfl rfl rfl rfl rfl (fun vs hv => by obtain ⟨a, b, rfl⟩ := two_args hv; rfl) rfl (by decide) (by decide) rfl rfl rfl (by decide +kernel) (by decide +kernel) (by decide +kernel)
  f38 := isFn_of K (fa := 38) (ca := 37) rfl rfl rfl rfl rfl rfl rfl rfl rfl (fun vs hv => by obtain ⟨a, rfl⟩ := one_arg hv; rfl) rfl (by decide) (by decide) rfl rfl rfl (by decide +kernel) (by decide +kernel) (by decide +kernel)
  f43 := isFn_of K (fa := 43) (ca := 42) rfl rfl rfl rfl rfl rfl rfl rfl rfl (fun vs hv => by obtain ⟨a, b, rfl⟩ := two_args hv; rfl) rfl (by decide) (by decide) rfl rfl rfl (by decide +kernel) (by decide +kernel) (by decide +kernel)
  f48 := isFn_of K (fa := 48) (ca := 47) rfl rfl rfl rfl rfl rfl rfl rfl rfl (fun vs hv => by obtain ⟨a, rfl⟩ := one_arg hv; rfl) rfl (by decide) (by decide) rfl rfl rfl (by decide +kernel) (by decide +kernel) (by decide +kernel)
  f53 := isFn_of K (fa := 53) (ca := 52) rfl rfl rfl rfl rfl rfl rfl rfl rfl (fun vs hv => by obtain ⟨a, rfl⟩ := one_arg hv; rfl) rfl (by decide) (by decide) rfl rfl rfl (by decide +kernel) (by decide +kernel) (by decide +kernel)
  f58 := isFn_of K (fa := 58) (ca := 57) rfl rfl rfl rfl rfl rfl rfl rfl rfl (fun vs hv => by obtain ⟨a, rfl⟩ := one_arg hv; rfl) rfl (by decide) (by decide) rfl rfl rfl (by decide +kernel) (by decide +kernel) (by decide +kernel)
  f63 := isFn_of K (fa := 63) (ca := 62) rfl rfl rfl rfl rfl rfl rfl rfl rfl (fun vs hv => by obtain ⟨a, rfl⟩ := one_arg hv; rfl) rfl (by decide) (by decide) rfl rfl rfl (by decide +kernel) (by decide +kernel) (by decide +kernel)
end
end Mine
end

-- part E2
section
set_option maxRecDepth 100000
namespace Mine
section
variable {prog : Program} {w : World} {P : Params} {s : Shared} {mg mb : Str → Option Value}
theorem reps_ints {X : Addr → Prop} {h : Heap} : ∀ {vs : List Value} {ns : List Int}, IntsAre vs ns → Reps prog w X h (ns.map .int) vs
  | _, _, .nil => .nil
  | _, _, .cons _ t r => .cons (.int _ t) (reps_ints r)
theorem tbl_of {p : Program} {loose : List Str} {mean : ExcName → Option Value} {h : Heap} (K : (hd.heap_39 P).In h) (T : Top p loose mean mg mb h) {d : DefRec} (hf : (recsOf p).find? (fun e => e.name == Str.ofString "add_callers") = some d) : Tbl h := by
  have hn : d.name = Str.ofString "add_callers" := beq_iff_eq.mp (List.find?_some (p := fun e : DefRec => e.name == Str.ofString "add_callers") hf)
  obtain ⟨a, o, fd, c, Pl, h1, h2, h3, h4, h5, h6⟩ := T.tab d (List.mem_of_find?_eq_some hf)
  rw [hn, glob K T.g _ _ (show _ = some (.ref 28) by kernel_rfl)] at h1
  cases h1
  obtain ⟨o', ho', hd'⟩ := func_of K (a := 28) rfl
  rw [h2] at ho'; cases ho'
  rw [h3] at hd'
  have hfd := Data.func.inj hd'
  rw [hfd] at h4
  have hc : c = 27 := by
    have := Value.ref.inj h4.symm
    exact this
  subst hc
  obtain ⟨⟨oc, vs, e1, e2, e3, e4⟩, e5⟩ := id h6
  obtain ⟨oc', ho2, hd2⟩ := fields_of K (a := 27) rfl
  rw [e1] at ho2; cases ho2
  rw [e3] at hd2
  have hvs := (Data.fields.inj hd2)
  rw [hvs] at e4
  have hP : Pl = 23 := by
    have := Value.ref.inj (Option.some.inj e4.symm)
    exact this
  subst hP
  exact ⟨#[], h5, h6⟩
theorem law_run (K : (hd.heap_39 P).In s.heap) {p : Program} {loose : List Str} {mean : ExcName → Option Value} (T : Top p loose mean mg mb s.heap) (t : Tbl s.heap) {ns : List Int} (hn : ns.length ≤ 63) {l : Addr} {vs : List Value} (hl : s.heap.PlainList l vs.toArray) (hi : IntsAre vs ns)
    {R : Result → Shared → Prop} (hR : ∀ s', Gs s s' → R (.ok (.ret (.bool true))) s') : codeAny (model prog w) callerA (.call (.ref 63) ⟨[.ref l], []⟩) R s := by
  have B : Bs s.heap mg mb := ⟨T.g, T.b, T.nolimit⟩
  have N : Names mg mb := names_of K T.g T.builtins
  have F : Defs s.heap := defs_of K
  have Mo : Mod s.heap mg := by
    obtain ⟨bm, ob, a, b, c, d, e, f⟩ := T.bmain
    refine ⟨bm, ob, a, b, fun q => ?_, c, d, e, f⟩
    rw [glob K T.g _ _ (show _ = some (.ref 4) by kernel_rfl)] at a
    cases a; exact absurd q (by decide)
  have h23 : l ≠ 23 := by
    rintro rfl
    obtain ⟨n, ho⟩ := hl
    obtain ⟨ps, _, _, e⟩ := t
    rw [e] at ho; cases ho
  refine code0_of (k := 2) (X := fun a => a = 23) F.f63 B.lim (args := [.lst (ns.map .int)]) (res := .bool true) rfl (fun A env Y Rl X s E he hin hr hfr i gr hfm => law_body (k := 0) B N Mo F hn he hin hr hfr i gr hfm) ⟨rfl, by decide +kernel, by decide +kernel⟩ (fun _ _ _ e => e) (fun a ha => by rw [ha]; exact t.alive.1) rfl t rfl (.cons (.lst h23 hl (reps_ints hi)) .nil) fun v s' g r => ?_
  cases r
  exact hR s' g
theorem oldK_of {s' : Shared} (t : Tbl s.heap) (g : Gs s s') : OldK s.heap s'.heap := by
  obtain ⟨ps, c, tb⟩ := t
  obtain ⟨more, c2, tb2⟩ := g.tbl ps c tb
  refine ⟨fun b o e => ?_, fun b o e => ?_⟩
  · by_cases q : b = 23
    · subst q
      rw [tb.2] at e; cases e
      exact .inr (.inl ⟨tb.isCodeTable, rfl, ps, more, rfl, tb2.2⟩)
    · exact .inl (g.heap b o q e)
  · by_cases q : b = 23
    · exact ⟨_, q ▸ tb2.2⟩
    · exact ⟨o, g.heap b o q e⟩
end
end Mine
end
set_option maxRecDepth 100000 in
set_option maxHeartbeats 8000000 in
theorem PySem.Challenge.cw_mg0083_01_holds : PySem.Challenge.rw_mg0083_01.Holds := by
  refine Mine.hd ?_
  intro w s₀ s₁ mg mb G Y fa o pm cd doc dV kV ho hd hcd hD hmg hg args vals as hpre hlay hrd hwl hlo
  have KX := kIn_of Y
  have T := G.T
  clear ho hd hcd hD
  wrow_args hpre hlay hrd hwl hlo
  rename_i ns hs hlay0 hLy hr1 hl2 as4 as3 l vs as0 hL ra w1 r0 hI hr hc hT
  have hfa : fa = 63 := by
    have := Mine.glob KX T.g (Str.ofString "law") (some (.ref 63)) (by kernel_rfl)
    have hmg' : mg (Str.ofString "law") = some (.ref fa) := hmg
    rw [this] at hmg'; cases hmg'; rfl
  subst hfa
  have t : Mine.Tbl s₁.heap := Mine.tbl_of KX T rfl
  have hpl : s₁.heap.PlainList l vs.toArray := by
    cases w1 with
    | list e _ =>
      obtain ⟨o, ho, hcl, n, hd⟩ := hL
      rw [e] at ho; cases ho
      exact ⟨0, by rw [e]; cases hd; rfl⟩
  refine wpAny_call (Mine.law_run KX T t (by omega) hpl hI fun s' g => ?_)
  refine ⟨.inl ⟨.bool true, .bool true, [], rfl, ?_, .bool true, ?_, fun _ => ⟨.nil, fun _ h => by cases h⟩⟩, Mine.oldK_of t g, g.os, g.gens (.of_eq hg)⟩
  · exact raisesW_false (by wrow_none_raised)
  · wrow_post

