import PyProof.Rows.All
import Wide.All
import OpenK.AllK
import Wide.FinOn
import PySem.Challenge.RW_sr0024_01

set_option Elab.async false

/-! # text Top1 -/
section
open PySem PySem.W PyProof.Rows
namespace Mine
set_option maxRecDepth 100000
set_option maxHeartbeats 8000000
open_top hd for PySem.Challenge.rw_sr0024_01
end Mine


end

/-! # text F1 -/
section
open PySem PySem.Spec PySem.Calls PyProof.Rows PySem.W
set_option maxRecDepth 100000
set_option linter.unusedVariables false
namespace Mine

/-! ## data, and which value stands for which datum -/
inductive D where
  | bool (b : Bool)
  | int (i : Int)
  | str (s : PySem.Str)
  | bytes (b : Array UInt8)
  | list (l : List D)
  | tup (l : List D)
  | ref (a : Addr)

mutual
inductive Rep (M : List Addr) (h : Heap) : Value → D → Prop
  | bool (b) : Rep M h (.bool b) (.bool b)
  | int (i t) : Rep M h (.int i t) (.int i)
  | str (s t) : Rep M h (.str s t) (.str s)
  | bytes (b t) : Rep M h (.bytes b t) (.bytes b)
  | ref (a) : Rep M h (.ref a) (.ref a)
  | list {a n vs ds} : a ∉ M → h.get? a = some { cls := .type "list", data := .seq (List.toArray vs) n } → Reps M h vs ds → Rep M h (.ref a) (.list ds)
  | tup {a n vs ds} : a ∉ M → h.get? a = some { cls := .type "tuple", data := .seq (List.toArray vs) n } → Reps M h vs ds → Rep M h (.ref a) (.tup ds)
inductive Reps (M : List Addr) (h : Heap) : List Value → List D → Prop
  | nil : Reps M h [] []
  | cons {v d vs ds} : Rep M h v d → Reps M h vs ds → Reps M h (v :: vs) (d :: ds)
end

abbrev Grow (M : List Addr) (h h' : Heap) : Prop := ∀ b o, b ∉ M → h.get? b = some o → h'.get? b = some o

mutual
theorem Rep.grow {M : List Addr} {h h' : Heap} (k : Grow M h h') : ∀ {v d}, Rep M h v d → Rep M h' v d
  | _, _, .bool b => .bool b
  | _, _, .int i t => .int i t
  | _, _, .str s t => .str s t
  | _, _, .bytes b t => .bytes b t
  | _, _, .ref a => .ref a
  | _, _, .list hm ho hr => .list hm (k _ _ hm ho) (hr.grow k)
  | _, _, .tup hm ho hr => .tup hm (k _ _ hm ho) (hr.grow k)
theorem Reps.grow {M : List Addr} {h h' : Heap} (k : Grow M h h') : ∀ {vs ds}, Reps M h vs ds → Reps M h' vs ds
  | _, _, .nil => .nil
  | _, _, .cons a b => .cons (a.grow k) (b.grow k)
end
mutual
theorem Rep.less {M N : List Addr} {h : Heap} (k : ∀ b ∈ N, b ∈ M) : ∀ {v d}, Rep M h v d → Rep N h v d
  | _, _, .bool b => .bool b
  | _, _, .int i t => .int i t
  | _, _, .str s t => .str s t
  | _, _, .bytes b t => .bytes b t
  | _, _, .ref a => .ref a
  | _, _, .list hm ho hr => .list (fun q => hm (k _ q)) ho (hr.less k)
  | _, _, .tup hm ho hr => .tup (fun q => hm (k _ q)) ho (hr.less k)
theorem Reps.less {M N : List Addr} {h : Heap} (k : ∀ b ∈ N, b ∈ M) : ∀ {vs ds}, Reps M h vs ds → Reps N h vs ds
  | _, _, .nil => .nil
  | _, _, .cons a b => .cons (a.less k) (b.less k)
end
-- more mutable addresses, if the added ones hold nothing yet
mutual
theorem Rep.more {M N : List Addr} {h : Heap} (k : ∀ b ∈ N, b ∈ M ∨ h.get? b = none) : ∀ {v d}, Rep M h v d → Rep N h v d
  | _, _, .bool b => .bool b
  | _, _, .int i t => .int i t
  | _, _, .str s t => .str s t
  | _, _, .bytes b t => .bytes b t
  | _, _, .ref a => .ref a
  | _, _, .list hm ho hr => .list (fun q => (k _ q).elim hm fun e => by rw [e] at ho; cases ho) ho (hr.more k)
  | _, _, .tup hm ho hr => .tup (fun q => (k _ q).elim hm fun e => by rw [e] at ho; cases ho) ho (hr.more k)
theorem Reps.more {M N : List Addr} {h : Heap} (k : ∀ b ∈ N, b ∈ M ∨ h.get? b = none) : ∀ {vs ds}, Reps M h vs ds → Reps N h vs ds
  | _, _, .nil => .nil
  | _, _, .cons a b => .cons (a.more k) (b.more k)
end
theorem Reps.length {M : List Addr} {h : Heap} : ∀ {vs ds}, Reps M h vs ds → vs.length = ds.length
  | _, _, .nil => rfl
  | _, _, .cons _ b => by rw [List.length_cons, List.length_cons, b.length]
theorem Reps.get {M : List Addr} {h : Heap} : ∀ {vs ds}, Reps M h vs ds → ∀ {i : Nat} {d : D}, ds[i]? = some d → ∃ v, vs[i]? = some v ∧ Rep M h v d
  | _, _, .nil, i, d, e => by simp at e
  | _, _, .cons a b, 0, d, e => by simp at e; subst e; exact ⟨_, rfl, a⟩
  | _, _, .cons a b, i + 1, d, e => by
    simp at e
    obtain ⟨v, h1, h2⟩ := b.get e
    exact ⟨v, by simpa using h1, h2⟩
theorem Reps.append {M : List Addr} {h : Heap} : ∀ {vs ds us es}, Reps M h vs ds → Reps M h us es → Reps M h (vs ++ us) (ds ++ es)
  | _, _, _, _, .nil, k => k
  | _, _, _, _, .cons a b, k => .cons a (b.append k)
theorem Reps.drop {M : List Addr} {h : Heap} : ∀ {vs ds}, Reps M h vs ds → ∀ n, Reps M h (vs.drop n) (ds.drop n)
  | _, _, .nil, n => by simp; exact .nil
  | _, _, .cons a b, 0 => .cons a b
  | _, _, .cons a b, n + 1 => by simpa using b.drop n
theorem Reps.take {M : List Addr} {h : Heap} : ∀ {vs ds}, Reps M h vs ds → ∀ n, Reps M h (vs.take n) (ds.take n)
  | _, _, .nil, n => by simp; exact .nil
  | _, _, .cons a b, 0 => by simp; exact .nil
  | _, _, .cons a b, n + 1 => by simpa using Reps.cons a (b.take n)
theorem Reps.reverse {M : List Addr} {h : Heap} : ∀ {vs ds}, Reps M h vs ds → Reps M h vs.reverse ds.reverse
  | _, _, .nil => .nil
  | _, _, .cons a b => by
    rw [List.reverse_cons, List.reverse_cons]
    exact b.reverse.append (.cons a .nil)

/-! ## the heap behind the top: what stands, and the two tables of code that may grow -/
structure TabSt (h : Heap) (P : Addr) (pos : Pos) (q : PySem.Str) : Prop where
  st : h.get? P = some (tabObj #[]) ∨ ∃ c', h.get? P = some (tabObj #[rawInt pos.line, rawInt pos.col, .ref c']) ∧ h.CodeRec (.ref c') q

structure Tb where
  pos1 : Pos
  q1 : PySem.Str
  pos2 : Pos
  q2 : PySem.Str

structure Inv (B : Tb) (G h : Heap) : Prop where
  keep : ∀ b o, G.get? b = some o → h.get? b = some o
  t1 : TabSt h 47 B.pos1 B.q1
  t2 : TabSt h 54 B.pos2 B.q2

theorem TabSt.keeps {h h' : Heap} {P : Addr} {pos : Pos} {q : PySem.Str} (x : TabSt h P pos q) (k : ∀ b o, h.get? b = some o → h'.get? b = some o) : TabSt h' P pos q :=
  ⟨x.st.elim (fun e => .inl (k _ _ e)) fun ⟨c, e, r⟩ => .inr ⟨c, k _ _ e, r.keeps k⟩⟩
theorem Inv.keeps {B : Tb} {G h h' : Heap} (x : Inv B G h) (k : ∀ b o, h.get? b = some o → h'.get? b = some o) : Inv B G h' :=
  ⟨fun b o e => k _ _ (x.keep b o e), x.t1.keeps k, x.t2.keeps k⟩
def notCode (o : Obj) : Prop := ∀ vs q t, o.data = .fields vs → vs[1]? ≠ some (.str q t)
theorem TabSt.upd {h h' : Heap} {P a : Addr} {oa : Obj} {pos : Pos} {q : PySem.Str} (x : TabSt h P pos q) (k : ∀ b o, b ≠ a → h.get? b = some o → h'.get? b = some o) (ha : h.get? a = some oa) (hn : notCode oa) (hP : P ≠ a) : TabSt h' P pos q :=
  ⟨x.st.elim (fun e => .inl (k _ _ hP e)) fun ⟨c, e, r⟩ => .inr ⟨c, k _ _ hP e, by
    obtain ⟨c₁, o, vs, t, e1, e2, e3, e4⟩ := r
    cases e1
    refine ⟨c, o, vs, t, rfl, k _ _ (fun q' => ?_) e2, e3, e4⟩
    subst q'
    rw [ha] at e2; cases e2
    exact hn vs _ _ e3 e4⟩⟩
theorem Inv.upd {B : Tb} {G h h' : Heap} {a : Addr} {oa : Obj} (x : Inv B G h) (k : ∀ b o, b ≠ a → h.get? b = some o → h'.get? b = some o) (ha : h.get? a = some oa) (hn : notCode oa) (h1 : 47 ≠ a) (h2 : 54 ≠ a) (hG : G.get? a = none) : Inv B G h' :=
  ⟨fun b o e => k _ _ (fun q => by subst q; rw [hG] at e; cases e) (x.keep b o e), x.t1.upd k ha hn h1, x.t2.upd k ha hn h2⟩

/-- from state to state: only heap and tokens move, and of what was only the two tables -/
structure Stp (B : Tb) (G : Heap) (s s' : Shared) : Prop where
  same : ∃ h' tk, s' = { s with heap := h', toks := tk }
  keep : Grow [47, 54] s.heap s'.heap
  inv : Inv B G s'.heap

structure St0 (B : Tb) (G : Heap) (M : List Addr) (s : Shared) : Prop where
  inv : Inv B G s.heap
  m1 : (47 : Addr) ∈ M
  m2 : (54 : Addr) ∈ M
  there : ∀ b ∈ M, ∃ o, s.heap.get? b = some o

section
variable {B : Tb} {G : Heap} {M : List Addr} {s s' s'' : Shared}
theorem Stp.refl (x : Inv B G s.heap) : Stp B G s s := ⟨⟨_, _, rfl⟩, fun _ _ _ e => e, x⟩
theorem Stp.trans (x : Stp B G s s') (y : Stp B G s' s'') : Stp B G s s'' := by
  obtain ⟨h1, t1, rfl⟩ := x.same
  obtain ⟨h2, t2, rfl⟩ := y.same
  exact ⟨⟨_, _, rfl⟩, fun b o hb e => y.keep b o hb (x.keep b o hb e), y.inv⟩
theorem Stp.of {h' : Heap} {tk : Tok} (x : Inv B G s.heap) (k : ∀ b o, s.heap.get? b = some o → h'.get? b = some o) : Stp B G s { s with heap := h', toks := tk } :=
  ⟨⟨_, _, rfl⟩, fun b o _ e => k b o e, x.keeps k⟩
theorem Stp.tok {tk : Tok} (x : Inv B G s.heap) : Stp B G s { s with toks := tk } := Stp.of (h' := s.heap) x fun _ _ e => e
theorem Stp.push {o : Obj} {tk : Tok} (x : Inv B G s.heap) : Stp B G s { s with heap := s.heap.push o, toks := tk } := Stp.of x fun _ _ e => Heap.get?_push_of_some _ e
theorem Stp.push' {o : Obj} (x : Inv B G s.heap) : Stp B G s { s with heap := s.heap.push o } := Stp.of (tk := s.toks) x fun _ _ e => Heap.get?_push_of_some _ e
theorem Inv.tabThere {h : Heap} (x : Inv B G h) {b : Addr} (hb : b ∈ ([47, 54] : List Addr)) : ∃ o, h.get? b = some o := by
  simp only [List.mem_cons, List.not_mem_nil, or_false] at hb
  rcases hb with rfl | rfl
  · rcases x.t1.st with e | ⟨_, e, _⟩ <;> exact ⟨_, e⟩
  · rcases x.t2.st with e | ⟨_, e, _⟩ <;> exact ⟨_, e⟩
theorem Stp.there (x : Stp B G s s') {b : Addr} (hb : ∃ o, s.heap.get? b = some o) : ∃ o, s'.heap.get? b = some o := by
  by_cases q : b ∈ ([47, 54] : List Addr)
  · exact x.inv.tabThere q
  · obtain ⟨o, e⟩ := hb; exact ⟨o, x.keep b o q e⟩
theorem St0.step (x : St0 B G M s) (y : Stp B G s s') : St0 B G M s' := ⟨y.inv, x.m1, x.m2, fun b hb => y.there (x.there b hb)⟩
theorem St0.grow (x : St0 B G M s) (y : Stp B G s s') : Grow M s.heap s'.heap := fun b o hb e => y.keep b o (by
  intro q
  simp only [List.mem_cons, List.not_mem_nil, or_false] at q
  rcases q with rfl | rfl
  · exact hb x.m1
  · exact hb x.m2) e
theorem St0.fresh (x : St0 B G M s) {b : Addr} (hb : s.heap.get? b = none) : b ∉ M := fun q => by
  obtain ⟨o, e⟩ := x.there b q
  rw [hb] at e; cases e
theorem get?_size (h : Heap) : h.get? h.objs.size = none := by
  cases e : h.get? h.objs.size with
  | none => rfl
  | some o => exact absurd (Heap.lt_size e) (Nat.lt_irrefl _)
theorem Rep.step {v : Value} {d : D} (r : Rep M s.heap v d) (x : St0 B G M s) (y : Stp B G s s') : Rep M s'.heap v d := r.grow (x.grow y)
theorem Reps.step {vs : List Value} {ds : List D} (r : Reps M s.heap vs ds) (x : St0 B G M s) (y : Stp B G s s') : Reps M s'.heap vs ds := r.grow (x.grow y)
/-- a new list of data that are there -/
theorem Rep.newList {vs : List Value} {ds : List D} {n : Nat} {tk : Tok} (r : Reps M s.heap vs ds) (x : St0 B G M s) :
    Rep M ({ s with heap := s.heap.push { cls := .type "list", data := .seq (List.toArray vs) n }, toks := tk } : Shared).heap (.ref s.heap.objs.size) (.list ds) :=
  .list (x.fresh (get?_size _)) (Heap.get?_push_size _ rfl) (r.grow fun _ _ _ e => Heap.get?_push_of_some _ e)
theorem Rep.newTup {vs : List Value} {ds : List D} {n : Nat} {tk : Tok} (r : Reps M s.heap vs ds) (x : St0 B G M s) :
    Rep M ({ s with heap := s.heap.push { cls := .type "tuple", data := .seq (List.toArray vs) n }, toks := tk } : Shared).heap (.ref s.heap.objs.size) (.tup ds) :=
  .tup (x.fresh (get?_size _)) (Heap.get?_push_size _ rfl) (r.grow fun _ _ _ e => Heap.get?_push_of_some _ e)
end

/-! ## names -/
def Off (a : Addr) : Prop := a ≠ 47 ∧ a ≠ 54
theorem Off.not {a : Addr} (x : Off a) : a ∉ ([47, 54] : List Addr) := by
  intro q
  simp only [List.mem_cons, List.not_mem_nil, or_false] at q
  exact q.elim x.1 x.2

def Bound (env : Env) (h : Heap) (x : PySem.Str) (v : Value) : Prop :=
  (x == ("__debug__" : PySem.Str)) = false ∧ env.scope.kind = .function ∧
  ((env.kindOf x = some .local ∧ Off env.locals ∧ ∃ m, h.Ns env.locals m ∧ m x = some v) ∨
   ((env.kindOf x = some .cell ∨ env.kindOf x = some .free ∧ (x == ("__classdict__" : PySem.Str)) = false) ∧ ∃ c, Off c ∧ env.cells.lookup x = some c ∧ h.IsCell c (some v)))

theorem Bound.grow {env : Env} {h h' : Heap} {x : PySem.Str} {v : Value} (b : Bound env h x v) (k : Grow [47, 54] h h') : Bound env h' x v := by
  obtain ⟨b0, b1, b2⟩ := b
  refine ⟨b0, b1, b2.imp (fun ⟨h1, h2, m, h3, h4⟩ => ⟨h1, h2, m, ?_, h4⟩) fun ⟨h1, c, h2, h3, h4⟩ => ⟨h1, c, h2, h3, ?_⟩⟩
  · exact h3.at' fun o e => k _ o h2.not e
  · obtain ⟨o, e, d⟩ := h4
    exact ⟨o, k _ o h2.not e, d⟩

def Vars (M : List Addr) (env : Env) (h : Heap) (ρ : List (PySem.Str × D)) : Prop := ∀ x d, (x, d) ∈ ρ → ∃ v, Bound env h x v ∧ Rep M h v d

section
variable {B : Tb} {G : Heap} {M : List Addr} {s s' : Shared} {env : Env} {ρ : List (PySem.Str × D)}
theorem Vars.step (x : Vars M env s.heap ρ) (z : St0 B G M s) (y : Stp B G s s') : Vars M env s'.heap ρ := fun n d hm =>
  let ⟨v, b, r⟩ := x n d hm; ⟨v, b.grow y.keep, r.step z y⟩
end

section
variable {M : Model} {A : Around} {E : Value → Shared → Prop} {s : Shared} {env : Env}
theorem wp_bound {x : PySem.Str} {v : Value} {pos : Pos} {Q : Value → Shared → Prop} (b : Bound env s.heap x v) (h : Q v s) : wpAny M A (eval (.Name x pos) env) Q E s := by
  obtain ⟨b0, b1, b2⟩ := b
  refine wpAny_Name ?_ b0
  rcases b2 with ⟨h1, _, m, h3, h4⟩ | ⟨h1 | ⟨h1, hc⟩, c, _, h3, h4⟩
  · exact wpAny_loadName_local b1 h1 h3 h4 h
  · exact wpAny_loadName_cell b1 h1 h3 h4 h
  · exact wpAny_loadName_free b1 h1 h3 h4 h hc
end

/-! ## an expression gives a datum -/
section
variable (prog : Program) (w : World) (B : Tb) (G : Heap) (A : Around) (env : Env)

def EV (ρ : List (PySem.Str × D)) (e : PySem.Expr) (d : D) : Prop :=
  ∀ (M : List Addr) (s : Shared) (Q : Value → Shared → Prop) (E : Value → Shared → Prop), St0 B G M s → Vars M env s.heap ρ →
    (∀ v s', Stp B G s s' → Rep M s'.heap v d → Q v s') → wpAny (model prog w) A (eval e env) Q E s
/-- a test is decided -/
def TV (ρ : List (PySem.Str × D)) (e : PySem.Expr) (b : Bool) : Prop :=
  ∀ (M : List Addr) (s : Shared) (Q : Bool → Shared → Prop) (E : Value → Shared → Prop), St0 B G M s → Vars M env s.heap ρ →
    (∀ s', Stp B G s s' → Q b s') → wpAny (model prog w) A (isTrue e env (eval e env)) Q E s
/-- an operation on two values -/
def BOP (f : Value → Value → Sem Value) (d1 d2 d : D) : Prop :=
  ∀ (M : List Addr) (s : Shared) (Q : Value → Shared → Prop) (E : Value → Shared → Prop) (v1 v2 : Value), St0 B G M s → Rep M s.heap v1 d1 → Rep M s.heap v2 d2 →
    (∀ v s', Stp B G s s' → Rep M s'.heap v d → Q v s') → wpAny (model prog w) A (f v1 v2) Q E s
def UOP (f : Value → Sem Value) (d1 d : D) : Prop :=
  ∀ (M : List Addr) (s : Shared) (Q : Value → Shared → Prop) (E : Value → Shared → Prop) (v1 : Value), St0 B G M s → Rep M s.heap v1 d1 →
    (∀ v s', Stp B G s s' → Rep M s'.heap v d → Q v s') → wpAny (model prog w) A (f v1) Q E s
def TRU (d1 : D) (b : Bool) : Prop :=
  ∀ (M : List Addr) (s : Shared) (Q : Bool → Shared → Prop) (E : Value → Shared → Prop) (v1 : Value), St0 B G M s → Rep M s.heap v1 d1 →
    (∀ s', Stp B G s s' → Q b s') → wpAny (model prog w) A (truthy v1) Q E s
/-- a call of a built-in or a def on data -/
def CALLS (f : Value) (ds : List D) (d : D) : Prop :=
  ∀ (M : List Addr) (s : Shared) (Q : Value → Shared → Prop) (E : Value → Shared → Prop) (vs : List Value), St0 B G M s → Reps M s.heap vs ds →
    (∀ v s', Stp B G s s' → Rep M s'.heap v d → Q v s') → wpAny (model prog w) A (call f vs) Q E s
end

section
variable {prog : Program} {w : World} {B : Tb} {G : Heap} {A : Around} {env : Env} {ρ : List (PySem.Str × D)}
theorem EV.int {i : Int} {k : Nat} {pos : Pos} : EV prog w B G A env ρ (.Constant (.int i) k pos) (.int i) := fun _ _ _ _ z _ h => wpAny_Constant_int (h _ _ (.tok z.inv) (.int _ _))
theorem EV.str {x : PySem.Str} {k : Nat} {pos : Pos} : EV prog w B G A env ρ (.Constant (.str x) k pos) (.str x) := fun _ _ _ _ z _ h => wpAny_Constant_str (h _ _ (.tok z.inv) (.str _ _))
theorem EV.bytes {x : List UInt8} {k : Nat} {pos : Pos} : EV prog w B G A env ρ (.Constant (.bytes x) k pos) (.bytes x.toArray) := fun _ s _ _ z _ h => by
  rw [eval_Constant]
  exact wpAny_mkTextBytes (h _ _ (.tok z.inv) (.bytes _ _))
theorem EV.name {x : PySem.Str} {d : D} {pos : Pos} (hx : (x, d) ∈ ρ) : EV prog w B G A env ρ (.Name x pos) d := fun _ _ _ _ z y h => by
  obtain ⟨v, b, r⟩ := y x d hx
  exact wp_bound b (h _ _ (.refl z.inv) r)
theorem EV.bin {l r : PySem.Expr} {op : Operator} {pos : Pos} {d1 d2 d : D} (h1 : EV prog w B G A env ρ l d1) (h2 : EV prog w B G A env ρ r d2) (ho : BOP prog w B G A (binaryOp op) d1 d2 d) :
    EV prog w B G A env ρ (.BinOp l op r pos) d := fun M s Q E z y h =>
  wpAny_BinOp (h1 M s _ _ z y fun v1 s1 p1 r1 => h2 M s1 _ _ (z.step p1) (y.step z p1) fun v2 s2 p2 r2 =>
    ho M s2 _ _ v1 v2 ((z.step p1).step p2) (r1.step (z.step p1) p2) r2 fun v s3 p3 r3 => h v s3 ((p1.trans p2).trans p3) r3)
theorem EV.cmp {l r : PySem.Expr} {op : CmpOp} {pos : Pos} {d1 d2 d : D} (h1 : EV prog w B G A env ρ l d1) (h2 : EV prog w B G A env ρ r d2) (ho : BOP prog w B G A (compareOp op) d1 d2 d) (hm : behindInMarks op r = false := by with_unfolding_all rfl) :
    EV prog w B G A env ρ (.Compare l [op] [r] pos) d := fun M s Q E z y h =>
  wpAny_Compare1 (h1 M s _ _ z y fun v1 s1 p1 r1 => h2 M s1 _ _ (z.step p1) (y.step z p1) fun v2 s2 p2 r2 =>
    ho M s2 _ _ v1 v2 ((z.step p1).step p2) (r1.step (z.step p1) p2) r2 fun v s3 p3 r3 => h v s3 ((p1.trans p2).trans p3) r3) hm
theorem EV.un {x : PySem.Expr} {op : UnaryOp} {pos : Pos} {d1 d : D} (h1 : EV prog w B G A env ρ x d1) (ho : UOP prog w B G A (unaryOp op) d1 d) :
    EV prog w B G A env ρ (.UnaryOp op x pos) d := fun M s Q E z y h =>
  wpAny_UnaryOp (h1 M s _ _ z y fun v1 s1 p1 r1 => ho M s1 _ _ v1 (z.step p1) r1 fun v s3 p3 r3 => h v s3 (p1.trans p3) r3)
theorem EV.ifT {t b o : PySem.Expr} {pos : Pos} {c : Bool} {d : D} (ht : TV prog w B G A env ρ t c) (h1 : c = true → EV prog w B G A env ρ b d) (h2 : c = false → EV prog w B G A env ρ o d) :
    EV prog w B G A env ρ (.IfExp t b o pos) d := fun M s Q E z y h =>
  wpAny_IfExp (ht M s _ _ z y fun s1 p1 => by
    cases c with
    | true => exact h1 rfl M s1 _ _ (z.step p1) (y.step z p1) fun v s2 p2 r2 => h v s2 (p1.trans p2) r2
    | false => exact h2 rfl M s1 _ _ (z.step p1) (y.step z p1) fun v s2 p2 r2 => h v s2 (p1.trans p2) r2)
theorem EV.and2 {a b : PySem.Expr} {pos : Pos} {d1 d2 : D} {c : Bool} (h1 : EV prog w B G A env ρ a d1) (ht : TRU prog w B G A d1 c) (h2 : c = true → EV prog w B G A env ρ b d2) (h3 : c = false → d1 = d2) :
    EV prog w B G A env ρ (.BoolOp .And [a, b] pos) d2 := fun M s Q E z y h =>
  wpAny_And2 (h1 M s _ _ z y fun v1 s1 p1 r1 => ht M s1 _ _ v1 (z.step p1) r1 fun s2 p2 => by
    cases c with
    | true => exact h2 rfl M s2 _ _ ((z.step p1).step p2) ((y.step z p1).step (z.step p1) p2) fun v s3 p3 r3 => h v s3 ((p1.trans p2).trans p3) r3
    | false => exact h _ _ (p1.trans p2) (h3 rfl ▸ r1.step (z.step p1) p2))
theorem EV.or2 {a b : PySem.Expr} {pos : Pos} {d1 d2 : D} {c : Bool} (h1 : EV prog w B G A env ρ a d1) (ht : TRU prog w B G A d1 c) (h2 : c = false → EV prog w B G A env ρ b d2) (h3 : c = true → d1 = d2) :
    EV prog w B G A env ρ (.BoolOp .Or [a, b] pos) d2 := fun M s Q E z y h =>
  wpAny_Or2 (h1 M s _ _ z y fun v1 s1 p1 r1 => ht M s1 _ _ v1 (z.step p1) r1 fun s2 p2 => by
    cases c with
    | false => exact h2 rfl M s2 _ _ ((z.step p1).step p2) ((y.step z p1).step (z.step p1) p2) fun v s3 p3 r3 => h v s3 ((p1.trans p2).trans p3) r3
    | true => exact h _ _ (p1.trans p2) (h3 rfl ▸ r1.step (z.step p1) p2))
theorem TV.val {e : PySem.Expr} {d : D} {b : Bool} (h1 : EV prog w B G A env ρ e d) (ht : TRU prog w B G A d b) (he : isTrue e env (eval e env) = (do let v ← eval e env; standAt e.pos; holding [v] (truthy v)) := by rfl) : TV prog w B G A env ρ e b := fun M s Q E z y h =>
  wpAny_isTrue_value (h1 M s _ _ z y fun v1 s1 p1 r1 => ht M s1 _ _ v1 (z.step p1) r1 fun s2 p2 => h s2 (p1.trans p2)) he
theorem TV.cmp {l r : PySem.Expr} {op : CmpOp} {pos : Pos} {d1 d2 : D} {b : Bool} (h1 : EV prog w B G A env ρ l d1) (h2 : EV prog w B G A env ρ r d2) (ho : BOP prog w B G A (compareOp op) d1 d2 (.bool b)) (hm : behindInMarks op r = false := by with_unfolding_all rfl) :
    TV prog w B G A env ρ (.Compare l [op] [r] pos) b := fun M s Q E z y h =>
  wpAny_isTrue_Compare1 (h1 M s _ _ z y fun v1 s1 p1 r1 => h2 M s1 _ _ (z.step p1) (y.step z p1) fun v2 s2 p2 r2 =>
    ho M s2 _ _ v1 v2 ((z.step p1).step p2) (r1.step (z.step p1) p2) r2 fun v s3 p3 r3 => by
      cases r3
      exact wpAny_truthy_bool (h s3 ((p1.trans p2).trans p3))) hm

/-! ### values -/
theorem TRU.bool {b : Bool} : TRU prog w B G A (.bool b) b := fun _ _ _ _ _ z r h => by cases r; exact wpAny_truthy_bool (h _ (.refl z.inv))
theorem TRU.int {i : Int} : TRU prog w B G A (.int i) (i != 0) := fun _ _ _ _ _ z r h => by cases r; exact P.truthy_int (h _ (.refl z.inv))
theorem BOP.add {a b : Int} : BOP prog w B G A (binaryOp .Add) (.int a) (.int b) (.int (a + b)) := fun _ _ _ _ _ _ z r1 r2 h => by cases r1; cases r2; exact P.add_int (h _ _ (.tok z.inv) (.int _ _))
theorem BOP.sub {a b : Int} : BOP prog w B G A (binaryOp .Sub) (.int a) (.int b) (.int (a - b)) := fun _ _ _ _ _ _ z r1 r2 h => by cases r1; cases r2; exact P.sub_int (h _ _ (.tok z.inv) (.int _ _))
theorem BOP.mul {a b : Int} (hm : IntMulOk a b) : BOP prog w B G A (binaryOp .Mult) (.int a) (.int b) (.int (a * b)) := fun _ _ _ _ _ _ z r1 r2 h => by cases r1; cases r2; exact P.mul_int (h _ _ (.tok z.inv) (.int _ _)) hm
theorem BOP.mod {a b : Int} (hb : b ≠ 0) : BOP prog w B G A (binaryOp .Mod) (.int a) (.int b) (.int (a.fmod b)) := fun _ _ _ _ _ _ z r1 r2 h => by cases r1; cases r2; exact mod_int' hb (h _ _ (.tok z.inv) (.int _ _))
theorem BOP.fdiv {a b : Int} (hb : b ≠ 0) (hp : Builtin.divisionGoesByPylong a b = false) : BOP prog w B G A (binaryOp .FloorDiv) (.int a) (.int b) (.int (a.fdiv b)) := fun _ _ _ _ _ _ z r1 r2 h => by cases r1; cases r2; exact floordiv_int hb (h _ _ (.tok z.inv) (.int _ _)) (.inl hp)
theorem BOP.pow {a n : Int} (hn : 0 ≤ n) (hsz : (Builtin.Int.intBits a : Int) * n ≤ 2 ^ 27) : BOP prog w B G A (binaryOp .Pow) (.int a) (.int n) (.int (a ^ n.toNat)) := fun _ _ _ _ _ _ z r1 r2 h => by cases r1; cases r2; exact pow_int hn hsz (h _ _ (.tok z.inv) (.int _ _))
theorem BOP.shl {a n : Int} (hn : 0 ≤ n) (hsz : (Builtin.Int.intBits a : Int) + n ≤ 2 ^ 27) : BOP prog w B G A (binaryOp .LShift) (.int a) (.int n) (.int (a * 2 ^ n.toNat)) := fun _ _ _ _ _ _ z r1 r2 h => by cases r1; cases r2; exact lshift_int hn hsz (h _ _ (.tok z.inv) (.int _ _))
theorem BOP.shr {a n : Int} (hn : 0 ≤ n) : BOP prog w B G A (binaryOp .RShift) (.int a) (.int n) (.int (a.fdiv (2 ^ n.toNat))) := fun _ _ _ _ _ _ z r1 r2 h => by cases r1; cases r2; exact rshift_int hn (h _ _ (.tok z.inv) (.int _ _))
theorem BOP.xor {a b : Int} : BOP prog w B G A (binaryOp .BitXor) (.int a) (.int b) (.int (Builtin.bitXor a b)) := fun _ _ _ _ _ _ z r1 r2 h => by cases r1; cases r2; exact xor_int (h _ _ (.tok z.inv) (.int _ _))
theorem BOP.lt {a b : Int} : BOP prog w B G A (compareOp .Lt) (.int a) (.int b) (.bool (decide (a < b))) := fun _ _ _ _ _ _ z r1 r2 h => by cases r1; cases r2; exact P.lt_int (h _ _ (.refl z.inv) (.bool _))
theorem BOP.le {a b : Int} : BOP prog w B G A (compareOp .LtE) (.int a) (.int b) (.bool (decide (a ≤ b))) := fun _ _ _ _ _ _ z r1 r2 h => by cases r1; cases r2; exact P.le_int (h _ _ (.refl z.inv) (.bool _))
theorem BOP.gt {a b : Int} : BOP prog w B G A (compareOp .Gt) (.int a) (.int b) (.bool (decide (a > b))) := fun _ _ _ _ _ _ z r1 r2 h => by cases r1; cases r2; exact P.gt_int (h _ _ (.refl z.inv) (.bool _))
theorem BOP.eq {a b : Int} : BOP prog w B G A (compareOp .Eq) (.int a) (.int b) (.bool (a == b)) := fun _ _ _ _ _ _ z r1 r2 h => by cases r1; cases r2; exact P.eq_int (h _ _ (.refl z.inv) (.bool _))
theorem BOP.eqS {a b : PySem.Str} : BOP prog w B G A (compareOp .Eq) (.str a) (.str b) (.bool (a.cps.toList == b.cps.toList)) := fun _ _ _ _ _ _ z r1 r2 h => by cases r1; cases r2; exact P.eq_str (h _ _ (.refl z.inv) (.bool _))
theorem UOP.neg {a : Int} : UOP prog w B G A (unaryOp .USub) (.int a) (.int (-a)) := fun _ _ _ _ _ z r h => by cases r; exact P.neg_int (h _ _ (.tok z.inv) (.int _ _))
end
end Mine

end

/-! # text F2 -/
section
open PySem PySem.Spec PySem.Calls PyProof.Rows PySem.W
set_option maxRecDepth 100000
set_option linter.unusedVariables false
namespace Mine
section
variable {prog : Program} {w : World} {B : Tb} {G : Heap} {A : Around} {env : Env} {ρ : List (PySem.Str × D)}

/-! ## arguments -/
theorem backTo_cons (pos : Pos) (t : Sem Value) (r : List (Bool × Sem Value)) : backTo pos ((false, t) :: r) = (false, t) :: backTo pos r := by
  simp [backTo]
theorem backTo_plain (pos : Pos) : ∀ r : List (Bool × Sem Value), r.any (·.1) = false → (backTo pos r).any (·.1) = false
  | [], _ => rfl
  | (b, t) :: r, h => by
    simp only [List.any_cons, Bool.or_eq_false_iff] at h
    obtain ⟨h1, h2⟩ := h
    subst h1
    rw [backTo_cons, List.any_cons, backTo_plain pos r h2]; rfl

inductive ArgsEV (prog : Program) (w : World) (B : Tb) (G : Heap) (A : Around) (env : Env) (ρ : List (PySem.Str × D)) : List PySem.Expr → List D → Prop
  | nil : ArgsEV prog w B G A env ρ [] []
  | cons {e es d ds} : EV prog w B G A env ρ e d → (∀ r, starEach (e :: r) env = (false, eval e env) :: starEach r env) → ArgsEV prog w B G A env ρ es ds → ArgsEV prog w B G A env ρ (e :: es) (d :: ds)

theorem args_any {es : List PySem.Expr} {ds : List D} (a : ArgsEV prog w B G A env ρ es ds) (pos : Pos) : (backTo pos (starEach es env)).any (·.1) = false := by
  refine backTo_plain pos _ ?_
  induction a with
  | nil => rfl
  | cons _ hs _ ih => rw [hs, List.any_cons, ih]; rfl

theorem args_wp {es : List PySem.Expr} {ds : List D} (a : ArgsEV prog w B G A env ρ es ds) (pos : Pos) : ∀ (M : List Addr) (s : Shared) (Q : List Value → Shared → Prop) (E : Value → Shared → Prop), St0 B G M s → Vars M env s.heap ρ →
    (∀ vs s', Stp B G s s' → Reps M s'.heap vs ds → Q vs s') → wpAny (model prog w) A (spliced (backTo pos (starEach es env))) Q E s := by
  induction a with
  | nil => intro M s Q E z y h; exact spliced_nil (h [] s (.refl z.inv) .nil)
  | cons he hs _ ih =>
    intro M s Q E z y h
    rw [hs, backTo_cons]
    refine spliced_cons (he M s _ _ z y fun v s1 p1 r1 => ?_)
    exact ih M s1 _ _ (z.step p1) (y.step z p1) fun vs s2 p2 r2 => h (v :: vs) s2 (p1.trans p2) (.cons (r1.step (z.step p1) p2) r2)

theorem evalArgs_wp {es : List PySem.Expr} {ds : List D} (a : ArgsEV prog w B G A env ρ es ds) (pos : Pos) (f : Value) {M : List Addr} {s : Shared} {Q : Args → Shared → Prop} {E : Value → Shared → Prop} (z : St0 B G M s) (y : Vars M env s.heap ρ)
    (h : ∀ vs s', Stp B G s s' → Reps M s'.heap vs ds → Q ⟨vs, []⟩ s') : wpAny (model prog w) A (evalArgs f true (backTo pos (starEach es env)) []) Q E s := by
  have key := args_wp a pos M s (fun vs s' => Q ⟨vs, []⟩ s') E z y h
  cases a with
  | nil => exact evalArgs_nil3 (h [] s (.refl z.inv) .nil)
  | cons he hs hr =>
    rw [hs, backTo_cons] at key ⊢
    exact evalArgs_plain key

/-! ## names of the top and of the built-ins -/
structure Gl (G : Heap) (env : Env) (x : PySem.Str) (v : Value) : Prop where
  kind : env.scope.kind = .function
  is : env.kindOf x = some .globalImplicit
  deb : (x == ("__debug__" : PySem.Str)) = false
  val : (∃ mg, G.Ns env.globals mg ∧ mg x = some v) ∨ ∃ mg mb, G.Ns env.globals mg ∧ mg x = none ∧ G.Ns env.builtins mb ∧ mb x = some v

theorem wp_glob {x : PySem.Str} {v : Value} {pos : Pos} {s : Shared} {Q : Value → Shared → Prop} {E : Value → Shared → Prop} (g : Gl G env x v) (z : Inv B G s.heap) (h : Q v s) : wpAny (model prog w) A (eval (.Name x pos) env) Q E s := by
  refine Name_function_global g.kind g.is ?_ g.deb
  rcases g.val with ⟨mg, h1, h2⟩ | ⟨mg, mb, h1, h2, h3, h4⟩
  · exact loadGlobal_global (h1.keeps z.keep) h2 h
  · exact loadGlobal_builtin (h1.keeps z.keep) h2 (h3.keeps z.keep) h4 h

def Callee (G : Heap) (v : Value) : Prop := (∃ id, v = .builtin id) ∨ ∃ a o fd, v = .ref a ∧ G.get? a = some o ∧ o.data = .func fd

theorem callW {es : List PySem.Expr} {ds : List D} {d : D} {f : Value} {pos : Pos} {M : List Addr} {s : Shared} {Q : Value → Shared → Prop} {E : Value → Shared → Prop} {first : List Value} {fs : List D}
    (hf : Callee G f) (a : ArgsEV prog w B G A env ρ es ds) (hc : CALLS prog w B G A f (fs ++ ds) d) (z : St0 B G M s) (y : Vars M env s.heap ρ) (r0 : Reps M s.heap first fs)
    (h : ∀ v s', Stp B G s s' → Rep M s'.heap v d → Q v s') : wpAny (model prog w) A (callWith pos f first (backTo pos (starEach es env)) []) Q E s := by
  rcases hf with ⟨id, rfl⟩ | ⟨a', o, fd, rfl, ho, hd⟩
  · refine callWith_builtin (args_any a pos) (evalArgs_wp a pos _ z y fun vs s1 p1 r1 => ?_)
    exact hc M s1 _ _ _ (z.step p1) ((r0.step z p1).append r1) fun v s2 p2 r2 => h v s2 (p1.trans p2) r2
  · refine callWith_function (o := o) (fd := fd) (evalArgs_wp a pos _ z y fun vs s1 p1 r1 => ⟨⟨p1.inv.keep _ _ ho, hd⟩, ?_⟩)
    exact hc M s1 _ _ _ (z.step p1) ((r0.step z p1).append r1) fun v s2 p2 r2 => h v s2 (p1.trans p2) r2

theorem EV.call {x : PySem.Str} {np pos : Pos} {es : List PySem.Expr} {ds : List D} {d : D} {f : Value} (g : Gl G env x f) (hf : Callee G f) (a : ArgsEV prog w B G A env ρ es ds) (hc : CALLS prog w B G A f ds d) :
    EV prog w B G A env ρ (.Call (.Name x np) es [] pos) d := fun M s Q E z y h => by
  refine wpAny_Call_ofName (wp_glob g z.inv ?_)
  exact callW (fs := []) hf a hc z y .nil h

/-! ## methods -/
structure MethT (T id : String) (name : PySem.Str) : Prop where
  plain : PlainAttrs T
  slot : Slot T name id
  ty : typeOf (.builtin id) = pure (.type "method_descriptor")

inductive HasT : D → String → Prop
  | int (i) : HasT (.int i) "int"
  | str (x) : HasT (.str x) "str"
  | bytes (x) : HasT (.bytes x) "bytes"
  | list (x) : HasT (.list x) "list"
  | tup (x) : HasT (.tup x) "tuple"

theorem HasT.typeIs {M : List Addr} {s : Shared} {v : Value} {d : D} {T : String} (t : HasT d T) (r : Rep M s.heap v d) : s.TypeIs v T ∧ ∀ a, v = .ref a → ∃ ob, s.heap.get? a = some ob ∧ ob.dict = none := by
  cases t <;> cases r
  · exact ⟨typeIs_int _ _ _, fun a e => by cases e⟩
  · exact ⟨typeIs_str _ _ _, fun a e => by cases e⟩
  · exact ⟨typeIs_bytes _ _ _, fun a e => by cases e⟩
  · rename_i hm ho hr; exact ⟨⟨_, ho, rfl⟩, fun a e => by cases e; exact ⟨_, ho, rfl⟩⟩
  · rename_i hm ho hr; exact ⟨⟨_, ho, rfl⟩, fun a e => by cases e; exact ⟨_, ho, rfl⟩⟩

theorem EV.meth {o : PySem.Expr} {name : PySem.Str} {apos pos : Pos} {es : List PySem.Expr} {ds : List D} {d0 d : D} {T id : String} (h0 : EV prog w B G A env ρ o d0) (t : HasT d0 T) (mt : MethT T id name)
    (a : ArgsEV prog w B G A env ρ es ds) (hc : CALLS prog w B G A (.builtin id) (d0 :: ds) d)
    (hbase : attributeBase o name env (eval o env) = eval o env := by rfl) (hline : (apos.endLine == pos.line) = true := by rfl) (hlen : es.length < 20 := by decide) :
    EV prog w B G A env ρ (.Call (.Attribute o name apos) es [] pos) d := fun M s Q E z y h => by
  refine wpAny_Call_method_late hbase ?_ hline rfl (h0 M s _ _ z y fun ov s1 p1 r1 => ?_)
  · have h1 := args_any a pos
    have h2 : (backTo pos (starEach es env)).all (fun x => !x.1) = true := by
      rw [List.all_eq_not_any_not]; simpa using h1
    rw [h2]
    simp [backToKw, keywordEach]
    omega
  · obtain ⟨h1, h2⟩ := t.typeIs r1
    exact ⟨T, id, mt.plain, mt.slot, mt.ty, h1, h2, callW (fs := [d0]) (.inl ⟨id, rfl⟩) a hc (z.step p1) (y.step z p1) (.cons r1 .nil) fun v s2 p2 r2 => h v s2 (p1.trans p2) r2⟩

/-! ## displays -/
theorem EV.list {es : List PySem.Expr} {ds : List D} {pos : Pos} (a : ArgsEV prog w B G A env ρ es ds) (hl : ds.length ≤ 1000) : EV prog w B G A env ρ (.List es pos) (.list ds) := fun M s Q E z y h =>
  wpAny_List_spliced (args_wp a pos M s _ _ z y fun vs s1 p1 r1 => ⟨by rw [r1.length]; exact Nat.le_trans hl (by decide), h _ _ (p1.trans (.push' p1.inv)) (Rep.newList r1 (z.step p1))⟩)
theorem EV.tup {es : List PySem.Expr} {ds : List D} {k : Nat} {pos : Pos} (a : ArgsEV prog w B G A env ρ es ds) (hl : ds.length ≤ 1000) : EV prog w B G A env ρ (.Tuple es k pos) (.tup ds) := fun M s Q E z y h =>
  wpAny_Tuple_spliced (args_wp a pos M s _ _ z y fun vs s1 p1 r1 => ⟨by rw [r1.length]; exact Nat.le_trans hl (by decide), h _ _ (p1.trans (.push' p1.inv)) (Rep.newTup r1 (z.step p1))⟩)

/-! ## subscripts -/
def GET (prog : Program) (w : World) (B : Tb) (G : Heap) (A : Around) (d1 d2 d : D) : Prop :=
  ∀ (M : List Addr) (s : Shared) (Q : Value → Shared → Prop) (E : Value → Shared → Prop) (v1 v2 : Value), St0 B G M s → Rep M s.heap v1 d1 → Rep M s.heap v2 d2 →
    (∀ v s', Stp B G s s' → Rep M s'.heap v d → Q v s') → SubscriptOn (model prog w) A v1 v2 Q E s

theorem sub_wp {value slice : PySem.Expr} {pos : Pos} {s : Shared} {Q : Value → Shared → Prop} {E : Value → Shared → Prop}
    (h : wpAny (model prog w) A (eval value env) (fun o s₁ => wpAny (model prog w) A (eval slice env) (fun i s₂ => SubscriptOn (model prog w) A o i (fun r s₃ => wpAny (model prog w) A (letTemporaryGo value o r) (fun _ s₄ => Q r s₄) E s₃) E s₂) E s₁) E s)
    (hs : ∀ o i, ∃ l, subscripted slice false o i = operate l (getItem o i)) :
    wpAny (model prog w) A (eval (.Subscript value slice pos) env) Q E s := by
  rw [eval_Subscript]
  refine wpAny_bind (wpAny_mono h (fun o s₁ h₁ => wpAny_bind (wpAny_holding (wpAny_mono h₁ (fun i s₂ h₂ => wpAny_bind (wpAny_standAt ?_)) fun _ _ x => x)))
    fun _ _ x => x)
  obtain ⟨T, id, hl, hT, hg⟩ := h₂
  refine wpAny_bind ?_
  rw [getitemInPython_of_ne hT.not_modules]
  refine wpAny_bind (wpAny_specialOf hT hl ?_)
  obtain ⟨l, e⟩ := hs o i
  have fin : wpAny (model prog w) A (subscripted slice false o i) (fun r s₃ => wpAny (model prog w) A (letTemporaryGo value o r >>= fun _ => pure r) Q E s₃) E s₂ := by
    rw [e]
    exact wpAny_operating (wpAny_mono hg (fun r s₃ h₃ => wpAny_bind (wpAny_mono h₃ (fun _ _ q => wpAny_pure q) fun _ _ x => x)) fun _ _ x => x)
  first
    | exact wpAny_pure (wpAny_bind fin)
    | exact wpAny_bind (wpAny_pure (wpAny_bind fin))
    | exact wpAny_bind fin

theorem EV.sub {value slice : PySem.Expr} {pos : Pos} {d1 d2 d : D} (h1 : EV prog w B G A env ρ value d1) (h2 : EV prog w B G A env ρ slice d2) (hg : GET prog w B G A d1 d2 d)
    (hs : ∀ o i, ∃ l, subscripted slice false o i = operate l (getItem o i) := by intro _ _; exact ⟨_, rfl⟩) : EV prog w B G A env ρ (.Subscript value slice pos) d := fun M s Q E z y h =>
  sub_wp (h1 M s _ _ z y fun v1 s1 p1 r1 => h2 M s1 _ _ (z.step p1) (y.step z p1) fun v2 s2 p2 r2 =>
    hg M s2 _ _ v1 v2 ((z.step p1).step p2) (r1.step (z.step p1) p2) r2 fun v s3 p3 r3 => wpAny_letTemporaryGo (h v s3 ((p1.trans p2).trans p3) r3)) hs

theorem GET.list {ds : List D} {k : Int} {d : D} (h0 : 0 ≤ k) (hk : k < 2 ^ 63) (hd : ds[k.toNat]? = some d) : GET prog w B G A (.list ds) (.int k) d := fun M s Q E v1 v2 z r1 r2 h => by
  cases r2
  cases r1 with
  | list hm ho hr =>
    obtain ⟨v, hv, rv⟩ := hr.get hd
    have hl : s.heap.IsList _ _ := ⟨_, ho, rfl, _, rfl⟩
    exact ⟨"list", _, slot_list_getitem.lookup, hl.typeIs, wpAny_getItem_list hl h0 hk (by simpa using hv) (h _ _ (.refl z.inv) rv)⟩
theorem GET.listNeg {ds : List D} {k : Int} {d : D} (h0 : k < 0) (h1 : -(ds.length : Int) ≤ k) (hk : -(2 ^ 63) ≤ k) (hd : ds[(k + ds.length).toNat]? = some d) : GET prog w B G A (.list ds) (.int k) d := fun M s Q E v1 v2 z r1 r2 h => by
  cases r2
  cases r1 with
  | list hm ho hr =>
    obtain ⟨v, hv, rv⟩ := hr.get hd
    have hl : s.heap.IsList _ _ := ⟨_, ho, rfl, _, rfl⟩
    have hlen := hr.length
    refine ⟨"list", _, slot_list_getitem.lookup, hl.typeIs, wpAny_getItem_list_neg hl h0 (by simpa [hlen] using h1) hk (x := v) ?_ (h _ _ (.refl z.inv) rv)⟩
    simpa [hlen] using hv
theorem GET.tup {ds : List D} {k : Nat} {d : D} (hk : k < 100) (hd : ds[k]? = some d) : GET prog w B G A (.tup ds) (.int k) d := fun M s Q E v1 v2 z r1 r2 h => by
  cases r2
  cases r1 with
  | tup hm ho hr =>
    obtain ⟨v, hv, rv⟩ := hr.get hd
    have hlt : k < ds.length := by
      rcases Nat.lt_or_ge k ds.length with q | q
      · exact q
      · rw [List.getElem?_eq_none q] at hd; cases hd
    have hlen := hr.length
    refine ⟨"tuple", _, F.slot_tuple_getitem.lookup, ⟨_, ho, rfl⟩, P.getItem_tuple (k := k) ho (by omega) (by omega) ?_ (by simpa using hv) (h _ _ (.refl z.inv) rv)⟩
    unfold seqIndex?
    simp [hlen]
    omega

/-! ### slices -/
inductive PartEV (prog : Program) (w : World) (B : Tb) (G : Heap) (A : Around) (env : Env) (ρ : List (PySem.Str × D)) : Option PySem.Expr → Option Int → Prop
  | none : PartEV prog w B G A env ρ none none
  | some {e i} : EV prog w B G A env ρ e (.int i) → PartEV prog w B G A env ρ (some e) (some i)
theorem part_wp {x : Option PySem.Expr} {k : Option Int} (p : PartEV prog w B G A env ρ x k) (M : List Addr) (s : Shared) (Q : Value → Shared → Prop) (E : Value → Shared → Prop) (z : St0 B G M s) (y : Vars M env s.heap ρ)
    (h : ∀ v s', Stp B G s s' → IsPart v k → Q v s') : wpAny (model prog w) A (evalPart x env) Q E s := by
  cases p with
  | none => rw [evalPart_none]; exact wpAny_pure (h _ _ (.refl z.inv) .none)
  | some he => rw [evalPart_some]; exact he M s _ _ z y fun v s1 p1 r1 => by cases r1; exact h _ _ p1 (.int _ _)

def pickD {α : Type} (ds : List α) (lo hi st : Option Int) : List α :=
  (sliceRange (sliceBounds lo hi st ds.length).1 (sliceBounds lo hi st ds.length).2.1 (sliceBounds lo hi st ds.length).2.2).filterMap (ds[·]?)
theorem Reps.pickL {M : List Addr} {h : Heap} {vs : List Value} {ds : List D} (r : Reps M h vs ds) : ∀ l : List Nat, Reps M h (l.filterMap (vs[·]?)) (l.filterMap (ds[·]?))
  | [] => .nil
  | i :: l => by
    cases hd : ds[i]? with
    | none =>
      have hv : vs[i]? = none := by
        rw [List.getElem?_eq_none_iff] at hd ⊢
        rw [r.length]; exact hd
      rw [List.filterMap_cons, List.filterMap_cons, hd, hv]
      exact Reps.pickL r l
    | some d =>
      obtain ⟨v, hv, rv⟩ := r.get hd
      rw [List.filterMap_cons, List.filterMap_cons, hd, hv]
      exact .cons rv (Reps.pickL r l)

theorem slice_wp {value : PySem.Expr} {lower upper step : Option PySem.Expr} {p pos : Pos} {d1 d : D} {lo hi st : Option Int} (h1 : EV prog w B G A env ρ value d1) (hl : PartEV prog w B G A env ρ lower lo) (hu : PartEV prog w B G A env ρ upper hi) (hst : PartEV prog w B G A env ρ step st)
    (hs : ∀ o i, ∃ l, subscripted (.Slice lower upper step p) false o i = operate l (getItem o i))
    (hg : ∀ (M : List Addr) (s : Shared) (Q : Value → Shared → Prop) (E : Value → Shared → Prop) (v1 : Value) (sl : Addr) (vl vu vs : Value), St0 B G M s → Rep M s.heap v1 d1 → s.heap.get? sl = some { cls := .type "slice", data := .fields #[vl, vu, vs] } → IsPart vl lo → IsPart vu hi → IsPart vs st →
      (∀ v s', Stp B G s s' → Rep M s'.heap v d → Q v s') → SubscriptOn (model prog w) A v1 (.ref sl) Q E s) :
    EV prog w B G A env ρ (.Subscript value (.Slice lower upper step p) pos) d := fun M s Q E z y h => by
  refine sub_wp (h1 M s _ _ z y fun v1 s1 p1 r1 => ?_) hs
  have z1 := z.step p1
  have y1 := y.step z p1
  refine wpAny_Slice (part_wp hl M s1 _ _ z1 y1 fun vl s2 p2 q2 => part_wp hu M s2 _ _ (z1.step p2) (y1.step z1 p2) fun vu s3 p3 q3 =>
    part_wp hst M s3 _ _ ((z1.step p2).step p3) ((y1.step z1 p2).step (z1.step p2) p3) fun vs s4 p4 q4 => ?_)
  have p5 : Stp B G s4 _ := Stp.push' (o := { cls := .type "slice", data := .fields #[vl, vu, vs] }) p4.inv
  have pp := ((p2.trans p3).trans p4).trans p5
  exact hg M _ _ _ v1 _ vl vu vs (z1.step pp) (r1.step z1 pp) (Heap.get?_push_size _ rfl) q2 q3 q4 fun v s6 p6 r6 => wpAny_letTemporaryGo (h v s6 ((p1.trans pp).trans p6) r6)

theorem EV.sliceL {value : PySem.Expr} {lower upper step : Option PySem.Expr} {p pos : Pos} {ds : List D} {lo hi st : Option Int} (h1 : EV prog w B G A env ρ value (.list ds)) (hl : PartEV prog w B G A env ρ lower lo) (hu : PartEV prog w B G A env ρ upper hi) (hst : PartEV prog w B G A env ρ step st)
    (h0 : st ≠ some 0) (hlen : ds.length ≤ 100000) (hs : ∀ o i, ∃ l, subscripted (.Slice lower upper step p) false o i = operate l (getItem o i) := by intro _ _; exact ⟨_, rfl⟩) :
    EV prog w B G A env ρ (.Subscript value (.Slice lower upper step p) pos) (.list (pickD ds lo hi st)) := by
  refine slice_wp h1 hl hu hst hs fun M s Q E v1 sl vl vu vs z r1 hsl q1 q2 q3 h => ?_
  cases r1 with
  | list hm ho hr =>
    have hL : s.heap.IsList _ _ := ⟨_, ho, rfl, _, rfl⟩
    have e := hr.length
    refine ⟨"list", _, slot_list_getitem.lookup, hL.typeIs, wpAny_getItem_list_slice hL ⟨_, hsl, rfl, rfl⟩ q1 q2 q3 h0 ?_ ?_⟩
    · have hp := hr.pickL (sliceRange (sliceBounds lo hi st ds.length).1 (sliceBounds lo hi st ds.length).2.1 (sliceBounds lo hi st ds.length).2.2)
      have e2 : slicePick (List.toArray ‹List Value›) lo hi st = List.toArray ((sliceRange (sliceBounds lo hi st ds.length).1 (sliceBounds lo hi st ds.length).2.1 (sliceBounds lo hi st ds.length).2.2).filterMap (‹List Value›[·]?)) := by
        unfold slicePick
        simp [e]
      rw [e2]
      exact h _ _ (.push' z.inv) (Rep.newList hp z)
    · rw [List.size_toArray, e]; exact Nat.le_trans hlen (by decide)
end
end Mine

end

/-! # text F3 -/
section
open PySem PySem.Spec PySem.Calls PyProof.Rows PySem.W
set_option maxRecDepth 100000
set_option linter.unusedVariables false
namespace Mine

/-! ## steps that may write into some addresses -/
structure StpW (B : Tb) (G : Heap) (W : List Addr) (s s' : Shared) : Prop where
  same : ∃ h' tk, s' = { s with heap := h', toks := tk }
  keep : Grow (47 :: 54 :: W) s.heap s'.heap
  there : ∀ b, (∃ o, s.heap.get? b = some o) → ∃ o, s'.heap.get? b = some o
  inv : Inv B G s'.heap

theorem Grow.sub {M N : List Addr} {h h' : Heap} (k : Grow M h h') (q : ∀ b ∈ M, b ∈ N) : Grow N h h' := fun b o hb e => k b o (fun z => hb (q b z)) e

section
variable {B : Tb} {G : Heap} {M W W' : List Addr} {s s' s'' : Shared}
theorem Stp.toW (x : Stp B G s s') : StpW B G W s s' := ⟨x.same, x.keep.sub (fun b hb => by
  simp only [List.mem_cons, List.not_mem_nil, or_false] at hb ⊢
  rcases hb with rfl | rfl <;> simp), fun b hb => x.there hb, x.inv⟩
theorem StpW.trans (x : StpW B G W s s') (y : StpW B G W s' s'') : StpW B G W s s'' := by
  obtain ⟨h1, t1, rfl⟩ := x.same
  obtain ⟨h2, t2, rfl⟩ := y.same
  exact ⟨⟨_, _, rfl⟩, fun b o hb e => y.keep b o hb (x.keep b o hb e), fun b hb => y.there b (x.there b hb), y.inv⟩
theorem StpW.mono (x : StpW B G W s s') (q : ∀ b ∈ W, b ∈ W') : StpW B G W' s s' := ⟨x.same, x.keep.sub (fun b hb => by
  simp only [List.mem_cons] at hb ⊢
  rcases hb with rfl | rfl | hb
  · simp
  · simp
  · exact .inr (.inr (q _ hb))), x.there, x.inv⟩
/-- what is written was not there -/
theorem StpW.toS (x : StpW B G W s s') (q : ∀ b ∈ W, s.heap.get? b = none) : Stp B G s s' := ⟨x.same, fun b o hb e => x.keep b o (fun z => by
  simp only [List.mem_cons] at z
  rcases z with rfl | rfl | z
  · exact hb (by simp)
  · exact hb (by simp)
  · rw [q _ z] at e; cases e) e, x.inv⟩
theorem StpW.drop (x : StpW B G W s s') (q : ∀ b ∈ W, b ∈ W' ∨ s.heap.get? b = none) : StpW B G W' s s' := ⟨x.same, fun b o hb e => x.keep b o (fun z => by
  simp only [List.mem_cons] at z
  rcases z with rfl | rfl | z
  · exact hb (by simp)
  · exact hb (by simp)
  · rcases q _ z with q | q
    · exact hb (by simp [q])
    · rw [q] at e; cases e) e, x.there, x.inv⟩
theorem St0.stepW (x : St0 B G M s) (y : StpW B G W s s') : St0 B G M s' := ⟨y.inv, x.m1, x.m2, fun b hb => y.there b (x.there b hb)⟩
theorem St0.growW (x : St0 B G M s) (y : StpW B G W s s') (q : ∀ b ∈ W, b ∈ M) : Grow M s.heap s'.heap := y.keep.sub fun b hb => by
  simp only [List.mem_cons] at hb
  rcases hb with rfl | rfl | hb
  · exact x.m1
  · exact x.m2
  · exact q _ hb
theorem Rep.stepW {v : Value} {d : D} (r : Rep M s.heap v d) (x : St0 B G M s) (y : StpW B G W s s') (q : ∀ b ∈ W, b ∈ M) : Rep M s'.heap v d := r.grow (x.growW y q)
theorem Reps.stepW {vs : List Value} {ds : List D} (r : Reps M s.heap vs ds) (x : St0 B G M s) (y : StpW B G W s s') (q : ∀ b ∈ W, b ∈ M) : Reps M s'.heap vs ds := r.grow (x.growW y q)
theorem St0.more {N : List Addr} (x : St0 B G M s) (q : ∀ b ∈ N, ∃ o, s.heap.get? b = some o) : St0 B G (N ++ M) s := ⟨x.inv, List.mem_append_right _ x.m1, List.mem_append_right _ x.m2, fun b hb => (List.mem_append.mp hb).elim (q b) (x.there b)⟩
theorem St0.less {N : List Addr} (x : St0 B G M s) (h1 : (47 : Addr) ∈ N) (h2 : (54 : Addr) ∈ N) (q : ∀ b ∈ N, b ∈ M) : St0 B G N s := ⟨x.inv, h1, h2, fun b hb => x.there b (q b hb)⟩
/-- one object turned -/
theorem StpW.upd {h' : Heap} {tk : Tok} {a : Addr} {oa : Obj} (x : Inv B G s.heap) (hs : Heap.SameBut a s.heap h') (ha : s.heap.get? a = some oa) (hn : notCode oa) (ho : Off a) (hG : G.get? a = none) (ht : ∃ o, h'.get? a = some o) (hW : a ∈ W) :
    StpW B G W s { s with heap := h', toks := tk } := ⟨⟨_, _, rfl⟩, fun b o hb e => hs.extBut b o (fun q => hb (by rw [q]; simp [hW])) e, fun b ⟨o, e⟩ => by
    by_cases q : b = a
    · subst q; exact ht
    · exact ⟨o, hs.extBut b o q e⟩, x.upd (fun b o hb e => hs.extBut b o hb e) ha hn (Ne.symm ho.1) (Ne.symm ho.2) hG⟩
theorem StpW.but {h' : Heap} {tk : Tok} {a : Addr} {oa : Obj} (x : Inv B G s.heap) (hs : Heap.ExtBut a s.heap h') (ha : s.heap.get? a = some oa) (hn : notCode oa) (ho : Off a) (hG : G.get? a = none) (ht : ∃ o, h'.get? a = some o) (hW : a ∈ W) :
    StpW B G W s { s with heap := h', toks := tk } := ⟨⟨_, _, rfl⟩, fun b o hb e => hs b o (fun q => hb (by rw [q]; simp [hW])) e, fun b ⟨o, e⟩ => by
    by_cases q : b = a
    · subst q; exact ht
    · exact ⟨o, hs b o q e⟩, x.upd (fun b o hb e => hs b o hb e) ha hn (Ne.symm ho.1) (Ne.symm ho.2) hG⟩
end

theorem notCode_dict {o : Obj} {es ep} (h : o.data = .dict es ep) : notCode o := fun vs q t e => by rw [h] at e; cases e
theorem notCode_cell {o : Obj} {v} (h : o.data = .cell v) : notCode o := fun vs q t e => by rw [h] at e; cases e
theorem notCode_seq {o : Obj} {vs n} (h : o.data = .seq vs n) : notCode o := fun vs q t e => by rw [h] at e; cases e

/-! ## the state within a def's frame -/
def wr (own : Bool) (env : Env) : List Addr := env.locals :: (match own with | true => env.cells.map (·.2) | false => [])
structure FS (B : Tb) (G : Heap) (M : List Addr) (own : Bool) (env : Env) (s : Shared) (ρ : List (PySem.Str × D)) : Prop where
  z : St0 B G M s
  kind : env.scope.kind = .function
  locM : env.locals ∈ M
  off : Off env.locals
  g0 : G.get? env.locals = none
  ns : ∃ m, s.heap.Ns env.locals m
  cell : own = true → (∀ n c, (n, c) ∈ env.cells → c ∈ M ∧ Off c ∧ G.get? c = none ∧ ∃ v, s.heap.IsCell c v) ∧ env.cells.Pairwise fun x y => x.2 ≠ y.2
  vars : Vars M env s.heap ρ

theorem ns_ne_cell {h : Heap} {a c : Addr} {m v} (hn : h.Ns a m) (hc : h.IsCell c v) : c ≠ a := fun q => by
  subst q
  obtain ⟨o, es, ep, e, d, _⟩ := hn
  obtain ⟨o', e', d'⟩ := hc
  rw [e] at e'; cases e'
  rw [d] at d'; cases d'
theorem ns_same {h : Heap} {a : Addr} {m m'} (hn : h.Ns a m) (hn' : h.Ns a m') (x : PySem.Str) : m x = m' x := by
  obtain ⟨o1, es1, ep1, e1, d1, _, f1⟩ := hn
  obtain ⟨o2, es2, ep2, e2, d2, _, f2⟩ := hn'
  rw [e1] at e2; cases e2
  rw [d1] at d2; cases d2
  rw [← f1, ← f2]

section
variable {B : Tb} {G : Heap} {M W : List Addr} {own : Bool} {s s' : Shared} {env : Env} {ρ : List (PySem.Str × D)}
theorem FS.weak {ρ' : List (PySem.Str × D)} (x : FS B G M own env s ρ) (q : ∀ p ∈ ρ', p ∈ ρ) : FS B G M own env s ρ' := ⟨x.z, x.kind, x.locM, x.off, x.g0, x.ns, x.cell, fun n d hm => x.vars n d (q _ hm)⟩
theorem FS.inW (x : FS B G M own env s ρ) : ∀ b ∈ wr own env, b ∈ M := fun b hb => by
  unfold wr at hb
  rcases List.mem_cons.mp hb with rfl | hb
  · exact x.locM
  · cases own with
    | false => cases hb
    | true => obtain ⟨⟨n, c⟩, h1, rfl⟩ := List.mem_map.mp hb; exact ((x.cell rfl).1 n c h1).1
/-- what does not write into the frame keeps it -/
theorem FS.stepW (x : FS B G M own env s ρ) (y : StpW B G W s s') (hM : ∀ b ∈ W, b ∈ M) (hL : env.locals ∉ W) (hC : ∀ n c, (n, c) ∈ env.cells → (∃ v, s.heap.IsCell c v) → c ∉ W) : FS B G M own env s' ρ := by
  have kL : ∀ o, s.heap.get? env.locals = some o → s'.heap.get? env.locals = some o := fun o e => y.keep _ o (by
    intro q; simp only [List.mem_cons] at q
    rcases q with q | q | q
    · exact x.off.1 q
    · exact x.off.2 q
    · exact hL q) e
  have kC : ∀ n c, (n, c) ∈ env.cells → Off c → ∀ v, s.heap.IsCell c v → s'.heap.IsCell c v := fun n c hm h2 v hv => by
    obtain ⟨o, e, d⟩ := id hv
    refine ⟨o, y.keep _ o (fun q => ?_) e, d⟩
    simp only [List.mem_cons] at q
    rcases q with q | q | q
    · exact h2.1 q
    · exact h2.2 q
    · exact hC n c hm ⟨v, hv⟩ q
  refine ⟨x.z.stepW y, x.kind, x.locM, x.off, x.g0, ?_, fun ho => ⟨fun n c hm => ?_, (x.cell ho).2⟩, ?_⟩
  · obtain ⟨m, h⟩ := x.ns; exact ⟨m, h.at' kL⟩
  · obtain ⟨h1, h2, h4, v, hv⟩ := (x.cell ho).1 n c hm
    exact ⟨h1, h2, h4, v, kC n c hm h2 v hv⟩
  · intro n d hm
    obtain ⟨v, ⟨b0, b1, b2⟩, r⟩ := x.vars n d hm
    exact ⟨v, ⟨b0, b1, b2.imp (fun ⟨h1, h2, m, h3, h4⟩ => ⟨h1, h2, m, h3.at' kL, h4⟩) fun ⟨h1, c, h2, h3, h4⟩ => ⟨h1, c, h2, h3, kC n c (mem_of_lookup h3) h2 _ h4⟩⟩, r.stepW x.z y hM⟩
theorem FS.step (x : FS B G M own env s ρ) (y : Stp B G s s') : FS B G M own env s' ρ := x.stepW (W := []) y.toW (fun _ h => nomatch h) (fun h => nomatch h) fun _ _ _ _ h => nomatch h
end

/-- a name that the frame itself stores: a local or a cell -/
def Sto (own : Bool) (env : Env) (x : PySem.Str) : Prop := (x == ("__debug__" : PySem.Str)) = false ∧ (env.kindOf x = some .local ∨ own = true ∧ env.kindOf x = some .cell ∧ (env.cells.lookup x).isSome = true)

theorem store_wp {Mo : Model} {A : Around} {E : Value → Shared → Prop} {B : Tb} {G : Heap} {M : List Addr} {own : Bool} {s : Shared} {env : Env} {ρ : List (PySem.Str × D)} {x : PySem.Str} {v : Value} {d : D} {Q : Unit → Shared → Prop}
    (F : FS B G M own env s ρ) (hx : Sto own env x) (hn : ∀ n d, (n, d) ∈ ρ → n ≠ x) (r : Rep M s.heap v d)
    (h : ∀ s', StpW B G (wr own env) s s' → FS B G M own env s' ((x, d) :: ρ) → Q () s') : wpAny Mo A (storeName env x v) Q E s := by
  obtain ⟨hd, hx⟩ := hx
  obtain ⟨m, hm⟩ := F.ns
  have inW := F.inW
  rcases hx with hl | ⟨hown, hc, hs⟩
  · refine wpAny_storeName_local hl hm (fun h' hn' hs' => ?_) (by rw [F.kind]; rfl)
    obtain ⟨o, es, ep, ho, hdt, _⟩ := id hm
    have hy : StpW B G [env.locals] s { s with heap := h', toks := s.toks + 1 } := StpW.upd F.z.inv hs' ho (notCode_dict hdt) F.off F.g0 (let ⟨o, _, _, e, _⟩ := hn'; ⟨o, e⟩) (by simp)
    have hy' : StpW B G (wr own env) s { s with heap := h', toks := s.toks + 1 } := hy.mono fun b hb => by rw [List.mem_singleton] at hb; subst hb; unfold wr; simp
    have kc : ∀ c v, s.heap.IsCell c v → h'.IsCell c v := fun c v hv => by
      have hne := ns_ne_cell hm hv
      obtain ⟨o, e, d⟩ := hv
      exact ⟨o, hs'.extBut c o hne e, d⟩
    refine h _ hy' ⟨F.z.stepW hy', F.kind, F.locM, F.off, F.g0, ⟨_, hn'⟩, fun ho => ⟨fun n c hc => ?_, (F.cell ho).2⟩, fun n d' hm' => ?_⟩
    · obtain ⟨h1, h2, h4, v, h5⟩ := (F.cell ho).1 n c hc
      exact ⟨h1, h2, h4, v, kc c v h5⟩
    · rcases List.mem_cons.mp hm' with q | q
      · cases q
        exact ⟨v, ⟨hd, F.kind, .inl ⟨hl, F.off, _, hn', by simp⟩⟩, r.stepW F.z hy' inW⟩
      · obtain ⟨u, ⟨b0, b1, b2⟩, ru⟩ := F.vars n d' q
        refine ⟨u, ⟨b0, b1, ?_⟩, ru.stepW F.z hy' inW⟩
        rcases b2 with ⟨g1, g2, m', g3, g4⟩ | ⟨g1, c, g2, g3, g4⟩
        · refine .inl ⟨g1, g2, _, hn', ?_⟩
          rw [if_neg (hn n d' q), ns_same hm g3]; exact g4
        · exact .inr ⟨g1, c, g2, g3, kc c _ g4⟩
  · subst hown
    obtain ⟨c, hcl⟩ := Option.isSome_iff_exists.mp hs
    have hcm := mem_of_lookup hcl
    obtain ⟨hcells, hap⟩ := F.cell rfl
    obtain ⟨c1, c2, c4, v₀, hcell⟩ := hcells _ _ hcm
    refine wpAny_storeName_cell F.kind hc hcl hcell fun h' hc' hs' => ?_
    obtain ⟨o, ho, hdt⟩ := id hcell
    have hy : StpW B G [c] s { s with heap := h' } := StpW.upd (tk := s.toks) F.z.inv hs' ho (notCode_cell hdt) c2 c4 (let ⟨o, e, _⟩ := hc'; ⟨o, e⟩) (by simp)
    have hy' : StpW B G (wr true env) s { s with heap := h' } := hy.mono fun b hb => by
      rw [List.mem_singleton] at hb; subst hb
      exact List.mem_cons_of_mem _ (List.mem_map.mpr ⟨_, hcm, rfl⟩)
    have hLc : env.locals ≠ c := Ne.symm (ns_ne_cell hm hcell)
    have kc : ∀ c', c' ≠ c → ∀ v, s.heap.IsCell c' v → h'.IsCell c' v := fun c' hne v ⟨o, e, d⟩ => ⟨o, hs'.extBut c' o hne e, d⟩
    refine h _ hy' ⟨F.z.stepW hy', F.kind, F.locM, F.off, F.g0, ⟨m, hm.sameBut hs' hLc⟩, fun _ => ⟨fun n' c' hc'm => ?_, hap⟩, fun n d' hm' => ?_⟩
    · obtain ⟨h1, h2, h4, v', h5⟩ := hcells n' c' hc'm
      refine ⟨h1, h2, h4, ?_⟩
      by_cases q : c' = c
      · subst q; exact ⟨_, hc'⟩
      · exact ⟨v', kc c' q v' h5⟩
    · rcases List.mem_cons.mp hm' with q | q
      · cases q
        exact ⟨v, ⟨hd, F.kind, .inr ⟨.inl hc, c, c2, hcl, hc'⟩⟩, r.stepW F.z hy' inW⟩
      · obtain ⟨u, ⟨b0, b1, b2⟩, ru⟩ := F.vars n d' q
        refine ⟨u, ⟨b0, b1, ?_⟩, ru.stepW F.z hy' inW⟩
        rcases b2 with ⟨g1, g2, m', g3, g4⟩ | ⟨g1, c', g2, g3, g4⟩
        · exact .inl ⟨g1, g2, m', g3.sameBut hs' hLc, g4⟩
        · refine .inr ⟨g1, c', g2, g3, kc c' (fun q' => ?_) _ g4⟩
          subst q'
          exact hn n d' q (name_of_addr hap (mem_of_lookup g3) hcm)

/-! ## statements -/
section
variable (prog : Program) (w : World) (B : Tb) (G : Heap) (A : Around) (own : Bool) (env : Env)
/-- the rest of a def's body gives a datum back -/
def BD (ρ : List (PySem.Str × D)) (sts : List Stmt) (d : D) : Prop :=
  ∀ (M : List Addr) (s : Shared) (Q : Flow → Shared → Prop) (E : Value → Shared → Prop), FS B G M own env s ρ →
    (∀ v s', StpW B G (wr own env) s s' → Rep M s'.heap v d → Q (.ret v) s') → wpAny (model prog w) A (execs sts env) Q E s
/-- a target takes a datum -/
def ASG (target : PySem.Expr) (d : D) (bs : List (PySem.Str × D)) : Prop :=
  ∀ (M : List Addr) (s : Shared) (ρ : List (PySem.Str × D)) (Q : Unit → Shared → Prop) (E : Value → Shared → Prop) (v : Value), FS B G M own env s ρ → (∀ n d x d', (n, d) ∈ ρ → (x, d') ∈ bs → n ≠ x) → Rep M s.heap v d →
    (∀ s', StpW B G (wr own env) s s' → FS B G M own env s' (bs ++ ρ) → Q () s') → wpAny (model prog w) A (assign target env v) Q E s
end

section
variable {prog : Program} {w : World} {B : Tb} {G : Heap} {A : Around} {own : Bool} {env : Env} {ρ : List (PySem.Str × D)}
theorem ASG.name {x : PySem.Str} {pos : Pos} {d : D} (hx : Sto own env x) : ASG prog w B G A own env (.Name x pos) d [(x, d)] := fun M s ρ Q E v F hn r h =>
  wpAny_assign_Name (store_wp F hx (fun n d' hm => hn n d' x d hm (by simp)) r h)
theorem ASG.tup2 {x y : PySem.Str} {px py pos : Pos} {k : Nat} {d e : D} (hA : A.handled = none) (hx : Sto own env x) (hy : Sto own env y) (hxy : y ≠ x) : ASG prog w B G A own env (.Tuple [.Name x px, .Name y py] k pos) (.tup [d, e]) [(y, e), (x, d)] := fun M s ρ Q E v F hn r h => by
  cases r with
  | tup hm ho hr =>
    rename_i a n vs
    cases hr with
    | cons r1 hr =>
      cases hr with
      | cons r2 hr =>
        cases hr
        rename_i v1 v2
        have ht : s.heap.IsTuple a (List.toArray [v1, v2]) := ⟨_, ho, rfl, _, rfl⟩
        refine wpAny_assign_Tuple hA ht rfl rfl fun h' hx' => ?_
        have p0 : Stp B G s { s with heap := h' } := Stp.of (tk := s.toks) F.z.inv fun b o e => hx' b o (Nat.ne_of_lt (Heap.lt_size e)) e
        have F0 := F.step p0
        refine wpAny_assignInOrder_more (wpAny_assign_Name (store_wp F0 hx (fun n d' hm => hn n d' x d hm (by simp)) (r1.step F.z p0) fun s1 p1 F1 => ?_))
        have inW := F.inW
        refine wpAny_assignInOrder_more (wpAny_assign_Name (store_wp F1 hy (fun n d' hm => ?_) ((r2.step F.z p0).stepW F0.z p1 inW) fun s2 p2 F2 => ?_))
        · rcases List.mem_cons.mp hm with q | q
          · cases q; exact Ne.symm hxy
          · exact hn n d' y e q (by simp)
        · exact wpAny_assignInOrder_none (h s2 ((p0.toW.trans p1).trans p2) F2)

theorem BD.ret {e : PySem.Expr} {pos : Pos} {r : List Stmt} {d : D} (h1 : EV prog w B G A env ρ e d) : BD prog w B G A own env ρ (.Return (some e) pos :: r) d := fun M s Q E F h =>
  wpAny_execs_cons (wpAny_Return_some (h1 M s _ _ F.z F.vars fun v s1 p1 r1 => h v s1 p1.toW r1))
theorem BD.asg {x : PySem.Str} {px pos : Pos} {e : PySem.Expr} {r : List Stmt} {d1 d : D} (h1 : EV prog w B G A env ρ e d1) (hx : Sto own env x) (hn : ∀ n d, (n, d) ∈ ρ → n ≠ x) (h2 : BD prog w B G A own env ((x, d1) :: ρ) r d)
    (hs : swapsWith e (some (.Name x px)) pos.line env = pure false := by rfl) : BD prog w B G A own env ρ (.Assign [.Name x px] e pos :: r) d := fun M s Q E F h =>
  wpAny_execs_cons (wpAny_Assign_Name (h1 M s _ _ F.z F.vars fun v s1 p1 r1 => store_wp (F.step p1) hx hn r1 fun s2 p2 F2 =>
    h2 M s2 _ _ F2 fun v s3 p3 r3 => h v s3 ((p1.toW.trans p2).trans p3) r3) hs)
theorem BD.asgT {t e : PySem.Expr} {pos : Pos} {r : List Stmt} {d1 d : D} {bs : List (PySem.Str × D)} (h1 : EV prog w B G A env ρ e d1) (ha : ASG prog w B G A own env t d1 bs) (hn : ∀ n d x d', (n, d) ∈ ρ → (x, d') ∈ bs → n ≠ x) (h2 : BD prog w B G A own env (bs ++ ρ) r d)
    (hs : swapsWithSole [t] e pos.line env = pure false := by rfl) (hw : swappedStores [t] e env = pure none := by rfl) (ht : assignEach [t] env = [(false, fun v => assign t env v)] := by rfl) : BD prog w B G A own env ρ (.Assign [t] e pos :: r) d := fun M s Q E F h =>
  wpAny_execs_cons (wpAny_Assign_stores (h1 M s _ _ F.z F.vars fun v s1 p1 r1 => by
    rw [ht]
    exact ha M s1 ρ _ _ v (F.step p1) hn r1 fun s2 p2 F2 => h2 M s2 _ _ F2 fun v s3 p3 r3 => h v s3 ((p1.toW.trans p2).trans p3) r3) hs hw)
theorem BD.weak {sts : List Stmt} {d : D} {ρ' : List (PySem.Str × D)} (h1 : BD prog w B G A own env ρ' sts d) (q : ∀ p ∈ ρ', p ∈ ρ) : BD prog w B G A own env ρ sts d := fun M s Q E F h => h1 M s Q E (F.weak q) h
theorem BD.iteT {t : PySem.Expr} {b o r : List Stmt} {pos : Pos} {d : D} (ht : TV prog w B G A env ρ t true) (h1 : BD prog w B G A own env ρ b d) : BD prog w B G A own env ρ (.If t b o pos :: r) d := fun M s Q E F h =>
  wpAny_execs_cons (wpAny_If (ht M s _ _ F.z F.vars fun s1 p1 => by
    exact h1 M s1 _ _ (F.step p1) fun v s2 p2 r2 => h v s2 (p1.toW.trans p2) r2))
theorem BD.iteF {t : PySem.Expr} {b o r : List Stmt} {pos : Pos} {d : D} (ht : TV prog w B G A env ρ t false) (h1 : BD prog w B G A own env ρ o d) : BD prog w B G A own env ρ (.If t b o pos :: r) d := fun M s Q E F h =>
  wpAny_execs_cons (wpAny_If (ht M s _ _ F.z F.vars fun s1 p1 => by
    exact h1 M s1 _ _ (F.step p1) fun v s2 p2 r2 => h v s2 (p1.toW.trans p2) r2))
theorem BD.skip {t : PySem.Expr} {b r : List Stmt} {pos : Pos} {d : D} (ht : TV prog w B G A env ρ t false) (h1 : BD prog w B G A own env ρ r d) : BD prog w B G A own env ρ (.If t b [] pos :: r) d := fun M s Q E F h =>
  wpAny_execs_cons (wpAny_If (ht M s _ _ F.z F.vars fun s1 p1 => by
    exact wpAny_execs_nil (h1 M s1 _ _ (F.step p1) fun v s2 p2 r2 => h v s2 (p1.toW.trans p2) r2)))
end
end Mine

end

/-! # text F4 -/
section
open PySem PySem.Spec PySem.Calls PyProof.Rows PySem.W
set_option maxRecDepth 100000
set_option linter.unusedVariables false
namespace Mine

/-! ## what a loop walks over -/
def ownedIters : List String := ["enumerate", "zip", "dict_itemiterator", "dict_reverseitemiterator", "odict_iterator", "itertools.zip_longest", "itertools.pairwise"]
structure Src (prog : Program) (w : World) (G : Heap) (A : Around) (M : List Addr) (h : Heap) (it : Value) (ds : List D) (I : Addr) (fp : List Addr) (P : Nat → Value → Prop) (St : Nat → Heap → Prop) : Prop where
  is : it = .ref I
  walks : Walks prog w A I fp [I] ds.length P St
  small : ds.length ≤ 100000
  st : St 0 h
  here : ∃ o, h.get? I = some o
  IM : I ∉ M
  gI : G.get? I = none
  fpM : ∀ b ∈ fp, (∃ o, h.get? b = some o) ∧ b ∉ M
  obj : ∀ i h', St i h' → ∃ o n vs, h'.get? I = some o ∧ o.cls = .type n ∧ o.data = .fields vs ∧ ownedIters.contains n = false ∧ notCode o
  item : ∀ i v d, P i v → ds[i]? = some d → Rep (I :: M) h v d ∨ ∃ k t, v = .int k t ∧ d = .int k

section
variable {prog : Program} {w : World} {B : Tb} {G : Heap} {A : Around} {env : Env} {ρ : List (PySem.Str × D)}
def IEV (prog : Program) (w : World) (B : Tb) (G : Heap) (A : Around) (env : Env) (ρ : List (PySem.Str × D)) (e : PySem.Expr) (ds : List D) : Prop :=
  ∀ (M : List Addr) (s : Shared) (Q : Value → Shared → Prop) (E : Value → Shared → Prop), St0 B G M s → Vars M env s.heap ρ →
    (∀ it s' I fp P St, Stp B G s s' → s.heap.get? I = none → Src prog w G A M s'.heap it ds I fp P St → Q it s') → wpAny (model prog w) A (eval e env) (fun x s₁ => wpAny (model prog w) A (pyIter x) Q E s₁) E s

theorem fresh_at {M : List Addr} {s s1 : Shared} (p : Stp B G s s1) : s.heap.get? s1.heap.objs.size = none := by
  cases e : s.heap.get? s1.heap.objs.size with
  | none => rfl
  | some o => obtain ⟨o', e'⟩ := p.there ⟨o, e⟩; rw [get?_size] at e'; cases e'
theorem g_at {h : Heap} (p : Inv B G h) : G.get? h.objs.size = none := by
  cases e : G.get? h.objs.size with
  | none => rfl
  | some o => have e' := p.keep _ _ e; rw [get?_size] at e'; cases e'

theorem IEV.list {e : PySem.Expr} {ds : List D} (hA : A.handled = none) (hl : ds.length ≤ 100000) (h1 : EV prog w B G A env ρ e (.list ds)) : IEV prog w B G A env ρ e ds := fun M s Q E z y h =>
  h1 M s _ _ z y fun v s1 p1 r1 => by
    have z1 := z.step p1
    cases r1 with
    | list hm ho hr =>
      rename_i a n vs
      have hL : s1.heap.IsList a (List.toArray vs) := ⟨_, ho, rfl, _, rfl⟩
      refine wpAny_pyIter_list hL ?_
      have hne : a ≠ s1.heap.objs.size := Nat.ne_of_lt (Heap.lt_size ho)
      have up : ∀ b o, s1.heap.get? b = some o → (s1.heap.push { cls := .type "list_iterator", data := .fields #[.ref a, .int 0 0] }).get? b = some o := fun b o e => Heap.get?_push_of_some _ e
      have hz : (List.toArray vs).size = ds.length := by rw [List.size_toArray, hr.length]
      refine h _ _ s1.heap.objs.size [s1.heap.objs.size, a] (fun i v => (List.toArray vs)[i]? = some v) (fun i h => h.IsListIter s1.heap.objs.size a i ∧ h.IsList a (List.toArray vs)) (p1.trans (Stp.push' p1.inv)) (fresh_at (M := M) p1)
        ⟨rfl, hz ▸ Walks.list hA s1.heap.objs.size a hne (List.toArray vs), hl, ⟨⟨_, Heap.get?_push_size _ rfl, rfl, rfl⟩, hL.push _⟩, ⟨_, Heap.get?_push_size _ rfl⟩, z1.fresh (get?_size _), g_at z1.inv, fun b hb => ?_, fun i h' st => ?_, fun i v d hv hd => ?_⟩
      · simp only [List.mem_cons, List.not_mem_nil, or_false] at hb
        rcases hb with rfl | rfl
        · exact ⟨⟨_, Heap.get?_push_size _ rfl⟩, z1.fresh (get?_size _)⟩
        · exact ⟨⟨_, up _ _ ho⟩, hm⟩
      · obtain ⟨⟨o, e, c, d⟩, _⟩ := st
        refine ⟨o, _, _, e, c, d, by decide, fun vs' q t e' => ?_⟩
        rw [d] at e'; cases e'
        simp
      · refine .inl ?_
        obtain ⟨u, hu, ru⟩ := hr.get hd
        have : u = v := by
          have hv' : vs[i]? = some v := by simpa using hv
          rw [hu] at hv'; exact Option.some.inj hv'
        subst this
        exact (ru.more (N := s1.heap.objs.size :: M) fun b hb => (List.mem_cons.mp hb).elim (fun q => .inr (q ▸ get?_size _)) .inl).grow fun b o _ e => up b o e

def rng (a : Int) (n : Nat) : List D := (List.range n).map fun (i : Nat) => D.int (a + (i : Int))
theorem src_range {M : List Addr} {s1 : Shared} (hA : A.handled = none) (z1 : St0 B G M s1) (a : Int) (n : Nat) (hn : n ≤ 100000) {l : Int} (hl : l = (n : Int)) :
    Src prog w G A M (s1.heap.push { cls := .type "range_iterator", data := .fields #[rawInt a, rawInt l, rawInt 1] }) (.ref s1.heap.objs.size) (rng a n) s1.heap.objs.size [s1.heap.objs.size] (fun i v => ∃ t, v = .int (a + (i : Int)) t)
      (fun i h => IsRangeIter h s1.heap.objs.size (a + (i : Nat) * 1) ((n : Int) - (i : Nat)) 1) := by
  have hlen : (rng a n).length = n := by simp [rng]
  refine ⟨rfl, hlen.symm ▸ LCg.range_walks hA a n, hlen.symm ▸ hn, ?_, ⟨_, Heap.get?_push_size _ rfl⟩, z1.fresh (get?_size _), g_at z1.inv, fun b hb => ?_, fun i h' st => ?_, fun i v d hv hd => ?_⟩
  · show IsRangeIter _ _ _ _ _
    subst hl
    simpa using Heap.get?_push_size _ rfl
  · rw [List.mem_singleton] at hb; subst hb
    exact ⟨⟨_, Heap.get?_push_size _ rfl⟩, z1.fresh (get?_size _)⟩
  · refine ⟨_, _, _, st, rfl, rfl, by decide, fun vs' q t e' => ?_⟩
    cases e'
    simp [rawInt]
  · obtain ⟨t, rfl⟩ := hv
    refine .inr ⟨_, _, rfl, ?_⟩
    unfold rng at hd
    rw [List.getElem?_map] at hd
    cases hr : (List.range n)[i]? with
    | none => rw [hr] at hd; cases hd
    | some k =>
      rw [hr] at hd
      have : k = i := by
        rw [List.getElem?_range (by
          rcases Nat.lt_or_ge i n with q | q
          · exact q
          · rw [List.getElem?_eq_none (by simpa using q)] at hr; cases hr)] at hr
        exact (Option.some.inj hr).symm
      subst this
      exact (Option.some.inj hd).symm

theorem size_of {a : Int} {n : Nat} : Builtin.Range.rangeSize a (a + n) 1 = (n : Int) := by
  unfold Builtin.Range.rangeSize
  simp only [show (1 : Int) > 0 by decide, if_true]
  split
  · rw [Int.ediv_one]; omega
  · omega
theorem small_of {a : Int} {n : Nat} (h1 : 0 ≤ a) (h2 : a ≤ 1000000) (h3 : n ≤ 100000) : Builtin.Range.small a (a + n) 1 = true := by
  unfold Builtin.Range.small
  rw [size_of]
  have f : ∀ x : Int, -10000000 ≤ x → x ≤ 10000000 → Builtin.Range.rangeFitsLong x = true := fun x h1 h2 => by
    unfold Builtin.Range.rangeFitsLong
    simp
    omega
  simp only [show (1 : Int) > 0 by decide, if_true, f a (by omega) (by omega), f (a + n) (by omega) (by omega), f 1 (by omega) (by omega), f (n : Int) (by omega) (by omega), f (a + n + (1 - 1)) (by omega) (by omega)]
  simp

theorem callW_type {es : List PySem.Expr} {ds : List D} {T : String} {pos : Pos} {M : List Addr} {s : Shared} {Q : Value → Shared → Prop} {E : Value → Shared → Prop}
    (a : ArgsEV prog w B G A env ρ es ds) (z : St0 B G M s) (y : Vars M env s.heap ρ)
    (h : ∀ vs s', Stp B G s s' → Reps M s'.heap vs ds → wpAny (model prog w) A (call (.type T) vs) Q E s') : wpAny (model prog w) A (callWith pos (.type T) [] (backTo pos (starEach es env)) []) Q E s := by
  refine PySem.callWith_type (args_any a pos) (evalArgs_wp a pos _ z y fun vs s1 p1 r1 => ?_)
  exact h vs s1 p1 r1

theorem IEV.range1 {np pos : Pos} {e : PySem.Expr} {n : Nat} (hA : A.handled = none) (g : Gl G env (PySem.Str.ofString "range") (.type "range")) (hn : n ≤ 100000) (a : ArgsEV prog w B G A env ρ [e] [.int n]) :
    IEV prog w B G A env ρ (.Call (.Name (PySem.Str.ofString "range") np) [e] [] pos) (rng 0 n) := fun M s Q E z y h => by
  refine wpAny_Call_ofName (wp_glob g z.inv (callW_type a z y fun vs s1 p1 r1 => ?_))
  cases r1 with
  | cons r1 r2 =>
    cases r2; cases r1
    rename_i t
    refine PySem.call_range_1 ?_
    have hs : Builtin.Range.small 0 (n : Int) 1 = true := by have := small_of (a := 0) (n := n) (by omega) (by omega) hn; simpa using this
    have hz : Builtin.Range.rangeSize 0 (n : Int) 1 = (n : Int) := by have := size_of (a := 0) (n := n); simpa using this
    have p2 : Stp B G s1 { s1 with heap := s1.heap.push { cls := .type "range", data := .fields #[.int 0 s1.toks, .int n t, .int 1 (s1.toks + 1)] }, toks := s1.toks + 1 + 1 } := Stp.push p1.inv
    have z2 := (z.step p1).step p2
    refine wpAny_pyIter_range (r := s1.heap.objs.size) (a := 0) (b := n) (c := 1) (Heap.get?_push_size _ rfl) hs ?_
    exact h _ _ _ _ _ _ ((p1.trans p2).trans (Stp.push' p2.inv)) (fresh_at (M := M) (p1.trans p2)) (src_range hA z2 0 n hn hz)

theorem IEV.range2 {np pos : Pos} {e1 e2 : PySem.Expr} {a : Int} {b : Int} {n : Nat} (hA : A.handled = none) (g : Gl G env (PySem.Str.ofString "range") (.type "range")) (h0 : 0 ≤ a) (h1 : a ≤ 1000000) (hb : b = a + n) (hn : n ≤ 100000) (ar : ArgsEV prog w B G A env ρ [e1, e2] [.int a, .int b]) :
    IEV prog w B G A env ρ (.Call (.Name (PySem.Str.ofString "range") np) [e1, e2] [] pos) (rng a n) := fun M s Q E z y h => by
  subst hb
  refine wpAny_Call_ofName (wp_glob g z.inv (callW_type ar z y fun vs s1 p1 r1 => ?_))
  cases r1 with
  | cons r1 r2 =>
    cases r2 with
    | cons r2 r3 =>
      cases r3; cases r1; cases r2
      rename_i t u
      refine PySem.call_range_2 ?_
      have p2 : Stp B G s1 { s1 with heap := s1.heap.push { cls := .type "range", data := .fields #[.int a t, .int (a + n) u, .int 1 s1.toks] }, toks := s1.toks + 1 } := Stp.push p1.inv
      have z2 := (z.step p1).step p2
      refine wpAny_pyIter_range (r := s1.heap.objs.size) (a := a) (b := a + n) (c := 1) (Heap.get?_push_size _ rfl) (small_of h0 h1 hn) ?_
      exact h _ _ _ _ _ _ ((p1.trans p2).trans (Stp.push' p2.inv)) (fresh_at (M := M) (p1.trans p2)) (src_range hA z2 a n hn size_of)
end
end Mine

end

/-! # text F5 -/
section
open PySem PySem.Spec PySem.Calls PyProof.Rows PySem.W
set_option maxRecDepth 100000
set_option linter.unusedVariables false
namespace Mine

mutual
theorem Rep.moreF {M N : List Addr} {h : Heap} (k : ∀ b ∈ N, b ∈ M ∨ h.get? b = none ∨ ∃ o, h.get? b = some o ∧ ∀ vs n, o.data ≠ .seq vs n) : ∀ {v d}, Rep M h v d → Rep N h v d
  | _, _, .bool b => .bool b
  | _, _, .int i t => .int i t
  | _, _, .str s t => .str s t
  | _, _, .bytes b t => .bytes b t
  | _, _, .ref a => .ref a
  | _, _, .list hm ho hr => .list (fun q => by
      rcases k _ q with q | q | ⟨o, q, e⟩
      · exact hm q
      · rw [q] at ho; cases ho
      · rw [q] at ho; cases ho; exact e _ _ rfl) ho (hr.moreF k)
  | _, _, .tup hm ho hr => .tup (fun q => by
      rcases k _ q with q | q | ⟨o, q, e⟩
      · exact hm q
      · rw [q] at ho; cases ho
      · rw [q] at ho; cases ho; exact e _ _ rfl) ho (hr.moreF k)
theorem Reps.moreF {M N : List Addr} {h : Heap} (k : ∀ b ∈ N, b ∈ M ∨ h.get? b = none ∨ ∃ o, h.get? b = some o ∧ ∀ vs n, o.data ≠ .seq vs n) : ∀ {vs ds}, Reps M h vs ds → Reps N h vs ds
  | _, _, .nil => .nil
  | _, _, .cons a b => .cons (a.moreF k) (b.moreF k)
end

section
variable {prog : Program} {w : World} {B : Tb} {G : Heap} {A : Around} {env : Env} {ρ : List (PySem.Str × D)} {R : Result → Shared → Prop} {s : Shared}

/-- as a step that writes, but for what it writes into nothing is said (an iterator that has ended) -/
structure StpN (B : Tb) (G : Heap) (W : List Addr) (s s' : Shared) : Prop where
  same : ∃ h' tk, s' = { s with heap := h', toks := tk }
  keep : Grow (47 :: 54 :: W) s.heap s'.heap
  inv : Inv B G s'.heap
theorem StpW.toN {W : List Addr} {s s' : Shared} (x : StpW B G W s s') : StpN B G W s s' := ⟨x.same, x.keep, x.inv⟩
theorem StpN.after {W : List Addr} {s₀ s s' : Shared} (p : Stp B G s₀ s) (x : StpN B G W s s') (q : ∀ b ∈ W, s₀.heap.get? b = none) : Stp B G s₀ s' := by
  obtain ⟨h1, t1, rfl⟩ := p.same
  obtain ⟨h2, t2, rfl⟩ := x.same
  refine ⟨⟨_, _, rfl⟩, fun b o hb e => x.keep b o (fun z => ?_) (p.keep b o hb e), x.inv⟩
  simp only [List.mem_cons] at z
  rcases z with rfl | rfl | z
  · exact hb (by simp)
  · exact hb (by simp)
  · rw [q _ z] at e; cases e
theorem StpN.trans {W : List Addr} {s s' s'' : Shared} (x : StpN B G W s s') (y : StpN B G W s' s'') : StpN B G W s s'' := by
  obtain ⟨h1, t1, rfl⟩ := x.same
  obtain ⟨h2, t2, rfl⟩ := y.same
  exact ⟨⟨_, _, rfl⟩, fun b o hb e => y.keep b o hb (x.keep b o hb e), y.inv⟩
theorem StpN.mono {W W' : List Addr} {s s' : Shared} (x : StpN B G W s s') (q : ∀ b ∈ W, b ∈ W' ∨ s.heap.get? b = none) : StpN B G W' s s' := ⟨x.same, fun b o hb e => x.keep b o (fun z => by
  simp only [List.mem_cons] at z
  rcases z with rfl | rfl | z
  · exact hb (by simp)
  · exact hb (by simp)
  · rcases q _ z with q | q
    · exact hb (by simp [q])
    · rw [q] at e; cases e) e, x.inv⟩

theorem owned_wp {target : PySem.Expr} {I : Addr} {v : Value} {o : Obj} {n : String} {vs : Array Value} {Q : Unit → Shared → Prop} {E : Value → Shared → Prop} (ho : s.heap.get? I = some o) (hc : o.cls = .type n) (hd : o.data = .fields vs) (hn : ownedIters.contains n = false) (h : Q () s) :
    wpAny (model prog w) A (letOwnedTupleGo target (.ref I) v) Q E s := by
  have key : wpAny (model prog w) A (do
      let (.ref r, .ref a) := (Value.ref I, v) | (pure () : Sem Unit)
      let o ← load r
      match o.cls, o.data with
      | .type n, .fields vs =>
        if ["enumerate", "zip", "dict_itemiterator", "dict_reverseitemiterator", "odict_iterator", "itertools.zip_longest", "itertools.pairwise"].contains n && vs[0]? == some (rawInt a) then
          rule "for.unpacks-the-owned-tuple"
          updateField r 0 .none
      | _, _ => pure ()) Q E s := by
    cases v with
    | ref a =>
      dsimp only
      refine wpAny_bind (wpAny_load ho ?_)
      rw [hc, hd]
      dsimp only
      have : (["enumerate", "zip", "dict_itemiterator", "dict_reverseitemiterator", "odict_iterator", "itertools.zip_longest", "itertools.pairwise"].contains n) = false := hn
      rw [this]
      exact wpAny_pure h
    | _ => exact wpAny_pure h
  unfold letOwnedTupleGo
  cases target <;> first | exact key | exact wpAny_pure h

theorem compLoop_wp {elt target iter : PySem.Expr} {scope : Scope} {pos : Pos} {it acc : Value} {env : Env} (I : Nat → Shared → Prop)
    (turn : ∀ n s, I n s → wpAny (model prog w) A (pyNext it) (fun r s₁ => match r with
      | none => R (.ok .next) s₁
      | some v => wpAny (model prog w) A (letOwnedTupleGo target it v) (fun _ s₂ => wpAny (model prog w) A (assign target env v) (fun _ s₂ => wpAny (model prog w) A (eval elt env) (fun x s₃ =>
          wpAny (model prog w) A (call (.builtin "list.append") [acc, x]) (fun _ s₄ => ∃ m, m < n ∧ I m s₄) (notedBy (model prog w) A env fun e s' => R (.error e) s') s₃)
          (notedBy (model prog w) A env fun e s' => R (.error e) s') s₂) (notedBy (model prog w) A env fun e s' => R (.error e) s') s₂) (notedBy (model prog w) A env fun e s' => R (.error e) s') s₁) (notedBy (model prog w) A env fun e s' => R (.error e) s') s)
    (n : Nat) (h : I n s) :
    codeAny (model prog w) A (.compLoop (.ListComp elt [⟨target, iter, [], 0⟩] scope pos) 0 it acc env) R s := by
  refine codeAny_loop rfl I (fun n s hI => ?_) n h
  show wpAny _ _ ((compTurn (.ListComp elt [⟨target, iter, [], 0⟩] scope pos) 0 it acc env).onRaise (fun x => do noteFrame x env; theTreesLotGoes x)) _ _ s
  refine wpAny_noted ?_
  rw [compTurn_list1]
  refine wpAny_bind (wpAny_standAt (wpAny_bind (wpAny_mono (turn n s hI) (fun r s₁ h₁ => ?_) fun _ _ h' => h')))
  cases r with
  | none => exact wpAny_pure h₁
  | some v =>
    refine wpAny_bind (wpAny_mono h₁ (fun _ s₂ h₂ => ?_) fun _ _ h' => h')
    exact wpAny_bind (wpAny_mono h₂ (fun _ s₂ h₂ => wpAny_bind (wpAny_bind (wpAny_mono h₂ (fun x s₃ h₃ => wpAny_bind (wpAny_mono h₃
      (fun _ s₄ h₄ => wpAny_pure (wpAny_pure ⟨rfl, h₄⟩)) fun _ _ h' => h')) fun _ _ h' => h'))) fun _ _ h' => h')

/-- what the comprehension's own frame sees of the names around it -/
def Caps (scope : Scope) (env : Env) (cl : List (PySem.Str × Addr)) (ρ ρc : List (PySem.Str × D)) : Prop :=
  ∀ x d, (x, d) ∈ ρc → (x, d) ∈ ρ ∧ env.kindOf x = some .cell ∧ (relabel scope env).names.lookup x = some .cell ∧ cl.lookup x = env.cells.lookup x

theorem comp_run {elt target iter : PySem.Expr} {scope : Scope} {cl : List (PySem.Str × Addr)} {pos : Pos} {M : List Addr} {it : Value} {ds es : List D} {I : Addr} {fp : List Addr} {P : Nat → Value → Prop} {St : Nat → Heap → Prop}
    {ρc : List (PySem.Str × D)} {tb : D → List (PySem.Str × D)} {RR : Value → Addr → Result → Shared → Prop} {E : Value → Shared → Prop}
    (z : St0 B G M s) (y : Vars M env s.heap ρ) (S : Src prog w G A M s.heap it ds I fp P St)
    (hcell : ∀ y ∈ scope.names, y.2 ≠ .cell) (hkind : scope.kind = .function) (hcaps : Caps scope env cl ρ ρc)
    (hg : ∀ C, (compEnvC scope cl C env).scope.kind = .function)
    (htgt : ∀ C d, d ∈ ds → ASG prog w B G A false (compEnvC scope cl C env) target d (tb d))
    (hdis : ∀ d, d ∈ ds → ∀ n d' x e, (n, d') ∈ ρc → (x, e) ∈ tb d → n ≠ x)
    (helt : ∀ (C : Addr) (i : Nat) (d e : D), ds[i]? = some d → es[i]? = some e → EV prog w B G A (compEnvC scope cl C env) (tb d ++ ρc) elt e)
    (hlen : es.length = ds.length)
    (hRR : ∀ Dd C s' m', s.heap.get? Dd = none → s.heap.get? C = none → Dd ≠ C → StpN B G [I] s s' → s'.heap.Ns C m' → Rep (C :: M) s'.heap (.ref Dd) (.list es) → RR (.ref Dd) C (.ok .next) s') :
    wpAny (model prog w) A (newList []) (fun acc s₃ => wpAny (model prog w) A (newFunctionEnv scope env.globals cl [] env.qual none .none (some env)) (fun cenv s₄ =>
      codeAny (model prog w) A (.compStart (.ListComp elt [⟨target, iter, [], 0⟩] scope pos) 0 it acc { cenv with scope := relabel scope env }) (RR acc cenv.locals) s₄) E s₃) E s := by
  obtain rfl := S.is
  refine wpAny_newObj_type (wpAny_newFunctionEnv hcell (by intro y hy; simp at hy) (fun h₁ hns₁ hsb₁ => ?_) hkind)
  dsimp only at hns₁ hsb₁ ⊢
  generalize hH2 : s.heap.push { cls := .type "list", dict := none, data := .seq ([] : List Value).toArray } = H2 at hns₁ hsb₁ ⊢
  have hC : H2.objs.size = s.heap.objs.size + 1 := by rw [← hH2, Heap.size_push]
  generalize hCe : H2.objs.size = C at hns₁ hsb₁ ⊢
  have hDC : s.heap.objs.size ≠ C := by rw [← hCe, hC]; exact Nat.ne_of_lt (Nat.lt_succ_self _)
  have below : ∀ b, b < s.heap.objs.size → b ≠ C ∧ b ≠ s.heap.objs.size := fun b hb => ⟨by rw [← hCe, hC]; exact Nat.ne_of_lt (Nat.lt_succ_of_lt hb), Nat.ne_of_lt hb⟩
  have old : ∀ b o, s.heap.get? b = some o → h₁.get? b = some o := fun b o e => hsb₁.extBut b o (below b (Heap.lt_size e)).1 (Heap.get?_push_of_some _ (hH2 ▸ Heap.get?_push_of_some _ e))
  have hacc : h₁.PlainList s.heap.objs.size (List.toArray []) := ⟨_, hsb₁.extBut _ _ hDC (Heap.get?_push_of_some _ (hH2 ▸ Heap.get?_push_size _ rfl))⟩
  have fresh : ∀ a, s.heap.objs.size ≤ a → s.heap.get? a = none := fun a ha => by
    cases e : s.heap.get? a with
    | none => rfl
    | some o' => exact absurd (Heap.lt_size e) (Nat.not_lt.mpr ha)
  have fD := fresh _ (Nat.le_refl s.heap.objs.size)
  have fC : s.heap.get? C = none := fresh _ (by rw [← hCe, hC]; exact Nat.le_succ _)
  generalize hDe : s.heap.objs.size = Dd at *
  generalize hM' : C :: Dd :: I :: M = M'
  have s4e : Stp B G s { s with heap := h₁, toks := s.toks + ([] : List (PySem.Str × Value)).length } := Stp.of z.inv old
  have z4 := z.step s4e
  have tI : ∃ o, s.heap.get? I = some o := S.here
  have hIC : I ≠ C := fun q => by obtain ⟨o, e⟩ := tI; rw [q, fC] at e; cases e
  have hID : I ≠ Dd := fun q => by obtain ⟨o, e⟩ := tI; rw [q, fD] at e; cases e
  have offOf : ∀ b, b ∉ M → Off b := fun b hb => ⟨fun q => hb (q ▸ z.m1), fun q => hb (q ▸ z.m2)⟩
  have gnone : ∀ b, s.heap.get? b = none → G.get? b = none := fun b hb => by
    cases e : G.get? b with
    | none => rfl
    | some o => rw [z.inv.keep _ _ e] at hb; cases hb
  have hCM := z.fresh fC
  have hDM := z.fresh fD
  have more0 : ∀ b ∈ M', b ∈ M ∨ s.heap.get? b = none ∨ ∃ o, s.heap.get? b = some o ∧ ∀ vs n, o.data ≠ .seq vs n := fun b hb => by
    subst hM'
    simp only [List.mem_cons] at hb
    rcases hb with rfl | rfl | rfl | hb
    · exact .inr (.inl fC)
    · exact .inr (.inl fD)
    · obtain ⟨o, n, vs, e, _, d, _⟩ := S.obj 0 _ S.st
      exact .inr (.inr ⟨o, e, fun vs' n' q => by rw [d] at q; cases q⟩)
    · exact .inl hb
  have inM' : ∀ b ∈ M, b ∈ M' := fun b hb => by subst hM'; simp [hb]
  have hnsC : ∃ o es ep, h₁.get? C = some o ∧ o.data = .dict es ep := let ⟨o, es, ep, e, d, _⟩ := hns₁; ⟨o, es, ep, e, d⟩
  have z4' : St0 B G M' { s with heap := h₁, toks := s.toks + ([] : List (PySem.Str × Value)).length } := by
    refine ⟨s4e.inv, inM' _ z.m1, inM' _ z.m2, fun b hb => ?_⟩
    subst hM'
    simp only [List.mem_cons] at hb
    rcases hb with rfl | rfl | rfl | hb
    · obtain ⟨o, _, _, e, _⟩ := hnsC; exact ⟨o, e⟩
    · obtain ⟨n, e⟩ := hacc; exact ⟨_, e⟩
    · exact s4e.there tI
    · exact z4.there b hb
  have F4 : FS B G M' false (compEnvC scope cl C env) { s with heap := h₁, toks := s.toks + ([] : List (PySem.Str × Value)).length } ρc := by
    refine ⟨z4', hg C, ?_, offOf C hCM, gnone C fC, ⟨_, hns₁⟩, fun q => (nomatch q), fun x d hm => ?_⟩
    · subst hM'; exact List.mem_cons_self
    · obtain ⟨h1, h2, h3, h4⟩ := hcaps x d hm
      obtain ⟨v, ⟨b0, b1, b2⟩, r⟩ := y x d h1
      rcases b2 with ⟨g1, _⟩ | ⟨g1, c, g2, g3, o, g4, g5⟩
      · rw [h2] at g1; cases g1
      · exact ⟨v, ⟨b0, hg C, .inr ⟨.inl h3, c, g2, by show cl.lookup x = some c; rw [h4]; exact g3, o, old _ _ g4, g5⟩⟩, (r.moreF more0).grow fun b o _ e => old b o e⟩
  have offD := offOf Dd hDM
  have offI := offOf I S.IM
  have frM : ∀ b ∈ fp, b ≠ C ∧ b ≠ Dd ∧ b ≠ 47 ∧ b ≠ 54 := fun b hb => by
    obtain ⟨⟨o, e⟩, hbM⟩ := S.fpM b hb
    exact ⟨fun q => (by rw [q, fC] at e; cases e), fun q => (by rw [q, fD] at e; cases e), (offOf b hbM).1, (offOf b hbM).2⟩
  have st4 : St 0 h₁ := S.walks.frame _ _ _ S.st fun b hb o e => old b o e
  have cellNe : ∀ {s' : Shared} {n c}, (n, c) ∈ (compEnvC scope cl C env).cells → (∃ v, s'.heap.IsCell c v) → (∃ o n vs, s'.heap.get? I = some o ∧ o.data = .fields vs ∧ n = 0) → c ≠ I := fun hm ⟨v, o, e, d⟩ ⟨o', n', vs, e', d', _⟩ q => by
    subst q; rw [e] at e'; cases e'; rw [d] at d'; cases d'
  have cellNeD : ∀ {s' : Shared} {c its}, (∃ v, s'.heap.IsCell c v) → s'.heap.PlainList Dd its → c ≠ Dd := fun ⟨v, o, e, d⟩ ⟨n, e'⟩ q => by
    subst q; rw [e] at e'; cases e'; cases d
  let s₄ : Shared := { s with heap := h₁, toks := s.toks + ([] : List (PySem.Str × Value)).length }
  have loop : codeAny (model prog w) A (.compLoop (.ListComp elt [⟨target, iter, [], 0⟩] scope pos) 0 (.ref I) (.ref Dd) (compEnvC scope cl C env)) (RR (.ref Dd) C) s₄ := by
    refine compLoop_wp (fun k s' => ∃ i vs, k = ds.length + 1 - i ∧ i ≤ ds.length ∧ StpW B G [C, Dd, I] s₄ s' ∧ St i s'.heap ∧ FS B G M' false (compEnvC scope cl C env) s' ρc ∧ s'.heap.PlainList Dd (List.toArray vs) ∧ Reps M' s'.heap vs (es.take i)) ?_ (ds.length + 1)
      ⟨0, [], rfl, Nat.zero_le _, (Stp.refl s4e.inv).toW, st4, F4, hacc, by simpa using Reps.nil⟩
    rintro k s' ⟨i, vs, rfl, hi, p', st', F', acc', rs'⟩
    have hW' : ∀ b ∈ [C, Dd, I], b ∈ M' := fun b hb => by
      subst hM'
      simp only [List.mem_cons, List.not_mem_nil, or_false] at hb ⊢
      rcases hb with rfl | rfl | rfl <;> simp
    obtain ⟨oI, nI, vsI, eI, cI, dI, nnI, ncI⟩ := S.obj i _ st'
    have stepI : ∀ {h' : Heap} {tk : Tok} {j : Nat}, St j h' → (∀ b o, b ∉ [I] → s'.heap.get? b = some o → h'.get? b = some o) → StpW B G [I] s' { s' with heap := h', toks := tk } := fun hst hk => by
      obtain ⟨o', _, _, e', _⟩ := S.obj _ _ hst
      exact StpW.but F'.z.inv (fun b o hb e => hk b o (by simpa using hb) e) eI ncI offI S.gI ⟨_, e'⟩ (by simp)
    have fsI : ∀ {s'' : Shared}, StpW B G [I] s' s'' → FS B G M' false (compEnvC scope cl C env) s'' ρc := fun p => F'.stepW p (fun b hb => by rw [List.mem_singleton] at hb; subst hb; exact hW' _ (by simp)) (fun q => by rw [List.mem_singleton] at q; exact hIC q.symm)
      fun n c hm hv q => by rw [List.mem_singleton] at q; exact cellNe hm hv ⟨oI, 0, vsI, eI, dI, rfl⟩ q
    by_cases hlt : i < ds.length
    · refine S.walks.item i s' _ _ hlt st' fun v h₂ tk₂ hP hst₂ hk₂ => ?_
      have p2 := stepI (tk := tk₂) hst₂ hk₂
      have F2 := fsI p2
      obtain ⟨d, hd⟩ : ∃ d, ds[i]? = some d := ⟨_, List.getElem?_eq_getElem hlt⟩
      obtain ⟨e, he⟩ : ∃ e, es[i]? = some e := ⟨_, List.getElem?_eq_getElem (by rw [hlen]; exact hlt)⟩
      have hdm : d ∈ ds := List.mem_of_getElem? hd
      have grow2 : Grow M' s₄.heap h₂ := (z4'.growW ((p'.trans (p2.mono fun b hb => by rw [List.mem_singleton] at hb; subst hb; simp))) hW')
      have rv : Rep M' h₂ v d := by
        rcases S.item i v d hP hd with r | ⟨k, t, rfl, rfl⟩
        · refine Rep.grow grow2 (Rep.grow (fun b o _ e => old b o e) (r.moreF fun b hb => ?_))
          rcases more0 b hb with q | q
          · exact .inl (List.mem_cons_of_mem _ q)
          · exact .inr q
        · exact .int _ _
      obtain ⟨oJ, nJ, vsJ, eJ, cJ, dJ, nnJ, ncJ⟩ := S.obj (i + 1) _ hst₂
      refine owned_wp (s := { s' with heap := h₂, toks := tk₂ }) eJ cJ dJ nnJ ?_
      refine htgt C d hdm M' _ ρc _ _ v F2 (fun n d' x d'' h1 h2 => hdis d hdm n d' x d'' h1 h2) rv fun s3 p3 F3 => ?_
      refine helt C i d e hd he M' s3 _ _ F3.z F3.vars fun u s4' p4 r4 => ?_
      have F4' := (F3.step p4).weak (ρ' := ρc) fun p hp => List.mem_append_right _ hp
      have inC : ∀ b ∈ wr false (compEnvC scope cl C env), b ∈ [C, Dd, I] := fun b hb => by
        unfold wr at hb
        simp only [List.mem_cons, List.not_mem_nil, or_false] at hb
        rw [hb]; show C ∈ _; simp
      have pall : StpW B G [C, Dd, I] s' s4' := ((p2.mono fun b hb => by rw [List.mem_singleton] at hb; subst hb; simp).trans (p3.mono inC)).trans p4.toW
      have kD : ∀ o, s'.heap.get? Dd = some o → s4'.heap.get? Dd = some o := fun o e => by
        have e2 := hk₂ _ _ (by simpa using Ne.symm hID) e
        have e3 := p3.keep _ _ (by
          intro q; simp only [List.mem_cons] at q
          rcases q with q | q | q
          · exact offD.1 q
          · exact offD.2 q
          · unfold wr at q
            simp only [List.mem_cons, List.not_mem_nil, or_false] at q
            exact hDC (by rw [q]; rfl)) e2
        exact p4.keep _ _ offD.not e3
      have acc4 : s4'.heap.PlainList Dd (List.toArray vs) := acc'.at kD
      have hvs : vs.length ≤ 100000 := by
        rw [rs'.length, List.length_take]
        have := S.small; omega
      refine wpAny_list_append_plain acc4 (fun h₅ hl₅ hs₅ => ?_) (by rw [List.size_toArray]; exact Nat.le_trans hvs (by decide))
      obtain ⟨nD, eD⟩ := id acc4
      have p5 : StpW B G [Dd] s4' { s4' with heap := h₅ } := StpW.upd (tk := s4'.toks) F4'.z.inv hs₅ eD (notCode_seq rfl) offD (gnone Dd fD) (let ⟨n, e⟩ := hl₅; ⟨_, e⟩) (by simp)
      have F5 := F4'.stepW p5 (fun b hb => by rw [List.mem_singleton] at hb; subst hb; exact hW' _ (by simp)) (fun q => by rw [List.mem_singleton] at q; exact hDC q.symm)
        fun n c hm hv q => by rw [List.mem_singleton] at q; exact cellNeD hv acc4 q
      have pfin : StpW B G [C, Dd, I] s₄ { s4' with heap := h₅ } := (p'.trans pall).trans (p5.mono fun b hb => by rw [List.mem_singleton] at hb; subst hb; simp)
      have gfin : Grow M' s4'.heap h₅ := F4'.z.growW p5 fun b hb => by rw [List.mem_singleton] at hb; subst hb; exact hW' _ (by simp)
      have gall : Grow M' s'.heap s4'.heap := F'.z.growW pall hW'
      refine ⟨ds.length + 1 - (i + 1), by omega, i + 1, vs ++ [u], rfl, hlt, pfin, ?_, F5, ?_, ?_⟩
      · refine S.walks.frame _ _ _ hst₂ fun b hb o e => ?_
        obtain ⟨n1, n2, n3, n4⟩ := frM b hb
        refine hs₅.extBut b o n2 (p4.keep b o ?_ (p3.keep b o ?_ e))
        · intro q; simp only [List.mem_cons, List.not_mem_nil, or_false] at q; exact q.elim n3 n4
        · intro q; simp only [List.mem_cons] at q
          rcases q with q | q | q
          · exact n3 q
          · exact n4 q
          · unfold wr at q
            simp only [List.mem_cons, List.not_mem_nil, or_false] at q
            exact n1 q
      · have : (List.toArray vs).push u = List.toArray (vs ++ [u]) := by simp
        rw [← this]; exact hl₅
      · have et : es.take (i + 1) = es.take i ++ [e] := by rw [List.take_add_one, he]; rfl
        rw [et]
        exact ((rs'.grow gall).grow gfin).append (.cons (r4.grow gfin) .nil)
    · have hin : i = ds.length := by omega
      subst hin
      refine S.walks.done s' _ _ st' fun h₂ tk₂ hk₂ => ?_
      have acc2 : h₂.PlainList Dd (List.toArray vs) := acc'.at fun o e => hk₂ _ o (by simpa using Ne.symm hID) e
      obtain ⟨m', hm'⟩ := F'.ns
      have hmC : h₂.Ns C m' := hm'.at' fun o e => hk₂ _ o (fun q => hIC (by rw [List.mem_singleton] at q; exact q.symm)) e
      have p2 : StpN B G [I] s' { s' with heap := h₂, toks := tk₂ } :=
        ⟨⟨_, _, rfl⟩, fun b o hb e => hk₂ b o (fun q => hb (by rw [List.mem_singleton] at q; simp [q])) e, F'.z.inv.upd (fun b o hb e => hk₂ b o (by simpa using hb) e) eI ncI (Ne.symm offI.1) (Ne.symm offI.2) S.gI⟩
      have ptot : StpN B G [C, Dd, I] s { s' with heap := h₂, toks := tk₂ } := (s4e.toW.trans p').toN.trans (p2.mono fun b hb => .inl (by rw [List.mem_singleton] at hb; subst hb; simp))
      refine hRR Dd C _ m' fD fC hDC (ptot.mono fun b hb => ?_) hmC ?_
      · simp only [List.mem_cons, List.not_mem_nil, or_false] at hb
        rcases hb with rfl | rfl | rfl
        · exact .inr fC
        · exact .inr fD
        · exact .inl (by simp)
      · obtain ⟨n, e⟩ := acc2
        refine .list (fun q => ?_) e ?_
        · rcases List.mem_cons.mp q with q | q
          · exact hDC q
          · exact hDM q
        · have g2 : Grow M' s'.heap h₂ := p2.keep.sub fun b hb => by
            simp only [List.mem_cons, List.not_mem_nil, or_false] at hb
            rcases hb with rfl | rfl | rfl
            · exact inM' _ z.m1
            · exact inM' _ z.m2
            · exact hW' _ (by simp)
          have rr := rs'.grow g2
          rw [List.take_of_length_le (by rw [hlen]; exact Nat.le_refl _)] at rr
          exact rr.less fun b hb => by
            subst hM'
            rcases List.mem_cons.mp hb with q | q
            · simp [q]
            · simp [q]
  exact codeAny_compStart_list loop (S.walks.self 0 s₄ _ _ st4 loop)
end
end Mine

end

/-! # text F6 -/
section
open PySem PySem.Spec PySem.Calls PyProof.Rows PySem.W
set_option maxRecDepth 100000
set_option linter.unusedVariables false
namespace Mine
section
variable {prog : Program} {w : World} {B : Tb} {G : Heap} {A : Around} {own : Bool} {env : Env} {ρ : List (PySem.Str × D)}

theorem Inv.gnone {h : Heap} {b : Addr} (x : Inv B G h) (hb : h.get? b = none) : G.get? b = none := by
  cases e : G.get? b with
  | none => rfl
  | some o => rw [x.keep _ _ e] at hb; cases hb
theorem St0.offOf {M : List Addr} {s : Shared} (z : St0 B G M s) {b : Addr} (hb : b ∉ M) : Off b := ⟨fun q => hb (q ▸ z.m1), fun q => hb (q ▸ z.m2)⟩
theorem Stp.none {s s' : Shared} {b : Addr} (p : Stp B G s s') (h : s'.heap.get? b = none) : s.heap.get? b = none := by
  cases e : s.heap.get? b with
  | none => rfl
  | some o => obtain ⟨o', e'⟩ := p.there ⟨o, e⟩; rw [h] at e'; cases e'

/-! ## comprehensions -/
structure CompOk (scope : Scope) (env : Env) (cl : List (PySem.Str × Addr)) (ρ ρc : List (PySem.Str × D)) : Prop where
  clos : closureFor scope env = pure cl
  cell : ∀ y ∈ scope.names, y.2 ≠ .cell
  kind : scope.kind = .function
  names : ∀ x ∈ scope.names, x.2 = .local → scope.names.lookup x.1 = some .local
  caps : Caps scope env cl ρ ρc

theorem EV.comp {elt target iter : PySem.Expr} {scope : Scope} {pos : Pos} {ds es : List D} {cl : List (PySem.Str × Addr)} {ρc : List (PySem.Str × D)} {tb : D → List (PySem.Str × D)}
    (hi : IEV prog w B G A env ρ iter ds) (ok : CompOk scope env cl ρ ρc)
    (htgt : ∀ C d, d ∈ ds → ASG prog w B G A false (compEnvC scope cl C env) target d (tb d))
    (hdis : ∀ d, d ∈ ds → ∀ n d' x e, (n, d') ∈ ρc → (x, e) ∈ tb d → n ≠ x)
    (helt : ∀ (C : Addr) (i : Nat) (d e : D), ds[i]? = some d → es[i]? = some e → EV prog w B G A (compEnvC scope cl C env) (tb d ++ ρc) elt e)
    (hlen : es.length = ds.length) (hs : ∀ x, foldedSetIterable iter env x = pure x := by intro _; rfl) :
    EV prog w B G A env ρ (.ListComp elt [⟨target, iter, [], 0⟩] scope pos) (.list es) := fun M s Q E z y h => by
  rw [eval_ListComp]
  refine wpAny_comprehension_free (use := none) rfl hs ok.clos ok.kind ok.names ?_
  refine hi M s _ E z y fun it s2 I fp P St p2 hfr S => ?_
  have z2 := z.step p2
  refine comp_run (RR := fun acc C => compPost (model prog w) A E none Q acc C) z2 (y.step z p2) S ok.cell ok.kind ok.caps (fun _ => ok.kind) htgt hdis helt hlen fun Dd C s' m' fD fC hne pn hm rr => ⟨m', hm, fun h'' hs'' => ?_⟩
  have hCM := z2.fresh fC
  obtain ⟨o, es', ep, eo, ed, _⟩ := id hm
  have pC : StpN B G [C] s' { s' with heap := h'' } := ⟨⟨_, _, rfl⟩, fun b o hb e => hs''.extBut b o (fun q => hb (by rw [q]; simp)) e, pn.inv.upd (fun b o hb e => hs''.extBut b o hb e) eo (notCode_dict ed) (Ne.symm (z2.offOf hCM).1) (Ne.symm (z2.offOf hCM).2) (z2.inv.gnone fC)⟩
  have pt : StpN B G [I, C] s2 { s' with heap := h'' } := (pn.mono fun b hb => .inl (by rw [List.mem_singleton] at hb; subst hb; simp)).trans (pC.mono fun b hb => .inl (by rw [List.mem_singleton] at hb; subst hb; simp))
  refine h _ _ (StpN.after p2 pt fun b hb => ?_) ((rr.grow (fun b o hb e => hs''.extBut b o (fun q => hb (by rw [q]; simp)) e)).less fun b hb => List.mem_cons_of_mem _ hb)
  simp only [List.mem_cons, List.not_mem_nil, or_false] at hb
  rcases hb with rfl | rfl
  · exact hfr
  · exact p2.none fC

/-! ## statements, one by one; k: a list that the frame fills -/
def Acc (G : Heap) (M : List Addr) (h : Heap) : Option (Addr × List D) → Prop
  | none => True
  | some (a, ds) => a ∈ M ∧ Off a ∧ G.get? a = none ∧ ∃ vs, h.PlainList a (List.toArray vs) ∧ Reps M h vs ds
def xa : Option (Addr × List D) → List Addr
  | none => []
  | some (a, _) => [a]

def ST (prog : Program) (w : World) (B : Tb) (G : Heap) (A : Around) (own : Bool) (env : Env) (k : Option (Addr × List D)) (ρ : List (PySem.Str × D)) (st : Stmt) (k' : Option (Addr × List D)) (ρ' : List (PySem.Str × D)) : Prop :=
  ∀ (M : List Addr) (s : Shared) (Q : Flow → Shared → Prop) (E : Value → Shared → Prop), FS B G M own env s ρ → Acc G M s.heap k →
    (∀ s', StpW B G (xa k ++ wr own env) s s' → FS B G M own env s' ρ' → Acc G M s'.heap k' → Q .next s') → wpAny (model prog w) A (exec st env) Q E s
def RUN (prog : Program) (w : World) (B : Tb) (G : Heap) (A : Around) (own : Bool) (env : Env) (k : Option (Addr × List D)) (ρ : List (PySem.Str × D)) (sts : List Stmt) (k' : Option (Addr × List D)) (ρ' : List (PySem.Str × D)) : Prop :=
  ∀ (M : List Addr) (s : Shared) (Q : Flow → Shared → Prop) (E : Value → Shared → Prop), FS B G M own env s ρ → Acc G M s.heap k →
    (∀ s', StpW B G (xa k ++ wr own env) s s' → FS B G M own env s' ρ' → Acc G M s'.heap k' → Q .next s') → wpAny (model prog w) A (execs sts env) Q E s
def BDA (prog : Program) (w : World) (B : Tb) (G : Heap) (A : Around) (own : Bool) (env : Env) (k : Option (Addr × List D)) (ρ : List (PySem.Str × D)) (sts : List Stmt) (d : D) : Prop :=
  ∀ (M₀ M : List Addr) (s : Shared) (Q : Flow → Shared → Prop) (E : Value → Shared → Prop), (∀ b ∈ M₀, b ∈ M) → (∀ b ∈ xa k, b ∉ M₀) → FS B G M own env s ρ → Acc G M s.heap k →
    (∀ v s', StpW B G (xa k ++ wr own env) s s' → Rep M₀ s'.heap v d → Q (.ret v) s') → wpAny (model prog w) A (execs sts env) Q E s

section
variable {k k' k'' : Option (Addr × List D)} {ρ' ρ'' : List (PySem.Str × D)} {st : Stmt} {sts r : List Stmt} {d : D}

theorem Acc.inM {M : List Addr} {h : Heap} (a : Acc G M h k) : ∀ b ∈ xa k, b ∈ M := fun b hb => by
  cases k with
  | none => cases hb
  | some p => obtain ⟨a', ds⟩ := p; unfold xa at hb; rw [List.mem_singleton] at hb; subst hb; exact a.1
theorem Acc.stepW {M W : List Addr} {s s' : Shared} (a : Acc G M s.heap k) (z : St0 B G M s) (y : StpW B G W s s') (hW : ∀ b ∈ W, b ∈ M) (hk : ∀ b ∈ xa k, b ∉ W) : Acc G M s'.heap k := by
  cases k with
  | none => trivial
  | some p =>
    obtain ⟨c, ds⟩ := p
    obtain ⟨h1, h2, h3, vs, h4, h5⟩ := a
    refine ⟨h1, h2, h3, vs, h4.at fun o e => y.keep _ o (fun q => ?_) e, h5.stepW z y hW⟩
    simp only [List.mem_cons] at q
    rcases q with q | q | q
    · exact h2.1 q
    · exact h2.2 q
    · exact hk c (by unfold xa; simp) q
theorem Acc.notWr {M : List Addr} {s : Shared} (a : Acc G M s.heap k) (F : FS B G M own env s ρ) : ∀ b ∈ xa k, b ∉ wr own env := fun b hb q => by
  cases k with
  | none => cases hb
  | some p =>
    obtain ⟨c, ds⟩ := p
    unfold xa at hb; rw [List.mem_singleton] at hb; subst hb
    obtain ⟨_, _, _, vs, ⟨n, e⟩, _⟩ := a
    unfold wr at q
    rcases List.mem_cons.mp q with q | q
    · obtain ⟨m, o, es, ep, e', d', _⟩ := F.ns
      rw [← q, e] at e'; cases e'; cases d'
    · cases own with
      | false => cases q
      | true =>
        obtain ⟨⟨n', c'⟩, h1, rfl⟩ := List.mem_map.mp q
        obtain ⟨_, _, _, v, o, e', d'⟩ := (F.cell rfl).1 n' c' h1
        rw [e] at e'; cases e'; cases d'
theorem Acc.step {M : List Addr} {s s' : Shared} (a : Acc G M s.heap k) (z : St0 B G M s) (y : Stp B G s s') : Acc G M s'.heap k := a.stepW (W := []) z y.toW (fun _ h => nomatch h) fun _ _ h => nomatch h
theorem Acc.stepWr {M : List Addr} {s s' : Shared} (a : Acc G M s.heap k) (F : FS B G M own env s ρ) (y : StpW B G (wr own env) s s') : Acc G M s'.heap k := a.stepW F.z y F.inW (a.notWr F)

theorem StpW.thenN {W W' : List Addr} {s s' s'' : Shared} (x : StpW B G W s s') (y : StpN B G W' s' s'') (q : ∀ b ∈ W', s.heap.get? b = none) : StpW B G W s s'' := by
  obtain ⟨h1, t1, rfl⟩ := x.same
  obtain ⟨h2, t2, rfl⟩ := y.same
  have notW : ∀ b o, s.heap.get? b = some o → b ∉ W' := fun b o e hb => by rw [q b hb] at e; cases e
  refine ⟨⟨_, _, rfl⟩, fun b o hb e => y.keep b o (fun z => ?_) (x.keep b o hb e), fun b ⟨o, e⟩ => ?_, y.inv⟩
  · simp only [List.mem_cons] at z hb
    rcases z with z | z | z
    · exact hb (.inl z)
    · exact hb (.inr (.inl z))
    · exact notW b o e z
  · obtain ⟨o', e'⟩ := x.there b ⟨o, e⟩
    by_cases hb : b ∈ ([47, 54] : List Addr)
    · exact y.inv.tabThere hb
    · refine ⟨o', y.keep b o' (fun z => ?_) e'⟩
      simp only [List.mem_cons, List.not_mem_nil, or_false] at z hb
      rcases z with z | z | z
      · exact hb (.inl z)
      · exact hb (.inr z)
      · exact notW b o e z
/-- steps that write outside the frame, into what no datum is made of -/
theorem St0.stepN {M W : List Addr} {s s' : Shared} (x : St0 B G M s) (y : StpN B G W s s') (hM : ∀ b ∈ W, b ∉ M) : St0 B G M s' := ⟨y.inv, x.m1, x.m2, fun b hb => by
  by_cases q : b ∈ ([47, 54] : List Addr)
  · exact y.inv.tabThere q
  · obtain ⟨o, e⟩ := x.there b hb
    refine ⟨o, y.keep b o (fun z => ?_) e⟩
    simp only [List.mem_cons, List.not_mem_nil, or_false] at z q
    rcases z with z | z | z
    · exact q (.inl z)
    · exact q (.inr z)
    · exact hM b z hb⟩
theorem growN {M W : List Addr} {s s' : Shared} (x : St0 B G M s) (y : StpN B G W s s') : Grow (W ++ M) s.heap s'.heap := y.keep.sub fun b hb => by
  simp only [List.mem_cons] at hb
  rcases hb with rfl | rfl | hb
  · exact List.mem_append_right _ x.m1
  · exact List.mem_append_right _ x.m2
  · exact List.mem_append_left _ hb
theorem moreN {M W : List Addr} {h : Heap} (hD : ∀ b ∈ W, ∀ o, h.get? b = some o → (∀ v, o.data ≠ .cell v) ∧ ∀ vs n, o.data ≠ .seq vs n) : ∀ b ∈ W ++ M, b ∈ M ∨ h.get? b = none ∨ ∃ o, h.get? b = some o ∧ ∀ vs n, o.data ≠ .seq vs n := fun b hb => by
  rcases List.mem_append.mp hb with hb | hb
  · cases e : h.get? b with
    | none => exact .inr (.inl rfl)
    | some o => exact .inr (.inr ⟨o, rfl, (hD b hb o e).2⟩)
  · exact .inl hb
theorem Rep.stepN {M W : List Addr} {s s' : Shared} {v : Value} {d : D} (r : Rep M s.heap v d) (x : St0 B G M s) (y : StpN B G W s s') (hD : ∀ b ∈ W, ∀ o, s.heap.get? b = some o → (∀ v, o.data ≠ .cell v) ∧ ∀ vs n, o.data ≠ .seq vs n) : Rep M s'.heap v d :=
  ((r.moreF (moreN hD)).grow (growN x y)).less fun b hb => List.mem_append_right _ hb
theorem Reps.stepN {M W : List Addr} {s s' : Shared} {v : List Value} {d : List D} (r : Reps M s.heap v d) (x : St0 B G M s) (y : StpN B G W s s') (hD : ∀ b ∈ W, ∀ o, s.heap.get? b = some o → (∀ v, o.data ≠ .cell v) ∧ ∀ vs n, o.data ≠ .seq vs n) : Reps M s'.heap v d :=
  ((r.moreF (moreN hD)).grow (growN x y)).less fun b hb => List.mem_append_right _ hb
theorem FS.stepN {M W : List Addr} {s s' : Shared} (x : FS B G M own env s ρ) (y : StpN B G W s s') (hM : ∀ b ∈ W, b ∉ M) (hD : ∀ b ∈ W, ∀ o, s.heap.get? b = some o → (∀ v, o.data ≠ .cell v) ∧ ∀ vs n, o.data ≠ .seq vs n) : FS B G M own env s' ρ := by
  have kL : ∀ o, s.heap.get? env.locals = some o → s'.heap.get? env.locals = some o := fun o e => y.keep _ o (by
    intro q; simp only [List.mem_cons] at q
    rcases q with q | q | q
    · exact x.off.1 q
    · exact x.off.2 q
    · exact hM _ q x.locM) e
  have kC : ∀ c, Off c → ∀ v, s.heap.IsCell c v → s'.heap.IsCell c v := fun c h2 v hv => by
    obtain ⟨o, e, d⟩ := id hv
    refine ⟨o, y.keep _ o (fun q => ?_) e, d⟩
    simp only [List.mem_cons] at q
    rcases q with q | q | q
    · exact h2.1 q
    · exact h2.2 q
    · exact (hD c q o e).1 v d
  refine ⟨x.z.stepN y hM, x.kind, x.locM, x.off, x.g0, ?_, fun ho => ⟨fun n c hm => ?_, (x.cell ho).2⟩, ?_⟩
  · obtain ⟨m, h⟩ := x.ns; exact ⟨m, h.at' kL⟩
  · obtain ⟨h1, h2, h4, v, hv⟩ := (x.cell ho).1 n c hm
    exact ⟨h1, h2, h4, v, kC c h2 v hv⟩
  · intro n d hm
    obtain ⟨v, ⟨b0, b1, b2⟩, r⟩ := x.vars n d hm
    exact ⟨v, ⟨b0, b1, b2.imp (fun ⟨h1, h2, m, h3, h4⟩ => ⟨h1, h2, m, h3.at' kL, h4⟩) fun ⟨h1, c, h2, h3, h4⟩ => ⟨h1, c, h2, h3, kC c h2 _ h4⟩⟩, r.stepN x.z y hD⟩
theorem Acc.stepN {M W : List Addr} {s s' : Shared} (a : Acc G M s.heap k) (z : St0 B G M s) (y : StpN B G W s s') (hM : ∀ b ∈ W, b ∉ M) (hD : ∀ b ∈ W, ∀ o, s.heap.get? b = some o → (∀ v, o.data ≠ .cell v) ∧ ∀ vs n, o.data ≠ .seq vs n) : Acc G M s'.heap k := by
  cases k with
  | none => trivial
  | some p =>
    obtain ⟨c, ds⟩ := p
    obtain ⟨h1, h2, h3, vs, h4, h5⟩ := a
    refine ⟨h1, h2, h3, vs, h4.at fun o e => y.keep _ o (fun q => ?_) e, h5.stepN z y hD⟩
    simp only [List.mem_cons] at q
    rcases q with q | q | q
    · exact h2.1 q
    · exact h2.2 q
    · exact hM c q h1

theorem BDA.cons (h1 : ST prog w B G A own env k ρ st k' ρ') (hk : xa k' = xa k) (h2 : BDA prog w B G A own env k' ρ' r d) : BDA prog w B G A own env k ρ (st :: r) d := fun M₀ M s Q E hM hx F a h =>
  wpAny_execs_cons (h1 M s _ _ F a fun s1 p1 F1 a1 => h2 M₀ M s1 _ _ hM (hk ▸ hx) F1 a1 fun v s2 p2 r2 => h v s2 (p1.trans (hk ▸ p2)) r2)
theorem RUN.nil : RUN prog w B G A own env k ρ [] k ρ := fun M s Q E F a h => wpAny_execs_nil (h s (Stp.refl F.z.inv).toW F a)
theorem RUN.cons (h1 : ST prog w B G A own env k ρ st k' ρ') (hk : xa k' = xa k) (h2 : RUN prog w B G A own env k' ρ' r k'' ρ'') : RUN prog w B G A own env k ρ (st :: r) k'' ρ'' := fun M s Q E F a h =>
  wpAny_execs_cons (h1 M s _ _ F a fun s1 p1 F1 a1 => h2 M s1 _ _ F1 a1 fun s2 p2 F2 a2 => h s2 (p1.trans (hk ▸ p2)) F2 a2)
theorem RUN.weak (h1 : RUN prog w B G A own env k ρ sts k' ρ') (q : ∀ p ∈ ρ'', p ∈ ρ') : RUN prog w B G A own env k ρ sts k' ρ'' := fun M s Q E F a h => h1 M s Q E F a fun s1 p1 F1 a1 => h s1 p1 (F1.weak q) a1
theorem RUN.pre (h1 : RUN prog w B G A own env k ρ' sts k' ρ'') (q : ∀ p ∈ ρ', p ∈ ρ) : RUN prog w B G A own env k ρ sts k' ρ'' := fun M s Q E F a h => h1 M s Q E (F.weak q) a h
theorem BDA.pre (h1 : BDA prog w B G A own env k ρ' sts d) (q : ∀ p ∈ ρ', p ∈ ρ) : BDA prog w B G A own env k ρ sts d := fun M₀ M s Q E hM hx F a h => h1 M₀ M s Q E hM hx (F.weak q) a h

theorem BDA.ret {e : PySem.Expr} {pos : Pos} (h1 : EV prog w B G A env ρ e d) : BDA prog w B G A own env k ρ (.Return (some e) pos :: r) d := fun M₀ M s Q E hM hx F a h =>
  wpAny_execs_cons (wpAny_Return_some (h1 M s _ _ F.z F.vars fun v s1 p1 r1 => h v s1 p1.toW (r1.less hM)))
theorem BDA.iteT {t : PySem.Expr} {b o : List Stmt} {pos : Pos} (ht : TV prog w B G A env ρ t true) (h1 : BDA prog w B G A own env k ρ b d) : BDA prog w B G A own env k ρ (.If t b o pos :: r) d := fun M₀ M s Q E hM hx F a h =>
  wpAny_execs_cons (wpAny_If (ht M s _ _ F.z F.vars fun s1 p1 => by
    exact h1 M₀ M s1 _ _ hM hx (F.step p1) (a.step F.z p1) fun v s2 p2 r2 => h v s2 (p1.toW.trans p2) r2))
theorem BDA.iteF {t : PySem.Expr} {b o : List Stmt} {pos : Pos} (ht : TV prog w B G A env ρ t false) (h1 : BDA prog w B G A own env k ρ o d) : BDA prog w B G A own env k ρ (.If t b o pos :: r) d := fun M₀ M s Q E hM hx F a h =>
  wpAny_execs_cons (wpAny_If (ht M s _ _ F.z F.vars fun s1 p1 => by
    exact h1 M₀ M s1 _ _ hM hx (F.step p1) (a.step F.z p1) fun v s2 p2 r2 => h v s2 (p1.toW.trans p2) r2))
theorem ST.skip {t : PySem.Expr} {b : List Stmt} {pos : Pos} (ht : TV prog w B G A env ρ t false) : ST prog w B G A own env k ρ (.If t b [] pos) k ρ := fun M s Q E F a h =>
  wpAny_If (ht M s _ _ F.z F.vars fun s1 p1 => wpAny_execs_nil (h s1 p1.toW (F.step p1) (a.step F.z p1)))

theorem wr_sub {W : List Addr} : ∀ b ∈ wr own env, b ∈ W ++ wr own env := fun b hb => List.mem_append_right _ hb
theorem ST.asg {x : PySem.Str} {px pos : Pos} {e : PySem.Expr} {d1 : D} (h1 : EV prog w B G A env ρ e d1) (hx : Sto own env x) (hn : ∀ n d, (n, d) ∈ ρ → n ≠ x)
    (hs : swapsWith e (some (.Name x px)) pos.line env = pure false := by rfl) : ST prog w B G A own env k ρ (.Assign [.Name x px] e pos) k ((x, d1) :: ρ) := fun M s Q E F a h =>
  wpAny_Assign_Name (h1 M s _ _ F.z F.vars fun v s1 p1 r1 => store_wp (F.step p1) hx hn r1 fun s2 p2 F2 => h s2 (p1.toW.trans (p2.mono wr_sub)) F2 ((a.step F.z p1).stepWr (F.step p1) p2)) hs
theorem ST.asgT {t e : PySem.Expr} {pos : Pos} {d1 : D} {bs : List (PySem.Str × D)} (h1 : EV prog w B G A env ρ e d1) (ha : ASG prog w B G A own env t d1 bs) (hn : ∀ n d x d', (n, d) ∈ ρ → (x, d') ∈ bs → n ≠ x)
    (hs : swapsWithSole [t] e pos.line env = pure false := by rfl) (hw : swappedStores [t] e env = pure none := by rfl) (ht : assignEach [t] env = [(false, fun v => assign t env v)] := by rfl) : ST prog w B G A own env k ρ (.Assign [t] e pos) k (bs ++ ρ) := fun M s Q E F a h =>
  wpAny_Assign_stores (h1 M s _ _ F.z F.vars fun v s1 p1 r1 => by
    rw [ht]
    exact ha M s1 ρ _ _ v (F.step p1) hn r1 fun s2 p2 F2 => h s2 (p1.toW.trans (p2.mono wr_sub)) F2 ((a.step F.z p1).stepWr (F.step p1) p2)) hs hw

/-- a name bound to a comprehension on its own line -/
theorem ST.asgC {elt target iter : PySem.Expr} {scope : Scope} {pos cpos px : Pos} {x : PySem.Str} {ds es : List D} {cl : List (PySem.Str × Addr)} {ρc : List (PySem.Str × D)} {tb : D → List (PySem.Str × D)}
    (hi : IEV prog w B G A env ρ iter ds) (ok : CompOk scope env cl ρ ρc)
    (htgt : ∀ C d, d ∈ ds → ASG prog w B G A false (compEnvC scope cl C env) target d (tb d))
    (hdis : ∀ d, d ∈ ds → ∀ n d' x e, (n, d') ∈ ρc → (x, e) ∈ tb d → n ≠ x)
    (helt : ∀ (C : Addr) (i : Nat) (d e : D), ds[i]? = some d → es[i]? = some e → EV prog w B G A (compEnvC scope cl C env) (tb d ++ ρc) elt e)
    (hlen : es.length = ds.length) (hx : Sto own env x) (hn : ∀ n d, (n, d) ∈ ρ → n ≠ x)
    (hsw : swapsWith (.ListComp elt [⟨target, iter, [], 0⟩] scope cpos) (some (.Name x px)) pos.line env = pure true) (hs : ∀ x, foldedSetIterable iter env x = pure x := by intro _; rfl) :
    ST prog w B G A own env k ρ (.Assign [.Name x px] (.ListComp elt [⟨target, iter, [], 0⟩] scope cpos) pos) k ((x, .list es) :: ρ) := fun M s Q E F a h => by
  rw [exec_Assign_Name_used _ _ _ _ hsw]
  refine wpAny_bind (wpAny_standAt (wpAny_bind ?_))
  show wpAny _ A (do let _ ← comprehension (.ListComp elt [⟨target, iter, [], 0⟩] scope cpos) scope env _ (newList []) false (eval iter env) (some (assign (.Name x px) env))) _ _ s
  refine wpAny_bind (wpAny_mono (wpAny_comprehension_free (use := some (assign (.Name x px) env)) (Q := fun _ s' => Q .next s') rfl hs ok.clos ok.kind ok.names ?_) (fun _ s' hq => wpAny_pure (wpAny_pure hq)) fun _ _ e => e)
  refine hi M s _ E F.z F.vars fun it s2 I fp P St p2 hfr S => ?_
  have z2 := F.z.step p2
  refine comp_run (RR := fun acc C => compPost (model prog w) A E (some (assign (.Name x px) env)) (fun _ s' => Q .next s') acc C) z2 (F.vars.step F.z p2) S ok.cell ok.kind ok.caps (fun _ => ok.kind) htgt hdis helt hlen fun Dd C s' m' fD fC hne pn hm rr => ?_
  have hCM := z2.fresh fC
  have p3 : Stp B G s s' := pn.after p2 fun b hb => by rw [List.mem_singleton] at hb; subst hb; exact hfr
  have F3 := F.step p3
  have a3 := a.step F.z p3
  show wpAny _ A (assign (.Name x px) env (.ref Dd)) _ _ _
  have rM : Rep M s'.heap (.ref Dd) (.list es) := rr.less fun b hb => List.mem_cons_of_mem _ hb
  refine wpAny_assign_Name (store_wp F3 hx hn rM fun s4 p4 F4 => ?_)
  obtain ⟨o, es', ep, eo, ed, hr⟩ := id hm
  have hCw : C ∉ wr own env := fun q => hCM (F.inW _ q)
  have offC := z2.offOf hCM
  have eo4 : s4.heap.get? C = some o := p4.keep _ _ (by
    intro q; simp only [List.mem_cons] at q
    rcases q with q | q | q
    · exact offC.1 q
    · exact offC.2 q
    · exact hCw q) eo
  refine ⟨m', ⟨o, es', ep, eo4, ed, hr⟩, fun h'' hs'' => ?_⟩
  have fCs : s.heap.get? C = none := p2.none fC
  have pC : StpN B G [C] s4 { s4 with heap := h'' } := ⟨⟨_, _, rfl⟩, fun b o hb e => hs''.extBut b o (fun q => hb (by rw [q]; simp)) e, p4.inv.upd (fun b o hb e => hs''.extBut b o hb e) eo4 (notCode_dict ed) (Ne.symm offC.1) (Ne.symm offC.2) (z2.inv.gnone fC)⟩
  have ptot : StpW B G (xa k ++ wr own env) s { s4 with heap := h'' } := (p3.toW.trans (p4.mono wr_sub)).thenN pC fun b hb => by rw [List.mem_singleton] at hb; subst hb; exact fCs
  have nC : ∀ b ∈ [C], b ∉ M := fun b hb => by rw [List.mem_singleton] at hb; subst hb; exact hCM
  have dC : ∀ b ∈ [C], ∀ o, s4.heap.get? b = some o → (∀ v, o.data ≠ .cell v) ∧ ∀ vs n, o.data ≠ .seq vs n := fun b hb o' e' => by
    rw [List.mem_singleton] at hb; subst hb
    rw [eo4] at e'; cases e'
    exact ⟨fun v q => (by rw [ed] at q; cases q), fun vs n q => (by rw [ed] at q; cases q)⟩
  exact h _ ptot (F4.stepN pC nC dC) ((a3.stepWr F3 p4).stepN F4.z pC nC dC)
end
end
end Mine

end

/-! # text F7 -/
section
open PySem PySem.Spec PySem.Calls PyProof.Rows PySem.W
set_option maxRecDepth 100000
set_option linter.unusedVariables false
namespace Mine
section
variable {prog : Program} {w : World} {B : Tb} {G : Heap} {A : Around} {own : Bool} {env : Env} {ρ ρ' ρ'' : List (PySem.Str × D)}
variable {k k' k'' : Option (Addr × List D)} {st : Stmt} {sts r : List Stmt} {d : D}

/-! ## a list that the frame fills -/
theorem BDA.newAcc {x : PySem.Str} {px lp pos : Pos} (hx : Sto own env x) (hn : ∀ n d, (n, d) ∈ ρ → n ≠ x) (h2 : ∀ a, BDA prog w B G A own env (some (a, [])) ((x, .ref a) :: ρ) r d)
    (hs : swapsWith (.List [] lp) (some (.Name x px)) pos.line env = pure false := by rfl) : BDA prog w B G A own env none ρ (.Assign [.Name x px] (.List [] lp) pos :: r) d := fun M₀ M s Q E hM hx0 F a h => by
  refine wpAny_execs_cons (wpAny_Assign_Name (wpAny_List_spliced (spliced_nil ⟨by decide, ?_⟩)) hs)
  have fa := get?_size s.heap
  have p1 : Stp B G s { s with heap := s.heap.push { cls := .type "list", data := .seq (List.toArray []) } } := Stp.push' F.z.inv
  have haM := F.z.fresh fa
  have F1 := F.step p1
  have F1' : FS B G ([s.heap.objs.size] ++ M) own env { s with heap := s.heap.push { cls := .type "list", data := .seq (List.toArray []) } } ρ := by
    refine ⟨F1.z.more fun b hb => ?_, F1.kind, List.mem_append_right _ F1.locM, F1.off, F1.g0, F1.ns, fun ho => ⟨fun n c hm => ?_, (F1.cell ho).2⟩, fun n d hm => ?_⟩
    · rw [List.mem_singleton] at hb; subst hb; exact ⟨_, Heap.get?_push_size _ rfl⟩
    · obtain ⟨h1, h2⟩ := (F1.cell ho).1 n c hm; exact ⟨List.mem_append_right _ h1, h2⟩
    · obtain ⟨v, b, rr⟩ := F.vars n d hm
      refine ⟨v, b.grow p1.keep, (rr.more (N := [s.heap.objs.size] ++ M) fun b hb => ?_).grow fun b o _ e => Heap.get?_push_of_some _ e⟩
      rcases List.mem_append.mp hb with hb | hb
      · rw [List.mem_singleton] at hb; subst hb; exact .inr fa
      · exact .inl hb
  refine store_wp F1' hx hn (.ref s.heap.objs.size) fun s2 p2 F2 => ?_
  have a1 : Acc G ([s.heap.objs.size] ++ M) ({ s with heap := s.heap.push { cls := .type "list", data := .seq (List.toArray []) } } : Shared).heap (some (s.heap.objs.size, [])) :=
    ⟨by simp, F.z.offOf haM, F.z.inv.gnone fa, [], ⟨_, Heap.get?_push_size _ rfl⟩, .nil⟩
  have a2 := a1.stepWr F1' p2
  refine h2 s.heap.objs.size M₀ _ s2 _ _ (fun b hb => List.mem_append_right _ (hM b hb)) (fun b hb q => ?_) F2 a2 fun v s3 p3 r3 => h v s3 ?_ r3
  · unfold xa at hb; rw [List.mem_singleton] at hb; subst hb
    exact haM (hM _ q)
  · refine (p1.toW.trans ((p2.mono wr_sub).trans p3)).drop fun b hb => ?_
    rcases List.mem_append.mp hb with hb | hb
    · unfold xa at hb; rw [List.mem_singleton] at hb; subst hb; exact .inr fa
    · exact .inl (List.mem_append_right _ hb)

/-- the list is filled: from here on a datum as others -/
theorem BDA.freeze {x : PySem.Str} {a : Addr} {ds : List D} (h1 : BDA prog w B G A own env none ((x, .list ds) :: ρ) r d) : BDA prog w B G A own env (some (a, ds)) ((x, .ref a) :: ρ) r d := fun M₀ M s Q E hM hx F ac h => by
  obtain ⟨aM, aO, aG, vs, ⟨n, ea⟩, rs⟩ := id ac
  have notWr := ac.notWr F a (by unfold xa; simp)
  have lessM : ∀ b ∈ M.filter (· != a), b ∈ M := fun b hb => (List.mem_filter.mp hb).1
  have stay : ∀ b ∈ M, b ≠ a → b ∈ M.filter (· != a) := fun b hb hne => List.mem_filter.mpr ⟨hb, by simpa using hne⟩
  have aN : a ∉ M.filter (· != a) := fun q => by have := (List.mem_filter.mp q).2; simp at this
  have hLa : env.locals ≠ a := fun q => notWr (by unfold wr; rw [← q]; simp)
  have F' : FS B G (M.filter (· != a)) own env s ((x, .list ds) :: ρ) := by
    refine ⟨F.z.less (stay _ F.z.m1 (Ne.symm aO.1)) (stay _ F.z.m2 (Ne.symm aO.2)) lessM, F.kind, stay _ F.locM hLa, F.off, F.g0, F.ns, fun ho => ⟨fun n c hm => ?_, (F.cell ho).2⟩, fun n' d' hm => ?_⟩
    · obtain ⟨h1, h2⟩ := (F.cell ho).1 n c hm
      refine ⟨stay _ h1 fun q => notWr ?_, h2⟩
      subst ho; unfold wr; rw [← q]
      exact List.mem_cons_of_mem _ (List.mem_map.mpr ⟨_, hm, rfl⟩)
    · rcases List.mem_cons.mp hm with q | q
      · cases q
        obtain ⟨v, b, rr⟩ := F.vars x (.ref a) (by simp)
        cases rr
        exact ⟨_, b, .list aN ea (rs.less lessM)⟩
      · obtain ⟨v, b, rr⟩ := F.vars n' d' (List.mem_cons_of_mem _ q)
        exact ⟨v, b, rr.less lessM⟩
  exact h1 M₀ _ s Q E (fun b hb => stay b (hM b hb) fun q => hx a (by unfold xa; simp) (q ▸ hb)) (fun _ hb => nomatch hb) F' trivial fun v s' p r => h v s' (p.mono fun b hb => by
    rcases List.mem_append.mp hb with hb | hb
    · cases hb
    · exact List.mem_append_right _ hb) r

/-- acc.append(e) -/
theorem ST.append {x : PySem.Str} {xp apos cpos pos : Pos} {e : PySem.Expr} {a : Addr} {ds : List D} {d1 : D} (hx : (x, .ref a) ∈ ρ) (h1 : EV prog w B G A env ρ e d1) (hl : ds.length ≤ 100000)
    (hbase : attributeBase (.Name x xp) "append" env (eval (.Name x xp) env) = eval (.Name x xp) env := by rfl) (hline : (apos.endLine == cpos.line) = true := by rfl)
    (htrees : backTo cpos (starEach [e] env) = [(false, eval e env)] := by rfl) (hs : swapsWith (.Call (.Attribute (.Name x xp) "append" apos) [e] [] cpos) none pos.line env = pure false := by rfl) (hi : interactive env = false) :
    ST prog w B G A own env (some (a, ds)) ρ (.Expr (.Call (.Attribute (.Name x xp) "append" apos) [e] [] cpos) pos) (some (a, ds ++ [d1])) ρ := fun M s Q E F ac h => by
  refine wpAny_Expr_any (wpAny_Call_append hbase (by rw [htrees]; rfl) hline htrees ?_) hi hs
  obtain ⟨u, hb, ru⟩ := F.vars x _ hx
  cases ru
  refine wp_bound hb ?_
  obtain ⟨aM, aO, aG, vs, ⟨n, ea⟩, rs⟩ := id ac
  refine ⟨a, List.toArray vs, rfl, ⟨_, _, ea, rfl, rfl, rfl⟩, h1 M s _ _ F.z F.vars fun v s1 p1 r1 => ?_⟩
  have a1 := ac.step F.z p1
  obtain ⟨_, _, _, vs1, pl1, rs1⟩ := id a1
  have z1 := F.z.step p1
  have F1 := F.step p1
  refine wpAny_list_append_plain pl1 (fun h' hl' hs' => ?_) (by rw [List.size_toArray, rs1.length]; exact Nat.le_trans hl (by decide))
  obtain ⟨n1, e1⟩ := id pl1
  have p2 : StpW B G [a] s1 { s1 with heap := h' } := StpW.upd (tk := s1.toks) p1.inv hs' e1 (notCode_seq rfl) aO aG (let ⟨n, e⟩ := hl'; ⟨_, e⟩) (by simp)
  have sub : ∀ b ∈ [a], b ∈ M := fun b hb => by rw [List.mem_singleton] at hb; subst hb; exact aM
  have nW := a1.notWr F1
  refine h _ (p1.toW.trans (p2.mono fun b hb => List.mem_append_left _ hb)) (F1.stepW p2 sub (fun q => ?_) fun n c hm ⟨v, o, e, dd⟩ q => ?_) ⟨aM, aO, aG, vs1 ++ [v], ?_, ?_⟩
  · rw [List.mem_singleton] at q
    exact nW a (by unfold xa; simp) (by unfold wr; rw [← q]; simp)
  · rw [List.mem_singleton] at q; subst q
    rw [e1] at e; cases e; cases dd
  · have : (List.toArray vs1).push v = List.toArray (vs1 ++ [v]) := by simp
    rw [← this]; exact hl'
  · exact (rs1.append (.cons r1 .nil)).grow (z1.growW p2 sub)

/-! ## for -/
theorem ST.for {x : PySem.Str} {xp pos : Pos} {iter : PySem.Expr} {body : List Stmt} {ds : List D} {ρs : Nat → List (PySem.Str × D)} {ks : Nat → Option (Addr × List D)}
    (hi : IEV prog w B G A env (ρs 0) iter ds) (hx : Sto own env x) (hn : ∀ i n d, (n, d) ∈ ρs i → n ≠ x) (hk : ∀ i, xa (ks i) = xa (ks 0))
    (step : ∀ (i : Nat) (d : D), ds[i]? = some d → RUN prog w B G A own env (ks i) ((x, d) :: ρs i) body (ks (i + 1)) (ρs (i + 1)))
    (hs : ∀ x, foldedSetIterable iter env x = pure x := by intro _; rfl) :
    ST prog w B G A own env (ks 0) (ρs 0) (.For (.Name x xp) iter body [] pos) (ks ds.length) (ρs ds.length) := fun M s Q E F ac h => by
  refine wpAny_For (hi M s _ _ F.z F.vars fun it s2 I fp P St p2 hfr S => ?_) hs
  have F2 := F.step p2
  have a2 := ac.step F.z p2
  obtain rfl := S.is
  have offI := F2.z.offOf S.IM
  obtain ⟨oI0, nI0, vsI0, eI0, cI0, dI0, _, _⟩ := S.obj 0 _ S.st
  have dataI : ∀ {s' : Shared} {o : Obj} {vs}, s'.heap.get? I = some o → o.data = .fields vs → ∀ b ∈ [I], ∀ o, s'.heap.get? b = some o → (∀ v, o.data ≠ .cell v) ∧ ∀ vs n, o.data ≠ .seq vs n := fun e d b hb o' e' => by
    rw [List.mem_singleton] at hb; subst hb
    rw [e] at e'; cases e'
    exact ⟨fun v q => (by rw [d] at q; cases q), fun vs n q => (by rw [d] at q; cases q)⟩
  have nI : ∀ b ∈ [I], b ∉ M := fun b hb => by rw [List.mem_singleton] at hb; subst hb; exact S.IM
  have xaM : ∀ b ∈ xa (ks 0), b ∈ M := a2.inM
  have WM : ∀ b ∈ xa (ks 0) ++ wr own env, b ∈ M := fun b hb => (List.mem_append.mp hb).elim (xaM b) (F2.inW b)
  refine codeAny_forLoop (fun n s' => ∃ i, n = ds.length + 1 - i ∧ i ≤ ds.length ∧ StpW B G (I :: (xa (ks 0) ++ wr own env)) s2 s' ∧ St i s'.heap ∧ FS B G M own env s' (ρs i) ∧ Acc G M s'.heap (ks i)) ?_ (ds.length + 1) ⟨0, rfl, Nat.zero_le _, (Stp.refl p2.inv).toW, S.st, F2, a2⟩
  rintro n s' ⟨i, rfl, hi', p', st', F', a'⟩
  obtain ⟨oI, nmI, vsI, eI, cI, dI, nnI, ncI⟩ := S.obj i _ st'
  have dC := dataI (s' := s') eI dI
  by_cases hlt : i < ds.length
  · refine S.walks.item i s' _ _ hlt st' fun v h₂ tk₂ hP hst₂ hk₂ => ?_
    obtain ⟨d, hd⟩ : ∃ d, ds[i]? = some d := ⟨_, List.getElem?_eq_getElem hlt⟩
    obtain ⟨oJ, nJ, vsJ, eJ, cJ, dJ, nnJ, ncJ⟩ := S.obj (i + 1) _ hst₂
    have p3 : StpW B G [I] s' { s' with heap := h₂, toks := tk₂ } := StpW.but F'.z.inv (fun b o hb e => hk₂ b o (by simpa using hb) e) eI ncI offI S.gI ⟨_, eJ⟩ (by simp)
    have F3 := F'.stepN p3.toN nI dC
    have a3 := a'.stepN F'.z p3.toN nI dC
    have rv : Rep M h₂ v d := by
      rcases S.item i v d hP hd with r | ⟨q, t, rfl, rfl⟩
      · refine Rep.less (M := I :: M) (fun b hb => List.mem_cons_of_mem _ hb) (Rep.grow (h := s2.heap) ?_ r)
        refine (p'.trans (p3.mono fun b hb => by rw [List.mem_singleton] at hb; subst hb; simp)).keep.sub fun b hb => ?_
        simp only [List.mem_cons] at hb
        rcases hb with rfl | rfl | rfl | hb
        · exact List.mem_cons_of_mem _ F2.z.m1
        · exact List.mem_cons_of_mem _ F2.z.m2
        · simp
        · exact List.mem_cons_of_mem _ (WM b hb)
      · exact .int _ _
    refine wpAny_assign_Name (store_wp F3 hx (hn i) rv fun s4 p4 F4 => ?_)
    have a4 := a3.stepWr F3 p4
    refine step i d hd M s4 _ _ F4 a4 fun s5 p5 F5 a5 => ?_
    have p45 : StpW B G (xa (ks 0) ++ wr own env) { s' with heap := h₂, toks := tk₂ } s5 := (p4.mono wr_sub).trans (hk i ▸ p5)
    refine ⟨ds.length + 1 - (i + 1), by omega, i + 1, rfl, hlt, (p'.trans (p3.mono fun b hb => by rw [List.mem_singleton] at hb; subst hb; simp)).trans (p45.mono fun b hb => List.mem_cons_of_mem _ hb), ?_, F5, a5⟩
    refine S.walks.frame _ _ _ hst₂ fun b hb o e => p45.keep b o (fun q => ?_) e
    obtain ⟨_, hbM⟩ := S.fpM b hb
    simp only [List.mem_cons] at q
    rcases q with q | q | q
    · exact hbM (q ▸ F2.z.m1)
    · exact hbM (q ▸ F2.z.m2)
    · exact hbM (WM b q)
  · have hin : i = ds.length := by omega
    subst hin
    refine S.walks.done s' _ _ st' fun h₂ tk₂ hk₂ => ?_
    have p3 : StpN B G [I] s' { s' with heap := h₂, toks := tk₂ } :=
      ⟨⟨_, _, rfl⟩, fun b o hb e => hk₂ b o (fun q => hb (by rw [List.mem_singleton] at q; simp [q])) e, F'.z.inv.upd (fun b o hb e => hk₂ b o (by simpa using hb) e) eI ncI (Ne.symm offI.1) (Ne.symm offI.2) S.gI⟩
    have pt : StpW B G (xa (ks 0) ++ wr own env) s s' := (p2.toW.trans p').drop fun b hb => by
      rcases List.mem_cons.mp hb with rfl | hb
      · exact .inr hfr
      · exact .inl hb
    exact wpAny_execs_nil (h _ (pt.thenN p3 fun b hb => by rw [List.mem_singleton] at hb; subst hb; exact hfr) (F'.stepN p3 nI dC) (a'.stepN F'.z p3 nI dC))

/-! ## while -/
theorem ST.while {t : PySem.Expr} {body : List Stmt} {pos : Pos} {n : Nat} {ρs : Nat → List (PySem.Str × D)} {ks : Nat → Option (Addr × List D)} (hk : ∀ i, xa (ks i) = xa (ks 0))
    (hT : ∀ i, i < n → TV prog w B G A env (ρs i) t true) (hF : TV prog w B G A env (ρs n) t false)
    (step : ∀ i, i < n → RUN prog w B G A own env (ks i) (ρs i) body (ks (i + 1)) (ρs (i + 1))) :
    ST prog w B G A own env (ks 0) (ρs 0) (.While t body [] pos) (ks n) (ρs n) := fun M s Q E F ac h => by
  refine wpAny_While ?_
  refine codeAny_whileLoop (fun m s' => ∃ i, m = n - i ∧ i ≤ n ∧ StpW B G (xa (ks 0) ++ wr own env) s s' ∧ FS B G M own env s' (ρs i) ∧ Acc G M s'.heap (ks i)) ?_ n ⟨0, by simp, Nat.zero_le _, (Stp.refl F.z.inv).toW, F, ac⟩
  rintro m s' ⟨i, rfl, hi, p', F', a'⟩
  by_cases hlt : i < n
  · refine hT i hlt M s' _ _ F'.z F'.vars fun s1 p1 => ?_
    simp only [if_true]
    refine step i hlt M s1 _ _ (F'.step p1) (a'.step F'.z p1) fun s2 p2 F2 a2 => ?_
    exact ⟨n - (i + 1), by omega, i + 1, rfl, hlt, (p'.trans p1.toW).trans (hk i ▸ p2), F2, a2⟩
  · have hin : i = n := by omega
    subst hin
    refine hF M s' _ _ F'.z F'.vars fun s1 p1 => ?_
    simp only [Bool.false_eq_true, if_false]
    exact wpAny_execs_nil (h s1 (p'.trans p1.toW) (F'.step p1) (a'.step F'.z p1))

/-! ## a call of a def of the top -/
def zipv : List PySem.Str → List Value → List (PySem.Str × Value)
  | x :: xs, v :: vs => (x, v) :: zipv xs vs
  | _, _ => []
def zipd : List PySem.Str → List D → List (PySem.Str × D)
  | x :: xs, v :: vs => (x, v) :: zipd xs vs
  | _, _ => []
theorem zip_mem {M : List Addr} {h : Heap} : ∀ {names : List PySem.Str} {vs : List Value} {ds : List D}, Reps M h vs ds → ∀ {x d}, (x, d) ∈ zipd names ds → ∃ v, (x, v) ∈ zipv names vs ∧ Rep M h v d
  | [], _, _, _, x, d, hm => by simp [zipd] at hm
  | n :: names, _, _, .nil, x, d, hm => by simp [zipd] at hm
  | n :: names, _, _, .cons a b, x, d, hm => by
    simp only [zipd, List.mem_cons, Prod.mk.injEq] at hm
    rcases hm with ⟨rfl, rfl⟩ | hm
    · exact ⟨_, by simp [zipv], a⟩
    · obtain ⟨v, h1, h2⟩ := zip_mem b hm
      exact ⟨v, by simp [zipv, h1], h2⟩
theorem zipv_names : ∀ (names : List PySem.Str) (vs : List Value) x v, (x, v) ∈ zipv names vs → x ∈ names
  | [], _, x, v, hm => by simp [zipv] at hm
  | n :: names, [], x, v, hm => by simp [zipv] at hm
  | n :: names, u :: vs, x, v, hm => by
    simp only [zipv, List.mem_cons, Prod.mk.injEq] at hm
    rcases hm with ⟨rfl, rfl⟩ | hm
    · simp
    · exact List.mem_cons_of_mem _ (zipv_names names vs x v hm)
theorem bindL_off {kf : PySem.Str → Option NameKind} : ∀ (names : List PySem.Str) (vs : List Value) (m : PySem.Str → Option Value) (x : PySem.Str), x ∉ names → bindL kf (zipv names vs) m x = m x
  | [], _, m, x, _ => rfl
  | n :: names, [], m, x, _ => rfl
  | n :: names, v :: vs, m, x, h => by
    simp only [List.mem_cons, not_or] at h
    simp only [zipv, bindL]
    rw [bindL_off names vs _ x h.2]
    split
    · simp [h.1]
    · rfl
theorem bindC_off {kf : PySem.Str → Option NameKind} : ∀ (names : List PySem.Str) (vs : List Value) (m : PySem.Str → Option Value) (x : PySem.Str), x ∉ names → bindC kf (zipv names vs) m x = m x
  | [], _, m, x, _ => rfl
  | n :: names, [], m, x, _ => rfl
  | n :: names, v :: vs, m, x, h => by
    simp only [List.mem_cons, not_or] at h
    simp only [zipv, bindC]
    rw [bindC_off names vs _ x h.2]
    split
    · rfl
    · simp [h.1]
theorem bindL_on {kf : PySem.Str → Option NameKind} : ∀ (names : List PySem.Str) (vs : List Value) (m : PySem.Str → Option Value) (x : PySem.Str) (v : Value), names.Nodup → (x, v) ∈ zipv names vs → kf x = some .local → bindL kf (zipv names vs) m x = some v
  | [], _, m, x, v, _, hm, _ => by simp [zipv] at hm
  | n :: names, [], m, x, v, _, hm, _ => by simp [zipv] at hm
  | n :: names, u :: vs, m, x, v, hn, hm, hk => by
    rw [List.nodup_cons] at hn
    simp only [zipv, List.mem_cons, Prod.mk.injEq] at hm
    simp only [zipv, bindL]
    rcases hm with ⟨rfl, rfl⟩ | hm
    · rw [bindL_off names vs _ x hn.1, if_pos hk]; simp
    · exact bindL_on names vs _ x v hn.2 hm hk
theorem bindC_on {kf : PySem.Str → Option NameKind} : ∀ (names : List PySem.Str) (vs : List Value) (m : PySem.Str → Option Value) (x : PySem.Str) (v : Value), names.Nodup → (x, v) ∈ zipv names vs → kf x ≠ some .local → bindC kf (zipv names vs) m x = some v
  | [], _, m, x, v, _, hm, _ => by simp [zipv] at hm
  | n :: names, [], m, x, v, _, hm, _ => by simp [zipv] at hm
  | n :: names, u :: vs, m, x, v, hn, hm, hk => by
    rw [List.nodup_cons] at hn
    simp only [zipv, List.mem_cons, Prod.mk.injEq] at hm
    simp only [zipv, bindC]
    rcases hm with ⟨rfl, rfl⟩ | hm
    · rw [bindC_off names vs _ x hn.1, if_neg hk]; simp
    · exact bindC_on names vs _ x v hn.2 hm hk

theorem cellsFrom_ge : ∀ (names : List (PySem.Str × NameKind)) (n : Nat) (acc : List (PySem.Str × Addr)), ∀ p ∈ cellsFrom n names acc, n ≤ p.2 ∨ p ∈ acc
  | [], n, acc, p, hm => .inr hm
  | (x, k) :: r, n, acc, p, hm => by
    unfold cellsFrom at hm
    split at hm
    · rcases cellsFrom_ge r (n + 1) _ p hm with q | q
      · exact .inl (Nat.le_of_succ_le q)
      · rcases List.mem_cons.mp q with q | q
        · subst q; exact .inl (Nat.le_refl _)
        · exact .inr q
    · exact cellsFrom_ge r n acc p hm

theorem cellsFrom_fst : ∀ (names : List (PySem.Str × NameKind)) (n m : Nat) (a b : List (PySem.Str × Addr)), a.map (·.1) = b.map (·.1) → (cellsFrom n names a).map (·.1) = (cellsFrom m names b).map (·.1)
  | [], _, _, _, _, h => h
  | (x, k) :: r, n, m, a, b, h => by
    unfold cellsFrom
    split
    · exact cellsFrom_fst r _ _ _ _ (by rw [List.map_cons, List.map_cons, h])
    · exact cellsFrom_fst r _ _ _ _ h
theorem lookup_of_mem {n : PySem.Str} {c : Addr} : ∀ (l : List (PySem.Str × Addr)), (l.map (·.1)).Nodup → (n, c) ∈ l → l.lookup n = some c
  | [], _, h => by cases h
  | (x, a) :: r, hn, h => by
    rw [List.map_cons, List.nodup_cons] at hn
    rw [List.lookup_cons]
    rcases List.mem_cons.mp h with q | q
    · cases q; simp
    · have : (n == x) = false := by
        cases e : n == x with
        | false => rfl
        | true =>
          have e' : n = x := by simpa using e
          subst e'
          exact absurd (List.mem_map.mpr ⟨_, q, rfl⟩) hn.1
      rw [this]
      exact lookup_of_mem r hn.2 q

/-- what the binding of arguments needs of a def -/
structure DefOk (G : Heap) (f : Addr) (fd : FuncData) (body : List Stmt) (names : List PySem.Str) : Prop where
  obj : ∃ o, G.get? f = some o ∧ o.data = .func fd
  clo : fd.closure = []
  body : fd.body = .stmts body
  code : G.CodeRec fd.code fd.qualname
  bind : ∀ vs : List Value, vs.length = names.length → bindArgs fd ⟨vs, []⟩ = pure (zipv names vs)
  nd : names.Nodup
  kinds : ∀ x ∈ names, (x == ("__debug__" : PySem.Str)) = false ∧ (fd.scope.names.lookup x = some .local ∨ fd.scope.names.lookup x = some .cell)
  cnd : ((cellsFrom 0 fd.scope.names []).map (·.1)).Nodup
  co : fd.scope.isCoroutine = false
  gen : fd.scope.isGenerator = false
  kind : fd.scope.kind = .function

theorem CALLS.of_def {f : Addr} {fd : FuncData} {body : List Stmt} {names : List PySem.Str} {ds : List D} {d : D} (ok : DefOk G f fd body names) (hroom : A.depth < recursionLimit)
    (hlim : G.NoLimit) (hlen : ds.length = names.length)
    (hB : ∀ L, BDA prog w B G (A.deeper (callEnvC fd L f)) true (callEnvC fd L f) none (zipd names ds) body d) : CALLS prog w B G A (.ref f) ds d := fun M s Q E vs z r h => by
  obtain ⟨⟨o, ho, hd⟩, hclo, hbody, hcode, hb, hnd, hkind, hcnd, hco, hgen, hk⟩ := ok
  have hl : vs.length = names.length := r.length.trans hlen
  have cellOf : ∀ x, fd.scope.names.lookup x = some .cell → ∀ n, ((cellsFrom n fd.scope.names []).lookup x).isSome = true := fun x e n => cellsFrom_some _ _ _ (.inl e)
  refine wpAny_call (codeAny_call_cells hroom (z.inv.keep _ _ ho) hd (hlim.keeps z.inv.keep) (hcode.keeps z.inv.keep) hbody (hb vs hl) hclo (fun p hp => ?_) (fun s₁ x => ?_) hco hgen hk)
  · obtain ⟨_, h1⟩ := hkind p.1 (zipv_names names vs p.1 p.2 hp)
    exact h1.imp id fun h2 => ⟨h2, cellOf _ h2 _⟩
  generalize hLe : s.heap.objs.size = L at x ⊢
  have fresh : ∀ a, L ≤ a → s.heap.get? a = none := fun a ha => by
    subst hLe
    cases e : s.heap.get? a with
    | none => rfl
    | some o' => exact absurd (Heap.lt_size e) (Nat.not_lt.mpr ha)
  obtain ⟨h₁, tk, rfl⟩ := x.toInCall.same
  have p1 : Stp B G s { s with heap := h₁, toks := tk } := Stp.of z.inv x.toInCall.keep
  generalize hEe : callEnvC fd L f = envc at x ⊢
  have eL : envc.locals = L := by rw [← hEe]; rfl
  have eS : envc.scope = fd.scope := by rw [← hEe]; rfl
  have eC : envc.cells = cellsFrom (L + 1) fd.scope.names [] := by rw [← hEe]; rfl
  have eK : ∀ y, envc.kindOf y = fd.scope.names.lookup y := fun y => by rw [← hEe]; rfl
  rw [eL] at x
  have cellGe : ∀ n c, (n, c) ∈ envc.cells → L < c := fun n c hm => x.above n c hm
  have newM : ∀ b ∈ wr true envc, s.heap.get? b = none := fun b hb => by
    unfold wr at hb
    rcases List.mem_cons.mp hb with rfl | hb
    · rw [eL]; exact fresh _ (Nat.le_refl _)
    · obtain ⟨⟨n, c⟩, h1, rfl⟩ := List.mem_map.mp hb
      exact fresh _ (Nat.le_of_lt (cellGe n c h1))
  have hns := x.toInCall.ns
  have hndC : (envc.cells.map (·.1)).Nodup := by
    rw [eC, cellsFrom_fst fd.scope.names (L + 1) 0 [] [] rfl]; exact hcnd
  have cellThere : ∀ n c, (n, c) ∈ envc.cells → ∃ v, h₁.IsCell c v := fun n c hm => ⟨_, x.cell n c (lookup_of_mem _ hndC hm)⟩
  have newOff : ∀ b, L ≤ b → Off b := fun b hb => z.offOf (z.fresh (fresh b hb))
  have newG : ∀ b, L ≤ b → G.get? b = none := fun b hb => z.inv.gnone (fresh b hb)
  have inM' : ∀ b ∈ M, b ∈ wr true envc ++ M := fun b hb => List.mem_append_right _ hb
  have z1 : St0 B G (wr true envc ++ M) { s with heap := h₁, toks := tk } := (z.step p1).more fun b hb => by
    unfold wr at hb
    rcases List.mem_cons.mp hb with rfl | hb
    · rw [eL]; obtain ⟨o, _, _, e, _⟩ := hns; exact ⟨o, e⟩
    · obtain ⟨⟨n, c⟩, h1, rfl⟩ := List.mem_map.mp hb
      obtain ⟨_, o, e, _⟩ := cellThere n c h1
      exact ⟨o, e⟩
  have F : FS B G (wr true envc ++ M) true envc { s with heap := h₁, toks := tk } (zipd names ds) := by
    refine ⟨z1, by rw [eS]; exact hk, List.mem_append_left _ (by unfold wr; simp), by rw [eL]; exact newOff _ (Nat.le_refl _), by rw [eL]; exact newG _ (Nat.le_refl _), ⟨_, by rw [eL]; exact hns⟩, fun _ => ⟨fun n c hm => ?_, x.apart⟩, fun y dy hm => ?_⟩
    · have l := Nat.le_of_lt (cellGe n c hm)
      exact ⟨List.mem_append_left _ (by unfold wr; exact List.mem_cons_of_mem _ (List.mem_map.mpr ⟨_, hm, rfl⟩)), newOff _ l, newG _ l, cellThere n c hm⟩
    · obtain ⟨v, hv, rv⟩ := zip_mem r hm
      have hy := zipv_names names vs y v hv
      obtain ⟨hdb, hkk⟩ := hkind y hy
      refine ⟨v, ⟨hdb, by rw [eS]; exact hk, ?_⟩, (rv.more fun b hb => ?_).grow fun b o _ e => x.toInCall.keep b o e⟩
      · rcases hkk with hkk | hkk
        · refine .inl ⟨by rw [eK]; exact hkk, by rw [eL]; exact newOff _ (Nat.le_refl _), _, by rw [eL]; exact hns, ?_⟩
          exact bindL_on names vs _ y v hnd hv (by rw [eK]; exact hkk)
        · obtain ⟨c, hc⟩ := Option.isSome_iff_exists.mp (cellOf y hkk (L + 1))
          rw [← eC] at hc
          have := x.cell y c hc
          refine .inr ⟨.inl (by rw [eK]; exact hkk), c, newOff _ (Nat.le_of_lt (cellGe y c (mem_of_lookup hc))), hc, ?_⟩
          rw [bindC_on names vs _ y v hnd hv (by rw [eK, hkk]; simp)] at this
          exact this
      · rcases List.mem_append.mp hb with hb | hb
        · exact .inr (newM b hb)
        · exact .inl hb
  have hB' := hB L
  rw [hEe] at hB'
  refine hB' M _ _ _ _ inM' (fun b hb => nomatch hb) F trivial fun v s' p' r' => ?_
  refine h v s' (StpW.toS (W := wr true envc) (p1.toW.trans (p'.mono fun b hb => ?_)) newM) r'
  rcases List.mem_append.mp hb with hb | hb
  · cases hb
  · exact hb
end
end Mine

end

/-! # text R1 -/
section
open PySem PySem.Sre
set_option maxRecDepth 100000
set_option linter.unusedVariables false
set_option linter.unusedSimpArgs false
namespace Mine

theorem runFor_done {m : M} (h : m.outcome.isSome = true) : ∀ n, M.runFor n m = m
  | 0 => rfl
  | n + 1 => by unfold M.runFor; rw [if_pos h]
theorem runFor_succ {m : M} (h : m.outcome.isSome = false) (n : Nat) : M.runFor (n + 1) m = M.runFor n m.step := by
  show (if m.outcome.isSome then m else M.runFor n m.step) = _
  rw [h]; rfl
theorem runFor_add : ∀ (a b : Nat) (m : M), M.runFor (a + b) m = M.runFor b (M.runFor a m)
  | 0, b, m => by simp [M.runFor]
  | a + 1, b, m => by
    rw [show a + 1 + b = (a + b) + 1 by omega]
    cases h : m.outcome.isSome with
    | true => rw [runFor_done h, runFor_done h, runFor_done h]
    | false => rw [runFor_succ h, runFor_succ h]; exact runFor_add a b _

/-- after at most n steps the machine has come to an end, this one -/
def EndsIn (m : M) (n : Nat) (P : M → Prop) : Prop := ∃ k, k ≤ n ∧ (M.runFor k m).outcome.isSome = true ∧ P (M.runFor k m)
theorem EndsIn.now {m : M} {n : Nat} {P : M → Prop} (h : m.outcome.isSome = true) (hp : P m) : EndsIn m n P := ⟨0, Nat.zero_le _, h, hp⟩
theorem EndsIn.step {m m' : M} {n : Nat} {P : M → Prop} (h : m.outcome.isSome = false) (e : m.step = m') (hp : EndsIn m' n P) : EndsIn m (n + 1) P := by
  obtain ⟨k, h1, h2, h3⟩ := hp
  have e : M.runFor (k + 1) m = M.runFor k m' := by rw [runFor_succ h, e]
  exact ⟨k + 1, by omega, by rw [e]; exact h2, by rw [e]; exact h3⟩
theorem EndsIn.mono {m : M} {n n' : Nat} {P : M → Prop} (h : EndsIn m n P) (hn : n ≤ n') : EndsIn m n' P := by
  obtain ⟨k, h1, h2, h3⟩ := h
  exact ⟨k, by omega, h2, h3⟩

def code1 : Array Nat := #[14, 4, 0, 1, 1, 6, 1, 16, 46, 1]
def code2 : Array Nat := #[14, 9, 4, 1, 2, 16, 10, 16, 13, 0, 7, 7, 16, 13, 16, 10, 15, 18, 5, 16, 10, 15, 13, 11, 16, 13, 5, 5, 0, 16, 10, 1, 15, 2, 0, 1]

def Got (a b : Nat) (m : M) : Prop := m.outcome = some .matched ∧ m.start = a ∧ m.handed = b
def Lost (m : M) : Prop := m.outcome = some .failed

/-- the machine of the first pattern at a place: pc, where, what it answers -/
def m1 (t : Array Nat) (s : Nat) (o : Bool) (sn : Seen) (pc pos handed : Nat) (ans : Option Bool) : M := { code := code1, text := t, lim := t.size, start := s, lastStart := t.size, pc, pos, handed, outermost := o, marks := #[], frames := [{ wait := .nextStart, pc := 5, pos := s, outermost := o }], weight := 1, seen := sn, answer := ans }

theorem step1_fail {t : Array Nat} {s : Nat} {o : Bool} {sn : Seen} (h0 : s ≠ 0) (h1 : t.getD (s - 1) 0 ≠ 10) : (m1 t s o sn 5 s s none).step = m1 t s o ((sn.add 6).add 44) 5 s s (some false) := by
  simp only [Array.getD_eq_getD_getElem?] at h1
  simp [M.step, m1, M.exec, M.word, code1, ops, M.isAt, h0, h1, M.say]
theorem step1_ok {t : Array Nat} {s : Nat} {o : Bool} {sn : Seen} (h1 : s = 0 ∨ t.getD (s - 1) 0 = 10) : (m1 t s o sn 5 s s none).step = m1 t s o ((sn.add 6).add 44) 7 s s none := by
  simp only [Array.getD_eq_getD_getElem?] at h1
  simp [M.step, m1, M.exec, M.word, code1, ops, M.isAt, h1, M.say]
theorem step1_end {t : Array Nat} {s : Nat} {o : Bool} {sn : Seen} (h1 : t.size ≤ s) : (m1 t s o sn 7 s s none).step = m1 t s o (sn.add 16) 7 s s (some false) := by
  simp [M.step, m1, M.exec, M.word, code1, ops, M.isAt, h1, M.say]
theorem step1_other {t : Array Nat} {s : Nat} {o : Bool} {sn : Seen} (h1 : s < t.size) (h2 : t.getD s 0 ≠ 46) : (m1 t s o sn 7 s s none).step = m1 t s o (sn.add 16) 7 s s (some false) := by
  simp only [Array.getD_eq_getD_getElem?] at h2
  have h3 : (t[s]?.getD 0 == 46) = false := by simpa using h2
  simp [M.step, m1, M.exec, M.word, code1, ops, M.isAt, Nat.not_le.mpr h1, M.say, accepts, h3]
theorem step1_dot {t : Array Nat} {s : Nat} {o : Bool} {sn : Seen} (h1 : s < t.size) (h2 : t.getD s 0 = 46) : (m1 t s o sn 7 s s none).step = m1 t s o (sn.add 16) 9 (s + 1) s none := by
  simp only [Array.getD_eq_getD_getElem?] at h2
  simp [M.step, m1, M.exec, M.word, code1, ops, M.isAt, Nat.not_le.mpr h1, M.say, accepts, h2, itemWidth]
theorem step1_success {t : Array Nat} {s : Nat} {o : Bool} {sn : Seen} : (m1 t s o sn 9 (s + 1) s none).step = m1 t s o (sn.add 1) 9 (s + 1) (s + 1) (some true) := by
  simp [M.step, m1, M.exec, M.word, code1, ops, M.isAt, M.say]
theorem step1_next {t : Array Nat} {s pc pos hd : Nat} {o : Bool} {sn : Seen} (h : s < t.size) : (m1 t s o sn pc pos hd (some false)).step = m1 t (s + 1) false sn 5 (s + 1) (s + 1) none := by
  simp [M.step, m1, M.resume, h, M.attemptFrom, M.hasFirstSet, code1, ops, M.putBack, M.attemptAt, M.attempt]
theorem step1_last {t : Array Nat} {s pc pos hd : Nat} {o : Bool} {sn : Seen} (h : t.size ≤ s) : (m1 t s o sn pc pos hd (some false)).step.step.outcome = some .failed ∧ (m1 t s o sn pc pos hd (some false)).step.outcome = none := by
  simp [M.step, m1, M.resume, Nat.not_lt.mpr h, code1, ops, M.putBack, M.say]
theorem step1_won {t : Array Nat} {s pc pos hd : Nat} {o : Bool} {sn : Seen} : Got s hd (m1 t s o sn pc pos hd (some true)).step.step ∧ (m1 t s o sn pc pos hd (some true)).step.outcome = none := by
  simp [M.step, m1, M.resume, code1, ops, M.putBack, M.say, Got]
theorem out1 {t : Array Nat} {s pc pos hd : Nat} {o : Bool} {sn : Seen} {ans : Option Bool} : (m1 t s o sn pc pos hd ans).outcome.isSome = false := rfl

/-- a line begins at s with a dot -/
def Dot (t : Array Nat) (s : Nat) : Prop := (s = 0 ∨ t.getD (s - 1) 0 = 10) ∧ t.getD s 0 = 46
theorem run1_lost (t : Array Nat) : ∀ (k s : Nat) (o : Bool) (sn : Seen), s + k = t.size → (∀ i, s ≤ i → i < t.size → ¬Dot t i) → EndsIn (m1 t s o sn 5 s s none) (3 * k + 6) Lost
  | k, s, o, sn, hk, h => by
    have fin : ∀ sn', EndsIn (m1 t s o sn' 5 s s (some false)) (3 * k + 5) Lost ∧ ∀ sn', EndsIn (m1 t s o sn' 7 s s (some false)) (3 * k + 4) Lost := fun sn' => by
      cases k with
      | zero => exact ⟨by
          have := step1_last (t := t) (s := s) (pc := 5) (pos := s) (hd := s) (o := o) (sn := sn') (by omega)
          exact ((EndsIn.now (n := 0) (P := Lost) (by rw [this.1]; rfl) this.1).step (m := (m1 t s o sn' 5 s s (some false)).step) (by rw [this.2]; rfl) rfl).step out1 rfl |>.mono (by omega), fun sn' => by
          have := step1_last (t := t) (s := s) (pc := 7) (pos := s) (hd := s) (o := o) (sn := sn') (by omega)
          exact ((EndsIn.now (n := 0) (P := Lost) (by rw [this.1]; rfl) this.1).step (m := (m1 t s o sn' 7 s s (some false)).step) (by rw [this.2]; rfl) rfl).step out1 rfl |>.mono (by omega)⟩
      | succ k => 
        have ih := fun sn' => run1_lost t k (s + 1) false sn' (by omega) fun i h1 h2 => h i (by omega) h2
        exact ⟨((ih sn').step out1 (step1_next (by omega))).mono (by omega), fun sn' => ((ih sn').step out1 (step1_next (by omega))).mono (by omega)⟩
    by_cases h1 : s = 0 ∨ t.getD (s - 1) 0 = 10
    · refine .step out1 (step1_ok h1) ?_
      by_cases h2 : s < t.size
      · have h3 : t.getD s 0 ≠ 46 := fun q => h s (Nat.le_refl _) h2 ⟨h1, q⟩
        exact .step out1 (step1_other h2 h3) ((fin sn).2 _)
      · exact .step out1 (step1_end (by omega)) ((fin sn).2 _)
    · simp only [not_or] at h1
      exact .step out1 (step1_fail h1.1 h1.2) (fin _).1
theorem run1_got (t : Array Nat) : ∀ (k s : Nat) (o : Bool) (sn : Seen), s + k < t.size → (∀ i, s ≤ i → i < s + k → ¬Dot t i) → Dot t (s + k) → EndsIn (m1 t s o sn 5 s s none) (3 * k + 5) (Got (s + k) (s + k + 1))
  | 0, s, o, sn, hk, h, hd => by
    refine .step out1 (step1_ok hd.1) (.step out1 (step1_dot hk hd.2) (.step out1 step1_success ?_))
    have := step1_won (t := t) (s := s) (pc := 9) (pos := s + 1) (hd := s + 1) (o := o) (sn := (((sn.add 6).add 44).add 16).add 1)
    exact ((EndsIn.now (n := 0) (P := Got s (s + 1)) (by rw [this.1.1]; rfl) this.1).step (by rw [this.2]; rfl) rfl).step out1 rfl
  | k + 1, s, o, sn, hk, h, hd => by
    have ih := fun sn' => run1_got t k (s + 1) false sn' (by omega) (fun i h1 h2 => h i (by omega) (by omega)) (by rw [show s + 1 + k = s + (k + 1) by omega]; exact hd)
    rw [show s + 1 + k = s + (k + 1) by omega] at ih
    by_cases h1 : s = 0 ∨ t.getD (s - 1) 0 = 10
    · refine .step out1 (step1_ok h1) ?_
      have h2 : s < t.size := by omega
      have h3 : t.getD s 0 ≠ 46 := fun q => h s (Nat.le_refl _) (by omega) ⟨h1, q⟩
      exact (EndsIn.step out1 (step1_other h2 h3) ((ih _).step out1 (step1_next h2))).mono (by omega)
    · simp only [not_or] at h1
      exact (EndsIn.step out1 (step1_fail h1.1 h1.2) ((ih _).step out1 (step1_next (by omega)))).mono (by omega)

theorem search1 {t : Array Nat} {p : Nat} (hp : p < t.size) : forSearch code1 t 0 p t.size false = m1 t p true (({} : Seen).add 14) 5 p p none := by
  have h1 : ¬(p > t.size) := by omega
  have h2 : ¬(t.size - p < 1) := by omega
  have e : forSearch code1 t 0 p t.size false = if p > t.size || t.size - p < 1 then M.say (m1 t p true (({} : Seen).add 14) 5 p p none) false else m1 t p true (({} : Seen).add 14) 5 p p none := by
    show (if p > t.size || t.size - p < 1 then _ else _) = _
    split
    · rename_i h; simp [h1, h2] at h
    · rfl
  rw [e]
  simp [h1, h2]
theorem search1_end {t : Array Nat} {p : Nat} (hp : t.size ≤ p) : (forSearch code1 t 0 p t.size false).outcome = none ∧ (forSearch code1 t 0 p t.size false).step.outcome = some .failed := by
  have h2 : (p > t.size || t.size - p < 1) = true := by simp; omega
  have e : forSearch code1 t 0 p t.size false = if p > t.size || t.size - p < 1 then forSearch code1 t 0 p t.size false else forSearch code1 t 0 p t.size false := by split <;> rfl
  have e2 : ∃ m : M, forSearch code1 t 0 p t.size false = M.say m false ∧ m.outcome = none ∧ m.frames = [] := by
    refine ⟨_, if_pos h2, rfl, rfl⟩
  obtain ⟨m, e3, e4, e5⟩ := e2
  rw [e3]
  exact ⟨e4, by simp [M.step, M.say, e4, e5]⟩
end Mine

end

/-! # text R2 -/
section
open PySem PySem.Sre
set_option maxRecDepth 100000
set_option linter.unusedVariables false
set_option linter.unusedSimpArgs false
namespace Mine

def m2 (t : Array Nat) (s : Nat) (sn : Seen) : M := { code := code2, text := t, lim := t.size, start := s, lastStart := t.size, pc := 10, pos := s, handed := s, outermost := true, marks := #[], frames := [{ wait := .nextStart, pc := 10, pos := s, outermost := true }], weight := 1, seen := sn }

theorem EndsIn.won {m : M} {a b : Nat} (h1 : m.outcome = none) (h2 : Got a b m.step) : EndsIn m 1 (Got a b) :=
  ((EndsIn.now (n := 0) (P := Got a b) (by rw [h2.1]; rfl) h2).step (by rw [h1]; rfl) rfl)

theorem EndsIn.stepE {m : M} {n : Nat} {P : M → Prop} {f : Seen → M} (h : m.outcome.isSome = false) (e : ∃ sn, m.step = f sn) (hp : ∀ sn, EndsIn (f sn) n P) : EndsIn m (n + 1) P :=
  let ⟨sn, e⟩ := e; EndsIn.step h e (hp sn)

theorem run2_rn (t : Array Nat) {s : Nat} {sn : Seen} (h0 : s + 1 < t.size) (h1 : t.getD s 0 = 13) (h2 : t.getD (s + 1) 0 = 10) : EndsIn (m2 t s sn) 20 (Got s (s + 2)) := by
  simp only [Array.getD_eq_getD_getElem?] at h1 h2
  have hs : s < t.size := by omega
  have hs' : ¬ t.size ≤ s := by omega
  have hs2 : ¬ t.size ≤ s + 1 := by omega
  refine EndsIn.mono (n := 8) ?_ (by omega)
  refine EndsIn.step (by rfl) (by simp [M.step, m2, M.exec, M.word, code2, ops, M.alternative, M.say, M.attempt, M.frame, M.keep]; rfl) ?_
  refine EndsIn.step (by rfl) (by simp [M.step, M.exec, M.word, code2, ops, M.say, accepts, itemWidth, h1, h2, hs', hs2]; rfl) ?_
  refine EndsIn.step (by rfl) (by simp [M.step, M.exec, M.word, code2, ops, M.say, accepts, itemWidth, h1, h2, hs', hs2]; rfl) ?_
  refine EndsIn.step (by rfl) (by simp [M.step, M.exec, M.word, code2, ops, M.say, accepts, itemWidth]; rfl) ?_
  refine EndsIn.step (by rfl) (by simp [M.step, M.exec, M.word, code2, ops, M.say, accepts, itemWidth]; rfl) ?_
  refine EndsIn.step (by rfl) (by simp [M.step, M.resume, M.putBack, M.say]; rfl) ?_
  refine EndsIn.step (by rfl) (by simp [M.step, M.resume, M.putBack, M.say]; rfl) ?_
  exact EndsIn.won rfl (by simp [M.step, Got])
theorem run2_n (t : Array Nat) {s : Nat} {sn : Seen} (h0 : s < t.size) (h1 : t.getD s 0 = 10) : EndsIn (m2 t s sn) 20 (Got s (s + 1)) := by
  simp only [Array.getD_eq_getD_getElem?] at h1
  have hs' : ¬ t.size ≤ s := by omega
  have h13 : (t[s]?.getD 0 == 13) = false := by rw [h1]; rfl
  refine EndsIn.mono (n := 9) ?_ (by omega)
  refine EndsIn.step (by rfl) (by simp [M.step, m2, M.exec, M.word, code2, ops, M.alternative, M.say, M.attempt, M.frame, M.keep]; rfl) ?_
  refine EndsIn.step (by rfl) (by simp [M.step, M.exec, M.word, code2, ops, M.say, accepts, itemWidth, h13, hs']; rfl) ?_
  refine EndsIn.step (by rfl) (by simp [M.step, M.resume, M.putBack, M.say, M.alternative, M.attempt, M.frame, code2]; rfl) ?_
  refine EndsIn.step (by rfl) (by simp [M.step, M.exec, M.word, code2, ops, M.say, accepts, itemWidth, h1, hs']; rfl) ?_
  refine EndsIn.step (by rfl) (by simp [M.step, M.exec, M.word, code2, ops, M.say, accepts, itemWidth]; rfl) ?_
  refine EndsIn.step (by rfl) (by simp [M.step, M.exec, M.word, code2, ops, M.say, accepts, itemWidth]; rfl) ?_
  refine EndsIn.step (by rfl) (by simp [M.step, M.resume, M.putBack, M.say]; rfl) ?_
  refine EndsIn.step (by rfl) (by simp [M.step, M.resume, M.putBack, M.say]; rfl) ?_
  exact EndsIn.won rfl (by simp [M.step, Got])
theorem run2_r (t : Array Nat) {s : Nat} {sn : Seen} (h0 : s < t.size) (h1 : t.getD s 0 = 13) (h2 : t.getD (s + 1) 0 ≠ 10) : EndsIn (m2 t s sn) 20 (Got s (s + 1)) := by
  simp only [Array.getD_eq_getD_getElem?] at h1 h2
  have hs' : ¬ t.size ≤ s := by omega
  have h13 : (t[s]?.getD 0 == 10) = false := by rw [h1]; rfl
  have h10 : (t[s + 1]?.getD 0 == 10) = false := by simpa using h2
  refine EndsIn.mono (n := 15) ?_ (by omega)
  refine EndsIn.step (by rfl) (by simp [M.step, m2, M.exec, M.word, code2, ops, M.alternative, M.say, M.attempt, M.frame, M.keep]; rfl) ?_
  refine EndsIn.step (by rfl) (by simp [M.step, M.exec, M.word, code2, ops, M.say, accepts, itemWidth, h1, hs']; rfl) ?_
  have fail : ∀ (m : M), m.code = code2 → m.text = t → m.lim = t.size → m.pos = s + 1 → (m.pc = 14 ∨ m.pc = 29) → m.answer = none → m.outcome = none → ∃ sn', m.step = { m with seen := sn', answer := some false } := fun m e1 e2 e3 e4 e5 e6 e7 => by
    obtain ⟨code, text, lim, start, lastStart, wholeText, mustAdvance, pc, pos, handed, outermost, marks, lastmark, lastindex, loops, inner, frames, weight, answer, seen, outcome⟩ := m
    simp only at e1 e2 e3 e4 e5 e6 e7
    subst e1 e2 e3 e4 e6 e7
    by_cases q : text.size ≤ s + 1
    · rcases e5 with rfl | rfl
      · exact ⟨_, by simp [M.step, M.exec, M.word, code2, ops, M.say, accepts, itemWidth, q]; rfl⟩
      · exact ⟨_, by simp [M.step, M.exec, M.word, code2, ops, M.say, accepts, itemWidth, q]; rfl⟩
    · rcases e5 with rfl | rfl
      · exact ⟨_, by simp [M.step, M.exec, M.word, code2, ops, M.say, accepts, itemWidth, q, h10]; rfl⟩
      · exact ⟨_, by simp [M.step, M.exec, M.word, code2, ops, M.say, accepts, itemWidth, q, h10]; rfl⟩
  refine EndsIn.stepE (by rfl) (fail _ rfl rfl rfl rfl (.inl rfl) rfl rfl) fun sn1 => ?_
  refine EndsIn.step (by rfl) (by simp [M.step, M.resume, M.putBack, M.say, M.alternative, M.attempt, M.frame, code2]; rfl) ?_
  refine EndsIn.step (by rfl) (by simp [M.step, M.exec, M.word, code2, ops, M.say, accepts, itemWidth, h13, hs']; rfl) ?_
  refine EndsIn.step (by rfl) (by simp [M.step, M.resume, M.putBack, M.say, M.alternative, M.attempt, M.frame, code2]; rfl) ?_
  refine EndsIn.step (by rfl) (by simp [M.step, M.exec, M.word, code2, ops, M.say, accepts, itemWidth, h1, hs']; rfl) ?_
  refine EndsIn.step (by rfl) (by simp [M.step, M.exec, M.word, code2, ops, M.say, accepts, itemWidth, M.attempt, M.frame, M.keep]; rfl) ?_
  refine EndsIn.stepE (by rfl) (fail _ rfl rfl rfl rfl (.inr rfl) rfl rfl) fun sn2 => ?_
  refine EndsIn.step (by rfl) (by simp [M.step, M.resume, M.putBack, M.say, M.alternative, M.attempt, M.frame, M.word, code2]; rfl) ?_
  refine EndsIn.step (by rfl) (by simp [M.step, M.exec, M.word, code2, ops, M.say, accepts, itemWidth]; rfl) ?_
  refine EndsIn.step (by rfl) (by simp [M.step, M.exec, M.word, code2, ops, M.say, accepts, itemWidth]; rfl) ?_
  refine EndsIn.step (by rfl) (by simp [M.step, M.resume, M.putBack, M.say]; rfl) ?_
  refine EndsIn.step (by rfl) (by simp [M.step, M.resume, M.putBack, M.say]; rfl) ?_
  exact EndsIn.won rfl (by simp [M.step, Got])

/-! ## the search -/
def Nl (t : Array Nat) (i : Nat) : Prop := t.getD i 0 = 10 ∨ t.getD i 0 = 13
theorem inSet2 (c : Nat) (sn : Seen) : ∃ sn', inSet code2 c code2.size 5 true sn = .ok (c == 10 || c == 13, sn') := by
  by_cases h1 : c = 10
  · subst h1; exact ⟨_, by simp [inSet, code2, ops]; rfl⟩
  · by_cases h2 : c = 13
    · subst h2; exact ⟨_, by simp [inSet, code2, ops]; rfl⟩
    · exact ⟨_, by simp [inSet, code2, ops, h1, h2]; rfl⟩
theorem admitted_got {m : M} (hc : m.code = code2) (hl : m.lim = m.text.size) : ∀ (k s fuel : Nat) (sn : Seen), k < fuel → s + k < m.text.size → (∀ i, s ≤ i → i < s + k → ¬Nl m.text i) → Nl m.text (s + k) → ∃ sn', M.admitted m fuel s sn = .ok (some (s + k), sn')
  | k, s, 0, sn, hf, _, _, _ => by omega
  | 0, s, fuel + 1, sn, hf, hs, hn, hy => by
    obtain ⟨sn', e⟩ := inSet2 (m.text.getD s 0) sn
    have : (m.text.getD s 0 == 10 || m.text.getD s 0 == 13) = true := by
      rcases hy with h | h <;> simp only [Nat.add_zero] at h <;> rw [h] <;> rfl
    rw [this] at e
    refine ⟨sn', ?_⟩
    unfold M.admitted
    rw [if_neg (by rw [hl]; simpa using hs), hc, e]
    rfl
  | k + 1, s, fuel + 1, sn, hf, hs, hn, hy => by
    obtain ⟨sn', e⟩ := inSet2 (m.text.getD s 0) sn
    have h0 := hn s (Nat.le_refl _) (by omega)
    unfold Nl at h0
    have : (m.text.getD s 0 == 10 || m.text.getD s 0 == 13) = false := by
      simp only [not_or] at h0
      rw [beq_eq_false_iff_ne.mpr h0.1, beq_eq_false_iff_ne.mpr h0.2]; rfl
    rw [this] at e
    obtain ⟨sn2, e2⟩ := admitted_got hc hl k (s + 1) fuel sn' (by omega) (by omega) (fun i h1 h2 => hn i (by omega) (by omega)) (by rw [show s + 1 + k = s + (k + 1) by omega]; exact hy)
    refine ⟨sn2, ?_⟩
    unfold M.admitted
    rw [if_neg (by rw [hl]; omega), hc, e]
    show M.admitted m fuel (s + 1) sn' = _
    rw [e2, show s + 1 + k = s + (k + 1) by omega]
theorem admitted_lost {m : M} (hc : m.code = code2) (hl : m.lim = m.text.size) : ∀ (fuel s : Nat) (sn : Seen), (∀ i, s ≤ i → i < m.text.size → ¬Nl m.text i) → ∃ sn', M.admitted m fuel s sn = .ok (none, sn')
  | 0, s, sn, hn => ⟨sn, rfl⟩
  | fuel + 1, s, sn, hn => by
    unfold M.admitted
    by_cases hs : s ≥ m.lim
    · rw [if_pos hs]; exact ⟨sn, rfl⟩
    · rw [if_neg hs, hc]
      obtain ⟨sn', e⟩ := inSet2 (m.text.getD s 0) sn
      have h0 := hn s (Nat.le_refl _) (by omega)
      unfold Nl at h0
      have : (m.text.getD s 0 == 10 || m.text.getD s 0 == 13) = false := by
        simp only [not_or] at h0
        rw [beq_eq_false_iff_ne.mpr h0.1, beq_eq_false_iff_ne.mpr h0.2]; rfl
      rw [this] at e
      rw [e]
      exact admitted_lost hc hl fuel (s + 1) sn' fun i h1 h2 => hn i (by omega) h2

/-- before the first attempt -/
def b2 (t : Array Nat) (p : Nat) : M := { code := code2, text := t, lim := t.size, start := p, lastStart := t.size, pc := 10, pos := p, handed := p, marks := #[], seen := ({} : Seen).add 14 }
theorem search2_eq {t : Array Nat} {p : Nat} (hp : p < t.size) : forSearch code2 t 0 p t.size false = (b2 t p).attemptFrom p true := by
  have h1 : ¬(p > t.size) := by omega
  have h2 : ¬(t.size - p < 1) := by omega
  have e : forSearch code2 t 0 p t.size false = if p > t.size || t.size - p < 1 then forSearch code2 t 0 p t.size false else (b2 t p).attemptFrom p true := by
    split
    · rfl
    · rename_i h
      refine (if_neg h).trans rfl
  rw [e]
  simp [h1, h2]
theorem search2_end {t : Array Nat} {p : Nat} (hp : t.size ≤ p) : EndsIn (forSearch code2 t 0 p t.size false) 1 Lost := by
  have h2 : (p > t.size || t.size - p < 1) = true := by simp; omega
  have e2 : ∃ m : M, forSearch code2 t 0 p t.size false = M.say m false ∧ m.outcome = none ∧ m.frames = [] := by
    refine ⟨_, if_pos h2, rfl, rfl⟩
  obtain ⟨m, e3, e4, e5⟩ := e2
  rw [e3]
  have : (M.say m false).step.outcome = some .failed := by simp [M.step, M.say, e4, e5]
  exact (EndsIn.now (n := 0) (P := Lost) (by rw [this]; rfl) this).step (by show m.outcome.isSome = false; rw [e4]; rfl) rfl
theorem attemptFrom2 {t : Array Nat} {p : Nat} : (b2 t p).attemptFrom p true = match M.admitted (b2 t p) (t.size + 1 - p) p (b2 t p).seen with
  | .ok (some s, seen) => M.attemptAt { b2 t p with mustAdvance := false, seen } s true
  | .ok (none, seen) => M.say { b2 t p with seen } false
  | .error why => M.stick (b2 t p) why := rfl

theorem search2_got {t : Array Nat} {p k : Nat} (hk : p + k < t.size) (hn : ∀ i, p ≤ i → i < p + k → ¬Nl t i) (hy : Nl t (p + k)) :
    EndsIn (forSearch code2 t 0 p t.size false) 20 (Got (p + k) (if t.getD (p + k) 0 = 13 ∧ p + k + 1 < t.size ∧ t.getD (p + k + 1) 0 = 10 then p + k + 2 else p + k + 1)) := by
  rw [search2_eq (by omega), attemptFrom2]
  obtain ⟨sn, e⟩ := admitted_got (m := b2 t p) rfl rfl k p (t.size + 1 - p) (b2 t p).seen (by omega) hk hn hy
  rw [e]
  show EndsIn (m2 t (p + k) sn) 20 _
  by_cases h : t.getD (p + k) 0 = 13 ∧ p + k + 1 < t.size ∧ t.getD (p + k + 1) 0 = 10
  · rw [if_pos h]; exact run2_rn t h.2.1 h.1 h.2.2
  · rw [if_neg h]
    rcases hy with h1 | h1
    · exact run2_n t hk h1
    · refine run2_r t hk h1 fun q => h ⟨h1, ?_, q⟩
      rcases Nat.lt_or_ge (p + k + 1) t.size with l | l
      · exact l
      · rw [Array.getD_eq_getD_getElem?, Array.getElem?_eq_none l] at q; cases q
theorem search2_lost {t : Array Nat} {p : Nat} (hn : ∀ i, p ≤ i → i < t.size → ¬Nl t i) : EndsIn (forSearch code2 t 0 p t.size false) 1 Lost := by
  by_cases hp : p < t.size
  · rw [search2_eq hp, attemptFrom2]
    obtain ⟨sn, e⟩ := admitted_lost (m := b2 t p) rfl rfl (t.size + 1 - p) p (b2 t p).seen hn
    rw [e]
    have : (M.say { b2 t p with seen := sn } false).step.outcome = some .failed := by simp [M.step, M.say, b2]
    exact (EndsIn.now (n := 0) (P := Lost) (by rw [this]; rfl) this).step rfl rfl
  · exact search2_end (by omega)

theorem search1_got {t : Array Nat} {p k : Nat} (hk : p + k < t.size) (hn : ∀ i, p ≤ i → i < p + k → ¬Dot t i) (hy : Dot t (p + k)) : EndsIn (forSearch code1 t 0 p t.size false) (3 * t.size + 6) (Got (p + k) (p + k + 1)) := by
  rw [search1 (by omega)]
  exact (run1_got t k p _ _ hk hn hy).mono (by omega)
theorem search1_lost {t : Array Nat} {p : Nat} (hn : ∀ i, p ≤ i → i < t.size → ¬Dot t i) : EndsIn (forSearch code1 t 0 p t.size false) (3 * t.size + 6) Lost := by
  by_cases hp : p < t.size
  · rw [search1 hp]
    exact (run1_lost t (t.size - p) p _ _ (by omega) hn).mono (by omega)
  · obtain ⟨h1, h2⟩ := search1_end (t := t) (p := p) (by omega)
    exact ((EndsIn.now (n := 0) (P := Lost) (by rw [h2]; rfl) h2).step (by rw [h1]; rfl) rfl).mono (by omega)
end Mine

end

/-! # text R3 -/
section
open PySem PySem.Spec PySem.Calls PyProof.Rows PySem.W PySem.Builtin PySem.Builtin.Re
set_option maxRecDepth 100000
set_option linter.unusedVariables false
set_option linter.unusedSimpArgs false
namespace Mine

section
variable {Mo : Model} {A : Around} {E : Value → Shared → Prop} {s : Shared}
theorem drive_wp {P : Sre.M → Prop} {Q : Sre.M → Shared → Prop} : ∀ (turns n : Nat) (m : Sre.M), EndsIn m n P → n ≤ 4 * turns → 0 < turns → (∀ m', m'.outcome.isSome = true → P m' → Q m' s) → wpAny Mo A (reDrive turns m) Q E s
  | 0, _, _, _, _, h, _ => absurd h (Nat.lt_irrefl _)
  | turns + 1, n, m, he, hn, _, hq => by
    obtain ⟨k, hk, h1, h2⟩ := he
    unfold reDrive
    show wpAny Mo A (if (Sre.M.runFor 4 m).outcome.isSome = true then pure (Sre.M.runFor 4 m) else (do rule "sre.turn"; reDrive turns (Sre.M.runFor 4 m))) Q E s
    by_cases hd : (Sre.M.runFor 4 m).outcome.isSome = true
    · rw [if_pos hd]
      refine wpAny_pure (hq _ hd ?_)
      by_cases hk4 : k ≤ 4
      · have e : Sre.M.runFor 4 m = Sre.M.runFor k m := by
          rw [show 4 = k + (4 - k) by omega, runFor_add, runFor_done h1]
        rw [e]; exact h2
      · have e : Sre.M.runFor k m = Sre.M.runFor 4 m := by
          rw [show k = 4 + (k - 4) by omega, runFor_add, runFor_done hd]
        rw [← e]; exact h2
    · rw [if_neg hd]
      have hk4 : 4 < k := by
        rcases Nat.lt_or_ge 4 k with q | q
        · exact q
        · exfalso
          apply hd
          rw [show 4 = k + (4 - k) by omega, runFor_add, runFor_done h1]; exact h1
      have e : Sre.M.runFor k m = Sre.M.runFor (k - 4) (Sre.M.runFor 4 m) := by rw [← runFor_add]; congr 1; omega
      refine wpAny_bind (wpAny_rule (drive_wp turns (n - 4) _ ⟨k - 4, by omega, by rw [← e]; exact h1, by rw [← e]; exact h2⟩ (by omega) (by omega) hq))

theorem rules_wp {b : Nat → Bool} {tag : Nat → String} {Q : PUnit → Shared → Prop} : ∀ (l : List Nat) (h : Q ⟨⟩ s), wpAny Mo A (forIn l PUnit.unit fun i _ => (if b i = true then (do rule (tag i); pure (ForInStep.yield PUnit.unit)) else pure (ForInStep.yield PUnit.unit) : Sem (ForInStep PUnit))) Q E s
  | [], h => wpAny_pure h
  | i :: l, h => by
    rw [List.forIn_cons]
    refine wpAny_bind ?_
    by_cases hb : b i = true
    · rw [if_pos hb]
      exact wpAny_bind (wpAny_rule (wpAny_pure (rules_wp l h)))
    · rw [if_neg hb]
      exact wpAny_pure (rules_wp l h)

theorem runToEnd_got {m : Sre.M} {n a b : Nat} {Q : Option Sre.M → Shared → Prop} (he : EndsIn m n (Got a b)) (hn : n ≤ 2 ^ 60) (hq : ∀ m', m'.start = a → m'.handed = b → Q (some m') s) : wpAny Mo A (reRunToEnd m) Q E s := by
  unfold reRunToEnd
  refine wpAny_bind (drive_wp (2 ^ 64) n m he (by omega) (by decide) fun m' h1 h2 => ?_)
  refine wpAny_bind ?_
  refine wpAny_mono (Q := fun _ s' => s' = s) (rules_wp (List.range Sre.names.size) rfl) (fun _ s' e => ?_) fun _ _ x => x
  subst e
  rw [h2.1]
  exact wpAny_pure (hq m' h2.2.1 h2.2.2)
theorem runToEnd_lost {m : Sre.M} {n : Nat} {Q : Option Sre.M → Shared → Prop} (he : EndsIn m n Lost) (hn : n ≤ 2 ^ 60) (hq : Q none s) : wpAny Mo A (reRunToEnd m) Q E s := by
  unfold reRunToEnd
  refine wpAny_bind (drive_wp (2 ^ 64) n m he (by omega) (by decide) fun m' h1 h2 => ?_)
  refine wpAny_bind ?_
  refine wpAny_mono (Q := fun _ s' => s' = s) (rules_wp (List.range Sre.names.size) rfl) (fun _ s' e => ?_) fun _ _ x => x
  subst e
  have h2' : m'.outcome = some .failed := h2
  rw [h2']
  exact wpAny_pure hq

/-! ## the pattern object -/
structure Pat (h : Heap) (p : Addr) (code : Array Nat) : Prop where
  obj : ∃ vs T its n n', h.get? p = some { cls := .type "re.Pattern", data := .fields vs } ∧ vs.getD 6 .none = rawInt 0 ∧ vs.getD 5 .none = .ref T ∧ vs.getD 2 .none = rawInt 0 ∧
    h.get? T = some { cls := .type "tuple", data := .seq its n } ∧ (its.map reRawOf).map (·.toNat) = code ∧ n' = n

theorem wholeTarget_wp {p : Addr} {code : Array Nat} {x : PySem.Str} {t : Tok} {Q : ReTarget → Shared → Prop} (hp : Pat s.heap p code) (hq : Q { pattern := .ref p, string := .str x t, code, text := x.cps, kind := 0, groups := 0, pos := 0, lim := x.cps.size } s) :
    wpAny Mo A (reWholeTarget (.ref p) (.str x t)) Q E s := by
  obtain ⟨vs, T, its, n, n', h1, h2, h3, h4, h5, h6, _⟩ := hp.obj
  unfold reWholeTarget
  refine wpAny_bind (wpAny_fieldsOf h1 rfl ?_)
  have e : reTextOf (.str x t) = pure (x.cps, 0) := rfl
  rw [e]
  refine wpAny_bind (wpAny_pure ?_)
  dsimp only
  rw [h2, h3, h4]
  have e2 : reNoCollectionInside (.str x t) 0 = pure () := rfl
  rw [e2]
  refine wpAny_bind (wpAny_pure ?_)
  unfold reRawItems
  refine wpAny_bind (wpAny_bind (wpAny_seqItems h5 rfl (wpAny_pure ?_)))
  show wpAny _ _ (pure _) _ _ _
  refine wpAny_pure ?_
  dsimp only [Option.getD_some]
  rw [h6]
  exact hq
end
end Mine

end

/-! # text R4 -/
section
open PySem PySem.Spec PySem.Calls PyProof.Rows PySem.W PySem.Builtin PySem.Builtin.Re
set_option maxRecDepth 100000
set_option linter.unusedVariables false
set_option linter.unusedSimpArgs false
namespace Mine

theorem entry_sub : entryFor table "re.Pattern.sub" = some Builtin.«re.Pattern.sub» := entryFor_of_tree (by kernel_rfl)
theorem entry_subloop : entryFor table "re.Pattern.sub.loop" = some Builtin.«re.Pattern.sub.loop» := entryFor_of_tree (by kernel_rfl)
theorem plain_sub : plainId "re.Pattern.sub" = true := by decide +kernel
theorem plain_subloop : plainId "re.Pattern.sub.loop" = true := by decide +kernel
theorem slot_sub : Slot "re.Pattern" "sub" "re.Pattern.sub" :=
  .of (owner := "re.Pattern") (n := "sub") (by rw [typeLookup_type, builtinLookup_eq_fast]; kernel_rfl) (by decide +kernel) (by decide +kernel) (by decide +kernel)
    (by first | exact .inl (by decide +kernel) | exact .inr (by decide +kernel)) (by rw [isSubtype_type]; kernel_rfl)
theorem type_sub : typeOf (.builtin "re.Pattern.sub") = pure (.type "method_descriptor") := by show builtinType _ = _; rw [builtinType_eq_fast]; kernel_rfl
theorem plainAttrs_pat : PlainAttrs "re.Pattern" :=
  ⟨⟨"object.__getattribute__", by rw [typeLookup_type, builtinLookup_eq_fast]; kernel_rfl, by decide +kernel⟩, by rw [typeLookup_type, builtinLookup_eq_fast]; kernel_rfl⟩
theorem args_sub (a b c : Value) : argsOk "re.Pattern.sub" ⟨[a, b, c], []⟩ := by unfold argsOk; kernel_rfl
theorem str_no_call : typeLookup (.type "str") "__call__" = pure none := by rw [typeLookup_type, builtinLookup_eq_fast]; kernel_rfl
end Mine

end

/-! # text R5 -/
section
open PySem PySem.Spec PySem.Calls PyProof.Rows PySem.W PySem.Builtin PySem.Builtin.Re
set_option maxRecDepth 100000
set_option linter.unusedVariables false
set_option linter.unusedSimpArgs false
namespace Mine

def sl (t : Array Nat) (a b : Nat) : PySem.Str := ⟨t.extract a b⟩
def gap (t : Array Nat) (a b : Nat) : List PySem.Str := if a < b then [sl t a b] else []
/-- what sub puts together from a place on -/
inductive Subs (code t : Array Nat) (repl : PySem.Str) : Nat → List PySem.Str → Prop
  | done {p n} : EndsIn (Sre.forSearch code t 0 p t.size false) n Lost → n ≤ 2 ^ 60 → Subs code t repl p (gap t p t.size)
  | more {p a b n l} : EndsIn (Sre.forSearch code t 0 p t.size false) n (Got a b) → n ≤ 2 ^ 60 → a < b → Subs code t repl b l → Subs code t repl p (gap t p a ++ repl :: l)

theorem strsAre_append {vs us : List Value} {ys zs : List PySem.Str} (h : StrsAre vs ys) (k : StrsAre us zs) : StrsAre (vs ++ us) (ys ++ zs) := by
  induction h with
  | nil => exact k
  | cons y t h ih => exact .cons y t ih
theorem strsAre_length {vs : List Value} {ys : List PySem.Str} (h : StrsAre vs ys) : vs.length = ys.length := by
  induction h with
  | nil => rfl
  | cons y t h ih => rw [List.length_cons, List.length_cons, ih]

section
variable {prog : Program} {w : World} {A : Around} {E : Value → Shared → Prop} {s : Shared} {R : Result → Shared → Prop}

theorem push_piece {D : Addr} {vs : List Value} {v : Value} {Q : Unit → Shared → Prop} {Mo : Model} (hl : s.heap.PlainList D (List.toArray vs)) (hz : vs.length ≤ 100000)
    (h : ∀ h', Heap.SameBut D s.heap h' → h'.PlainList D (List.toArray (vs ++ [v])) → Q () { s with heap := h' }) : wpAny Mo A (updateSeq D (·.push v)) Q E s := by
  obtain ⟨n, ho⟩ := hl
  have hz' : (List.toArray vs).size ≤ sizeLine := by rw [List.size_toArray]; exact Nat.le_trans hz (by decide)
  refine wpAny_updateSeq ho rfl (h _ (Heap.SameBut.update ..) ⟨n + 1, ?_⟩) hz' (by rw [Array.size_push, List.size_toArray]; exact Nat.le_trans (Nat.succ_le_succ hz) (by decide))
  rw [Heap.get?_update_self _ ho (by rw [Obj.mapSeq_push_plain]; rfl), Obj.mapSeq_push_plain]
  simp

theorem slice_wp' {t : Array Nat} {a b : Nat} {Q : Value → Shared → Prop} {Mo : Model} (hz : t.size ≤ 100000) (h : Q (.str (sl t a b) s.toks) { s with toks := s.toks + 1 }) : wpAny Mo A (reSlice t 0 a b) Q E s := by
  show wpAny Mo A (mkStr _) Q E s
  refine wpAny_mkStr h ?_
  show (t.extract a b).size ≤ _
  rw [Array.size_extract]
  exact Nat.le_trans (by omega : min b t.size - a ≤ 100000) (by decide)

/-- a piece between two places goes into the list, if it holds anything -/
theorem gap_wp {α : Type} {D : Addr} {t : Array Nat} {a b : Nat} {vs : List Value} {ys : List PySem.Str} {K : Sem α} {Q : α → Shared → Prop} {Mo : Model} (hl : s.heap.PlainList D (List.toArray vs)) (hs : StrsAre vs ys) (hz : vs.length ≤ 99999) (ht : t.size ≤ 100000)
    (h : ∀ h' tk us, Heap.SameBut D s.heap h' → h'.PlainList D (List.toArray us) → StrsAre us (ys ++ gap t a b) → wpAny Mo A K Q E { s with heap := h', toks := tk }) :
    wpAny Mo A (if a < b then (do let y ← reSlice t 0 a b; updateSeq D (·.push y); K) else K) Q E s := by
  unfold gap at h
  by_cases c : a < b
  · rw [if_pos c]
    rw [if_pos c] at h
    refine wpAny_bind (slice_wp' ht ?_)
    refine wpAny_bind (push_piece (s := { s with toks := s.toks + 1 }) hl (by omega) fun h' hs' hl' => ?_)
    exact h h' _ _ hs' hl' (strsAre_append hs (.cons _ _ .nil))
  · rw [if_neg c]
    rw [if_neg c] at h
    exact h s.heap s.toks vs (Heap.SameBut.refl _ _) hl (by simpa using hs)

theorem Pat.sameBut {h h' : Heap} {p D : Addr} {code : Array Nat} (x : Pat h p code) (hs : Heap.SameBut D h h') (hD : D ≠ p) (hT : ∀ T its n, h.get? T = some { cls := .type "tuple", data := .seq its n } → T ≠ D) : Pat h' p code := by
  obtain ⟨vs, T, its, n, n', h1, h2, h3, h4, h5, h6, h7⟩ := x.obj
  exact ⟨vs, T, its, n, n', hs.extBut _ _ (Ne.symm hD) h1, h2, h3, h4, hs.extBut _ _ (hT T its n h5) h5, h6, h7⟩
theorem noTup {h' : Heap} {D : Addr} {vs : List Value} (hl : h'.PlainList D (List.toArray vs)) : ∀ T its n, h'.get? T = some { cls := .type "tuple", data := .seq its n } → T ≠ D := fun T its n e q => by
  subst q
  obtain ⟨n', e'⟩ := hl
  rw [e] at e'
  have := congrArg (fun o => o.map Obj.cls) e'
  simp at this

theorem subloop {p D : Addr} {code : Array Nat} {x repl : PySem.Str} {tx tr : Tok} {at' : Nat} {l : List PySem.Str} (S : Subs code x.cps repl at' l) : ∀ (s : Shared) (n : Nat) (vs : List Value) (ys : List PySem.Str), Pat s.heap p code →
    s.heap.PlainList D (List.toArray vs) → StrsAre vs ys → D ≠ p → x.cps.size ≤ 100000 → ((ys ++ l).map (·.length)).sum + (ys ++ l).length ≤ 90000 →
    (∀ t' k h', Heap.SameBut D s.heap h' → R (.ok (.ret (.str (Txt.join Str.empty (ys ++ l)) t'))) { s with heap := h', toks := k }) →
    codeAny (model prog w) A (.builtin "re.Pattern.sub.loop" ⟨[.ref p, .str x tx, .str repl tr, rawInt 0, rawInt 0, rawInt n, rawInt at', rawInt at', .bool false, .ref D, .bool false], []⟩) R s := by
  induction S with
  | @done at' k he hk =>
    intro s n vs ys hp hl hs hD hx hw h
    have hlen : vs.length ≤ 90000 := by
      rw [strsAre_length hs]
      have : (ys ++ gap x.cps at' x.cps.size).length = ys.length + (gap x.cps at' x.cps.size).length := List.length_append
      omega
    refine codeAny_builtin entry_subloop ?_
    rw [Around.under_plainId plain_subloop _]
    show wpAny _ A.in1 (do
      let t ← reWholeTarget (.ref p) (.str x tx)
      _) _ _ _
    refine wpAny_bind (wholeTarget_wp hp ?_)
    show wpAny _ A.in1 (do pure (); _) _ _ _
    refine wpAny_bind (wpAny_pure ?_)
    refine wpAny_bind ?_
    show wpAny _ A.in1 (reNextFound _ _ false) _ _ _
    refine runToEnd_lost (m := Sre.forSearch code x.cps 0 at' x.cps.size false) he hk ?_
    dsimp only
    simp only [Int.toNat_natCast]
    refine gap_wp (t := x.cps) (a := at') (b := x.cps.size) hl hs (by omega) hx fun h' tk us hs' hl' hu => ?_
    refine wpAny_bind (slice_wp' hx ?_)
    obtain ⟨nD, eD⟩ := id hl'
    refine wpAny_bind (wpAny_seqItems eD rfl ?_)
    dsimp only [Option.getD_some]
    have e0 : sl x.cps 0 0 = Str.empty := by unfold sl; simp [Str.empty]
    by_cases c : us = []
    · subst c
      rw [if_pos (show (#[] : Array Value).isEmpty = true from rfl)]
      cases hy : ys ++ gap x.cps at' x.cps.size with
      | cons y r => rw [hy] at hu; cases hu
      | nil =>
        rw [hy] at h
        refine wpAny_bind (wpAny_pure ?_)
        show wpAny _ A.in1 (ret _) _ _ _
        refine wpAny_pure ?_
        rw [e0]
        have := h tk (tk + 1) h' hs'
        exact this
    · rw [if_neg (by cases us with | nil => exact absurd rfl c | cons a r => simp)]
      refine wpAny_bind ?_
      rw [e0]
      show wpAny _ A.in1 (call (.builtin "str.join") [.str Str.empty tk, .ref D]) _ _ _
      refine join_listW (items := List.toArray us) ⟨_, eD, rfl, _, rfl⟩ (by simpa using hu) (by decide) (by omega) fun t' k' => ?_
      show wpAny _ A.in1 (ret _) _ _ _
      exact wpAny_pure (h t' k' h' hs')
  | @more at' a b k l he hk hab S ih =>
    intro s n vs ys hp hl hs hD hx hw h
    have hlen : vs.length ≤ 90000 := by
      rw [strsAre_length hs]
      have : (ys ++ (gap x.cps at' a ++ repl :: l)).length = ys.length + ((gap x.cps at' a).length + (l.length + 1)) := by simp
      omega
    refine codeAny_builtin entry_subloop ?_
    rw [Around.under_plainId plain_subloop _]
    show wpAny _ A.in1 (do
      let t ← reWholeTarget (.ref p) (.str x tx)
      _) _ _ _
    refine wpAny_bind (wholeTarget_wp hp ?_)
    show wpAny _ A.in1 (do pure (); _) _ _ _
    refine wpAny_bind (wpAny_pure ?_)
    refine wpAny_bind ?_
    show wpAny _ A.in1 (reNextFound _ _ false) _ _ _
    refine runToEnd_got (m := Sre.forSearch code x.cps 0 at' x.cps.size false) he hk fun m hm1 hm2 => ?_
    dsimp only
    rw [hm1, hm2]
    simp only [Int.toNat_natCast]
    refine gap_wp (t := x.cps) (a := at') (b := a) hl hs (by omega) hx fun h' tk us hs' hl' hu => ?_
    show wpAny _ A.in1 (do let item ← pure (Value.str repl tr); _) _ _ _
    refine wpAny_bind (wpAny_pure ?_)
    have hus : us.length ≤ 99999 := by
      rw [strsAre_length hu, List.length_append]
      have := strsAre_length hs
      have : (gap x.cps at' a).length ≤ 1 := by unfold gap; split <;> simp
      omega
    show wpAny _ A.in1 (do updateSeq D (·.push (.str repl tr)); _) _ _ _
    refine wpAny_bind (push_piece (s := { s with heap := h', toks := tk }) hl' (by omega) fun h'' hs'' hl'' => ?_)
    refine wpAny_pure ⟨plainId_quiet plain_subloop _, ?_⟩
    have hb : (b == a) = false := beq_eq_false_iff_ne.mpr (by omega)
    rw [hb]
    have ht : ∀ vs, s.heap.PlainList D vs → True := fun _ _ => trivial
    refine ih { s with heap := h'', toks := tk } (n + 1) _ (ys ++ gap x.cps at' a ++ [repl]) ?_ hl'' (strsAre_append hu (.cons _ _ .nil)) hD hx ?_ ?_
    · exact (hp.sameBut hs' hD (noTup hl)).sameBut hs'' hD (noTup hl')
    · simpa using hw
    · intro t' k' h3 hs3
      have := h t' k' h3 ((hs'.trans hs'').trans hs3)
      simpa using this

theorem sub_wp' {p : Addr} {code : Array Nat} {x repl : PySem.Str} {tx tr : Tok} {l : List PySem.Str} {Q : Value → Shared → Prop} (S : Subs code x.cps repl 0 l) (hp : Pat s.heap p code) (h92 : repl.cps.contains 92 = false) (hx : x.cps.size ≤ 100000) (hw : (l.map (·.length)).sum + l.length ≤ 90000)
    (h : ∀ t' k h', (∀ b o, s.heap.get? b = some o → h'.get? b = some o) → Q (.str (Txt.join Str.empty l) t') { s with heap := h', toks := k }) :
    wpAny (model prog w) A (call (.builtin "re.Pattern.sub") [.ref p, .str repl tr, .str x tx]) Q E s := by
  have hT : s.TypeIs (.ref p) "re.Pattern" := by
    obtain ⟨vs, T, its, n, n', h1, _⟩ := hp.obj
    exact ⟨_, h1, rfl⟩
  refine wpAny_call (codeAny_call_builtin plain_sub entry_sub (slot_sub.check _ _ _ _ _ _ _ _ hT (args_sub _ _ _) ?_))
  show wpAny _ A.in1 (reSubstitute "re.Pattern.sub" "sub" false ⟨[.ref p, .str repl tr, .str x tx], []⟩) _ _ _
  unfold reSubstitute
  have e1 : reNamed "re.Pattern.sub" "sub" ["repl", "string", "count"] 2 [.str repl tr, .str x tx] [] = pure [some (.str repl tr), some (.str x tx), none] := rfl
  dsimp only
  rw [e1]
  refine wpAny_bind (wpAny_pure ?_)
  dsimp only
  show wpAny _ A.in1 (do let count ← pure (0 : Int); _) _ _ _
  refine wpAny_bind (wpAny_pure ?_)
  refine wpAny_bind (wpAny_specialOf (typeIs_str _ _ _) str_no_call ?_)
  simp only [Option.isSome_none, Bool.false_eq_true, if_false]
  refine wpAny_bind ?_
  show wpAny _ A.in1 (pure (some repl)) _ _ _
  refine wpAny_pure ?_
  dsimp only
  rw [h92]
  refine wpAny_bind (wpAny_pure ?_)
  simp only [Bool.not_false, if_true]
  show wpAny _ A.in1 (do let _ ← holding [.str repl tr] (reWholeTarget (.ref p) (.str x tx)); _) _ _ _
  refine wpAny_bind (wpAny_holding (wholeTarget_wp hp ?_))
  show wpAny _ A.in1 (do let l ← newList []; again _) _ _ _
  refine wpAny_bind (wpAny_newObj_type ?_)
  refine wpAny_pure ⟨plainId_quiet plain_subloop _, ?_⟩
  have hk : ∀ b o, s.heap.get? b = some o → (s.heap.push { cls := .type "list", data := .seq ([] : List Value).toArray }).get? b = some o := fun b o e => Heap.get?_push_of_some _ e
  obtain ⟨vs, T, its, n, n', h1, h2, h3, h4, h5, h6, h7⟩ := id hp.obj
  have hD : s.heap.objs.size ≠ p := Ne.symm (Nat.ne_of_lt (Heap.lt_size h1))
  refine subloop S _ 0 [] [] ⟨vs, T, its, n, n', hk _ _ h1, h2, h3, h4, hk _ _ h5, h6, h7⟩ ⟨_, Heap.get?_push_size _ rfl⟩ .nil hD hx (by simpa using hw) fun t' k h' hs => ?_
  refine h t' k h' fun b o e => hs.extBut b o ?_ (hk b o e)
  exact Nat.ne_of_lt (Heap.lt_size e)
end
end Mine

end

/-! # text R6 -/
section
open PySem PySem.Spec PySem.Calls PyProof.Rows PySem.W PySem.Builtin PySem.Builtin.Re
set_option maxRecDepth 100000
set_option linter.unusedVariables false
set_option linter.unusedSimpArgs false
namespace Mine

def fixEnds : List Nat → List Nat
  | [] => []
  | [c] => if c = 13 ∨ c = 10 then [13, 10] else [c]
  | c :: d :: r => if c = 13 ∧ d = 10 then 13 :: 10 :: fixEnds r else if c = 13 ∨ c = 10 then 13 :: 10 :: fixEnds (d :: r) else c :: fixEnds (d :: r)
def stuff : Bool → List Nat → List Nat
  | _, [] => []
  | b, c :: r => (if b = true ∧ c = 46 then [46, 46] else [c]) ++ stuff (c == 10) r

theorem least {P : Nat → Prop} : ∀ n, P n → ∃ k, k ≤ n ∧ P k ∧ ∀ j, j < k → ¬P j := by
  intro n
  induction n using Nat.strongRecOn with
  | _ n ih =>
    intro h
    by_cases c : ∃ j, j < n ∧ P j
    · obtain ⟨j, hj, hp⟩ := c
      obtain ⟨k, h1, h2, h3⟩ := ih j hj hp
      exact ⟨k, by omega, h2, h3⟩
    · exact ⟨n, Nat.le_refl _, h, fun j hj hp => c ⟨j, hj, hp⟩⟩

def flat (l : List PySem.Str) : List Nat := (l.map (·.cps.toList)).flatten
theorem sl_toList (t : Array Nat) (a b : Nat) : (sl t a b).cps.toList = (t.toList.drop a).take (b - a) := by
  unfold sl
  simp [List.take_drop, Array.toList_extract]
theorem flat_gap (t : Array Nat) {a b : Nat} (h : a ≤ b) : flat (gap t a b) = (t.toList.drop a).take (b - a) := by
  unfold gap flat
  split
  · simp [sl_toList]
  · have : b - a = 0 := by omega
    simp [this]
theorem drop_cons {L : List Nat} {p : Nat} (h : p < L.length) : L.drop p = L.getD p 0 :: L.drop (p + 1) := by
  rw [List.drop_eq_getElem_cons h, List.getD_eq_getElem?_getD, List.getElem?_eq_getElem h]; rfl
theorem getD_list (t : Array Nat) (i : Nat) : t.getD i 0 = t.toList.getD i 0 := by
  rw [Array.getD_eq_getD_getElem?, List.getD_eq_getElem?_getD, Array.getElem?_toList]

theorem fix_plain (L : List Nat) : ∀ (k p : Nat), p + k ≤ L.length → (∀ i, p ≤ i → i < p + k → ¬(L.getD i 0 = 10 ∨ L.getD i 0 = 13)) → fixEnds (L.drop p) = (L.drop p).take k ++ fixEnds (L.drop (p + k))
  | 0, p, _, _ => by simp
  | k + 1, p, hp, h => by
    have ih := fix_plain L k (p + 1) (by omega) fun i h1 h2 => h i (by omega) (by omega)
    have h0 := h p (Nat.le_refl _) (by omega)
    rw [drop_cons (by omega : p < L.length), List.take_succ_cons, List.cons_append]
    rw [show p + 1 + k = p + (k + 1) by omega] at ih
    rw [← ih]
    generalize L.getD p 0 = c at h0
    generalize L.drop (p + 1) = r
    simp only [not_or] at h0
    cases r with
    | nil => simp [fixEnds, h0.1, h0.2]
    | cons d r => simp [fixEnds, h0.1, h0.2]
theorem fixEnds_le : ∀ L : List Nat, (fixEnds L).length ≤ 2 * L.length
  | [] => by simp [fixEnds]
  | [c] => by unfold fixEnds; split <;> simp
  | c :: d :: r => by
    have h1 := fixEnds_le r
    have h2 := fixEnds_le (d :: r)
    simp only [List.length_cons] at h2 ⊢
    unfold fixEnds
    split
    · simp only [List.length_cons]; omega
    · split
      · simp only [List.length_cons]; omega
      · simp only [List.length_cons]; omega

def CRLFs : PySem.Str := "\r\n"
theorem crlf_list : CRLFs.cps.toList = [13, 10] := by decide
theorem subs2 (t : Array Nat) (ht : t.size ≤ 20000) : ∀ (m p : Nat), t.size - p ≤ m → p ≤ t.size → ∃ l, Subs code2 t CRLFs p l ∧ flat l = fixEnds (t.toList.drop p) ∧ l.length ≤ 2 * (t.size - p) + 1
  | m, p, hm, hp => by
    by_cases c : ∃ i, p ≤ i ∧ i < t.size ∧ Nl t i
    · obtain ⟨i₀, h1, h2, h3⟩ := c
      obtain ⟨k, hk, ⟨hk1, hk2⟩, hk3⟩ := least (P := fun k => p + k < t.size ∧ Nl t (p + k)) (i₀ - p) ⟨by omega, by rw [show p + (i₀ - p) = i₀ by omega]; exact h3⟩
      have hn : ∀ i, p ≤ i → i < p + k → ¬Nl t i := fun i a b q => hk3 (i - p) (by omega) ⟨by omega, by rw [show p + (i - p) = i by omega]; exact q⟩
      have he := search2_got hk1 hn hk2
      generalize hb : (if t.getD (p + k) 0 = 13 ∧ p + k + 1 < t.size ∧ t.getD (p + k + 1) 0 = 10 then p + k + 2 else p + k + 1) = b at he
      have hb0 : (b = p + k + 2 ∧ p + k + 1 < t.size) ∨ b = p + k + 1 := by
        by_cases q : t.getD (p + k) 0 = 13 ∧ p + k + 1 < t.size ∧ t.getD (p + k + 1) 0 = 10
        · rw [if_pos q] at hb; exact .inl ⟨hb.symm, q.2.1⟩
        · rw [if_neg q] at hb; exact .inr hb.symm
      have hb1 : p + k < b := by omega
      have hb2 : b ≤ t.size := by omega
      cases m with
      | zero => omega
      | succ m =>
        obtain ⟨l, hl, hf, hle⟩ := subs2 t ht m b (by omega) hb2
        refine ⟨_, .more he (by decide) hb1 hl, ?_, ?_⟩
        · have e1 := fix_plain t.toList k p (by simp; omega) fun i a b => by
            have := hn i a b
            unfold Nl at this
            rwa [getD_list] at this
          have e2 : flat (gap t p (p + k) ++ CRLFs :: l) = flat (gap t p (p + k)) ++ ([13, 10] ++ flat l) := by simp [flat, crlf_list]
          rw [e2, e1, flat_gap t (by omega), show p + k - p = k by omega, hf]
          congr 1
          have hlt : p + k < t.toList.length := by simpa using hk1
          rw [drop_cons hlt]
          unfold Nl at hk2
          rw [getD_list] at hk2
          by_cases q : t.getD (p + k) 0 = 13 ∧ p + k + 1 < t.size ∧ t.getD (p + k + 1) 0 = 10
          · rw [if_pos q] at hb
            obtain ⟨q1, q2, q3⟩ := q
            rw [drop_cons (p := p + k + 1) (by simpa using q2)]
            rw [getD_list] at q1 q3
            rw [q1, q3, ← hb]
            simp [fixEnds]
          · rw [if_neg q] at hb
            rw [← hb]
            by_cases q2 : p + k + 1 < t.size
            · have q' : ¬(t.toList.getD (p + k) 0 = 13 ∧ t.toList.getD (p + k + 1) 0 = 10) := fun z => q ⟨by rw [getD_list]; exact z.1, q2, by rw [getD_list]; exact z.2⟩
              rw [drop_cons (p := p + k + 1) (by simpa using q2)]
              generalize t.toList.getD (p + k) 0 = c at hk2 q'
              generalize t.toList.getD (p + k + 1) 0 = d at q'
              rw [show fixEnds (c :: d :: List.drop (p + k + 1 + 1) t.toList) = 13 :: 10 :: fixEnds (d :: List.drop (p + k + 1 + 1) t.toList) by
                rw [fixEnds, if_neg q', if_pos (Or.symm hk2)]]
              rfl
            · rw [List.drop_eq_nil_of_le (by simp; omega : t.toList.length ≤ p + k + 1)]
              rw [show fixEnds [t.toList.getD (p + k) 0] = [13, 10] by rw [fixEnds, if_pos (Or.symm hk2)]]
              simp [fixEnds]
        · have : (gap t p (p + k)).length ≤ 1 := by unfold gap; split <;> simp
          simp only [List.length_append, List.length_cons]
          omega
    · have he := search2_lost (t := t) (p := p) fun i a b q => c ⟨i, a, b, q⟩
      refine ⟨_, .done he (by decide), ?_, ?_⟩
      · have e1 := fix_plain t.toList (t.size - p) p (by simp; omega) fun i a b q => c ⟨i, a, by omega, by unfold Nl; rw [getD_list]; exact q⟩
        rw [e1, flat_gap t hp, show p + (t.size - p) = t.size by omega, List.drop_eq_nil_of_le (as := t.toList) (i := t.size) (by simp)]
        simp [fixEnds]
      · unfold gap; split <;> simp

/-- at a line's beginning -/
def bol (t : Array Nat) (p : Nat) : Bool := p == 0 || t.getD (p - 1) 0 == 10
theorem bol_iff {t : Array Nat} {p : Nat} : bol t p = true ↔ p = 0 ∨ t.getD (p - 1) 0 = 10 := by unfold bol; simp
theorem bol_succ (t : Array Nat) (p : Nat) : bol t (p + 1) = (t.toList.getD p 0 == 10) := by unfold bol; rw [← getD_list]; simp
theorem stuff_plain (t : Array Nat) : ∀ (k p : Nat), p + k ≤ t.size → (∀ i, p ≤ i → i < p + k → ¬Dot t i) → stuff (bol t p) (t.toList.drop p) = (t.toList.drop p).take k ++ stuff (bol t (p + k)) (t.toList.drop (p + k))
  | 0, p, _, _ => by simp
  | k + 1, p, hp, h => by
    have ih := stuff_plain t k (p + 1) (by omega) fun i h1 h2 => h i (by omega) (by omega)
    have h0 := h p (Nat.le_refl _) (by omega)
    rw [show p + 1 + k = p + (k + 1) by omega] at ih
    rw [drop_cons (by simpa using (by omega : p < t.size)), List.take_succ_cons, List.cons_append, ← ih]
    have hc : ¬(bol t p = true ∧ t.toList.getD p 0 = 46) := fun q => h0 ⟨bol_iff.mp q.1, by rw [getD_list]; exact q.2⟩
    rw [stuff, if_neg hc, bol_succ]
    rfl
theorem stuff_le : ∀ (L : List Nat) (b : Bool), (stuff b L).length ≤ 2 * L.length
  | [], b => by simp [stuff]
  | c :: r, b => by
    have h1 := stuff_le r (c == 10)
    rw [stuff, List.length_append, List.length_cons]
    split <;> simp <;> omega
def DOTS : PySem.Str := ".."
theorem dots_list : DOTS.cps.toList = [46, 46] := by decide
theorem subs1 (t : Array Nat) (ht : t.size ≤ 20000) : ∀ (m p : Nat), t.size - p ≤ m → p ≤ t.size → ∃ l, Subs code1 t DOTS p l ∧ flat l = stuff (bol t p) (t.toList.drop p) ∧ l.length ≤ 2 * (t.size - p) + 1
  | m, p, hm, hp => by
    by_cases c : ∃ i, p ≤ i ∧ i < t.size ∧ Dot t i
    · obtain ⟨i₀, h1, h2, h3⟩ := c
      obtain ⟨k, hk, ⟨hk1, hk2⟩, hk3⟩ := least (P := fun k => p + k < t.size ∧ Dot t (p + k)) (i₀ - p) ⟨by omega, by rw [show p + (i₀ - p) = i₀ by omega]; exact h3⟩
      have hn : ∀ i, p ≤ i → i < p + k → ¬Dot t i := fun i a b q => hk3 (i - p) (by omega) ⟨by omega, by rw [show p + (i - p) = i by omega]; exact q⟩
      have he := search1_got hk1 hn hk2
      cases m with
      | zero => omega
      | succ m =>
        obtain ⟨l, hl, hf, hle⟩ := subs1 t ht m (p + k + 1) (by omega) hk1
        refine ⟨_, .more he (Nat.le_trans (by omega : _ ≤ 100000) (by decide)) (Nat.lt_succ_self _) hl, ?_, ?_⟩
        · have e1 := stuff_plain t k p (by omega) hn
          have e2 : flat (gap t p (p + k) ++ DOTS :: l) = flat (gap t p (p + k)) ++ ([46, 46] ++ flat l) := by simp [flat, dots_list]
          rw [e2, e1, flat_gap t (by omega), show p + k - p = k by omega, hf]
          congr 1
          have hlt : p + k < t.toList.length := by simpa using hk1
          rw [drop_cons hlt, stuff, if_pos ⟨bol_iff.mpr hk2.1, by rw [← getD_list]; exact hk2.2⟩, bol_succ]
        · have : (gap t p (p + k)).length ≤ 1 := by unfold gap; split <;> simp
          simp only [List.length_append, List.length_cons]
          omega
    · have he := search1_lost (t := t) (p := p) fun i a b q => c ⟨i, a, b, q⟩
      refine ⟨_, .done he (Nat.le_trans (by omega : _ ≤ 100000) (by decide)), ?_, ?_⟩
      · have e1 := stuff_plain t (t.size - p) p (by omega) fun i a b q => c ⟨i, a, by omega, q⟩
        rw [e1, flat_gap t hp, show p + (t.size - p) = t.size by omega, List.drop_eq_nil_of_le (as := t.toList) (i := t.size) (by simp)]
        simp [stuff]
      · unfold gap; split <;> simp
theorem join_flat (l : List PySem.Str) : (Txt.join Str.empty l).cps.toList = flat l := by
  unfold Txt.join
  rw [StrLaws.glued_eq_join]
  induction l with
  | nil => rfl
  | cons a r ih =>
    cases r with
    | nil => simp [Str.join, flat]
    | cons b r =>
      show (a ++ Str.empty ++ Str.join Str.empty (b :: r)).cps.toList = _
      have e : (a ++ Str.empty ++ Str.join Str.empty (b :: r)).cps.toList = a.cps.toList ++ (Str.join Str.empty (b :: r)).cps.toList := by
        show ((a.cps ++ (#[] : Array Nat)) ++ (Str.join Str.empty (b :: r)).cps).toList = _
        simp
      rw [e, ih]
      rfl
theorem flat_sum (l : List PySem.Str) : (l.map (·.length)).sum = (flat l).length := by
  unfold flat
  induction l with
  | nil => rfl
  | cons a r ih => rw [List.map_cons, List.sum_cons, ih, List.map_cons, List.flatten_cons, List.length_append]; simp [Str.length]
end Mine

end

/-! # text R7 -/
section
open PySem PySem.Spec PySem.Calls PyProof.Rows PySem.W PySem.Builtin PySem.Builtin.Re PySem.Builtin.Str PySem.StrLaws
set_option maxRecDepth 100000
set_option linter.unusedVariables false
set_option linter.unusedSimpArgs false
namespace Mine

def ofL (l : List Nat) : PySem.Str := ⟨l.toArray⟩
theorem ofL_list (l : List Nat) : (ofL l).cps.toList = l := by simp [ofL]
theorem str_of_list {x : PySem.Str} {l : List Nat} (h : x.cps.toList = l) : x = ofL l := by
  apply Str.ext'; unfold ofL; rw [← h]

/-- rows, each with its end CRLF -/
def crs (rows : List (List Nat)) : List Nat := (rows.map fun r => r ++ [13, 10]).flatten
theorem crs_cons (r : List Nat) (rows : List (List Nat)) : crs (r :: rows) = r ++ ([13, 10] ++ crs rows) := by simp [crs]

theorem at_iff (x : PySem.Str) (i : Nat) : At x CRLFs x.length i ↔ x.cps.toList[i]? = some 13 ∧ x.cps.toList[i + 1]? = some 10 := by
  unfold At
  rw [subAt_eq, crlf_list, show CRLFs.length = 2 by decide]
  have hl : x.length = x.cps.toList.length := by simp [Str.length]
  rw [hl]
  generalize x.cps.toList = L
  constructor
  · rintro ⟨h1, h2⟩
    have h2' : (L.drop i).take 2 = [13, 10] := by simpa using h2
    have e0 : ((L.drop i).take 2)[0]? = some 13 := by rw [h2']; rfl
    have e1 : ((L.drop i).take 2)[1]? = some 10 := by rw [h2']; rfl
    rw [List.getElem?_take_of_lt (by omega), List.getElem?_drop] at e0 e1
    exact ⟨by simpa using e0, e1⟩
  · rintro ⟨h1, h2⟩
    obtain ⟨l1, g1⟩ := List.getElem?_eq_some_iff.mp h2
    obtain ⟨l0, g0⟩ := List.getElem?_eq_some_iff.mp h1
    refine ⟨by omega, ?_⟩
    rw [List.drop_eq_getElem_cons l0, List.drop_eq_getElem_cons l1, g0, g1]
    simp

theorem parts_rows (x : PySem.Str) : ∀ (rows : List (List Nat)) (a f : Nat) (cuts : List Nat), (∀ r ∈ rows, 13 ∉ r) → x.cps.toList.drop a = crs rows → ChainG x CRLFs x.length a cuts f → (∀ k, f ≤ k → ¬At x CRLFs x.length k) →
    partsFrom x 2 a cuts = rows.map ofL ++ [Str.empty]
  | [], a, f, cuts, _, hd, hc, hn => by
    have hl : x.cps.toList.length ≤ a := by
      have := congrArg List.length hd
      simp [crs] at this
      simpa using (by omega : x.cps.size ≤ a)
    cases cuts with
    | nil =>
      show [strSub x a x.length] = [Str.empty]
      congr 1
      apply Str.ext'
      apply Array.toList_inj.mp
      rw [strSub_toList, hd]
      simp [crs, Str.empty]
    | cons c r =>
      exfalso
      obtain ⟨h1, h2, _⟩ := hc
      obtain ⟨g1, _⟩ := (at_iff x c).mp h2
      obtain ⟨l0, _⟩ := List.getElem?_eq_some_iff.mp g1
      omega
  | row :: rows, a, f, cuts, hr, hd, hc, hn => by
    rw [crs_cons] at hd
    have get : ∀ i, x.cps.toList[a + i]? = (row ++ ([13, 10] ++ crs rows))[i]? := fun i => by rw [← hd, List.getElem?_drop]
    have h0 : At x CRLFs x.length (a + row.length) := (at_iff x _).mpr ⟨by rw [get, List.getElem?_append_right (Nat.le_refl _)]; simp, by
      rw [show a + row.length + 1 = a + (row.length + 1) by omega, get, List.getElem?_append_right (by omega)]; simp⟩
    have hno : ∀ k, a ≤ k → k < a + row.length → ¬At x CRLFs x.length k := fun k h1 h2 q => by
      obtain ⟨g1, _⟩ := (at_iff x k).mp q
      rw [show k = a + (k - a) by omega, get, List.getElem?_append_left (by omega)] at g1
      exact hr row (by simp) (List.mem_of_getElem? g1)
    cases cuts with
    | nil =>
      have e : f = a := hc
      exact absurd h0 (hn _ (by omega))
    | cons c r =>
      obtain ⟨h1, h2, h3, h4⟩ := hc
      have hcc : c = a + row.length := by
        rcases Nat.lt_trichotomy c (a + row.length) with q | q | q
        · exact absurd h2 (hno c h1 q)
        · exact q
        · exact absurd h0 (h3 _ (by omega) q)
      subst hcc
      have hd2 : x.cps.toList.drop (a + row.length + 2) = crs rows := by
        rw [show a + row.length + 2 = a + (row.length + 2) by omega, ← List.drop_drop, hd, ← List.append_assoc, List.drop_left' (by simp)]
      have ih := parts_rows x rows (a + row.length + 2) f r (fun q hq => hr q (by simp [hq])) hd2 h4 hn
      show strSub x a (a + row.length) :: partsFrom x 2 (a + row.length + 2) r = _
      rw [ih, List.map_cons, List.cons_append]
      congr 1
      apply str_of_list
      rw [strSub_toList, hd, show a + row.length - a = row.length by omega, List.take_left' rfl]

theorem split_rows (rows : List (List Nat)) (hne : rows ≠ []) (hr : ∀ r ∈ rows, 13 ∉ r) : Txt.split (ofL (crs rows)) CRLFs = rows.map ofL ++ [Str.empty] := by
  generalize hx : ofL (crs rows) = x
  have hL : x.cps.toList = crs rows := by rw [← hx, ofL_list]
  obtain ⟨f, hG, hn⟩ := occ_tight x CRLFs (by decide)
  have key := parts_rows x rows 0 f _ hr (by rw [hL]; rfl) hG hn
  have hl : 2 ≤ x.length := by
    have : x.length = x.cps.toList.length := by simp [Str.length]
    rw [this, hL]
    cases rows with
    | nil => exact absurd rfl hne
    | cons r rows => rw [crs_cons]; simp; omega
  unfold Txt.split
  have hk : Builtin.Str.strKind CRLFs = 1 := by
    rw [show CRLFs = ofL [13, 10] from str_of_list crlf_list]
    simp [Builtin.Str.strKind, ofL]
  have hk2 : 1 ≤ Builtin.Str.strKind x := by
    unfold Builtin.Str.strKind
    split
    · decide
    · split <;> decide
  rw [if_neg (by rw [hk, show CRLFs.length = 2 by decide]; simp; omega)]
  have ho : (occurrences x CRLFs 0 x.length (x.length + 1)).isEmpty = false := by
    cases h : (occurrences x CRLFs 0 x.length (x.length + 1)) with
    | cons a b => rfl
    | nil =>
      exfalso
      rw [h] at key
      have := congrArg List.length key
      simp [partsFrom] at this
      exact hne this
  rw [ho, if_neg (by decide), partsBetween_eq]
  exact key

/-! ## the mail -/
theorem fix_app : ∀ (u r : List Nat), (∀ c ∈ u, c ≠ 10 ∧ c ≠ 13) → fixEnds (u ++ r) = u ++ fixEnds r
  | [], r, _ => rfl
  | c :: u, r, h => by
    have h0 := h c (by simp)
    have ih := fix_app u r fun d hd => h d (by simp [hd])
    rw [List.cons_append, List.cons_append, ← ih]
    generalize u ++ r = v
    cases v with
    | nil => simp [fixEnds, h0.1, h0.2]
    | cons d r => simp [fixEnds, h0.1, h0.2]
theorem fix_end (e r : List Nat) (he : e = [10] ∨ e = [13] ∨ e = [13, 10]) (hr : r.head? ≠ some 10) : fixEnds (e ++ r) = [13, 10] ++ fixEnds r := by
  rcases he with rfl | rfl | rfl
  · cases r with
    | nil => simp [fixEnds]
    | cons d r => simp [fixEnds]
  · cases r with
    | nil => simp [fixEnds]
    | cons d r =>
      have : d ≠ 10 := by simpa using hr
      simp [fixEnds, this]
  · simp [fixEnds]

/-- a row of the mail: ahead or not, dots -/
def rowT (a : Bool) (n : Nat) : List Nat := (if a then [97] else []) ++ List.replicate n 46
def rowS (a : Bool) (n : Nat) : List Nat := if a then 97 :: List.replicate n 46 else 46 :: List.replicate n 46
def mailL (rows : List (Bool × Nat × List Nat)) : List Nat := (rows.map fun r => rowT r.1 r.2.1 ++ r.2.2).flatten
def EndsOk (rows : List (Bool × Nat × List Nat)) : Prop := ∀ r ∈ rows, 0 < r.2.1 ∧ (r.2.2 = [10] ∨ r.2.2 = [13] ∨ r.2.2 = [13, 10])
theorem rowT_free (a : Bool) (n : Nat) : ∀ c ∈ rowT a n, c = 97 ∨ c = 46 := fun c hc => by
  unfold rowT at hc
  rcases List.mem_append.mp hc with h | h
  · cases a <;> simp at h; exact .inl h
  · exact .inr (List.eq_of_mem_replicate h)
theorem mail_head (rows : List (Bool × Nat × List Nat)) (h : EndsOk rows) : (mailL rows).head? ≠ some 10 := by
  cases rows with
  | nil => simp [mailL]
  | cons r rows =>
    obtain ⟨a, n, e⟩ := r
    have h0 := (h (a, n, e) (by simp)).1
    cases n with
    | zero => simp at h0
    | succ n => cases a <;> simp [mailL, rowT, List.replicate_succ]
theorem fix_mail : ∀ rows : List (Bool × Nat × List Nat), EndsOk rows → fixEnds (mailL rows) = crs (rows.map fun r => rowT r.1 r.2.1)
  | [], _ => rfl
  | (a, n, e) :: rows, h => by
    have ih := fix_mail rows fun r hr => h r (by simp [hr])
    have h0 := h (a, n, e) (by simp)
    have hm := mail_head rows fun r hr => h r (by simp [hr])
    show fixEnds ((rowT a n ++ e) ++ mailL rows) = _
    rw [List.append_assoc, fix_app _ _ (fun c hc => by rcases rowT_free a n c hc with rfl | rfl <;> decide), fix_end e _ h0.2 hm, ih, List.map_cons, crs_cons]

theorem stuff_app : ∀ (u r : List Nat), (∀ c ∈ u, c = 97 ∨ c = 46) → stuff false (u ++ r) = u ++ stuff false r
  | [], r, _ => rfl
  | c :: u, r, h => by
    have h0 := h c (by simp)
    have ih := stuff_app u r fun d hd => h d (by simp [hd])
    have : (c == 10) = false := by rcases h0 with rfl | rfl <;> rfl
    rw [List.cons_append, stuff, this, ih]
    simp
theorem stuff_rows : ∀ rows : List (Bool × Nat), (∀ r ∈ rows, 0 < r.2) → stuff true (crs (rows.map fun r => rowT r.1 r.2)) = crs (rows.map fun r => rowS r.1 r.2)
  | [], _ => rfl
  | (a, n) :: rows, h => by
    have ih := stuff_rows rows fun r hr => h r (by simp [hr])
    have h0 := h (a, n) (by simp)
    rw [List.map_cons, crs_cons, List.map_cons, crs_cons]
    have tail : stuff false ([13, 10] ++ crs (rows.map fun r => rowT r.1 r.2)) = [13, 10] ++ crs (rows.map fun r => rowS r.1 r.2) := by
      rw [← ih]
      simp [stuff]
    cases n with
    | zero => simp at h0
    | succ n =>
      have rep : ∀ k, ∀ c ∈ List.replicate k 46, c = 97 ∨ c = 46 := fun k c hc => .inr (List.eq_of_mem_replicate hc)
      cases a with
      | false =>
        show stuff true ((46 :: List.replicate n 46) ++ _) = (46 :: 46 :: List.replicate n 46) ++ _
        rw [List.cons_append, stuff]
        rw [show ((46 : Nat) == 10) = false from rfl, stuff_app _ _ (rep n), tail]
        simp
      | true =>
        show stuff true ((97 :: List.replicate (n + 1) 46) ++ _) = (97 :: List.replicate (n + 1) 46) ++ _
        rw [List.cons_append, stuff]
        rw [show ((97 : Nat) == 10) = false from rfl, stuff_app _ _ (rep (n + 1)), tail]
        simp
end Mine

end

/-! # text F8 -/
section
open PySem PySem.Spec PySem.Calls PyProof.Rows PySem.W
set_option maxRecDepth 100000
set_option linter.unusedVariables false
set_option linter.unusedSimpArgs false
namespace Mine
section
variable {prog : Program} {w : World} {B : Tb} {G : Heap} {A : Around} {env : Env} {ρ : List (PySem.Str × D)}

abbrev iL (ns : List Int) : D := .list (ns.map .int)
theorem reps_ints {M : List Addr} {h : Heap} : ∀ {ns : List Int} {vs : List Value}, Reps M h vs (ns.map .int) → IntsAre vs ns
  | [], _, r => by cases r; exact .nil
  | n :: ns, _, r => by
    cases r with
    | cons a b => cases a; exact .cons _ _ (reps_ints b)
theorem ints_reps {M : List Addr} {h : Heap} {vs : List Value} {ns : List Int} (r : IntsAre vs ns) : Reps M h vs (ns.map .int) := by
  induction r with
  | nil => exact .nil
  | cons n t r ih => exact .cons (.int _ _) ih
theorem reps_strs {M : List Addr} {h : Heap} : ∀ {ns : List PySem.Str} {vs : List Value}, Reps M h vs (ns.map .str) → StrsAre vs ns
  | [], _, r => by cases r; exact .nil
  | n :: ns, _, r => by
    cases r with
    | cons a b => cases a; exact .cons _ _ (reps_strs b)
theorem strs_reps {M : List Addr} {h : Heap} {vs : List Value} {ns : List PySem.Str} (r : StrsAre vs ns) : Reps M h vs (ns.map .str) := by
  induction r with
  | nil => exact .nil
  | cons n t r ih => exact .cons (.str _ _) ih

theorem Stp.keepAll {s s' : Shared} {h' : Heap} {tk : Tok} (x : Inv B G s.heap) (k : ∀ b o, s.heap.get? b = some o → h'.get? b = some o) : Stp B G s { s with heap := h', toks := tk } := Stp.of x k

/-! ## built-in functions -/
theorem CALLS.lenL {ds : List D} (hl : ds.length ≤ 100000) : CALLS prog w B G A (.builtin "len") [.list ds] (.int ds.length) := fun M s Q E vs z r h => by
  cases r with
  | cons r1 r2 =>
    cases r2
    cases r1 with
    | list hm ho hr =>
      refine call_len_list ⟨_, ho, rfl, _, rfl⟩ (by rw [List.size_toArray, hr.length]; omega) ?_
      rw [List.size_toArray, hr.length]
      exact h _ _ (.tok z.inv) (.int _ _)
theorem CALLS.lenS {x : PySem.Str} (hl : x.length ≤ 100000) : CALLS prog w B G A (.builtin "len") [.str x] (.int x.length) := fun M s Q E vs z r h => by
  cases r with
  | cons r1 r2 =>
    cases r2; cases r1
    exact len_str (by omega) (h _ _ (.tok z.inv) (.int _ _))
theorem CALLS.sum {ns : List Int} (hA : A.handled = none) : CALLS prog w B G A (.builtin "sum") [iL ns] (.int ns.sum) := fun M s Q E vs z r h => by
  cases r with
  | cons r1 r2 =>
    cases r2
    cases r1 with
    | list hm ho hr =>
      have hi := reps_ints hr
      have hl : s.heap.IsList _ _ := ⟨_, ho, rfl, _, rfl⟩
      obtain ⟨xs, e⟩ := hi.allInts.items
      rw [e] at hl
      refine sum_intListG hA hl fun h' tk t' hk => ?_
      have e2 : xs.toList.map (·.1) = ns := by
        rw [← nums_intItems, ← e]; exact hi.numsOf
      rw [preSum_eq, List.take_of_length_le (by simp), e2]
      exact h _ _ (.of z.inv hk) (.int _ _)
theorem CALLS.max {ns : List Int} {m : Int} (hA : A.handled = none) (h1 : m ∈ ns) (h2 : ∀ a ∈ ns, a ≤ m) : CALLS prog w B G A (.builtin "max") [iL ns] (.int m) := fun M s Q E vs z r h => by
  cases r with
  | cons r1 r2 =>
    cases r2
    cases r1 with
    | list hm ho hr =>
      have hi := reps_ints hr
      have hl : s.heap.IsList _ _ := ⟨_, ho, rfl, _, rfl⟩
      obtain ⟨xs, e⟩ := hi.allInts.items
      rw [e] at hl
      have e2 : xs.toList.map (·.1) = ns := by
        rw [← nums_intItems, ← e]; exact hi.numsOf
      have hsz : 0 < xs.size := by
        have : ns.length = xs.size := by rw [← e2]; simp
        have := List.length_pos_of_mem h1
        omega
      refine max_intList hA hl hsz fun v h' tk hv hk => ?_
      obtain ⟨t, rfl⟩ := intItems_at hv
      obtain ⟨g1, g2⟩ := argBest_gt (numAt xs) (xs.size - 1)
      have em : numAt xs (argBest (fun i j => decide (numAt xs i > numAt xs j)) (xs.size - 1)) = m := by
        refine Int.le_antisymm (h2 _ ?_) ?_
        · rw [numAt_eq, e2]
          exact getD_mem (by rw [← e2, List.length_map, Array.length_toList]; omega)
        · obtain ⟨j, hj, rfl⟩ := mem_getD h1
          rw [← e2, List.length_map, Array.length_toList] at hj
          have := g2 j (by omega)
          rw [numAt_eq, e2] at this
          exact this
      rw [em]
      exact h _ _ (.of z.inv hk) (.int _ _)
theorem CALLS.sorted {ns ms : List Int} (h64 : ns.length < 64) (hp : ms.Perm ns) (hs : ms.Pairwise (· ≤ ·)) : CALLS prog w B G A (.builtin "sorted") [iL ns] (iL ms) := fun M s Q E vs z r h => by
  cases r with
  | cons r1 r2 =>
    cases r2
    cases r1 with
    | list hm ho hr =>
      have hi := reps_ints hr
      refine sorted_ints ⟨_, ho, rfl, _, rfl⟩ hi (by rw [hr.length]; simpa using h64) fun out ns' a1 a2 a3 => ?_
      obtain ⟨e, he⟩ := sortedAll_at s.heap ‹List Value› out
      have : ns' = ms := List.Perm.eq_of_pairwise (fun a b _ _ h1 h2 => Int.le_antisymm h1 h2) a3 hs (a2.trans hp.symm)
      subst this
      have k : ∀ b o, s.heap.get? b = some o → (sortedAll s.heap ‹List Value› out).get? b = some o := fun _ _ => sortedAll_old
      have p : Stp B G s { s with heap := sortedAll s.heap ‹List Value› out } := Stp.of (tk := s.toks) z.inv k
      have hnm : s.heap.objs.size + 1 ∉ M := fun q => by
        obtain ⟨o, e'⟩ := z.there _ q
        exact absurd (Heap.lt_size e') (Nat.not_lt.mpr (Nat.le_succ _))
      refine h _ _ p (.list hnm (vs := out.toList) (n := e) ?_ (ints_reps a1))
      exact he
theorem CALLS.divmod {a b : Int} (hb : b ≠ 0) (hp : Builtin.divisionGoesByPylong a b = false) : CALLS prog w B G A (.builtin "divmod") [.int a, .int b] (.tup [.int (a.fdiv b), .int (a.fmod b)]) := fun M s Q E vs z r h => by
  cases r with
  | cons r1 r2 =>
    cases r2 with
    | cons r2 r3 =>
      cases r3; cases r1; cases r2
      exact PyProof.Rows.divmod_int hb (h _ _ (.push z.inv) (Rep.newTup (s := { s with toks := s.toks + 1 + 1 }) (.cons (.int _ _) (.cons (.int _ _) .nil)) ⟨z.inv, z.m1, z.m2, z.there⟩)) (.inl hp)
theorem CALLS.abs {a : Int} : CALLS prog w B G A (.builtin "abs") [.int a] (.int (if a < 0 then -a else a)) := fun M s Q E vs z r h => by
  cases r with
  | cons r1 r2 =>
    cases r2; cases r1
    exact call_abs_int fun u tk => h _ _ (.tok z.inv) (.int _ _)
theorem CALLS.bitLength {a : Int} : CALLS prog w B G A (.builtin "int.bit_length") [.int a] (.int (Builtin.Int.intBits a)) := fun M s Q E vs z r h => by
  cases r with
  | cons r1 r2 =>
    cases r2; cases r1
    exact call_int_bit_length (h _ _ (.tok z.inv) (.int _ _))
theorem CALLS.join {x : PySem.Str} {ys : List PySem.Str} (hsep : x.length ≤ 16) (hw : (ys.map (·.length)).sum + ys.length ≤ 1048576) : CALLS prog w B G A (.builtin "str.join") [.str x, .list (ys.map .str)] (.str (Txt.join x ys)) := fun M s Q E vs z r h => by
  cases r with
  | cons r1 r2 =>
    cases r1
    cases r2 with
    | cons r2 r3 =>
      cases r3
      cases r2 with
      | list hm ho hr =>
        exact join_listW ⟨_, ho, rfl, _, rfl⟩ (by simpa using reps_strs hr) hsep hw fun t' k => h _ _ (.tok z.inv) (.str _ _)
/-- types called -/
theorem EV.callT {x : PySem.Str} {np pos : Pos} {es : List PySem.Expr} {ds : List D} {d : D} {T : String} (g : Gl G env x (.type T)) (a : ArgsEV prog w B G A env ρ es ds) (hc : CALLS prog w B G A (.type T) ds d) :
    EV prog w B G A env ρ (.Call (.Name x np) es [] pos) d := fun M s Q E z y h => by
  refine wpAny_Call_ofName (wp_glob g z.inv ?_)
  exact callW_type a z y fun vs s1 p1 r1 => hc M s1 _ _ _ (z.step p1) r1 fun v s2 p2 r2 => h v s2 (p1.trans p2) r2
theorem CALLS.int {a : Int} : CALLS prog w B G A (.type "int") [.int a] (.int a) := fun M s Q E vs z r h => by
  cases r with
  | cons r1 r2 =>
    cases r2; cases r1
    exact call_int_int (h _ _ (.refl z.inv) (.int _ _))
theorem CALLS.bytes {ns : List Int} (hA : A.handled = none) (hr : ∀ n ∈ ns, 0 ≤ n ∧ n < 256) (hz : ns.length ≤ 100000) : CALLS prog w B G A (.type "bytes") [iL ns] (.bytes (byteArr ns)) := fun M s Q E vs z r h => by
  cases r with
  | cons r1 r2 =>
    cases r2
    cases r1 with
    | list hm ho hrs =>
      exact call_bytes_ints ⟨_, ho, rfl, _, rfl⟩ (reps_ints hrs) hr (by rw [hrs.length, List.length_map]; exact Nat.le_trans hz (by decide)) hA fun h' t k hk => h _ _ (.of z.inv hk) (.bytes _ _)

/-! ## operators -/
theorem BOP.addS {a b : PySem.Str} (hsz : a.length + b.length ≤ 100000) : BOP prog w B G A (binaryOp .Add) (.str a) (.str b) (.str (a ++ b)) := fun _ _ _ _ _ _ z r1 r2 h => by
  cases r1; cases r2
  exact PyProof.Rows.SBL.add (fun t' tk _ => h _ _ (.tok z.inv) (.str _ _)) (Nat.le_trans hsz (by decide))
theorem BOP.addB {a b : Array UInt8} (hsz : a.size + b.size ≤ 100000) : BOP prog w B G A (binaryOp .Add) (.bytes a) (.bytes b) (.bytes (a ++ b)) := fun _ _ _ _ _ _ z r1 r2 h => by
  cases r1; cases r2
  exact KBy.add_bytes (Nat.le_trans hsz (by decide)) (fun t' tk => h _ _ (.tok z.inv) (.bytes _ _))
theorem BOP.mulS {a : PySem.Str} {n : Int} (hm : MulOk a n) : BOP prog w B G A (binaryOp .Mult) (.str a) (.int n) (.str (Txt.mul a n)) := fun _ _ _ _ _ _ z r1 r2 h => by
  cases r1; cases r2
  exact SB.mul hm (fun t' tk => h _ _ (.tok z.inv) (.str _ _))
theorem BOP.addL {a b : List D} (hsz : a.length + b.length ≤ 100000) : BOP prog w B G A (binaryOp .Add) (.list a) (.list b) (.list (a ++ b)) := fun _ s _ _ _ _ z r1 r2 h => by
  cases r1 with
  | list hm ho hr =>
    cases r2 with
    | list hm2 ho2 hr2 =>
      rename_i l n vs l2 n2 vs2
      refine concat_meets ⟨_, ho, rfl⟩ ⟨_, ho2, rfl⟩ noFill_list_add seq_list_add PySem.F.slot_list_add PySem.F.entry_list_add (PySem.F.args_list_add_2 _ _) (list_addW l l2 vs.toArray vs2.toArray n n2 none none #[] #[] ?_) ⟨ho, ho2, ?_⟩
      · rw [List.size_toArray, List.size_toArray, hr.length, hr2.length]; exact Nat.le_trans hsz (by decide)
      · rw [show vs.toArray ++ vs2.toArray = (vs ++ vs2).toArray by simp]
        exact h _ _ (.push z.inv) (Rep.newList (hr.append hr2) z)
theorem foldl_app (vs : List Value) : ∀ (n : Nat) (acc : Array Value), List.foldl (fun x1 x2 => x1 ++ x2) acc (List.replicate n vs.toArray) = acc ++ ((List.replicate n vs).flatten).toArray
  | 0, acc => by simp
  | n + 1, acc => by rw [List.replicate_succ, List.foldl_cons, foldl_app vs n, List.replicate_succ, List.flatten_cons]; simp
theorem Reps.times {M : List Addr} {h : Heap} {vs ds} (r : Reps M h vs ds) : ∀ n, Reps M h ((List.replicate n vs).flatten) ((List.replicate n ds).flatten)
  | 0 => .nil
  | n + 1 => by rw [List.replicate_succ, List.flatten_cons, List.replicate_succ, List.flatten_cons]; exact r.append (r.times n)
theorem BOP.mulL {a : List D} {x : Int} (ha : a ≠ []) (hlo : -(2 ^ 63 : Int) ≤ x) (hhi : x < 2 ^ 63) (hsz : a.length * x.toNat ≤ 2 ^ 24) : BOP prog w B G A (binaryOp .Mult) (.list a) (.int x) (.list (List.replicate x.toNat a).flatten) := fun _ s _ _ _ _ z r1 r2 h => by
  cases r2
  rename_i u
  cases r1 with
  | list hm ho hr =>
    rename_i l k vs
    have hne : vs.toArray.isEmpty = false := by
      cases vs with
      | nil => cases hr; exact absurd rfl ha
      | cons a b => rfl
    have hsz2 : vs.toArray.size * x.toNat ≤ 2 ^ 24 := by rw [List.size_toArray, hr.length]; exact hsz
    refine wpAny_binaryOp_repeat_ref (T := "list") (U := "int") (by decide) ⟨_, ho, rfl⟩ (fun s' => typeIs_int s' x u) noFill_list_mul F.fills_int_mul F.slot_int_rmul repeat_list F.slot_int_index.lookup
      (call_meets F.slot_int_rmul (typeIs_int s x u) F.entry_int_rmul (F.args_int_rmul_2 _ _) (int___rmul___int_list x u l vs.toArray k)
        ⟨ho, rfl, ⟨_, ho, rfl⟩, call_meets F.slot_list_mul ⟨_, ho, rfl⟩ F.entry_list_mul (F.args_list_mul_2 _ _)
          (AutoListH.list___mul___list_int_3 l vs.toArray k x u (by simp [Builtin.List.listFitsIndex]; omega) (by omega) (by simp only [Builtin.List.listTooLong, sizeLine]; simpa using hsz2))
          ⟨ho, ?_⟩⟩)
    rw [hne, if_neg (by decide), foldl_app]
    simp only [Array.empty_append]
    exact h _ _ (.push' z.inv) (Rep.newList (tk := s.toks) (hr.times _) z)

theorem any_reps {M : List Addr} {h : Heap} {i : Int} : ∀ {ns : List Int} {vs : List Value}, Reps M h vs (ns.map .int) → (vs.any fun y => match y with | .int k _ => k == i | _ => false) = ns.contains i
  | [], _, r => by cases r; rfl
  | n :: ns, _, r => by
    cases r with
    | cons a b =>
      cases a
      rw [List.any_cons, any_reps b, List.contains_cons]
      congr 1
      exact BEq.comm
theorem mem_ints {M : List Addr} {h : Heap} : ∀ {ns : List Int} {vs : List Value} {y : Value}, Reps M h vs (ns.map .int) → y ∈ vs → ∃ k t, y = .int k t
  | [], _, _, r, hy => by cases r; cases hy
  | n :: ns, _, _, r, hy => by
    cases r with
    | cons a b =>
      cases a
      rcases List.mem_cons.mp hy with q | q
      · exact ⟨_, _, q⟩
      · exact mem_ints b q
theorem BOP.inI {i : Int} {ns : List Int} : BOP prog w B G A (compareOp .In) (.int i) (iL ns) (.bool (ns.contains i)) := fun _ s _ _ _ _ z r1 r2 h => by
  cases r1
  rename_i t
  cases r2 with
  | list hm ho hr =>
    refine SeqAt.in_listAt (fun y => match y with | .int k _ => k == i | _ => false) ⟨_, ho, rfl, _, rfl⟩ (fun y hy => ?_) ?_
    · obtain ⟨k, u, rfl⟩ := mem_ints hr (by simpa using hy)
      exact (MeetsSeq.EqGives.int k i u t).at _ _
    · rw [List.any_toArray, any_reps hr]
      exact h _ _ (.refl z.inv) (.bool _)

/-! ### the same datum twice -/
def Same (A : Around) (d : D) : Prop := ∀ (M : List Addr) (s : Shared) (v1 v2 : Value), Rep M s.heap v1 d → Rep M s.heap v2 d → SeqAt.EqAt A s v1 v2 true
theorem Same.int {i : Int} : Same A (.int i) := fun _ s _ _ r1 r2 => by
  cases r1; cases r2
  rename_i t u
  have := (MeetsSeq.EqGives.int i i t u).at A s
  rw [beq_self_eq_true] at this
  exact this
theorem Same.bytes {b : Array UInt8} : Same A (.bytes b) := fun _ s _ _ r1 r2 => by
  cases r1; cases r2
  rename_i t u
  intro prog w E Q hq
  unfold eqBool
  refine wpAny_holding ?_
  refine wpAny_ite_split (fun hab => ?_) (fun hab => ?_)
  · exact wpAny_bind (wpAny_rule (wpAny_pure hq))
  · exact wpAny_bind (richCompare_gives (typeIs_bytes s b t) (typeIs_bytes s b u) FB.slot_bytes_eq FB.entry_bytes_eq (FB.args_bytes_eq_2 _ _) (gives_bytes_eq b b t u) (fun e => nomatch e) (wpAny_truthy_bool (by simpa using hq)))
theorem getAll {ds : List D} {M : List Addr} {s : Shared} {vs us : List Value} (hs : ∀ d ∈ ds, Same A d) (r1 : Reps M s.heap vs ds) (r2 : Reps M s.heap us ds) : ∀ j (h1 : j < vs.toArray.size) (h2 : j < us.toArray.size), SeqAt.EqAt A s vs.toArray[j] us.toArray[j] true := fun j h1 h2 => by
  have hl := r1.length
  have hd : j < ds.length := by simpa [hl] using h1
  obtain ⟨v, hv, rv⟩ := r1.get (List.getElem?_eq_getElem hd)
  obtain ⟨u, hu, ru⟩ := r2.get (List.getElem?_eq_getElem hd)
  have e1 : vs.toArray[j] = v := by
    have := List.getElem?_eq_some_iff.mp hv
    simpa using this.2
  have e2 : us.toArray[j] = u := by
    have := List.getElem?_eq_some_iff.mp hu
    simpa using this.2
  rw [e1, e2]
  exact hs _ (List.getElem_mem hd) M s v u rv ru
theorem Same.tup {ds : List D} (hu : A.units + 2 < cLine) (hs : ∀ d ∈ ds, Same A.in1 d) : Same A (.tup ds) := fun M s _ _ r1 r2 => by
  cases r1 with
  | tup hm ho hr =>
    cases r2 with
    | tup hm2 ho2 hr2 =>
      rename_i a n vs b n2 us
      by_cases q : a = b
      · subst q; exact SeqAt.EqAt.same _
      · refine SeqAt.EqAt.of_refs q ?_
        have := SeqAt.RcAt.tuples (A := A) (s := s) (e := fun _ => true) ⟨_, ho, rfl, _, rfl⟩ ⟨_, ho2, rfl, _, rfl⟩ (by omega) (getAll hs hr hr2)
        have e : ((List.range (min vs.toArray.size us.toArray.size)).all (fun _ => true) && vs.toArray.size == us.toArray.size) = true := by
          have := hr.length; have := hr2.length; simp; omega
        rw [e] at this
        exact this
theorem BOP.eqL {ds : List D} (hu : A.units + 2 < cLine) (hs : ∀ d ∈ ds, Same A.in1 d) : BOP prog w B G A (compareOp .Eq) (.list ds) (.list ds) (.bool true) := fun M s _ _ _ _ z r1 r2 h => by
  cases r1 with
  | list hm ho hr =>
    cases r2 with
    | list hm2 ho2 hr2 =>
      rename_i a n vs b n2 us
      refine SeqAt.eq_listAt (e := fun _ => true) ⟨_, ho, rfl, _, rfl⟩ ⟨_, ho2, rfl, _, rfl⟩ (by rw [List.size_toArray, List.size_toArray, hr.length, hr2.length]) (by omega) (getAll hs hr hr2) ?_
      rw [show ((List.range vs.toArray.size).all fun _ => true) = true by simp]
      exact h _ _ (.refl z.inv) (.bool _)
theorem BOP.neL {ds : List D} (hu : A.units + 2 < cLine) (hs : ∀ d ∈ ds, Same A.in1 d) : BOP prog w B G A (compareOp .NotEq) (.list ds) (.list ds) (.bool false) := fun M s _ _ _ _ z r1 r2 h => by
  cases r1 with
  | list hm ho hr =>
    cases r2 with
    | list hm2 ho2 hr2 =>
      rename_i a n vs b n2 us
      refine SeqAt.RcNeAt.lists (e := fun _ => true) ⟨_, ho, rfl, _, rfl⟩ ⟨_, ho2, rfl, _, rfl⟩ (by rw [List.size_toArray, List.size_toArray, hr.length, hr2.length]) (by omega) (getAll hs hr hr2) prog w _ _ ?_
      rw [show (!(List.range vs.toArray.size).all fun _ => true) = false by simp]
      exact h _ _ (.refl z.inv) (.bool _)
theorem BOP.neT {ds : List D} (hu : A.units + 2 < cLine) (hs : ∀ d ∈ ds, Same A.in1 d) : BOP prog w B G A (compareOp .NotEq) (.tup ds) (.tup ds) (.bool false) := fun M s _ _ _ _ z r1 r2 h => by
  cases r1 with
  | tup hm ho hr =>
    cases r2 with
    | tup hm2 ho2 hr2 =>
      rename_i a n vs b n2 us
      refine SeqAt.RcNeAt.tuples (e := fun _ => true) ⟨_, ho, rfl, _, rfl⟩ ⟨_, ho2, rfl, _, rfl⟩ (by omega) (getAll hs hr hr2) prog w _ _ ?_
      have e : (!((List.range (min vs.toArray.size us.toArray.size)).all (fun _ => true) && vs.toArray.size == us.toArray.size)) = false := by
        have := hr.length; have := hr2.length; simp; omega
      rw [e]
      exact h _ _ (.refl z.inv) (.bool _)
end
end Mine

end

/-! # text F9 -/
section
open PySem PySem.Spec PySem.Calls PyProof.Rows PySem.W PySem.Builtin PySem.Builtin.Str
set_option maxRecDepth 100000
set_option linter.unusedVariables false
set_option linter.unusedSimpArgs false
namespace Mine
section
variable {prog : Program} {w : World} {B : Tb} {G : Heap} {A : Around} {own : Bool} {env : Env} {ρ : List (PySem.Str × D)}

theorem strValues_reps {M : List Addr} {h : Heap} : ∀ l : List (PySem.Str × Tok), Reps M h (strValues l) ((l.map (·.1)).map .str)
  | [] => .nil
  | (x, t) :: l => .cons (.str _ _) (strValues_reps l)
theorem split_call {x y : PySem.Str} {t u : Tok} {s : Shared} {Q : Value → Shared → Prop} {E : Value → Shared → Prop} (hy : (y.length == 0) = false) (hx : x.length ≤ 100000)
    (h : ∀ (l : List (PySem.Str × Tok)) k, l.map (·.1) = Txt.split x y → Q (.ref s.heap.objs.size) { s with heap := s.heap.push { cls := .type "list", data := .seq (strValues l).toArray }, toks := k }) :
    wpAny (model prog w) A (call (.builtin "str.split") [.str x t, .str y u]) Q E s := by
  have hsz : x.length ≤ sizeLine := Nat.le_trans hx (by decide)
  cases h1 : (decide (x.length < y.length) || decide (strKind x < strKind y))
  · cases hf : (occurrences x y 0 x.length (x.length + 1)).isEmpty
    · have e : partsBetween x (occurrences x y 0 x.length (x.length + 1)) y.length = Txt.split x y := ((if_neg (ne_true_of_eq_false h1)).trans (if_neg (ne_true_of_eq_false hf))).symm
      refine call_meets F.slot_str_split (typeIs_str _ _ _) F.entry_str_split (F.args_str_split_2 _ _) (meets_str_split_sep x y t u h1 hy hf hsz ?_) ?_
      · rw [e]; exact Nat.le_trans (split_le x y) (Nat.le_trans (Nat.add_le_add_right hx 2) (by decide))
      · show wants Q E _ { s with toks := _, heap := s.heap.push { cls := .type "list", data := .seq (strsFrom s.toks (partsBetween x (occurrences x y 0 x.length (x.length + 1)) y.length)).toArray } }
        rw [strsFrom_eq]
        exact h (numbered s.toks _) _ ((numbered_texts _ _).trans e)
    · exact call_meets F.slot_str_split (typeIs_str _ _ _) F.entry_str_split (F.args_str_split_2 _ _) (meets_str_split_not_found x y t u h1 hy hf) (h [(x, t)] s.toks ((if_neg (ne_true_of_eq_false h1)).trans (if_pos hf)).symm)
  · exact call_meets F.slot_str_split (typeIs_str _ _ _) F.entry_str_split (F.args_str_split_2 _ _) (meets_str_split_cannot_occur x y t u h1) (h [(x, t)] s.toks (if_pos h1).symm)
theorem CALLS.split {x y : PySem.Str} {parts : List PySem.Str} (hy : (y.length == 0) = false) (hx : x.length ≤ 100000) (hp : Txt.split x y = parts) : CALLS prog w B G A (.builtin "str.split") [.str x, .str y] (.list (parts.map .str)) := fun M s Q E vs z r h => by
  cases r with
  | cons r1 r2 =>
    cases r1
    cases r2 with
    | cons r2 r3 =>
      cases r3; cases r2
      refine split_call hy hx fun l k e => h _ _ (.push z.inv) ?_
      have := strValues_reps (M := M) (h := s.heap) l
      rw [e, hp] at this
      exact Rep.newList this z

/-! ## slices of strs and bytes -/
theorem part_val {v : Value} {k : Option Int} (p : IsPart v k) : ∃ l : Option (Int × Tok), v = partValue l ∧ l.map (·.1) = k := by
  cases p with
  | none => exact ⟨none, rfl, rfl⟩
  | int i t => exact ⟨some (i, t), rfl, rfl⟩
theorem idx1 (n : Nat) : strSliceIndices none (some 1) 1 n = if n = 0 then [] else [0] := by
  cases n with
  | zero => rfl
  | succ k =>
    unfold strSliceIndices
    simp only [show (1 : Int) > 0 by decide, if_true, show ¬((1 : Int) < 0) by decide, if_false]
    rw [show max (0 : Int) (min 1 ((k + 1 : Nat) : Int)) = 1 by omega, if_neg (by omega)]
    rfl
theorem EV.head1 {value : PySem.Expr} {e : PySem.Expr} {p pos : Pos} {x : PySem.Str} (h1 : EV prog w B G A env ρ value (.str x)) (hu : EV prog w B G A env ρ e (.int 1))
    (hs : ∀ o i, ∃ l, subscripted (.Slice none (some e) none p) false o i = operate l (getItem o i) := by intro _ _; exact ⟨_, rfl⟩) :
    EV prog w B G A env ρ (.Subscript value (.Slice none (some e) none p) pos) (.str (ofL (x.cps.toList.take 1))) := by
  refine slice_wp h1 .none (.some hu) .none hs fun M s Q E v1 sl vl vu vs z r1 hsl q1 q2 q3 h => ?_
  cases r1
  rename_i t
  cases q1
  cases q3
  obtain ⟨u, rfl, e2⟩ := part_val q2
  refine ⟨"str", _, F.slot_str_getitem.lookup, typeIs_str _ _ _, wpAny_getItem_str_slice (l := none) (u := u) (st := none) ⟨_, hsl, rfl, rfl⟩ rfl ?_⟩
  unfold sliceMade slicePicked
  rw [e2]
  simp only [Option.map_none, Option.getD_none, idx1]
  obtain ⟨cps⟩ := x
  obtain ⟨cs⟩ := cps
  cases cs with
  | nil => exact h _ _ (.refl z.inv) (.str _ _)
  | cons c cs =>
    cases cs with
    | nil => exact h _ _ (.refl z.inv) (.str _ _)
    | cons d cs =>
      have e : (⟨(List.filterMap (fun x => (List.toArray (c :: d :: cs))[x]?) (if (⟨List.toArray (c :: d :: cs)⟩ : PySem.Str).length = 0 then [] else [0])).toArray⟩ : PySem.Str) = ofL ((c :: d :: cs).take 1) := by
        rw [if_neg (by simp [Str.length])]; rfl
      rw [if_neg (by simp [Str.length])]
      rw [e]
      exact ⟨by simp [ofL, Str.length]; decide, h _ _ (.tok z.inv) (.str _ _)⟩
theorem picked_le (b : Array UInt8) (lo hi : Option Int) : (KBy.picked b lo hi).size ≤ b.size := KBc.size_picked_le b lo hi
theorem EV.sliceB {value : PySem.Expr} {lower upper : Option PySem.Expr} {p pos : Pos} {b : Array UInt8} {lo hi : Option Int} (h1 : EV prog w B G A env ρ value (.bytes b)) (hl : PartEV prog w B G A env ρ lower lo) (hu : PartEV prog w B G A env ρ upper hi) (hb : b.size ≤ 100000)
    (hs : ∀ o i, ∃ l, subscripted (.Slice lower upper none p) false o i = operate l (getItem o i) := by intro _ _; exact ⟨_, rfl⟩) :
    EV prog w B G A env ρ (.Subscript value (.Slice lower upper none p) pos) (.bytes (KBy.picked b lo hi)) := by
  refine slice_wp h1 hl hu .none hs fun M s Q E v1 sl vl vu vs z r1 hsl q1 q2 q3 h => ?_
  cases r1
  cases q3
  exact ⟨"bytes", _, FB.slot_bytes_getitem.lookup, typeIs_bytes _ _ _, getItem_meets (typeIs_bytes _ _ _) (by decide) FB.slot_bytes_getitem FB.entry_bytes_getitem (FB.args_bytes_getitem_2 _ _) (KBc.meets_slice2 b _ _ q1 q2)
    ⟨⟨_, hsl, rfl, rfl⟩, Nat.le_trans (picked_le _ _ _) (Nat.le_trans hb (by decide)), fun t' k => h _ _ (.tok z.inv) (.bytes _ _)⟩⟩

/-! ## bytes.lstrip -/
theorem slot_lstrip : Slot "bytes" "lstrip" "bytes.lstrip" :=
  .of (owner := "bytes") (n := "lstrip") (by rw [typeLookup_type, builtinLookup_eq_fast]; kernel_rfl) (by decide +kernel) (by decide +kernel) (by decide +kernel)
    (by first | exact .inl (by decide +kernel) | exact .inr (by decide +kernel)) (by rw [isSubtype_type]; kernel_rfl)
theorem type_lstrip : typeOf (.builtin "bytes.lstrip") = pure (.type "method_descriptor") := by show builtinType _ = _; rw [builtinType_eq_fast]; kernel_rfl
theorem entry_lstrip : entryFor table "bytes.lstrip" = some Builtin.«bytes.lstrip» := entryFor_of_tree (by kernel_rfl)
theorem args_lstrip (a b : Value) : argsOk "bytes.lstrip" ⟨[a, b], []⟩ := by unfold argsOk; kernel_rfl
theorem CALLS.lstrip {b c : Array UInt8} (hb : b.size ≤ 100000) : CALLS prog w B G A (.builtin "bytes.lstrip") [.bytes b, .bytes c] (.bytes (b.toList.dropWhile c.contains).toArray) := fun M s Q E vs z r h => by
  cases r with
  | cons r1 r2 =>
    cases r1
    cases r2 with
    | cons r2 r3 =>
      cases r3; cases r2
      rename_i t u
      refine wpAny_call_entry slot_lstrip (typeIs_bytes _ _ _) entry_lstrip ?_ (args_lstrip _ _)
      show wpAny _ _ (Bytes.stripM .bytes "lstrip" true false ⟨[.bytes b t, .bytes c u], []⟩) _ _ s
      unfold Bytes.stripM
      refine wpAny_bind (wpAny_of_eq (a := (Value.bytes b t, [Value.bytes c u])) rfl ?_)
      dsimp only
      refine wpAny_bind ?_
      unfold Bytes.bytesLike
      rw [KBy.buffer_eq]
      refine wpAny_bind (wpAny_pure ?_)
      refine wpAny_pure ?_
      refine wpAny_bind (wpAny_pure ?_)
      refine wpAny_bind (wpAny_of_eq (a := b) rfl ?_)
      simp only [if_true, Bool.false_eq_true, if_false]
      split
      · rename_i hc
        refine wpAny_bind (wpAny_rule ?_)
        have e : b.toList.dropWhile c.contains = b.toList := by
          have h1 : (b.toList.dropWhile c.contains).length = b.toList.length := by simpa using hc
          exact (List.dropWhile_suffix _).eq_of_length h1
        have e2 : (b.toList.dropWhile c.contains).toArray = b := by rw [e]
        rw [e2] at h
        refine wpAny_bind ?_
        unfold Bytes.Kind.same
        rw [if_pos (by rfl)]
        refine wpAny_bind (wpAny_typeOf (typeIs_bytes _ _ _) ?_)
        rw [if_pos (by rfl)]
        exact wpAny_pure (wpAny_pure ⟨_, rfl, h _ _ (.refl z.inv) (.bytes _ _)⟩)
      · refine wpAny_bind ?_
        show wpAny _ _ (mkBytes _) _ _ _
        refine wpAny_mkBytes (wpAny_pure ⟨_, rfl, h _ _ (.tok z.inv) (.bytes _ _)⟩) ?_
        rw [List.size_toArray]
        have := (List.dropWhile_suffix (l := b.toList) c.contains).length_le
        rw [Array.length_toList] at this
        exact Nat.le_trans this (Nat.le_trans hb (by decide))

/-! ## methods -/
theorem mt_join : MethT "str" "str.join" "join" := ⟨F.plainAttrs_str, F.slot_str_join, F.type_str_join⟩
theorem mt_split : MethT "str" "str.split" "split" := ⟨F.plainAttrs_str, F.slot_str_split, F.type_str_split⟩
theorem mt_lstrip : MethT "bytes" "bytes.lstrip" "lstrip" := ⟨FB.plainAttrs_bytes, slot_lstrip, type_lstrip⟩
theorem mt_bitlen : MethT "int" "int.bit_length" "bit_length" := ⟨F.plainAttrs_int, PySem.F.slot_int_bit_length, PySem.F.type_int_bit_length⟩
end
end Mine

end

/-! # text F10 -/
section
open PySem PySem.Spec PySem.Calls PyProof.Rows PySem.W PySem.Builtin PySem.Builtin.Str
set_option maxRecDepth 100000
set_option linter.unusedVariables false
set_option linter.unusedSimpArgs false
namespace Mine
section
variable {prog : Program} {w : World} {B : Tb} {G : Heap} {A : Around} {own : Bool} {env : Env} {ρ ρ₁ : List (PySem.Str × D)} {k : Option (Addr × List D)} {d : D}

/-- a global that is an object of the top -/
theorem EV.glob {x : PySem.Str} {v : Addr} {pos : Pos} (g : Gl G env x (.ref v)) : EV prog w B G A env ρ (.Name x pos) (.ref v) := fun M s Q E z y h =>
  wp_glob g z.inv (h _ _ (.refl z.inv) (.ref _))
theorem EV.globS {x y : PySem.Str} {t : Tok} {pos : Pos} (g : Gl G env x (.str y t)) : EV prog w B G A env ρ (.Name x pos) (.str y) := fun M s Q E z yy h =>
  wp_glob g z.inv (h _ _ (.refl z.inv) (.str _ _))
theorem EV.globI {x : PySem.Str} {i : Int} {t : Tok} {pos : Pos} (g : Gl G env x (.int i t)) : EV prog w B G A env ρ (.Name x pos) (.int i) := fun M s Q E z yy h =>
  wp_glob g z.inv (h _ _ (.refl z.inv) (.int _ _))

theorem Pat.keeps {h h' : Heap} {p : Addr} {code : Array Nat} (x : Pat h p code) (k : ∀ b o, h.get? b = some o → h'.get? b = some o) : Pat h' p code := by
  obtain ⟨vs, T, its, n, n', h1, h2, h3, h4, h5, h6, h7⟩ := x.obj
  exact ⟨vs, T, its, n, n', k _ _ h1, h2, h3, h4, k _ _ h5, h6, h7⟩

theorem EV.resub {o e1 e2 : PySem.Expr} {apos pos : Pos} {p : Addr} {code : Array Nat} {x repl y : PySem.Str} (h0 : EV prog w B G A env ρ o (.ref p)) (hp : Pat G p code) (h1 : EV prog w B G A env ρ e1 (.str repl)) (h2 : EV prog w B G A env ρ e2 (.str x))
    (hl : ∃ l, Subs code x.cps repl 0 l ∧ Txt.join Str.empty l = y ∧ (l.map (·.length)).sum + l.length ≤ 90000) (h92 : repl.cps.contains 92 = false) (hx : x.cps.size ≤ 100000)
    (hbase : attributeBase o "sub" env (eval o env) = eval o env := by rfl) (hline : (apos.endLine == pos.line) = true := by rfl)
    (hst : ∀ r, starEach (e1 :: r) env = (false, eval e1 env) :: starEach r env := by intro _; rfl) (hst2 : ∀ r, starEach (e2 :: r) env = (false, eval e2 env) :: starEach r env := by intro _; rfl) :
    EV prog w B G A env ρ (.Call (.Attribute o "sub" apos) [e1, e2] [] pos) (.str y) := fun M s Q E z yv h => by
  have a : ArgsEV prog w B G A env ρ [e1, e2] [.str repl, .str x] := .cons h1 hst (.cons h2 hst2 .nil)
  refine wpAny_Call_method_late hbase ?_ hline rfl (h0 M s _ _ z yv fun ov s1 p1 r1 => ?_)
  · have h1 := args_any a pos
    have h2 : (backTo pos (starEach [e1, e2] env)).all (fun x => !x.1) = true := by
      rw [List.all_eq_not_any_not]; simpa using h1
    rw [h2]
    simp [backToKw, keywordEach]
  · cases r1
    obtain ⟨vs, T, its, n, n', g1, _⟩ := id hp.obj
    have hob := p1.inv.keep _ _ g1
    refine ⟨"re.Pattern", "re.Pattern.sub", plainAttrs_pat, slot_sub, type_sub, ⟨_, hob, rfl⟩, fun a e => by cases e; exact ⟨_, hob, rfl⟩, ?_⟩
    refine callWith_builtin (args_any a pos) (evalArgs_wp a pos _ (z.step p1) (yv.step z p1) fun us s2 p2 r2 => ?_)
    cases r2 with
    | cons q1 r2 =>
      cases q1
      cases r2 with
      | cons q2 r2 =>
        cases r2; cases q2
        obtain ⟨l, S, e, hw⟩ := hl
        refine sub_wp' S (hp.keeps p2.inv.keep) h92 hx hw fun t' kk h' hk => ?_
        rw [e]
        exact h _ _ ((p1.trans p2).trans (.of p2.inv hk)) (.str _ _)

/-! ## the list that was handed in -/
theorem slice_ref {value : PySem.Expr} {lower upper step : Option PySem.Expr} {p pos : Pos} {a : Addr} {ns : List Int} {vs : List Value} {lo hi st : Option Int} (h1 : EV prog w B G A env ρ value (.ref a)) (hg : G.IsList a (List.toArray vs)) (hi' : IntsAre vs ns)
    (hl : PartEV prog w B G A env ρ lower lo) (hu : PartEV prog w B G A env ρ upper hi) (hst : PartEV prog w B G A env ρ step st)
    (h0 : st ≠ some 0) (hlen : ns.length ≤ 100000) (hs : ∀ o i, ∃ l, subscripted (.Slice lower upper step p) false o i = operate l (getItem o i) := by intro _ _; exact ⟨_, rfl⟩) :
    EV prog w B G A env ρ (.Subscript value (.Slice lower upper step p) pos) (.list (pickD (ns.map D.int) lo hi st)) := by
  refine slice_wp h1 hl hu hst hs fun M s Q E v1 sl vl vu vs' z r1 hsl q1 q2 q3 h => ?_
  cases r1
  have hr : Reps M s.heap vs (ns.map .int) := ints_reps hi'
  have hL : s.heap.IsList a (List.toArray vs) := by
    obtain ⟨o, e, r⟩ := hg
    exact ⟨o, z.inv.keep _ _ e, r⟩
  have e := hr.length
  refine ⟨"list", _, slot_list_getitem.lookup, hL.typeIs, wpAny_getItem_list_slice hL ⟨_, hsl, rfl, rfl⟩ q1 q2 q3 h0 ?_ ?_⟩
  · have hp := hr.pickL (sliceRange (sliceBounds lo hi st (ns.map D.int).length).1 (sliceBounds lo hi st (ns.map D.int).length).2.1 (sliceBounds lo hi st (ns.map D.int).length).2.2)
    have e2 : slicePick (List.toArray vs) lo hi st = List.toArray ((sliceRange (sliceBounds lo hi st (ns.map D.int).length).1 (sliceBounds lo hi st (ns.map D.int).length).2.1 (sliceBounds lo hi st (ns.map D.int).length).2.2).filterMap (vs[·]?)) := by
      unfold slicePick
      simp [e]
    rw [e2]
    exact h _ _ (.push' z.inv) (Rep.newList hp z)
  · rw [List.size_toArray, e, List.length_map]; exact Nat.le_trans hlen (by decide)

/-! ## reversed -/
theorem IEV.reversed {e : PySem.Expr} {np pos : Pos} {ds : List D} (hA : A.handled = none) (hl : ds.length ≤ 100000) (g : Gl G env (PySem.Str.ofString "reversed") (.type "reversed")) (a : ArgsEV prog w B G A env ρ [e] [.list ds]) :
    IEV prog w B G A env ρ (.Call (.Name (PySem.Str.ofString "reversed") np) [e] [] pos) ds.reverse := fun M s Q E z y h => by
  refine wpAny_Call_ofName (wp_glob g z.inv (callW_type a z y fun vs s1 p1 r1 => ?_))
  have z1 := z.step p1
  cases r1 with
  | cons r1 r2 =>
    cases r2
    cases r1 with
    | list hm ho hr =>
      rename_i l n vs
      have hL : s1.heap.IsList l (List.toArray vs) := ⟨_, ho, rfl, _, rfl⟩
      refine call_reversed_list hL ?_
      have hne : l ≠ s1.heap.objs.size := Nat.ne_of_lt (Heap.lt_size ho)
      have up : ∀ b o, s1.heap.get? b = some o → (s1.heap.push (revObj l (((List.toArray vs).size : Int) - 1))).get? b = some o := fun b o e => Heap.get?_push_of_some _ e
      have hit : (s1.heap.push (revObj l (((List.toArray vs).size : Int) - 1))).IsRevIter s1.heap.objs.size l (((List.toArray vs).size : Int) - 1) := ⟨_, Heap.get?_push_size _ rfl, rfl, rfl⟩
      refine wpAny_pyIter_revIter hit ?_
      have hz : (List.toArray vs).size = ds.reverse.length := by rw [List.size_toArray, hr.length, List.length_reverse]
      refine h _ _ s1.heap.objs.size [s1.heap.objs.size, l] (fun i v => (List.toArray vs)[(List.toArray vs).size - 1 - i]? = some v) (fun i h => i ≤ (List.toArray vs).size ∧ h.IsRevIter s1.heap.objs.size l (((List.toArray vs).size : Int) - 1 - (i : Int)) ∧ h.IsList l (List.toArray vs)) (p1.trans (Stp.push' p1.inv)) (fresh_at (M := M) p1)
        ⟨rfl, hz ▸ Walks.listRev hA s1.heap.objs.size l hne (List.toArray vs), by rw [List.length_reverse]; exact hl, ⟨Nat.zero_le _, by simpa using hit, hL.push _⟩, ⟨_, Heap.get?_push_size _ rfl⟩, z1.fresh (get?_size _), g_at z1.inv, fun b hb => ?_, fun i h' st => ?_, fun i v d hv hd => ?_⟩
      · simp only [List.mem_cons, List.not_mem_nil, or_false] at hb
        rcases hb with rfl | rfl
        · exact ⟨⟨_, Heap.get?_push_size _ rfl⟩, z1.fresh (get?_size _)⟩
        · exact ⟨⟨_, up _ _ ho⟩, hm⟩
      · obtain ⟨_, ⟨o, e, c, d⟩, _⟩ := st
        refine ⟨o, _, _, e, c, d, by decide, fun vs' q t e' => ?_⟩
        rw [d] at e'; cases e'
        simp [rawInt]
      · refine .inl ?_
        have hi : i < ds.length := by
          rcases Nat.lt_or_ge i ds.reverse.length with q | q
          · simpa using q
          · rw [List.getElem?_eq_none q] at hd; cases hd
        rw [List.getElem?_reverse hi] at hd
        obtain ⟨u, hu, ru⟩ := hr.get hd
        have : u = v := by
          have hv' : vs[(List.toArray vs).size - 1 - i]? = some v := by simpa using hv
          rw [List.size_toArray, hr.length, hu] at hv'; exact Option.some.inj hv'
        subst this
        exact (ru.more (N := s1.heap.objs.size :: M) fun b hb => (List.mem_cons.mp hb).elim (fun q => .inr (q ▸ get?_size _)) .inl).grow fun b o _ e => up b o e

/-! ## statements that store over what they read -/
theorem ST.asgW {x : PySem.Str} {px pos : Pos} {e : PySem.Expr} {d1 : D} (h1 : EV prog w B G A env ρ e d1) (hx : Sto own env x) (hsub : ∀ p ∈ ρ₁, p ∈ ρ) (hn : ∀ n d, (n, d) ∈ ρ₁ → n ≠ x)
    (hs : swapsWith e (some (.Name x px)) pos.line env = pure false := by rfl) : ST prog w B G A own env k ρ (.Assign [.Name x px] e pos) k ((x, d1) :: ρ₁) := fun M s Q E F a h =>
  wpAny_Assign_Name (h1 M s _ _ F.z F.vars fun v s1 p1 r1 => store_wp ((F.step p1).weak hsub) hx hn r1 fun s2 p2 F2 => h s2 (p1.toW.trans (p2.mono wr_sub)) F2 ((a.step F.z p1).stepWr (F.step p1) p2)) hs
theorem ST.asgTW {t e : PySem.Expr} {pos : Pos} {d1 : D} {bs : List (PySem.Str × D)} (h1 : EV prog w B G A env ρ e d1) (ha : ASG prog w B G A own env t d1 bs) (hsub : ∀ p ∈ ρ₁, p ∈ ρ) (hn : ∀ n d x d', (n, d) ∈ ρ₁ → (x, d') ∈ bs → n ≠ x)
    (hs : swapsWithSole [t] e pos.line env = pure false := by rfl) (hw : swappedStores [t] e env = pure none := by rfl) (ht : assignEach [t] env = [(false, fun v => assign t env v)] := by rfl) : ST prog w B G A own env k ρ (.Assign [t] e pos) k (bs ++ ρ₁) := fun M s Q E F a h =>
  wpAny_Assign_stores (h1 M s _ _ F.z F.vars fun v s1 p1 r1 => by
    rw [ht]
    exact ha M s1 ρ₁ _ _ v ((F.step p1).weak hsub) hn r1 fun s2 p2 F2 => h s2 (p1.toW.trans (p2.mono wr_sub)) F2 ((a.step F.z p1).stepWr (F.step p1) p2)) hs hw
end
end Mine

end

/-! # text F11 -/
section
open PySem PySem.Spec PySem.Calls PyProof.Rows PySem.W PySem.Builtin PySem.Builtin.Str
set_option maxRecDepth 100000
set_option linter.unusedVariables false
set_option linter.unusedSimpArgs false
namespace Mine
section
variable {prog : Program} {w : World} {B : Tb} {G : Heap} {A : Around} {own : Bool} {env : Env} {ρ ρ₁ : List (PySem.Str × D)} {k : Option (Addr × List D)} {d : D}

theorem list_reverse_plain {s : Shared} {l : Addr} {vs : List Value} {Q : Value → Shared → Prop} {E : Value → Shared → Prop} (hl : s.heap.PlainList l (List.toArray vs)) (hz : vs.length ≤ 100000)
    (hQ : ∀ h', h'.PlainList l (List.toArray vs.reverse) → Heap.SameBut l s.heap h' → Q .none { s with heap := h' }) : wpAny (model prog w) A (call (.builtin "list.reverse") [.ref l]) Q E s := by
  obtain ⟨n, ho⟩ := hl
  have hz' : (List.toArray vs).size ≤ sizeLine := by rw [List.size_toArray]; exact Nat.le_trans hz (by decide)
  refine call_meets F.slot_list_reverse ⟨_, ho, rfl⟩ F.entry_list_reverse (F.args_list_reverse_1 _) (AutoListH.list_reverse_list_0 l (List.toArray vs) n hz') ⟨ho, ?_⟩
  refine hQ _ ?_ (Heap.SameBut.update ..)
  have e := get?_update_seq (h := s.heap) (a := l) (xs := List.toArray vs) (n := n) (c := "list") ho (fun x => x.reverse)
  have e2 : (List.toArray vs).reverse = List.toArray vs.reverse := by simp
  rw [e2] at e
  exact ⟨_, e⟩

/-- acc.reverse() -/
theorem ST.reverse {x : PySem.Str} {xp apos cpos pos : Pos} {a : Addr} {ds : List D} (hx : (x, .ref a) ∈ ρ) (hl : ds.length ≤ 100000)
    (hbase : attributeBase (.Name x xp) "reverse" env (eval (.Name x xp) env) = eval (.Name x xp) env := by rfl) (hline : (apos.endLine == cpos.line) = true := by rfl)
    (hs : swapsWith (.Call (.Attribute (.Name x xp) "reverse" apos) [] [] cpos) none pos.line env = pure false := by rfl) (hi : interactive env = false) :
    ST prog w B G A own env (some (a, ds)) ρ (.Expr (.Call (.Attribute (.Name x xp) "reverse" apos) [] [] cpos) pos) (some (a, ds.reverse)) ρ := fun M s Q E F ac h => by
  refine wpAny_Expr_any (wpAny_Call_method_late hbase (by rfl) hline rfl ?_) hi hs
  obtain ⟨u, hb, ru⟩ := F.vars x _ hx
  cases ru
  refine wp_bound hb ?_
  obtain ⟨aM, aO, aG, vs, pl, rs⟩ := id ac
  obtain ⟨n, ea⟩ := id pl
  refine ⟨"list", "list.reverse", PySem.F.plainAttrs_list, PySem.F.slot_list_reverse, PySem.F.type_list_reverse, ⟨_, ea, rfl⟩, fun b e => by cases e; exact ⟨_, ea, rfl⟩, ?_⟩
  refine callWith_builtin rfl (evalArgs_nil3 ?_)
  refine list_reverse_plain pl (by rw [rs.length]; exact hl) fun h' hl' hs' => ?_
  have z := F.z
  have p2 : StpW B G [a] s { s with heap := h' } := StpW.upd (tk := s.toks) z.inv hs' ea (notCode_seq rfl) aO aG (let ⟨n, e⟩ := hl'; ⟨_, e⟩) (by simp)
  have sub : ∀ b ∈ [a], b ∈ M := fun b hb => by rw [List.mem_singleton] at hb; subst hb; exact aM
  have nW := ac.notWr F
  refine h _ (p2.mono fun b hb => List.mem_append_left _ hb) (F.stepW p2 sub (fun q => ?_) fun n c hm ⟨v, o, e, dd⟩ q => ?_) ⟨aM, aO, aG, vs.reverse, hl', (rs.reverse).grow (z.growW p2 sub)⟩
  · rw [List.mem_singleton] at q
    exact nW a (by unfold xa; simp) (by unfold wr; rw [← q]; simp)
  · rw [List.mem_singleton] at q; subst q
    rw [ea] at e; cases e; cases dd
end
end Mine

end

/-! # text F12 -/
section
open PySem PySem.Spec PySem.Calls PyProof.Rows PySem.W PySem.Builtin PySem.Builtin.Str
set_option maxRecDepth 100000
set_option linter.unusedVariables false
set_option linter.unusedSimpArgs false
namespace Mine
section
variable {prog : Program} {w : World} {B : Tb} {G : Heap} {A : Around} {own : Bool} {env : Env} {ρ ρ₁ ρc : List (PySem.Str × D)} {k : Option (Addr × List D)} {d d1 d2 d3 : D} {e e1 e2 e3 : PySem.Expr}

theorem mem_of_lookupD {x : PySem.Str} {d : D} : ∀ {ρ : List (PySem.Str × D)}, ρ.lookup x = some d → (x, d) ∈ ρ
  | [], h => by cases h
  | (y, c) :: r, h => by
    rw [List.lookup_cons] at h
    cases hb : x == y with
    | true =>
      rw [hb] at h; cases h
      have : x = y := by simpa using hb
      subst this
      exact List.mem_cons_self
    | false => rw [hb] at h; exact List.mem_cons_of_mem _ (mem_of_lookupD h)
theorem EV.nm {x : PySem.Str} {pos : Pos} (hx : ρ.lookup x = some d := by rfl) : EV prog w B G A env ρ (.Name x pos) d := EV.name (mem_of_lookupD hx)
theorem EV.cast (h : EV prog w B G A env ρ e d1) (e' : d1 = d2) : EV prog w B G A env ρ e d2 := e' ▸ h
theorem TV.castB {b c : Bool} (h : TV prog w B G A env ρ e b) (e' : b = c) : TV prog w B G A env ρ e c := e' ▸ h
theorem A0 : ArgsEV prog w B G A env ρ [] [] := .nil
theorem A1 (h : EV prog w B G A env ρ e d) (hs : ∀ r, starEach (e :: r) env = (false, eval e env) :: starEach r env := by intro _; rfl) : ArgsEV prog w B G A env ρ [e] [d] := .cons h hs .nil
theorem A2 (h1 : EV prog w B G A env ρ e1 d1) (h2 : EV prog w B G A env ρ e2 d2) (hs1 : ∀ r, starEach (e1 :: r) env = (false, eval e1 env) :: starEach r env := by intro _; rfl) (hs2 : ∀ r, starEach (e2 :: r) env = (false, eval e2 env) :: starEach r env := by intro _; rfl) :
    ArgsEV prog w B G A env ρ [e1, e2] [d1, d2] := .cons h1 hs1 (.cons h2 hs2 .nil)
theorem A3 (h1 : EV prog w B G A env ρ e1 d1) (h2 : EV prog w B G A env ρ e2 d2) (h3 : EV prog w B G A env ρ e3 d3) (hs1 : ∀ r, starEach (e1 :: r) env = (false, eval e1 env) :: starEach r env := by intro _; rfl) (hs2 : ∀ r, starEach (e2 :: r) env = (false, eval e2 env) :: starEach r env := by intro _; rfl)
    (hs3 : ∀ r, starEach (e3 :: r) env = (false, eval e3 env) :: starEach r env := by intro _; rfl) : ArgsEV prog w B G A env ρ [e1, e2, e3] [d1, d2, d3] := .cons h1 hs1 (.cons h2 hs2 (.cons h3 hs3 .nil))
theorem getI {h : List Int} {j : Nat} (hj : j < h.length) : (h.map D.int)[j]? = some (.int (h.getD j 0)) := by
  rw [List.getElem?_map, List.getElem?_eq_getElem hj, List.getD_eq_getElem?_getD, List.getElem?_eq_getElem hj]; rfl
/-- h[j], a list of ints -/
theorem EV.idx {h : List Int} {j : Nat} {pos : Pos} (h1 : EV prog w B G A env ρ e1 (iL h)) (h2 : EV prog w B G A env ρ e2 (.int j)) (hj : j < h.length) (hl : h.length ≤ 100000)
    (hs : ∀ o i, ∃ l, subscripted e2 false o i = operate l (getItem o i) := by intro _ _; exact ⟨_, rfl⟩) : EV prog w B G A env ρ (.Subscript e1 e2 pos) (.int (h.getD j 0)) :=
  EV.sub h1 h2 (GET.list (by omega) (by omega) (by rw [Int.toNat_natCast]; exact getI hj)) hs
/-- l[j], a list of any data -/
theorem EV.idxD {h : List D} {j : Nat} {pos : Pos} (h1 : EV prog w B G A env ρ e1 (.list h)) (h2 : EV prog w B G A env ρ e2 (.int j)) (hd : h[j]? = some d) (hl : h.length ≤ 100000)
    (hs : ∀ o i, ∃ l, subscripted e2 false o i = operate l (getItem o i) := by intro _ _; exact ⟨_, rfl⟩) : EV prog w B G A env ρ (.Subscript e1 e2 pos) d :=
  EV.sub h1 h2 (GET.list (by omega) (by
    have : j < h.length := by
      rcases Nat.lt_or_ge j h.length with q | q
      · exact q
      · rw [List.getElem?_eq_none q] at hd; cases hd
    omega) (by rw [Int.toNat_natCast]; exact hd)) hs
theorem Caps.nil {scope : Scope} {cl : List (PySem.Str × Addr)} : Caps scope env cl ρ [] := fun _ _ h => nomatch h
theorem Caps.cons {scope : Scope} {cl : List (PySem.Str × Addr)} (x : PySem.Str) (r : Caps scope env cl ρ ρc) (h1 : ρ.lookup x = some d := by rfl) (h2 : env.kindOf x = some .cell := by rfl) (h3 : (relabel scope env).names.lookup x = some .cell := by rfl) (h4 : cl.lookup x = env.cells.lookup x := by rfl) :
    Caps scope env cl ρ ((x, d) :: ρc) := fun y d' hm => by
  rcases List.mem_cons.mp hm with q | q
  · cases q; exact ⟨mem_of_lookupD h1, h2, h3, h4⟩
  · exact r y d' q
theorem CompOk.mk' {scope : Scope} {cl : List (PySem.Str × Addr)} (h1 : closureFor scope env = pure cl := by rfl) (r : Caps scope env cl ρ ρc) (h2 : (scope.names.all fun y => y.2 != .cell && (y.2 != .local || scope.names.lookup y.1 == some .local)) = true := by rfl) (h3 : scope.kind = .function := by rfl) : CompOk scope env cl ρ ρc := by
  refine ⟨h1, fun y hy q => ?_, h3, fun y hy q => ?_, r⟩
  · have := List.all_eq_true.mp h2 y hy
    rw [q] at this; simp at this
  · have := List.all_eq_true.mp h2 y hy
    rw [q] at this
    simpa using this
/-- names that are not in a list, by looking -/
def fresh? (x : PySem.Str) (ρ : List (PySem.Str × D)) : Bool := ρ.all fun p => !(p.1 == x)
theorem fresh_of {x : PySem.Str} (h : fresh? x ρ = true) : ∀ n d, (n, d) ∈ ρ → n ≠ x := fun n d hm e => by
  have := List.all_eq_true.mp h (n, d) hm
  subst e
  simp at this
/-- a comprehension with one name -/
theorem EV.comp1 {elt iter : PySem.Expr} {x : PySem.Str} {px : Pos} {scope : Scope} {pos : Pos} {ds es : List D} {cl : List (PySem.Str × Addr)}
    (hi : IEV prog w B G A env ρ iter ds) (ok : CompOk scope env cl ρ ρc) (hx : ∀ C, Sto false (compEnvC scope cl C env) x) (hfr : fresh? x ρc = true)
    (helt : ∀ (C : Addr) (i : Nat) (d e : D), ds[i]? = some d → es[i]? = some e → EV prog w B G A (compEnvC scope cl C env) ((x, d) :: ρc) elt e)
    (hlen : es.length = ds.length) (hs : ∀ x, foldedSetIterable iter env x = pure x := by intro _; rfl) :
    EV prog w B G A env ρ (.ListComp elt [⟨.Name x px, iter, [], 0⟩] scope pos) (.list es) :=
  EV.comp (tb := fun d => [(x, d)]) hi ok (fun C d _ => ASG.name (hx C)) (fun d _ n d' y e h1 h2 => by
    rw [List.mem_singleton] at h2; cases h2; exact fresh_of hfr n d' h1) helt hlen hs
theorem ST.asgC1 {elt iter : PySem.Expr} {x y : PySem.Str} {px py : Pos} {scope : Scope} {pos cpos : Pos} {ds es : List D} {cl : List (PySem.Str × Addr)}
    (hi : IEV prog w B G A env ρ iter ds) (ok : CompOk scope env cl ρ ρc) (hx : ∀ C, Sto false (compEnvC scope cl C env) x) (hfr : fresh? x ρc = true)
    (helt : ∀ (C : Addr) (i : Nat) (d e : D), ds[i]? = some d → es[i]? = some e → EV prog w B G A (compEnvC scope cl C env) ((x, d) :: ρc) elt e)
    (hlen : es.length = ds.length) (hy : Sto own env y) (hn : fresh? y ρ = true)
    (hsw : swapsWith (.ListComp elt [⟨.Name x px, iter, [], 0⟩] scope cpos) (some (.Name y py)) pos.line env = pure true) (hs : ∀ x, foldedSetIterable iter env x = pure x := by intro _; rfl) :
    ST prog w B G A own env k ρ (.Assign [.Name y py] (.ListComp elt [⟨.Name x px, iter, [], 0⟩] scope cpos) pos) k ((y, .list es) :: ρ) :=
  ST.asgC (tb := fun d => [(x, d)]) hi ok (fun C d _ => ASG.name (hx C)) (fun d _ n d' y e h1 h2 => by
    rw [List.mem_singleton] at h2; cases h2; exact fresh_of hfr n d' h1) helt hlen hy (fresh_of hn) hsw hs
/-- a call of a def of the top, by its name -/
theorem EV.calld {x : PySem.Str} {np pos : Pos} {es : List PySem.Expr} {ds : List D} {f : Addr} {fd : FuncData} {body : List Stmt} {names : List PySem.Str} (g : Gl G env x (.ref f)) (ok : DefOk G f fd body names) (a : ArgsEV prog w B G A env ρ es ds) (hc : CALLS prog w B G A (.ref f) ds d) :
    EV prog w B G A env ρ (.Call (.Name x np) es [] pos) d :=
  EV.call g (.inr (let ⟨o, h1, h2⟩ := ok.obj; ⟨f, o, fd, rfl, h1, h2⟩)) a hc
theorem EV.callb {x : PySem.Str} {np pos : Pos} {es : List PySem.Expr} {ds : List D} {id : String} (g : Gl G env x (.builtin id)) (a : ArgsEV prog w B G A env ρ es ds) (hc : CALLS prog w B G A (.builtin id) ds d) :
    EV prog w B G A env ρ (.Call (.Name x np) es [] pos) d := EV.call g (.inl ⟨_, rfl⟩) a hc
end
end Mine

end

/-! # text F13 -/
section
open PySem PySem.Spec PySem.Calls PyProof.Rows PySem.W PySem.Builtin PySem.Builtin.Str
set_option maxRecDepth 100000
set_option linter.unusedVariables false
set_option linter.unusedSimpArgs false
namespace Mine
section
variable {prog : Program} {w : World} {B : Tb} {G : Heap} {A : Around} {own : Bool} {env : Env} {ρ ρ₁ ρc : List (PySem.Str × D)} {k : Option (Addr × List D)} {d d1 d2 d3 : D} {e e1 e2 e3 : PySem.Expr}

theorem rng_get {a : Int} {n i : Nat} {d : D} (h : (rng a n)[i]? = some d) : i < n ∧ d = .int (a + (i : Int)) := by
  unfold rng at h
  rw [List.getElem?_map] at h
  rcases Nat.lt_or_ge i n with q | q
  · rw [List.getElem?_range q] at h
    exact ⟨q, (Option.some.inj h).symm⟩
  · rw [List.getElem?_eq_none (by simpa using q)] at h; cases h
theorem rng_len {a : Int} {n : Nat} : (rng a n).length = n := by simp [rng]
theorem mapR_get {n i : Nat} {d : D} {f : Nat → D} (h : ((List.range n).map f)[i]? = some d) : d = f i := by
  rw [List.getElem?_map] at h
  rcases Nat.lt_or_ge i n with q | q
  · rw [List.getElem?_range q] at h; exact (Option.some.inj h).symm
  · rw [List.getElem?_eq_none (by simpa using q)] at h; cases h

/-- [elt for x in (what walks over a, a + 1, ..)] -/
theorem EV.compR {elt iter : PySem.Expr} {x : PySem.Str} {px : Pos} {scope : Scope} {pos : Pos} {cl : List (PySem.Str × Addr)} {a : Int} {n : Nat} (f : Nat → D) (hi : IEV prog w B G A env ρ iter (rng a n)) (ok : CompOk scope env cl ρ ρc) (hx : ∀ C, Sto false (compEnvC scope cl C env) x) (hfr : fresh? x ρc = true)
    (helt : ∀ (C : Addr) (i : Nat), i < n → EV prog w B G A (compEnvC scope cl C env) ((x, .int (a + (i : Int))) :: ρc) elt (f i)) (hs : ∀ x, foldedSetIterable iter env x = pure x := by intro _; rfl) :
    EV prog w B G A env ρ (.ListComp elt [⟨.Name x px, iter, [], 0⟩] scope pos) (.list ((List.range n).map f)) :=
  EV.comp1 hi ok hx hfr (fun C i d e hd he => by
    obtain ⟨hi, rfl⟩ := rng_get hd
    obtain rfl := mapR_get he
    exact helt C i hi) (by simp [rng]) hs
theorem ST.asgCR {elt iter : PySem.Expr} {x y : PySem.Str} {px py : Pos} {scope : Scope} {pos cpos : Pos} {cl : List (PySem.Str × Addr)} {a : Int} {n : Nat} (f : Nat → D) (hi : IEV prog w B G A env ρ iter (rng a n)) (ok : CompOk scope env cl ρ ρc) (hx : ∀ C, Sto false (compEnvC scope cl C env) x) (hfr : fresh? x ρc = true)
    (helt : ∀ (C : Addr) (i : Nat), i < n → EV prog w B G A (compEnvC scope cl C env) ((x, .int (a + (i : Int))) :: ρc) elt (f i)) (hy : Sto own env y) (hn : fresh? y ρ = true)
    (hsw : swapsWith (.ListComp elt [⟨.Name x px, iter, [], 0⟩] scope cpos) (some (.Name y py)) pos.line env = pure true := by rfl) (hs : ∀ x, foldedSetIterable iter env x = pure x := by intro _; rfl) :
    ST prog w B G A own env k ρ (.Assign [.Name y py] (.ListComp elt [⟨.Name x px, iter, [], 0⟩] scope cpos) pos) k ((y, .list ((List.range n).map f)) :: ρ) :=
  ST.asgC1 hi ok hx hfr (fun C i d e hd he => by
    obtain ⟨hi, rfl⟩ := rng_get hd
    obtain rfl := mapR_get he
    exact helt C i hi) (by simp [rng]) hy hn hsw hs
/-- [elt for x in a list] -/
theorem EV.compM {elt iter : PySem.Expr} {x : PySem.Str} {px : Pos} {scope : Scope} {pos : Pos} {cl : List (PySem.Str × Addr)} {ds : List D} (f : D → D) (hi : IEV prog w B G A env ρ iter ds) (ok : CompOk scope env cl ρ ρc) (hx : ∀ C, Sto false (compEnvC scope cl C env) x) (hfr : fresh? x ρc = true)
    (helt : ∀ (C : Addr) (d : D), d ∈ ds → EV prog w B G A (compEnvC scope cl C env) ((x, d) :: ρc) elt (f d)) (hs : ∀ x, foldedSetIterable iter env x = pure x := by intro _; rfl) :
    EV prog w B G A env ρ (.ListComp elt [⟨.Name x px, iter, [], 0⟩] scope pos) (.list (ds.map f)) :=
  EV.comp1 hi ok hx hfr (fun C i d e hd he => by
    rw [List.getElem?_map, hd] at he
    cases he
    exact helt C d (List.mem_of_getElem? hd)) (by simp) hs
theorem ST.asgCM {elt iter : PySem.Expr} {x y : PySem.Str} {px py : Pos} {scope : Scope} {pos cpos : Pos} {cl : List (PySem.Str × Addr)} {ds : List D} (f : D → D) (hi : IEV prog w B G A env ρ iter ds) (ok : CompOk scope env cl ρ ρc) (hx : ∀ C, Sto false (compEnvC scope cl C env) x) (hfr : fresh? x ρc = true)
    (helt : ∀ (C : Addr) (d : D), d ∈ ds → EV prog w B G A (compEnvC scope cl C env) ((x, d) :: ρc) elt (f d)) (hy : Sto own env y) (hn : fresh? y ρ = true)
    (hsw : swapsWith (.ListComp elt [⟨.Name x px, iter, [], 0⟩] scope cpos) (some (.Name y py)) pos.line env = pure true := by rfl) (hs : ∀ x, foldedSetIterable iter env x = pure x := by intro _; rfl) :
    ST prog w B G A own env k ρ (.Assign [.Name y py] (.ListComp elt [⟨.Name x px, iter, [], 0⟩] scope cpos) pos) k ((y, .list (ds.map f)) :: ρ) :=
  ST.asgC1 hi ok hx hfr (fun C i d e hd he => by
    rw [List.getElem?_map, hd] at he
    cases he
    exact helt C d (List.mem_of_getElem? hd)) (by simp) hy hn hsw hs
/-- [elt for x, y in a list of pairs] -/
theorem EV.compT {elt iter : PySem.Expr} {x y : PySem.Str} {px py pt : Pos} {scope : Scope} {pos : Pos} {kk : Nat} {cl : List (PySem.Str × Addr)} {α : Type} {l : List α} (u v : α → D) (f : α → D) (hA : A.handled = none) (hi : IEV prog w B G A env ρ iter (l.map fun p => .tup [u p, v p])) (ok : CompOk scope env cl ρ ρc) (hx : ∀ C, Sto false (compEnvC scope cl C env) x) (hy : ∀ C, Sto false (compEnvC scope cl C env) y) (hxy : (y == x) = false)
    (hfr : fresh? x ρc = true) (hfr2 : fresh? y ρc = true)
    (helt : ∀ (C : Addr) (p : α), p ∈ l → EV prog w B G A (compEnvC scope cl C env) ((y, v p) :: (x, u p) :: ρc) elt (f p)) (hs : ∀ x, foldedSetIterable iter env x = pure x := by intro _; rfl) :
    EV prog w B G A env ρ (.ListComp elt [⟨.Tuple [.Name x px, .Name y py] kk pt, iter, [], 0⟩] scope pos) (.list (l.map f)) := by
  let tb : D → List (PySem.Str × D) := fun d => match d with
    | .tup [a, b] => [(y, b), (x, a)]
    | _ => []
  refine EV.comp (tb := tb) hi ok (fun C d hd => ?_) (fun d hd n d' z e h1 h2 => ?_) (fun C i d e hd he => ?_) (by simp) hs
  · obtain ⟨p, _, rfl⟩ := List.mem_map.mp hd
    exact ASG.tup2 hA (hx C) (hy C) (fun q => by rw [q] at hxy; simp at hxy)
  · obtain ⟨p, _, rfl⟩ := List.mem_map.mp hd
    rcases List.mem_cons.mp h2 with q | q
    · cases q; exact fresh_of hfr2 n d' h1
    · rw [List.mem_singleton] at q; cases q; exact fresh_of hfr n d' h1
  · rw [List.getElem?_map] at hd he
    cases hp : l[i]? with
    | none => rw [hp] at hd; cases hd
    | some p =>
      rw [hp] at hd he
      cases hd; cases he
      exact helt C p (List.mem_of_getElem? hp)

theorem pickD_map {α β : Type} (f : α → β) (l : List α) (lo hi st : Option Int) : pickD (l.map f) lo hi st = (pickD l lo hi st).map f := by
  unfold pickD
  rw [List.length_map, List.map_filterMap]
  congr 1
  funext i
  rw [List.getElem?_map]

theorem EV.compI {elt iter : PySem.Expr} {x : PySem.Str} {px : Pos} {scope : Scope} {pos : Pos} {cl : List (PySem.Str × Addr)} {h : List Int} (f : Int → Int) (hi : IEV prog w B G A env ρ iter (h.map .int)) (ok : CompOk scope env cl ρ ρc) (hx : ∀ C, Sto false (compEnvC scope cl C env) x) (hfr : fresh? x ρc = true)
    (helt : ∀ (C : Addr) (i : Int), i ∈ h → EV prog w B G A (compEnvC scope cl C env) ((x, .int i) :: ρc) elt (.int (f i))) (hs : ∀ x, foldedSetIterable iter env x = pure x := by intro _; rfl) :
    EV prog w B G A env ρ (.ListComp elt [⟨.Name x px, iter, [], 0⟩] scope pos) (iL (h.map f)) :=
  EV.cast (EV.compM (fun d => match d with | .int i => .int (f i) | _ => d) hi ok hx hfr (fun C d hd => by
    obtain ⟨i, him, rfl⟩ := List.mem_map.mp hd
    exact helt C i him) hs) (by simp [iL, List.map_map, Function.comp_def])
theorem ST.asgCI {elt iter : PySem.Expr} {x y : PySem.Str} {px py : Pos} {scope : Scope} {pos cpos : Pos} {cl : List (PySem.Str × Addr)} {h : List Int} (f : Int → Int) (hi : IEV prog w B G A env ρ iter (h.map .int)) (ok : CompOk scope env cl ρ ρc) (hx : ∀ C, Sto false (compEnvC scope cl C env) x) (hfr : fresh? x ρc = true)
    (helt : ∀ (C : Addr) (i : Int), i ∈ h → EV prog w B G A (compEnvC scope cl C env) ((x, .int i) :: ρc) elt (.int (f i))) (hy : Sto own env y) (hn : fresh? y ρ = true)
    (hsw : swapsWith (.ListComp elt [⟨.Name x px, iter, [], 0⟩] scope cpos) (some (.Name y py)) pos.line env = pure true := by rfl) (hs : ∀ x, foldedSetIterable iter env x = pure x := by intro _; rfl) :
    ST prog w B G A own env k ρ (.Assign [.Name y py] (.ListComp elt [⟨.Name x px, iter, [], 0⟩] scope cpos) pos) k ((y, iL (h.map f)) :: ρ) := by
  have := ST.asgCM (k := k) (own := own) (y := y) (py := py) (pos := pos) (cpos := cpos) (fun d => match d with | .int i => .int (f i) | _ => d) hi ok hx hfr (fun C d hd => by
    obtain ⟨i, him, rfl⟩ := List.mem_map.mp hd
    exact helt C i him) hy hn hsw hs
  simpa [iL, List.map_map, Function.comp_def] using this
theorem EV.compRI {elt iter : PySem.Expr} {x : PySem.Str} {px : Pos} {scope : Scope} {pos : Pos} {cl : List (PySem.Str × Addr)} {a : Int} {n : Nat} (f : Nat → Int) (hi : IEV prog w B G A env ρ iter (rng a n)) (ok : CompOk scope env cl ρ ρc) (hx : ∀ C, Sto false (compEnvC scope cl C env) x) (hfr : fresh? x ρc = true)
    (helt : ∀ (C : Addr) (i : Nat), i < n → EV prog w B G A (compEnvC scope cl C env) ((x, .int (a + (i : Int))) :: ρc) elt (.int (f i))) (hs : ∀ x, foldedSetIterable iter env x = pure x := by intro _; rfl) :
    EV prog w B G A env ρ (.ListComp elt [⟨.Name x px, iter, [], 0⟩] scope pos) (iL ((List.range n).map f)) :=
  EV.cast (EV.compR (fun i => .int (f i)) hi ok hx hfr helt hs) (by simp [iL, List.map_map, Function.comp_def])
theorem ST.asgCRI {elt iter : PySem.Expr} {x y : PySem.Str} {px py : Pos} {scope : Scope} {pos cpos : Pos} {cl : List (PySem.Str × Addr)} {a : Int} {n : Nat} (f : Nat → Int) (hi : IEV prog w B G A env ρ iter (rng a n)) (ok : CompOk scope env cl ρ ρc) (hx : ∀ C, Sto false (compEnvC scope cl C env) x) (hfr : fresh? x ρc = true)
    (helt : ∀ (C : Addr) (i : Nat), i < n → EV prog w B G A (compEnvC scope cl C env) ((x, .int (a + (i : Int))) :: ρc) elt (.int (f i))) (hy : Sto own env y) (hn : fresh? y ρ = true)
    (hsw : swapsWith (.ListComp elt [⟨.Name x px, iter, [], 0⟩] scope cpos) (some (.Name y py)) pos.line env = pure true := by rfl) (hs : ∀ x, foldedSetIterable iter env x = pure x := by intro _; rfl) :
    ST prog w B G A own env k ρ (.Assign [.Name y py] (.ListComp elt [⟨.Name x px, iter, [], 0⟩] scope cpos) pos) k ((y, iL ((List.range n).map f)) :: ρ) := by
  have := ST.asgCR (k := k) (own := own) (y := y) (py := py) (pos := pos) (cpos := cpos) (fun i => .int (f i)) hi ok hx hfr helt hy hn hsw hs
  simpa [iL, List.map_map, Function.comp_def] using this
theorem EV.ints {es : List PySem.Expr} {ns : List Int} {pos : Pos} (a : ArgsEV prog w B G A env ρ es (ns.map .int)) (hl : ns.length ≤ 1000) : EV prog w B G A env ρ (.List es pos) (iL ns) := EV.list a (by simpa using hl)
/-- a slice of a list of ints -/
theorem EV.sliceI {value : PySem.Expr} {lower upper step : Option PySem.Expr} {p pos : Pos} {h : List Int} {lo hi st : Option Int} (h1 : EV prog w B G A env ρ value (iL h)) (hl : PartEV prog w B G A env ρ lower lo) (hu : PartEV prog w B G A env ρ upper hi) (hst : PartEV prog w B G A env ρ step st)
    (h0 : st ≠ some 0) (hlen : h.length ≤ 100000) (hs : ∀ o i, ∃ l, subscripted (.Slice lower upper step p) false o i = operate l (getItem o i) := by intro _ _; exact ⟨_, rfl⟩) :
    EV prog w B G A env ρ (.Subscript value (.Slice lower upper step p) pos) (iL (pickD h lo hi st)) :=
  EV.cast (EV.sliceL h1 hl hu hst h0 (by simpa using hlen) hs) (by rw [pickD_map])
end
end Mine

end

/-! # text F14 -/
section
open PySem PySem.Spec PySem.Calls PyProof.Rows PySem.W PySem.Builtin PySem.Builtin.Str
set_option maxRecDepth 100000
set_option linter.unusedVariables false
set_option linter.unusedSimpArgs false
namespace Mine
theorem pickD_plain {α : Type} (l : List α) (lo hi : Option Int) : pickD l lo hi none = (l.drop (lo.elim 0 (clipAt l.length))).take (hi.elim l.length (clipAt l.length) - lo.elim 0 (clipAt l.length)) := by
  unfold pickD
  rw [sliceBounds_plain]
  simp only [sliceRange_one]
  have := pick_run l.toArray (lo.elim 0 (clipAt l.length)) (hi.elim l.length (clipAt l.length) - lo.elim 0 (clipAt l.length))
  simpa using this
theorem pickD_drop {α : Type} (l : List α) (k : Nat) : pickD l (some (k : Int)) none none = l.drop k := by
  rw [pickD_plain]
  simp only [Option.elim, clipAt_nat]
  rcases Nat.lt_or_ge k l.length with h | h
  · rw [Nat.min_eq_left (by omega), List.take_of_length_le (by simp)]
  · rw [Nat.min_eq_right h, List.drop_eq_nil_of_le h]; simp
theorem pickD_take {α : Type} (l : List α) (k : Nat) : pickD l none (some (k : Int)) none = l.take k := by
  rw [pickD_plain]
  simp only [Option.elim, clipAt_nat, List.drop_zero, Nat.sub_zero]
  rcases Nat.lt_or_ge k l.length with h | h
  · rw [Nat.min_eq_left (by omega)]
  · rw [Nat.min_eq_right h, List.take_of_length_le (Nat.le_refl _), List.take_of_length_le h]
theorem pickD_init {α : Type} (l : List α) : pickD l none (some (-1)) none = l.dropLast := by
  rw [pickD_plain]
  simp only [Option.elim, List.drop_zero, Nat.sub_zero]
  rw [show (-1 : Int) = -((1 : Nat) : Int) by rfl, clipAt_neg _ _ (by omega), List.dropLast_eq_take]
theorem pickD_rev {α : Type} (l : List α) : pickD l none none (some (-1)) = l.reverse := by
  unfold pickD sliceBounds
  simp only [Option.getD_some, show ¬((-1 : Int) > 0) by decide, if_false]
  unfold sliceRange
  simp only [show ¬((-1 : Int) > 0) by decide, if_false]
  have e : (if ((l.length : Int) - 1) > -1 then ((l.length : Int) - 1 - -1 - -1 - 1) / (- -1) else 0).toNat = l.length := by
    rw [show (- -1 : Int) = 1 by decide, Int.ediv_one]
    split <;> omega
  rw [e]
  apply List.ext_getElem?
  intro i
  rw [List.filterMap_map]
  have key : ∀ (n : Nat), n ≤ l.length → (List.range n).filterMap ((fun x => l[x]?) ∘ fun (k : Nat) => ((l.length : Int) - 1 + -1 * (k : Int)).toNat) = (l.reverse).take n := by
    intro n
    induction n with
    | zero => intro _; simp
    | succ n ih =>
      intro hn
      rw [List.range_succ, List.filterMap_append, ih (by omega), List.take_add_one]
      congr 1
      have e1 : ((l.length : Int) - 1 + -1 * (n : Int)).toNat = l.length - 1 - n := by omega
      simp only [List.filterMap_cons, List.filterMap_nil, Function.comp, e1]
      rw [List.getElem?_reverse (by omega)]
      cases l[l.length - 1 - n]? <;> rfl
  rw [key l.length (Nat.le_refl _), List.take_of_length_le (by simp)]
theorem pickD_len {α : Type} (l : List α) (lo hi : Option Int) : (pickD l lo hi none).length ≤ l.length := by
  rw [pickD_plain, List.length_take, List.length_drop]; omega
end Mine

end

/-! # text C0 -/
section
open PySem PySem.Spec PySem.Calls PyProof.Rows PySem.W
set_option maxRecDepth 100000
set_option linter.unusedVariables false
set_option linter.unusedSimpArgs false
namespace Mine
noncomputable def KK (P : Params) : Frag := Mine.hd.heap_39 P
noncomputable def fdOf (P : Params) (a : Addr) : FuncData := match (KK P).lookup a with
  | some ⟨_, _, .func fd, _⟩ => fd
  | _ => { name := "", params := { posonlyargs := [], args := [], vararg := none, kwonlyargs := [], kw_defaults := [], kwarg := none, defaults := [] }, body := .stmts [], scope := { kind := .function, names := [], isGenerator := false, isCoroutine := false }, globals := 0, closure := [], qualname := "", defaults := .none, kwdefaults := .none, doc := .none, pyModule := .none, annotations := none, code := .none, closureTuple := .none, builtins := 0 }
noncomputable def bodyOf (P : Params) (a : Addr) : List Stmt := match (fdOf P a).body with
  | .stmts b => b
  | _ => []

structure TopG (P : Params) (mg mb : PySem.Str → Option Value) (G : Heap) : Prop where
  K : (KK P).In G
  g : G.Ns mainGlobals mg
  b : G.Ns builtinsNs mb
  builtins : ∀ x : PySem.Str, x ≠ "__name__" → mb x = bootBuiltins x
  nolimit : G.NoLimit
  bmain : ∃ bm ob, mg "__builtins__" = some (.ref bm) ∧ bm ≠ builtinsNs ∧ G.get? bm = some ob ∧ ob.cls = .type "module" ∧ ob.dict = some builtinsNs ∧ ob.data = .plain
  g47 : G.get? 47 = none
  g54 : G.get? 54 = none
  hd1 : CodeHd G 51 47
  hd2 : CodeHd G 58 54

section
variable {P : Params} {mg mb : PySem.Str → Option Value} {G G' : Heap} {env : Env}
theorem TopG.keeps (T : TopG P mg mb G) (k : ∀ b o, G.get? b = some o → G'.get? b = some o) (h1 : G'.get? 47 = none) (h2 : G'.get? 54 = none) : TopG P mg mb G' :=
  ⟨T.K.keeps k, T.g.keeps k, T.b.keeps k, T.builtins, T.nolimit.keeps k, let ⟨bm, ob, a1, a2, a3, r⟩ := T.bmain; ⟨bm, ob, a1, a2, k _ _ a3, r⟩, h1, h2, T.hd1.keeps k, T.hd2.keeps k⟩

theorem TopG.gl (T : TopG P mg mb G) {x : PySem.Str} {v : Value} (hk : env.scope.kind = .function) (hi : env.kindOf x = some .globalImplicit) (hg : env.globals = mainGlobals) (hd : (x == ("__debug__" : PySem.Str)) = false) (hx : nsIn (KK P) mainGlobals x = some (some v)) : Gl G env x v :=
  ⟨hk, hi, hd, .inl ⟨mg, hg ▸ T.g, mg_of T.K T.g hx⟩⟩
theorem TopG.bi (T : TopG P mg mb G) {x : PySem.Str} {v : Value} (hk : env.scope.kind = .function) (hi : env.kindOf x = some .globalImplicit) (hg : env.globals = mainGlobals) (hb : env.builtins = builtinsNs) (hd : (x == ("__debug__" : PySem.Str)) = false) (hx : nsIn (KK P) mainGlobals x = some none) (hn : (x == ("__name__" : PySem.Str)) = false) (hv : bootBuiltins x = some v) : Gl G env x v :=
  ⟨hk, hi, hd, .inr ⟨mg, mb, hg ▸ T.g, mg_none_of T.K T.g hx, hb ▸ T.b, by rw [T.builtins x (fun e => by subst e; simp at hn), hv]⟩⟩

theorem TopG.def (T : TopG P mg mb G) {f : Addr} {names : List PySem.Str} (hl : ∃ o, (KK P).lookup f = some o ∧ o.data = .func (fdOf P f)) (hcl : (fdOf P f).closure = []) (hbd : (fdOf P f).body = .stmts (bodyOf P f)) (hc : codeIn (KK P) (fdOf P f).code (fdOf P f).qualname = true)
    (hb : ∀ vs : List Value, vs.length = names.length → bindArgs (fdOf P f) ⟨vs, []⟩ = pure (zipv names vs)) (hn : names.Nodup) (hks : (names.all fun x => !(x == ("__debug__" : PySem.Str)) && ((fdOf P f).scope.names.lookup x == some .local || (fdOf P f).scope.names.lookup x == some .cell)) = true)
    (hcn : decide ((cellsFrom 0 (fdOf P f).scope.names []).map (·.1)).Nodup = true) (h1 : (fdOf P f).scope.isCoroutine = false) (h2 : (fdOf P f).scope.isGenerator = false) (h3 : (fdOf P f).scope.kind = .function) : DefOk G f (fdOf P f) (bodyOf P f) names := by
  obtain ⟨o, e, d⟩ := hl
  refine ⟨⟨o, T.K _ _ e, d⟩, hcl, hbd, codeRec_of T.K hc, hb, hn, fun x hx => ?_, of_decide_eq_true hcn, h1, h2, h3⟩
  have := List.all_eq_true.mp hks x hx
  simp only [Bool.and_eq_true, Bool.or_eq_true, Bool.not_eq_true', beq_iff_eq] at this
  exact this
end

end Mine

end

/-! # text C1 -/
section
open PySem PySem.Spec PySem.Calls PyProof.Rows PySem.W
set_option maxRecDepth 100000
set_option linter.unusedVariables false
set_option linter.unusedSimpArgs false
namespace Mine
variable {P : Params} {mg mb : PySem.Str → Option Value} {G G' : Heap} {env : Env} {prog : Program} {w : World} {B : Tb} {A : Around}
theorem def_may_grow (T : TopG P mg mb G) : DefOk G 109 (fdOf P 109) (bodyOf P 109) ["heights", "j", "b"] :=
  T.def ⟨_, rfl, rfl⟩ rfl rfl rfl (fun vs h => by match vs, h with | [a, b, c], _ => rfl) (by decide) rfl rfl rfl rfl rfl

def mayGrow (h : List Int) (j : Nat) (b : Int) : Bool := decide (h.getD j 0 < b) && (j == 0 || decide (h.getD (j - 1) 0 > h.getD j 0))
theorem c_may_grow (T : TopG P mg mb G) (hroom : A.depth < recursionLimit) {h : List Int} {j : Nat} {b : Int} (hj : j < h.length) (hl : h.length ≤ 100) : CALLS prog w B G A (.ref 109) [iL h, .int j, .int b] (.bool (mayGrow h j b)) := by
  refine CALLS.of_def (def_may_grow T) hroom T.nolimit rfl fun L => ?_
  refine BDA.ret ?_
  refine EV.and2 (d1 := .bool (decide (h.getD j 0 < b))) (EV.cmp (EV.idx EV.nm EV.nm hj (by omega)) EV.nm BOP.lt) TRU.bool (fun hc => ?_) (fun hc => ?_)
  · refine EV.cast (d1 := .bool (j == 0 || decide (h.getD (j - 1) 0 > h.getD j 0))) (EV.or2 (d1 := .bool (j == 0)) (EV.cast (EV.cmp EV.nm EV.int BOP.eq) ?_) TRU.bool (fun hd => ?_) (fun hd => ?_)) ?_
    · congr 1; rw [Bool.eq_iff_iff, beq_iff_eq, beq_iff_eq]; omega
    · have hj0 : j ≠ 0 := by simpa using hd
      rw [hd, Bool.false_or]
      exact EV.cmp (EV.idx (j := j - 1) EV.nm (EV.cast (EV.bin EV.nm EV.int BOP.sub) (by congr 1; omega)) (by omega) (by omega)) (EV.idx EV.nm EV.nm hj (by omega)) BOP.gt
    · rw [hd]; rfl
    · unfold mayGrow; rw [hc, Bool.true_and]
  · unfold mayGrow; rw [hc]; rfl
end Mine

end

/-! # text C2 -/
section
open PySem PySem.Spec PySem.Calls PyProof.Rows PySem.W
set_option maxRecDepth 100000
set_option linter.unusedVariables false
set_option linter.unusedSimpArgs false
namespace Mine
variable {P : Params} {mg mb : PySem.Str → Option Value} {G G' : Heap} {env : Env} {prog : Program} {w : World} {B : Tb} {A : Around}

/-! ### _law_cells -/
theorem def_cells (T : TopG P mg mb G) : DefOk G 102 (fdOf P 102) (bodyOf P 102) ["script"] :=
  T.def ⟨_, rfl, rfl⟩ rfl rfl rfl (fun vs h => by match vs, h with | [a], _ => rfl) (by decide) rfl rfl rfl rfl rfl
def drawn (ns : List Int) : List Int := (pickD ns none (some 18) none).map fun x => x.fmod 1000
def first6 : List Int := [1, 3, 0, 2, 1, 1]
def cellF (ns : List Int) (j : Nat) : Int := first6.getD j 0 + (pickD (drawn ns) (some j) none (some 6)).sum
def cellsF (ns : List Int) : List Int := (List.range 6).map (cellF ns)
theorem c_cells (T : TopG P mg mb G) (hA : A.handled = none) (hroom : A.depth < recursionLimit) {a : Addr} {vs : List Value} {ns : List Int} (hg : G.IsList a (List.toArray vs)) (hi : IntsAre vs ns) (hl : ns.length ≤ 63) (hl2 : (pickD ns none (some 18) none).length ≤ 63) : CALLS prog w B G A (.ref 102) [.ref a] (iL (cellsF ns)) := by
  refine CALLS.of_def (def_cells T) hroom T.nolimit rfl fun L => ?_
  refine BDA.cons (ST.asg (EV.compI (h := pickD ns none (some 18) none) (fun x => x.fmod 1000) (IEV.list hA (by rw [List.length_map]; omega) (EV.cast (slice_ref EV.nm hg hi .none (.some EV.int) .none (by simp) (by omega)) (by rw [pickD_map]))) (CompOk.mk' (r := Caps.nil)) (fun C => ⟨rfl, .inl rfl⟩) rfl (fun C x _ => EV.bin EV.nm EV.int (BOP.mod (by decide)))) ⟨rfl, .inr ⟨rfl, rfl, rfl⟩⟩ (fresh_of rfl)) rfl ?_
  refine BDA.cons (ST.asg (EV.ints (ns := first6) (.cons EV.int (by intro _; rfl) (.cons EV.int (by intro _; rfl) (.cons EV.int (by intro _; rfl) (.cons EV.int (by intro _; rfl) (A2 EV.int EV.int))))) (by decide)) ⟨rfl, .inr ⟨rfl, rfl, rfl⟩⟩ (fresh_of rfl)) rfl ?_
  refine BDA.ret (EV.compRI (cellF ns) (IEV.range1 (n := 6) hA (T.bi rfl rfl rfl rfl rfl rfl rfl rfl) (by decide) (A1 EV.int)) (CompOk.mk' (r := Caps.cons "drawn" (Caps.cons "first" Caps.nil))) (fun C => ⟨rfl, .inl rfl⟩) rfl (fun C i hi => ?_))
  exact EV.cast (EV.bin (EV.idx (j := i) EV.nm (EV.cast EV.nm (by simp)) (by simpa [first6] using hi) (by decide)) (EV.callb (T.bi rfl rfl rfl rfl rfl rfl rfl rfl) (A1 (EV.sliceI EV.nm (.some EV.nm) .none (.some EV.int) (by simp) (by simp; omega))) (CALLS.sum hA)) BOP.add) (by simp [cellF, drawn])
end Mine

end

/-! # text C3 -/
section
open PySem PySem.Spec PySem.Calls PyProof.Rows PySem.W
set_option maxRecDepth 100000
set_option linter.unusedVariables false
set_option linter.unusedSimpArgs false
namespace Mine
variable {P : Params} {mg mb : PySem.Str → Option Value} {G G' : Heap} {env : Env} {prog : Program} {w : World} {B : Tb} {A : Around}

/-! ### _law_corners -/
theorem def_corners (T : TopG P mg mb G) : DefOk G 121 (fdOf P 121) (bodyOf P 121) ["heights"] :=
  T.def ⟨_, rfl, rfl⟩ rfl rfl rfl (fun vs h => by match vs, h with | [a], _ => rfl) (by decide) rfl rfl rfl rfl rfl
def cornerF (h : List Int) (j : Nat) : Int := if h.getD j 0 > (h.drop 1 ++ [0]).getD j 0 then h.getD j 0 else 0
def cornersF (h : List Int) : List Int := (List.range h.length).map (cornerF h)
theorem c_corners (T : TopG P mg mb G) (hA : A.handled = none) (hroom : A.depth < recursionLimit) {h : List Int} (hl : h.length ≤ 100) : CALLS prog w B G A (.ref 121) [iL h] (iL (cornersF h)) := by
  refine CALLS.of_def (def_corners T) hroom T.nolimit rfl fun L => ?_
  refine BDA.cons (ST.asg (EV.cast (d2 := iL (h.drop 1 ++ [0])) (EV.bin (EV.sliceI EV.nm (.some EV.int) .none .none (by simp) (by omega)) (EV.ints (ns := [0]) (A1 EV.int) (by decide)) (BOP.addL (by rw [List.length_map]; have := pickD_len h (some 1) none; simp; omega))) (by rw [← List.map_append, show pickD h (some 1) none none = h.drop 1 from pickD_drop h 1])) ⟨rfl, .inr ⟨rfl, rfl, rfl⟩⟩ (fresh_of rfl)) rfl ?_
  refine BDA.ret (EV.compRI (cornerF h) (IEV.range1 (n := h.length) hA (T.bi rfl rfl rfl rfl rfl rfl rfl rfl) (by omega) (A1 (EV.cast (EV.callb (T.bi rfl rfl rfl rfl rfl rfl rfl rfl) (A1 EV.nm) (CALLS.lenL (by simp; omega))) (by simp)))) (CompOk.mk' (r := Caps.cons "heights" (Caps.cons "below" Caps.nil))) (fun C => ⟨rfl, .inl rfl⟩) rfl (fun C i hi => ?_))
  have hi2 : i < (h.drop 1 ++ [0]).length := by simp; omega
  refine EV.ifT (TV.cmp (EV.idx (j := i) EV.nm (EV.cast EV.nm (by simp)) hi (by omega)) (EV.idx (j := i) EV.nm (EV.cast EV.nm (by simp)) hi2 (by simp; omega)) BOP.gt) (fun hc => ?_) (fun hc => ?_)
  · exact EV.cast (EV.idx (j := i) EV.nm (EV.cast EV.nm (by simp)) hi (by omega)) (by unfold cornerF; rw [if_pos (of_decide_eq_true hc)])
  · exact EV.cast EV.int (by unfold cornerF; rw [if_neg (of_decide_eq_false hc)])

/-! ### _law_bits -/
theorem def_bits (T : TopG P mg mb G) : DefOk G 131 (fdOf P 131) (bodyOf P 131) ["grown", "b"] :=
  T.def ⟨_, rfl, rfl⟩ rfl rfl rfl (fun vs h => by match vs, h with | [a, b], _ => rfl) (by decide) rfl rfl rfl rfl rfl
def bitsF (g : List Int) (b : Nat) : List Int := (g.map fun x => if x > 0 then (1 : Int) else 0) ++ (List.range b).map fun (i : Nat) => if g.contains (1 + (i : Int)) then (0 : Int) else 1
theorem c_bits (T : TopG P mg mb G) (hA : A.handled = none) (hroom : A.depth < recursionLimit) {g : List Int} {b : Nat} (hl : g.length ≤ 100) (hb : b ≤ 100) : CALLS prog w B G A (.ref 131) [iL g, .int b] (iL (bitsF g b)) := by
  refine CALLS.of_def (def_bits T) hroom T.nolimit rfl fun L => ?_
  refine BDA.cons (ST.asgCI (h := g) (fun x => if x > 0 then (1 : Int) else 0) (IEV.list hA (by rw [List.length_map]; omega) EV.nm) (CompOk.mk' (r := Caps.nil)) (fun C => ⟨rfl, .inl rfl⟩) rfl (fun C x _ => ?_) ⟨rfl, .inl rfl⟩ rfl) rfl ?_
  · refine EV.ifT (TV.cmp EV.nm EV.int BOP.gt) (fun hc => ?_) (fun hc => ?_)
    · exact EV.cast EV.int (by rw [if_pos (of_decide_eq_true hc)])
    · exact EV.cast EV.int (by rw [if_neg (of_decide_eq_false hc)])
  refine BDA.cons (ST.asgCRI (fun (i : Nat) => if g.contains (1 + (i : Int)) then (0 : Int) else 1) (IEV.range2 (n := b) hA (T.bi rfl rfl rfl rfl rfl rfl rfl rfl) (by decide) (by decide) rfl (by omega) (A2 EV.int (EV.cast (EV.bin EV.nm EV.int BOP.add) (by congr 1; omega)))) (CompOk.mk' (r := Caps.cons "grown" Caps.nil)) (fun C => ⟨rfl, .inl rfl⟩) rfl (fun C i hi => ?_) ⟨rfl, .inl rfl⟩ rfl) rfl ?_
  · refine EV.ifT (TV.cmp EV.nm EV.nm BOP.inI) (fun hc => ?_) (fun hc => ?_)
    · exact EV.cast EV.int (by rw [if_pos hc])
    · exact EV.cast EV.int (by rw [if_neg (by rw [hc]; decide)])
  exact BDA.ret (EV.cast (EV.bin EV.nm EV.nm (BOP.addL (by simp; omega))) (by simp [bitsF, iL]))

/-! ### _law_word -/
theorem def_word (T : TopG P mg mb G) : DefOk G 136 (fdOf P 136) (bodyOf P 136) ["bits"] :=
  T.def ⟨_, rfl, rfl⟩ rfl rfl rfl (fun vs h => by match vs, h with | [a], _ => rfl) (by decide) rfl rfl rfl rfl rfl
def wordF (bits : List Int) : Array UInt8 := ((byteArr (bits.map fun x => 65 + x)).toList.dropWhile (#[65] : Array UInt8).contains).toArray
theorem c_word (T : TopG P mg mb G) (hA : A.handled = none) (hroom : A.depth < recursionLimit) {bits : List Int} (hl : bits.length ≤ 100) (hb : ∀ x ∈ bits, x = 0 ∨ x = 1) : CALLS prog w B G A (.ref 136) [iL bits] (.bytes (wordF bits)) := by
  refine CALLS.of_def (def_word T) hroom T.nolimit rfl fun L => ?_
  refine BDA.ret (EV.meth (EV.callT (T.bi rfl rfl rfl rfl rfl rfl rfl rfl) (A1 (EV.compI (h := bits) (fun x => 65 + x) (IEV.list hA (by rw [List.length_map]; omega) EV.nm) (CompOk.mk' (r := Caps.nil)) (fun C => ⟨rfl, .inl rfl⟩) rfl (fun C x _ => EV.bin EV.int EV.nm BOP.add))) (CALLS.bytes hA ?_ ?_)) (.bytes _) mt_lstrip (A1 EV.bytes) (CALLS.lstrip ?_))
  · intro n hn
    obtain ⟨x, hx, rfl⟩ := List.mem_map.mp hn
    rcases hb x hx with rfl | rfl <;> decide
  · rw [List.length_map]; omega
  · rw [byteArr_size, List.length_map]; omega
end Mine

end

/-! # text C4 -/
section
open PySem PySem.Spec PySem.Calls PyProof.Rows PySem.W
set_option maxRecDepth 100000
set_option linter.unusedVariables false
set_option linter.unusedSimpArgs false
set_option maxHeartbeats 8000000
namespace Mine
variable {P : Params} {mg mb : PySem.Str → Option Value} {G G' : Heap} {env : Env} {prog : Program} {w : World} {B : Tb} {A : Around}

/-! ### _law_mail -/
theorem def_mail (T : TopG P mg mb G) : DefOk G 116 (fdOf P 116) (bodyOf P 116) ["heights", "b", "ends"] :=
  T.def ⟨_, rfl, rfl⟩ rfl rfl rfl (fun vs h => by match vs, h with | [a, b, c], _ => rfl) (by decide) rfl rfl rfl rfl rfl
def rowStr (h : List Int) (b : Int) (es : List PySem.Str) (j : Nat) : PySem.Str := ((if mayGrow h j b then ("" : PySem.Str) else "a") ++ Txt.mul "." (h.getD j 0 + 1)) ++ es.getD j Str.empty
def mailF (h : List Int) (b : Int) (es : List PySem.Str) : PySem.Str := Txt.join "" ((List.range h.length).map (rowStr h b es))

theorem mul_dots (n : Nat) : Txt.mul "." ((n : Int) + 1) = ofL (List.replicate (n + 1) 46) := by
  have e1 : (("." : PySem.Str)).cps = #[46] := by decide
  unfold Txt.mul
  rw [if_neg (by omega)]
  split
  · rename_i hc
    have : n = 0 := by
      simp only [Bool.or_eq_true, beq_iff_eq] at hc
      rcases hc with h | h
      · omega
      · rw [Str.length, e1] at h; simp at h
    subst this
    rfl
  · rw [e1]
    have : ∀ k (acc : Array Nat), (List.replicate k #[46]).foldl (· ++ ·) acc = acc ++ (List.replicate k 46).toArray := by
      intro k
      induction k with
      | zero => intro acc; simp
      | succ k ih => intro acc; rw [List.replicate_succ, List.foldl_cons, ih, List.replicate_succ]; apply Array.toList_inj.mp; simp
    rw [this]
    unfold ofL
    congr 1
    rw [show ((n : Int) + 1).toNat = n + 1 by omega]
    simp
theorem mulOk_dots {n : Int} (h0 : 0 ≤ n) (h : n ≤ 1000) : MulOk "." n := by
  have e1 : (("." : PySem.Str)).length = 1 := by decide
  refine ⟨by simp; omega, fun h1 _ => ?_, fun h1 _ => ?_⟩
  · rw [e1]
    have : (1 : Int) ≤ (2 ^ 63 - 1) / n := by
      rw [Int.le_ediv_iff_mul_le (by omega)]; omega
    omega
  · rw [e1]
    unfold Builtin.Str.tooLong
    simp [sizeLine]
    omega
theorem len_ofL (l : List Nat) : (ofL l).length = l.length := by simp [ofL, Str.length]
theorem len_app (a b : PySem.Str) : (a ++ b).length = a.length + b.length := Str.length_append a b
theorem getS {es : List PySem.Str} {j : Nat} (hj : j < es.length) : (es.map D.str)[j]? = some (.str (es.getD j Str.empty)) := by
  rw [List.getElem?_map, List.getElem?_eq_getElem hj, List.getD_eq_getElem?_getD, List.getElem?_eq_getElem hj]; rfl

theorem rowStr_len {h : List Int} {b : Int} {es : List PySem.Str} (hh : ∀ x ∈ h, 0 ≤ x ∧ x ≤ 100) (hes : ∀ e ∈ es, e.length ≤ 2) (he : es.length = h.length) {i : Nat} (hi : i < h.length) : (rowStr h b es i).length ≤ 104 := by
  have hx := hh (h.getD i 0) (by rw [List.getD_eq_getElem?_getD, List.getElem?_eq_getElem hi]; exact List.getElem_mem hi)
  obtain ⟨m, hm⟩ : ∃ m : Nat, h.getD i 0 = (m : Int) := ⟨(h.getD i 0).toNat, by omega⟩
  have l1 : (if mayGrow h i b then ("" : PySem.Str) else "a").length ≤ 1 := by split <;> decide
  have l2 : (Txt.mul "." (h.getD i 0 + 1)).length ≤ 101 := by rw [hm, mul_dots, len_ofL, List.length_replicate]; omega
  have l3 : (es.getD i Str.empty).length ≤ 2 := hes _ (by rw [List.getD_eq_getElem?_getD, List.getElem?_eq_getElem (by omega : i < es.length)]; exact List.getElem_mem _)
  unfold rowStr
  rw [len_app, len_app]
  omega
theorem sum_le_of {l : List Nat} {c : Nat} (h : ∀ x ∈ l, x ≤ c) : l.sum ≤ l.length * c := by
  induction l with
  | nil => simp
  | cons a r ih =>
    have h1 := h a (by simp)
    have h2 := ih fun x hx => h x (by simp [hx])
    rw [List.sum_cons, List.length_cons, Nat.add_mul]
    omega
theorem c_mail (T : TopG P mg mb G) (hA : A.handled = none) (hroom : A.depth + 5 < recursionLimit) {h : List Int} {b : Int} {es : List PySem.Str} (hl : h.length ≤ 100) (he : es.length = h.length) (hh : ∀ x ∈ h, 0 ≤ x ∧ x ≤ 100) (hes : ∀ e ∈ es, e.length ≤ 2) :
    CALLS prog w B G A (.ref 116) [iL h, .int b, .list (es.map .str)] (.str (mailF h b es)) := by
  refine CALLS.of_def (def_mail T) (by omega) T.nolimit rfl fun L => ?_
  refine BDA.newAcc ⟨rfl, .inl rfl⟩ (fresh_of rfl) fun a => ?_
  refine BDA.cons (ST.for (ds := rng 0 h.length) (ρs := fun _ => ("rows", .ref a) :: zipd ["heights", "b", "ends"] [iL h, .int b, .list (es.map .str)]) (ks := fun i => some (a, (List.range i).map fun j => .str (rowStr h b es j)))
    (IEV.range1 (n := h.length) hA (T.bi rfl rfl rfl rfl rfl rfl rfl rfl) (by omega) (A1 (EV.cast (EV.callb (T.bi rfl rfl rfl rfl rfl rfl rfl rfl) (A1 EV.nm) (CALLS.lenL (by simp; omega))) (by simp)))) ⟨rfl, .inl rfl⟩ (fun _ => fresh_of rfl) (fun _ => rfl) (fun i d hd => ?_)) rfl ?_
  · obtain ⟨hi, rfl⟩ := rng_get hd
    rw [show (0 : Int) + (i : Int) = i by omega]
    have hx := hh (h.getD i 0) (by rw [List.getD_eq_getElem?_getD, List.getElem?_eq_getElem hi]; exact List.getElem_mem hi)
    refine RUN.weak (ρ' := ("ahead", .str (if mayGrow h i b then ("" : PySem.Str) else "a")) :: ("j", .int i) :: ("rows", .ref a) :: zipd ["heights", "b", "ends"] [iL h, .int b, .list (es.map .str)]) ?_ (fun p hp => List.mem_cons_of_mem _ (List.mem_cons_of_mem _ hp))
    refine RUN.cons (ST.asg (d1 := .str (if mayGrow h i b then ("" : PySem.Str) else "a")) (EV.ifT (TV.val (EV.calld (T.gl rfl rfl rfl rfl rfl) (def_may_grow T) (A3 EV.nm EV.nm EV.nm) (c_may_grow T (show A.depth + 1 < recursionLimit by omega) hi (by omega))) TRU.bool) (fun hc => ?_) (fun hc => ?_)) ⟨rfl, .inl rfl⟩ (fresh_of rfl)) rfl ?_
    · exact EV.cast EV.str (by rw [if_pos hc])
    · exact EV.cast EV.str (by rw [if_neg (by rw [hc]; decide)])
    · have e : (List.range (i + 1)).map (fun j => D.str (rowStr h b es j)) = (List.range i).map (fun j => D.str (rowStr h b es j)) ++ [.str (rowStr h b es i)] := by rw [List.range_succ, List.map_append]; rfl
      show RUN prog w B G _ true _ _ _ _ (some (a, (List.range (i + 1)).map (fun j => D.str (rowStr h b es j)))) _
      rw [e]
      obtain ⟨m, hm⟩ : ∃ m : Nat, h.getD i 0 = (m : Int) := ⟨(h.getD i 0).toNat, by omega⟩
      have l1 : (if mayGrow h i b then ("" : PySem.Str) else "a").length ≤ 1 := by split <;> decide
      have l2 : (Txt.mul "." (h.getD i 0 + 1)).length ≤ 101 := by rw [hm, mul_dots, len_ofL, List.length_replicate]; omega
      have l3 : (es.getD i Str.empty).length ≤ 2 := hes _ (by rw [List.getD_eq_getElem?_getD, List.getElem?_eq_getElem (by omega : i < es.length)]; exact List.getElem_mem _)
      refine RUN.cons (ST.append (x := "rows") (a := a) (d1 := .str (rowStr h b es i)) (List.mem_cons_of_mem _ (List.mem_cons_of_mem _ List.mem_cons_self)) ?_ (by simp; omega) (hi := rfl)) rfl RUN.nil
      refine EV.bin (d1 := .str ((if mayGrow h i b then ("" : PySem.Str) else "a") ++ Txt.mul "." (h.getD i 0 + 1))) (d2 := .str (es.getD i Str.empty)) ?_ ?_ (BOP.addS (by rw [len_app]; omega))
      · refine EV.bin (d1 := .str (if mayGrow h i b then ("" : PySem.Str) else "a")) (d2 := .str (Txt.mul "." (h.getD i 0 + 1))) EV.nm ?_ (BOP.addS (by omega))
        refine EV.bin (d1 := .str ".") (d2 := .int (h.getD i 0 + 1)) EV.str ?_ (BOP.mulS (mulOk_dots (by omega) (by omega)))
        exact EV.bin (EV.idx EV.nm EV.nm hi (by omega)) EV.int BOP.add
      · exact EV.idxD EV.nm EV.nm (getS (by omega)) (by simp; omega)
  · refine BDA.freeze ?_
    rw [rng_len]
    have er : (List.range h.length).map (fun j => D.str (rowStr h b es j)) = ((List.range h.length).map (rowStr h b es)).map .str := by simp [List.map_map, Function.comp_def]
    rw [er]
    refine BDA.ret (EV.meth EV.str (.str _) mt_join (A1 EV.nm) (CALLS.join (by decide) ?_))
    have h1 : (((List.range h.length).map (rowStr h b es)).map (·.length)).sum ≤ (((List.range h.length).map (rowStr h b es)).map (·.length)).length * 104 := sum_le_of fun x hx => by
      simp only [List.mem_map, List.mem_range] at hx
      obtain ⟨_, ⟨i, hi, rfl⟩, rfl⟩ := hx
      exact rowStr_len hh hes he hi
    simp only [List.length_map, List.length_range] at h1 ⊢
    omega

/-- an end of a row -/
def EndOk (e : PySem.Str) : Prop := e.cps.toList = [10] ∨ e.cps.toList = [13] ∨ e.cps.toList = [13, 10]
theorem EndOk.len {e : PySem.Str} (h : EndOk e) : e.length ≤ 2 := by
  have : e.length = e.cps.toList.length := by simp [Str.length]
  rw [this]
  rcases h with h | h | h <;> rw [h] <;> decide
def mailRows (h : List Int) (b : Int) (es : List PySem.Str) : List (Bool × Nat × List Nat) := (List.range h.length).map fun j => (!mayGrow h j b, (h.getD j 0 + 1).toNat, (es.getD j Str.empty).cps.toList)
theorem mail_text {h : List Int} {b : Int} {es : List PySem.Str} (hh : ∀ x ∈ h, 0 ≤ x ∧ x ≤ 100) : (mailF h b es).cps.toList = mailL (mailRows h b es) := by
  unfold mailF
  rw [show ("" : PySem.Str) = Str.empty by decide, join_flat]
  unfold flat mailL mailRows
  rw [List.map_map, List.map_map]
  congr 1
  apply List.map_congr_left
  intro j hj
  have hi : j < h.length := List.mem_range.mp hj
  have hx := hh (h.getD j 0) (by rw [List.getD_eq_getElem?_getD, List.getElem?_eq_getElem hi]; exact List.getElem_mem hi)
  obtain ⟨m, hm⟩ : ∃ m : Nat, h.getD j 0 = (m : Int) := ⟨(h.getD j 0).toNat, by omega⟩
  simp only [Function.comp]
  unfold rowStr rowT
  rw [hm, mul_dots, show ((m : Int) + 1).toNat = m + 1 by omega]
  have e1 : ("" : PySem.Str).cps.toList = [] := by decide
  have e2 : ("a" : PySem.Str).cps.toList = [97] := by decide
  cases hg : mayGrow h j b
  · simp only [Bool.false_eq_true, if_false, Bool.not_false, if_true]
    show ((("a" : PySem.Str).cps ++ (ofL (List.replicate (m + 1) 46)).cps) ++ (es.getD j Str.empty).cps).toList = _
    rw [Array.toList_append, Array.toList_append, e2, ofL_list]
  · simp only [if_true, Bool.not_true, Bool.false_eq_true, if_false]
    show ((("" : PySem.Str).cps ++ (ofL (List.replicate (m + 1) 46)).cps) ++ (es.getD j Str.empty).cps).toList = _
    rw [Array.toList_append, Array.toList_append, e1, ofL_list]
theorem mail_ok {h : List Int} {b : Int} {es : List PySem.Str} (hh : ∀ x ∈ h, 0 ≤ x ∧ x ≤ 100) (he : es.length = h.length) (hes : ∀ e ∈ es, EndOk e) : EndsOk (mailRows h b es) := fun r hr => by
  unfold mailRows at hr
  obtain ⟨j, hj, rfl⟩ := List.mem_map.mp hr
  have hi : j < h.length := List.mem_range.mp hj
  have hx := hh (h.getD j 0) (by rw [List.getD_eq_getElem?_getD, List.getElem?_eq_getElem hi]; exact List.getElem_mem hi)
  refine ⟨by show 0 < (h.getD j 0 + 1).toNat; omega, ?_⟩
  exact hes _ (by rw [List.getD_eq_getElem?_getD, List.getElem?_eq_getElem (by omega : j < es.length)]; exact List.getElem_mem _)
/-- a row as it was sent -/
def sentF (h : List Int) (b : Int) (j : Nat) : List Nat := rowS (!mayGrow h j b) (h.getD j 0 + 1).toNat
def sentL (h : List Int) (b : Int) : List PySem.Str := (List.range h.length).map fun j => ofL (sentF h b j)
end Mine

end

/-! # text C5 -/
section
open PySem PySem.Spec PySem.Calls PyProof.Rows PySem.W
set_option maxRecDepth 100000
set_option linter.unusedVariables false
set_option linter.unusedSimpArgs false
set_option maxHeartbeats 8000000
namespace Mine
variable {P : Params} {mg mb : PySem.Str → Option Value} {G G' : Heap} {env : Env} {prog : Program} {w : World} {B : Tb} {A : Around}

/-! ### quotedata -/
theorem def_quote (T : TopG P mg mb G) : DefOk G 97 (fdOf P 97) (bodyOf P 97) ["data"] :=
  T.def ⟨_, rfl, rfl⟩ rfl rfl rfl (fun vs h => by match vs, h with | [a], _ => rfl) (by decide) rfl rfl rfl rfl rfl
theorem pat1 (T : TopG P mg mb G) : Pat G 85 code1 := ⟨_, _, _, _, _, T.K 85 _ rfl, rfl, rfl, rfl, T.K 84 _ rfl, by simp [code1, Builtin.Re.reRawOf], rfl⟩
theorem pat2 (T : TopG P mg mb G) : Pat G 90 code2 := ⟨_, _, _, _, _, T.K 90 _ rfl, rfl, rfl, rfl, T.K 89 _ rfl, by simp [code2, Builtin.Re.reRawOf], rfl⟩
def quoteF (x : PySem.Str) : PySem.Str := ofL (stuff true (fixEnds x.cps.toList))
theorem no92 {x : PySem.Str} (h : 92 ∉ x.cps.toList) : x.cps.contains 92 = false := by
  rw [← Array.contains_toList]; simpa using h
theorem c_quote (T : TopG P mg mb G) (hroom : A.depth < recursionLimit) {x : PySem.Str} (hx : x.cps.size ≤ 10000) : CALLS prog w B G A (.ref 97) [.str x] (.str (quoteF x)) := by
  refine CALLS.of_def (def_quote T) hroom T.nolimit rfl fun L => ?_
  obtain ⟨l2, S2, f2, n2⟩ := subs2 x.cps (by omega) x.cps.size 0 (by omega) (by omega)
  have e2 : Txt.join Str.empty l2 = ofL (fixEnds x.cps.toList) := str_of_list (by rw [join_flat, f2]; rfl)
  have s2 : (fixEnds x.cps.toList).length ≤ 20000 := by have := fixEnds_le x.cps.toList; simp only [Array.length_toList] at this; omega
  have c2 : (ofL (fixEnds x.cps.toList)).cps.toList = fixEnds x.cps.toList := ofL_list _
  have z2 : (ofL (fixEnds x.cps.toList)).cps.size ≤ 20000 := by rw [← Array.length_toList, c2]; exact s2
  obtain ⟨l1, S1, f1, n1⟩ := subs1 (ofL (fixEnds x.cps.toList)).cps z2 (ofL (fixEnds x.cps.toList)).cps.size 0 (by omega) (by omega)
  have e1 : Txt.join Str.empty l1 = quoteF x := str_of_list (by rw [join_flat, f1, c2]; rfl)
  refine BDA.ret (EV.resub (EV.glob (T.gl rfl rfl rfl rfl rfl)) (pat1 T) EV.str (EV.resub (y := ofL (fixEnds x.cps.toList)) (EV.glob (T.gl rfl rfl rfl rfl rfl)) (pat2 T) (EV.globS (T.gl rfl rfl rfl rfl rfl)) EV.nm ⟨l2, S2, e2, ?_⟩ (no92 (by decide)) (by omega)) ⟨l1, S1, e1, ?_⟩ (no92 (by decide)) (by omega))
  · rw [flat_sum, f2]
    have := fixEnds_le x.cps.toList
    rw [Array.length_toList] at this
    simp only [List.drop_zero]
    omega
  · rw [flat_sum, f1]
    have := stuff_le ((ofL (fixEnds x.cps.toList)).cps.toList.drop 0) (bol (ofL (fixEnds x.cps.toList)).cps 0)
    simp only [List.drop_zero, Array.length_toList] at this ⊢
    omega
theorem quote_mail {h : List Int} {b : Int} {es : List PySem.Str} (hh : ∀ x ∈ h, 0 ≤ x ∧ x ≤ 100) (he : es.length = h.length) (hes : ∀ e ∈ es, EndOk e) : quoteF (mailF h b es) = ofL (crs ((List.range h.length).map (sentF h b))) := by
  unfold quoteF
  rw [mail_text hh, fix_mail _ (mail_ok hh he hes)]
  congr 1
  have e : (mailRows h b es).map (fun r => rowT r.1 r.2.1) = ((mailRows h b es).map fun r => (r.1, r.2.1)).map fun r => rowT r.1 r.2 := by rw [List.map_map]; rfl
  rw [e, stuff_rows _ fun r hr => ?_]
  · congr 1
    unfold mailRows
    rw [List.map_map, List.map_map]
    rfl
  · obtain ⟨q, hq, rfl⟩ := List.mem_map.mp hr
    exact (mail_ok hh he hes q hq).1
end Mine

end

/-! # text C6 -/
section
open PySem PySem.Spec PySem.Calls PyProof.Rows PySem.W
set_option maxRecDepth 100000
set_option linter.unusedVariables false
set_option linter.unusedSimpArgs false
set_option maxHeartbeats 8000000
namespace Mine
variable {P : Params} {mg mb : PySem.Str → Option Value} {G G' : Heap} {env : Env} {prog : Program} {w : World} {B : Tb} {A : Around}

/-! ### _law_rounds -/
def grownF (h : List Int) (b : Int) : List Int := (List.range h.length).map fun j => if mayGrow h j b then h.getD j 0 + 1 else 0
def listMax : List Int → Int
  | [] => 0
  | [a] => a
  | a :: b :: r => max a (listMax (b :: r))
def nowF (g : List Int) : List Int := (List.range g.length).map fun j => listMax (g.drop j)
def nowAt (h : List Int) (b : Int) : Nat → List Int
  | 0 => h
  | n + 1 => nowF (grownF (nowAt h b n) b)
theorem max_mem : ∀ l : List Int, l ≠ [] → listMax l ∈ l ∧ ∀ a ∈ l, a ≤ listMax l
  | [], h => absurd rfl h
  | [a], _ => by simp [listMax]
  | a :: b :: r, _ => by
    obtain ⟨h1, h2⟩ := max_mem (b :: r) (by simp)
    unfold listMax
    constructor
    · rcases Int.le_total a (listMax (b :: r)) with q | q
      · rw [Int.max_eq_right q]; exact List.mem_cons_of_mem _ h1
      · rw [Int.max_eq_left q]; exact List.mem_cons_self
    · intro x hx
      rcases List.mem_cons.mp hx with rfl | hx
      · exact Int.le_max_left _ _
      · exact Int.le_trans (h2 x hx) (Int.le_max_right _ _)
theorem grownF_len (h : List Int) (b : Int) : (grownF h b).length = h.length := by simp [grownF]
theorem nowF_len (g : List Int) : (nowF g).length = g.length := by simp [nowF]
theorem nowAt_len (h : List Int) (b : Int) : ∀ n, (nowAt h b n).length = h.length
  | 0 => rfl
  | n + 1 => by rw [nowAt, nowF_len, grownF_len, nowAt_len h b n]
theorem grownF_bd {h : List Int} {b : Int} (hb : 0 ≤ b) (hh : ∀ x ∈ h, 0 ≤ x ∧ x ≤ b) : ∀ x ∈ grownF h b, 0 ≤ x ∧ x ≤ b := fun x hx => by
  unfold grownF at hx
  obtain ⟨j, hj, rfl⟩ := List.mem_map.mp hx
  have hi : j < h.length := List.mem_range.mp hj
  have hx := hh (h.getD j 0) (by rw [List.getD_eq_getElem?_getD, List.getElem?_eq_getElem hi]; exact List.getElem_mem hi)
  split
  · rename_i hm
    unfold mayGrow at hm
    simp only [Bool.and_eq_true, decide_eq_true_eq] at hm
    omega
  · omega
theorem nowF_bd {g : List Int} {b : Int} (hh : ∀ x ∈ g, 0 ≤ x ∧ x ≤ b) : ∀ x ∈ nowF g, 0 ≤ x ∧ x ≤ b := fun x hx => by
  unfold nowF at hx
  obtain ⟨j, hj, rfl⟩ := List.mem_map.mp hx
  have hi : j < g.length := List.mem_range.mp hj
  exact hh _ (List.mem_of_mem_drop (max_mem _ (by intro q; have := congrArg List.length q; simp at this; omega)).1)
theorem nowAt_bd {h : List Int} {b : Int} (hb : 0 ≤ b) (hh : ∀ x ∈ h, 0 ≤ x ∧ x ≤ b) : ∀ n, ∀ x ∈ nowAt h b n, 0 ≤ x ∧ x ≤ b
  | 0 => hh
  | n + 1 => nowF_bd (grownF_bd hb (nowAt_bd hb hh n))

theorem sent_free (h : List Int) (b : Int) (j : Nat) : 13 ∉ sentF h b j := by
  unfold sentF rowS
  split <;> simp [List.mem_replicate]
theorem crs_len : ∀ rows : List (List Nat), (crs rows).length = (rows.map fun r => r.length + 2).sum
  | [] => rfl
  | r :: rows => by rw [crs_cons, List.length_append, List.length_append, crs_len rows, List.map_cons, List.sum_cons]; simp; omega
def growD (d : D) : D := match d with
  | .str s => .int (if s.cps.toList.take 1 = [46] then (s.length : Int) - 1 else 0)
  | _ => d
theorem grow_rows {h : List Int} {b : Int} (hh : ∀ x ∈ h, 0 ≤ x ∧ x ≤ 100) : D.list ((((List.range h.length).map fun j => ofL (sentF h b j)).map D.str).map growD) = iL (grownF h b) := by
  unfold iL grownF
  rw [List.map_map, List.map_map, List.map_map]
  congr 1
  apply List.map_congr_left
  intro j hj
  have hi : j < h.length := List.mem_range.mp hj
  have hx := hh (h.getD j 0) (by rw [List.getD_eq_getElem?_getD, List.getElem?_eq_getElem hi]; exact List.getElem_mem hi)
  show D.int (if (ofL (sentF h b j)).cps.toList.take 1 = [46] then ((ofL (sentF h b j)).length : Int) - 1 else 0) = _
  rw [ofL_list, len_ofL]
  unfold sentF rowS
  cases hm : mayGrow h j b
  · simp [hm]
  · rw [List.getD_eq_getElem?_getD] at hx
    simp [hm]
    omega

theorem mail_size {h : List Int} {b : Int} {es : List PySem.Str} (hl : h.length ≤ 10) (hh : ∀ x ∈ h, 0 ≤ x ∧ x ≤ 100) (hes : ∀ e ∈ es, e.length ≤ 2) (he : es.length = h.length) : (mailF h b es).cps.size ≤ 10000 := by
  unfold mailF
  rw [show ("" : PySem.Str) = Str.empty by decide, ← Array.length_toList, join_flat, ← flat_sum]
  have h1 : (((List.range h.length).map (rowStr h b es)).map (·.length)).sum ≤ (((List.range h.length).map (rowStr h b es)).map (·.length)).length * 104 := sum_le_of fun x hx => by
    simp only [List.mem_map, List.mem_range] at hx
    obtain ⟨_, ⟨i, hi, rfl⟩, rfl⟩ := hx
    exact rowStr_len hh hes he hi
  simp only [List.length_map, List.length_range] at h1
  omega
theorem sent_len {h : List Int} {b : Int} (hh : ∀ x ∈ h, 0 ≤ x ∧ x ≤ 100) {j : Nat} (hi : j < h.length) : (sentF h b j).length ≤ 102 := by
  have hx := hh (h.getD j 0) (by rw [List.getD_eq_getElem?_getD, List.getElem?_eq_getElem hi]; exact List.getElem_mem hi)
  unfold sentF rowS
  split <;> (rw [List.length_cons, List.length_replicate]; omega)
theorem quote_size {h : List Int} {b : Int} (hl : h.length ≤ 10) (hh : ∀ x ∈ h, 0 ≤ x ∧ x ≤ 100) : (ofL (crs ((List.range h.length).map (sentF h b)))).length ≤ 100000 := by
  rw [len_ofL, crs_len]
  have h1 : (((List.range h.length).map (sentF h b)).map fun r => r.length + 2).sum ≤ (((List.range h.length).map (sentF h b)).map fun r => r.length + 2).length * 104 := sum_le_of fun x hx => by
    simp only [List.mem_map, List.mem_range] at hx
    obtain ⟨_, ⟨i, hi, rfl⟩, rfl⟩ := hx
    have := sent_len (b := b) hh hi
    omega
  simp only [List.length_map, List.length_range] at h1
  omega

theorem def_rounds (T : TopG P mg mb G) : DefOk G 126 (fdOf P 126) (bodyOf P 126) ["heights", "b", "ends"] :=
  T.def ⟨_, rfl, rfl⟩ rfl rfl rfl (fun vs h => by match vs, h with | [a, b, c], _ => rfl) (by decide) rfl rfl rfl rfl rfl
def roundD (h : List Int) (b : Int) (t : Nat) : D := .tup [iL (grownF (nowAt h b t) b), iL (nowAt h b (t + 1))]
theorem c_rounds (T : TopG P mg mb G) (hA : A.handled = none) (hroom : A.depth + 8 < recursionLimit) {h : List Int} {b : Nat} {es : List PySem.Str} (hl : h.length ≤ 10) (h0 : 0 < h.length) (he : es.length = h.length) (hb : b ≤ 10) (hh : ∀ x ∈ h, 0 ≤ x ∧ x ≤ b) (hes : ∀ e ∈ es, EndOk e) :
    CALLS prog w B G A (.ref 126) [iL h, .int b, .list (es.map .str)] (.list ((List.range (h.length + b)).map (roundD h b))) := by
  refine CALLS.of_def (def_rounds T) (by omega) T.nolimit rfl fun L => ?_
  refine BDA.newAcc ⟨rfl, .inl rfl⟩ (fresh_of rfl) fun a => ?_
  refine BDA.cons (ST.asg EV.nm ⟨rfl, .inl rfl⟩ (fresh_of rfl)) rfl ?_
  refine BDA.cons (ST.for (ds := rng 0 (h.length + b)) (ρs := fun i => ("now", iL (nowAt h b i)) :: ("rounds", .ref a) :: zipd ["heights", "b", "ends"] [iL h, .int b, .list (es.map .str)]) (ks := fun i => some (a, (List.range i).map (roundD h b)))
    (IEV.range1 (n := h.length + b) hA (T.bi rfl rfl rfl rfl rfl rfl rfl rfl) (by omega) (A1 (EV.cast (EV.bin (EV.callb (T.bi rfl rfl rfl rfl rfl rfl rfl rfl) (A1 EV.nm) (CALLS.lenL (by simp; omega))) EV.nm BOP.add) (by simp)))) ⟨rfl, .inl rfl⟩ (fun _ => fresh_of rfl) (fun _ => rfl) (fun i d hd => ?_)) rfl ?_
  · obtain ⟨hi, rfl⟩ := rng_get hd
    generalize hnow : nowAt h b i = now
    have hlen : now.length = h.length := by rw [← hnow]; exact nowAt_len h b i
    have hbd : ∀ x ∈ now, 0 ≤ x ∧ x ≤ (b : Int) := by rw [← hnow]; exact nowAt_bd (by omega) hh i
    have hbd' : ∀ x ∈ now, 0 ≤ x ∧ x ≤ (100 : Int) := fun x hx => by have := hbd x hx; omega
    have hnext : nowAt h b (i + 1) = nowF (grownF now b) := by rw [nowAt, hnow]
    have eR : (List.range (i + 1)).map (roundD h b) = (List.range i).map (roundD h b) ++ [.tup [iL (grownF now b), iL (nowF (grownF now b))]] := by
      rw [List.range_succ, List.map_append]
      simp only [List.map_cons, List.map_nil, roundD]
      rw [hnow, hnext]
    show RUN prog w B G _ true _ (some (a, (List.range i).map (roundD h b))) (("step", .int _) :: ("now", iL now) :: ("rounds", .ref a) :: zipd ["heights", "b", "ends"] [iL h, .int b, .list (es.map .str)]) _ (some (a, (List.range (i + 1)).map (roundD h b))) (("now", iL (nowAt h b (i + 1))) :: ("rounds", .ref a) :: zipd ["heights", "b", "ends"] [iL h, .int b, .list (es.map .str)])
    rw [eR, hnext]
    generalize hst : (0 : Int) + (i : Int) = stp
    have hne : (List.range now.length).map (sentF now b) ≠ [] := by
      intro q
      have := congrArg List.length q
      rw [List.length_map, List.length_range, List.length_nil] at this
      omega
    have hfree : ∀ r ∈ (List.range now.length).map (sentF now b), 13 ∉ r := fun r hr => by
      obtain ⟨j, _, rfl⟩ := List.mem_map.mp hr
      exact sent_free now b j
    have hsplit := split_rows _ hne hfree
    have hq := quote_mail (h := now) (b := b) (es := es) hbd' (by omega) hes
    have hmsz := mail_size (h := now) (b := b) (es := es) (by omega) hbd' (fun e he => (hes e he).len) (by omega)
    have hqsz := quote_size (h := now) (b := b) (by omega) hbd'
    refine RUN.cons (ST.asg (d1 := .list (((((List.range now.length).map (sentF now b)).map ofL) ++ [Str.empty]).map .str)) (EV.meth (d0 := .str (ofL (crs ((List.range now.length).map (sentF now b))))) (EV.cast (EV.calld (T.gl rfl rfl rfl rfl rfl) (def_quote T) (A1 (EV.calld (T.gl rfl rfl rfl rfl rfl) (def_mail T) (A3 EV.nm EV.nm EV.nm) (c_mail (A := A.deeper _) T hA (show A.depth + 1 + 5 < recursionLimit by omega) (by omega) (by omega) hbd' (fun e he => (hes e he).len)))) (c_quote (A := A.deeper _) T (show A.depth + 1 < recursionLimit by omega) hmsz)) (by rw [hq])) (.str _) mt_split (A1 EV.str) (CALLS.split (by decide) hqsz hsplit)) ⟨rfl, .inl rfl⟩ (fresh_of rfl)) rfl ?_
    have hpick : pickD (((((List.range now.length).map (sentF now b)).map ofL) ++ [Str.empty]).map D.str) none (some (-1)) none = (((List.range now.length).map fun j => ofL (sentF now b j)).map D.str) := by
      rw [pickD_init, ← List.map_dropLast, List.dropLast_concat]; simp [List.map_map, Function.comp_def]
    refine RUN.cons (ST.asg (d1 := iL (grownF now b)) (EV.cast (EV.compM growD (IEV.list hA ?_ (EV.cast (EV.sliceL EV.nm .none (.some (EV.un EV.int UOP.neg)) .none (by simp) (by simp; omega)) (by rw [hpick]))) (CompOk.mk' (r := Caps.nil)) (fun C => ⟨rfl, .inl rfl⟩) rfl (fun C d hd => ?_)) (grow_rows hbd')) ⟨rfl, .inr ⟨rfl, rfl, rfl⟩⟩ (fresh_of rfl)) rfl ?_
    · simp; omega
    · obtain ⟨x, hx, rfl⟩ := List.mem_map.mp hd
      obtain ⟨j, hj, rfl⟩ := List.mem_map.mp hx
      have hjl := sent_len (b := b) hbd' (List.mem_range.mp hj)
      generalize sentF now b j = r at hjl
      refine EV.ifT (c := decide (r.take 1 = [46])) (TV.castB (TV.cmp (EV.head1 EV.nm EV.int) EV.str BOP.eqS) ?_) (fun hc => ?_) (fun hc => ?_)
      · rw [ofL_list, ofL_list, show (("." : PySem.Str)).cps.toList = [46] by decide]
        rw [Bool.eq_iff_iff, beq_iff_eq, decide_eq_true_eq]
      · refine EV.cast (EV.bin (EV.callb (T.bi rfl rfl rfl rfl rfl rfl rfl rfl) (A1 EV.nm) (CALLS.lenS (by rw [len_ofL]; omega))) EV.int BOP.sub) ?_
        show _ = D.int (if (ofL r).cps.toList.take 1 = [46] then _ else _)
        rw [ofL_list, if_pos (of_decide_eq_true hc)]
      · refine EV.cast EV.int ?_
        show _ = D.int (if (ofL r).cps.toList.take 1 = [46] then _ else _)
        rw [ofL_list, if_neg (of_decide_eq_false hc)]
    refine RUN.pre (ρ' := ("grown", iL (grownF now b)) :: ("rounds", .ref a) :: zipd ["heights", "b", "ends"] [iL h, .int b, .list (es.map .str)]) ?_ (fun p hp => ?_)
    · refine RUN.cons (ST.asgCRI (n := (grownF now b).length) (fun j => listMax ((grownF now b).drop j)) (IEV.range1 hA (T.bi rfl rfl rfl rfl rfl rfl rfl rfl) (by rw [grownF_len]; omega) (A1 (EV.cast (EV.callb (T.bi rfl rfl rfl rfl rfl rfl rfl rfl) (A1 EV.nm) (CALLS.lenL (by rw [List.length_map, grownF_len]; omega))) (by simp)))) (CompOk.mk' (r := Caps.cons "grown" Caps.nil)) (fun C => ⟨rfl, .inl rfl⟩) rfl (fun C j hj => ?_) ⟨rfl, .inl rfl⟩ rfl) rfl ?_
      · have hm := max_mem ((grownF now b).drop j) (by intro q; have := congrArg List.length q; rw [List.length_drop, List.length_nil] at this; omega)
        exact EV.callb (T.bi rfl rfl rfl rfl rfl rfl rfl rfl) (A1 (EV.cast (EV.sliceI EV.nm (.some (EV.cast (d2 := .int (j : Int)) EV.nm (by simp))) .none .none (by simp) (by rw [grownF_len]; omega)) (by rw [pickD_drop]))) (CALLS.max hA hm.1 hm.2)
      · refine RUN.cons (ST.append (x := "rounds") (a := a) (d1 := .tup [iL (grownF now b), iL (nowF (grownF now b))]) (List.mem_cons_of_mem _ (List.mem_cons_of_mem _ List.mem_cons_self)) (EV.tup (A2 EV.nm EV.nm) (by simp)) (by simp; omega) (hi := rfl)) rfl ?_
        refine RUN.weak RUN.nil (fun p hp => ?_)
        rcases List.mem_cons.mp hp with rfl | hp
        · exact List.mem_cons_self
        · exact List.mem_cons_of_mem _ (List.mem_cons_of_mem _ hp)
    · rcases List.mem_cons.mp hp with rfl | hp
      · exact List.mem_cons_self
      · exact List.mem_cons_of_mem _ (List.mem_cons_of_mem _ (List.mem_cons_of_mem _ (List.mem_cons_of_mem _ hp)))
  · refine BDA.pre (ρ' := ("rounds", .ref a) :: zipd ["heights", "b", "ends"] [iL h, .int b, .list (es.map .str)]) ?_ (fun p hp => List.mem_cons_of_mem _ hp)
    refine BDA.freeze ?_
    rw [rng_len]
    exact BDA.ret EV.nm
end Mine

end

/-! # text C7 -/
section
open PySem PySem.Spec PySem.Calls PyProof.Rows PySem.W
set_option maxRecDepth 100000
set_option linter.unusedVariables false
set_option linter.unusedSimpArgs false
set_option maxHeartbeats 8000000
namespace Mine
variable {P : Params} {mg mb : PySem.Str → Option Value} {G G' : Heap} {env : Env} {prog : Program} {w : World} {B : Tb} {A : Around}

/-! ### Int2AP -/
def apT (n : Nat) : Nat → List UInt8
  | 0 => []
  | i + 1 => (65 + (n / 16 ^ i % 16)).toUInt8 :: apT n i
def apGo : Nat → Nat → List UInt8 → List UInt8
  | 0, _, acc => acc
  | f + 1, n, acc => if n = 0 then acc else apGo f (n / 16) ((65 + n % 16).toUInt8 :: acc)
def apF (n : Nat) : List UInt8 := apGo 20 n []
theorem apGo_T {n m : Nat} (h1 : ∀ i, i < m → n / 16 ^ i ≠ 0) (h2 : n / 16 ^ m = 0) : ∀ (k i f : Nat), i + k = m → k ≤ f → apGo f (n / 16 ^ i) (apT n i) = apT n m
  | 0, i, f, e, _ => by
    have : i = m := by omega
    subst this
    cases f with
    | zero => rfl
    | succ f => rw [apGo, if_pos h2]
  | k + 1, i, 0, e, hf => by omega
  | k + 1, i, f + 1, e, hf => by
    rw [apGo, if_neg (h1 i (by omega))]
    have := apGo_T h1 h2 k (i + 1) f (by omega) (by omega)
    rw [← this, apT, Nat.pow_succ, Nat.div_div_eq_div_mul]
theorem ap_len {n : Nat} (hn : n < 16 ^ 20) : ∃ m, m ≤ 20 ∧ (∀ i, i < m → n / 16 ^ i ≠ 0) ∧ n / 16 ^ m = 0 := by
  obtain ⟨k, h1, h2, h3⟩ := least (P := fun m => n / 16 ^ m = 0) 20 (Nat.div_eq_of_lt hn)
  exact ⟨k, h1, h3, h2⟩
def AP : Array UInt8 := #[65, 66, 67, 68, 69, 70, 71, 72, 73, 74, 75, 76, 77, 78, 79, 80]
theorem ap_pick : ∀ m : Nat, m < 16 → KBy.picked AP (some (m : Int)) (some ((m : Int) + 1)) = #[(65 + m).toUInt8] := fun m hm => by
  rw [KBc.picked_eq, show ((m : Int) + 1) = ((m + 1 : Nat) : Int) by omega]
  simp only [Option.elim, clipAt_nat]
  have : ∀ m : Fin 16, ((AP.toList.drop (min m.val AP.size)).take (min (m.val + 1) AP.size - min m.val AP.size)) = [(65 + m.val).toUInt8] := by decide
  have h := this ⟨m, hm⟩
  simp only at h
  rw [h]
theorem def_ap (T : TopG P mg mb G) : DefOk G 80 (fdOf P 80) (bodyOf P 80) ["num"] :=
  T.def ⟨_, rfl, rfl⟩ rfl rfl rfl (fun vs h => by match vs, h with | [a], _ => rfl) (by decide) rfl rfl rfl rfl rfl
theorem fdiv_nat (a b : Nat) : (a : Int).fdiv (b : Int) = ((a / b : Nat) : Int) := by
  rw [Int.fdiv_eq_ediv_of_nonneg _ (by omega)]; rfl
theorem fmod_nat (a b : Nat) : (a : Int).fmod (b : Int) = ((a % b : Nat) : Int) := by
  rw [Int.fmod_eq_emod_of_nonneg _ (by omega)]; rfl
theorem noPy {a : Int} {b : Int} (h : b.natAbs < 2 ^ 200) : Builtin.divisionGoesByPylong a b = false := by
  refine PyProof.noPylong_of_log2 ?_
  by_cases h0 : b.natAbs = 0
  · rw [h0]; decide
  · have := (Nat.log2_lt h0).mpr h
    omega
theorem apT_len (n : Nat) : ∀ i, (apT n i).length = i
  | 0 => rfl
  | i + 1 => by rw [apT, List.length_cons, apT_len n i]
theorem c_ap (T : TopG P mg mb G) (hA : A.handled = none) (hroom : A.depth < recursionLimit) {n : Nat} (hn : n < 16 ^ 20) : CALLS prog w B G A (.ref 80) [.int n] (.bytes (apF n).toArray) := by
  obtain ⟨m, hm, h1, h2⟩ := ap_len hn
  have hF : apF n = apT n m := by
    have := apGo_T h1 h2 m 0 20 (by omega) hm
    simp only [Nat.pow_zero, Nat.div_one] at this
    exact this
  refine CALLS.of_def (def_ap T) hroom T.nolimit rfl fun L => ?_
  refine BDA.cons (ST.asg EV.bytes ⟨rfl, .inl rfl⟩ (fresh_of rfl)) rfl ?_
  refine BDA.cons (ST.asg (d1 := .bytes AP) EV.bytes ⟨rfl, .inl rfl⟩ (fresh_of rfl)) rfl ?_
  refine BDA.cons (ST.asgW (ρ₁ := [("AP", .bytes AP), ("val", .bytes (apT n 0).toArray)]) (d1 := .int ((n / 16 ^ 0 : Nat) : Int)) (EV.cast (d1 := .int n) (EV.callT (T.bi rfl rfl rfl rfl rfl rfl rfl rfl) (A1 (EV.callb (T.bi rfl rfl rfl rfl rfl rfl rfl rfl) (A1 EV.nm) CALLS.abs)) (by rw [if_neg (by omega)]; exact CALLS.int)) (by simp)) ⟨rfl, .inl rfl⟩ (fun p hp => ?_) (fresh_of rfl)) rfl ?_
  · rcases List.mem_cons.mp hp with rfl | hp
    · exact List.mem_cons_self
    · rw [List.mem_singleton] at hp; subst hp; exact List.mem_cons_of_mem _ List.mem_cons_self
  refine BDA.cons (ST.while (n := m) (ρs := fun i => [("num", .int ((n / 16 ^ i : Nat) : Int)), ("AP", .bytes AP), ("val", .bytes (apT n i).toArray)]) (ks := fun _ => none) (fun _ => rfl) (fun i hi => ?_) ?_ (fun i hi => ?_)) rfl ?_
  · refine TV.castB (TV.val EV.nm TRU.int) ?_
    have := h1 i hi
    simp only [bne_iff_ne, ne_eq]
    omega
  · exact TV.castB (TV.val EV.nm TRU.int) (by rw [h2]; rfl)
  · refine RUN.weak (ρ' := [("val", .bytes (apT n (i + 1)).toArray), ("num", .int ((n / 16 ^ (i + 1) : Nat) : Int)), ("AP", .bytes AP)]) ?_ (fun p hp => ?_)
    · refine RUN.cons (ST.asgTW (ρ₁ := [("AP", .bytes AP), ("val", .bytes (apT n i).toArray)]) (d1 := .tup [.int ((n / 16 ^ (i + 1) : Nat) : Int), .int ((n / 16 ^ i % 16 : Nat) : Int)]) (EV.cast (EV.callb (T.bi rfl rfl rfl rfl rfl rfl rfl rfl) (A2 EV.nm EV.int) (CALLS.divmod (by decide) (noPy (by decide)))) ?_) (ASG.tup2 hA ⟨rfl, .inl rfl⟩ ⟨rfl, .inl rfl⟩ (by decide)) (fun p hp => List.mem_cons_of_mem _ hp) (fun n' d' x d'' q1 q2 => ?_)) rfl ?_
      · rw [show (16 : Int) = ((16 : Nat) : Int) by rfl, fdiv_nat, fmod_nat, Nat.pow_succ, Nat.div_div_eq_div_mul]
      · simp only [List.mem_cons, Prod.mk.injEq, List.not_mem_nil, or_false] at q1 q2
        rcases q1 with ⟨rfl, _⟩ | ⟨rfl, _⟩ <;> rcases q2 with ⟨rfl, _⟩ | ⟨rfl, _⟩ <;> decide
      · refine RUN.cons (ST.asgW (ρ₁ := [("num", .int ((n / 16 ^ (i + 1) : Nat) : Int)), ("AP", .bytes AP)]) (d1 := .bytes (apT n (i + 1)).toArray) (EV.cast (EV.bin (EV.sliceB (b := AP) EV.nm (.some EV.nm) (.some (EV.bin EV.nm EV.int BOP.add)) (by decide)) EV.nm (BOP.addB ?_)) ?_) ⟨rfl, .inl rfl⟩ (fun p hp => ?_) (fresh_of rfl)) rfl RUN.nil
        · have := picked_le AP (some ((n / 16 ^ i % 16 : Nat) : Int)) (some (((n / 16 ^ i % 16 : Nat) : Int) + 1))
          have e2 : (apT n i).toArray.size = i := by rw [List.size_toArray, apT_len]
          have h16 : AP.size = 16 := by decide
          omega
        · rw [ap_pick _ (Nat.mod_lt _ (by decide)), apT]
          simp
        · simp only [List.mem_cons, List.not_mem_nil, or_false] at hp
          rcases hp with rfl | rfl <;> simp
    · simp only [List.mem_cons, List.not_mem_nil, or_false] at hp ⊢
      rcases hp with rfl | rfl | rfl <;> simp
  · exact BDA.ret (EV.cast (d1 := .bytes (apT n m).toArray) EV.nm (by rw [hF]))
end Mine

end

/-! # text C8 -/
section
open PySem PySem.Spec PySem.Calls PyProof.Rows PySem.W
set_option maxRecDepth 100000
set_option linter.unusedVariables false
set_option linter.unusedSimpArgs false
set_option maxHeartbeats 8000000
namespace Mine
section
variable {P : Params} {mg mb : PySem.Str → Option Value} {G G' : Heap} {env : Env} {prog : Program} {w : World} {B : Tb} {A : Around} {ρ ρc : List (PySem.Str × D)} {k : Option (Addr × List D)} {d : D}

theorem notCode_nil : notCode (tabObj #[]) := fun vs q t e => by cases e; simp
theorem notCode_tab (a b : Int) (c : Value) : notCode (tabObj #[rawInt a, rawInt b, c]) := fun vs q t e => by cases e; simp [rawInt]

/-- where a def within a def writes its code -/
def TabOf (B : Tb) (Pt : Addr) (pos : Pos) (q : PySem.Str) : Prop := (Pt = 47 ∧ B.pos1 = pos ∧ B.q1 = q) ∨ (Pt = 54 ∧ B.pos2 = pos ∧ B.q2 = q)

theorem make_wp (T : TopG P mg mb G) {c Pt : Addr} {name qual : PySem.Str} {params : Arguments} {body : List Stmt} {scope : Scope} {clos : List (PySem.Str × Addr)} {pos : Pos} (hC : CodeHd G c Pt) (hcode : env.code = .ref c) (hg0 : env.globals = mainGlobals) (hcl : closureFor scope env = pure clos) (hB : TabOf B Pt pos qual)
    {M : List Addr} {s : Shared} {Q : Value → Shared → Prop} {E : Value → Shared → Prop} (z : St0 B G M s)
    (h : ∀ f c' ctv doc s', Stp B G s s' → s.heap.get? f = none → s'.heap.get? f = some (fnMade name qual params body scope clos doc ((mg "__name__").getD .none) c' ctv) → s'.heap.CodeRec (.ref c') qual → Q (.ref f) s') :
    wpAny (model prog w) A (makeFunction name qual params (.stmts body) scope env [] [] [] pos pos.line) Q E s := by
  obtain ⟨bm, ob, b1, b2, b3, b4, b5, b6⟩ := T.bmain
  have hG : s.heap.Ns mainGlobals mg := T.g.keeps z.inv.keep
  have hPG : G.get? Pt = none := by
    rcases hB with ⟨rfl, _⟩ | ⟨rfl, _⟩
    · exact T.g47
    · exact T.g54
  have hgP : mainGlobals ≠ Pt := fun q => by
    obtain ⟨o, es, ep, e, _⟩ := T.g
    rw [q, hPG] at e; cases e
  have hbP : bm ≠ Pt := fun q => by rw [q, hPG] at b3; cases b3
  have hbG : bm ≠ mainGlobals := fun q => by
    obtain ⟨o, es, ep, e, hd, _⟩ := T.g
    rw [q, e] at b3; cases b3; rw [hd] at b6; cases b6
  have hba : s.heap.BuiltinsAt mg Pt := ⟨bm, ob, b1, b2, hbG, hbP, z.inv.keep _ _ b3, b4, b5, b6⟩
  have hCs := hC.keeps z.inv.keep
  have fresh : ∀ a, s.heap.objs.size ≤ a → s.heap.get? a = none := fun a ha => by
    cases e : s.heap.get? a with
    | none => rfl
    | some o' => exact absurd (Heap.lt_size e) (Nat.not_lt.mpr ha)
  have hT : TabSt s.heap Pt pos qual := by
    rcases hB with ⟨rfl, rfl, rfl⟩ | ⟨rfl, rfl, rfl⟩
    · exact z.inv.t1
    · exact z.inv.t2
  have hP2 : Pt ∈ ([47, 54] : List Addr) := by rcases hB with ⟨rfl, _⟩ | ⟨rfl, _⟩ <;> simp
  rcases hT.st with e | ⟨c', e, r⟩
  · refine makeFunction_K (mg := mg) hcl hg0 hG hcode hCs e trivial rfl hgP hba fun c' ctv doc h' tk hx hge hlt hrec htb => ?_
    have kp : ∀ b o, b ≠ Pt → s.heap.get? b = some o → (h'.push (fnMade name qual params body scope clos doc ((mg "__name__").getD .none) c' ctv)).get? b = some o := fun b o hb e => Heap.get?_push_of_some _ (hx b o hb e)
    have hrec2 : (h'.push (fnMade name qual params body scope clos doc ((mg "__name__").getD .none) c' ctv)).CodeRec (.ref c') qual := hrec.keeps fun b o e => Heap.get?_push_of_some _ e
    have htb2 := Heap.get?_push_of_some (fnMade name qual params body scope clos doc ((mg "__name__").getD .none) c' ctv) htb
    have hsz : s.heap.objs.size ≤ h'.objs.size := Nat.le_trans hge (Nat.le_of_lt hlt)
    refine h h'.objs.size c' ctv doc _ ⟨⟨_, _, rfl⟩, fun b o hb e => kp b o (fun q => hb (q ▸ hP2)) e, ⟨fun b o e => kp b o (fun q => by rw [q, hPG] at e; cases e) (z.inv.keep b o e), ?_, ?_⟩⟩ (fresh _ hsz) (Heap.get?_push_size _ rfl) hrec2
    · rcases hB with ⟨rfl, rfl, rfl⟩ | ⟨rfl, rfl, rfl⟩
      · exact ⟨.inr ⟨c', by simpa using htb2, hrec2⟩⟩
      · exact z.inv.t1.upd kp e notCode_nil (by decide)
    · rcases hB with ⟨rfl, rfl, rfl⟩ | ⟨rfl, rfl, rfl⟩
      · exact z.inv.t2.upd kp e notCode_nil (by decide)
      · exact ⟨.inr ⟨c', by simpa using htb2, hrec2⟩⟩
  · refine makeFunction_hit (mg := mg) (cv := .ref c') hcl hg0 hG hcode hCs e trivial (by simp [codeAmong, rawInt]) hba fun ctv doc h' tk hk hsz => ?_
    have kp : ∀ b o, s.heap.get? b = some o → (h'.push (fnMade name qual params body scope clos doc ((mg "__name__").getD .none) c' ctv)).get? b = some o := fun b o e => Heap.get?_push_of_some _ (hk b o e)
    exact h h'.objs.size c' ctv doc _ (Stp.of z.inv kp) (fresh _ hsz) (Heap.get?_push_size _ rfl) (r.keeps kp)

/-- a datum that needs no heap -/
def Scal (d : D) : Prop := ∀ (M M' : List Addr) (h h' : Heap) (v : Value), Rep M h v d → Rep M' h' v d
theorem Scal.int {i : Int} : Scal (.int i) := fun _ _ _ _ _ r => by cases r; exact .int _ _
theorem Scal.ref {a : Addr} : Scal (.ref a) := fun _ _ _ _ _ r => by cases r; exact .ref _

/-- what the names of a closure hold -/
def CloOk (G : Heap) (fd : FuncData) (ρc : List (PySem.Str × D)) : Prop := ∀ x d, (x, d) ∈ ρc → Scal d ∧ (x == ("__debug__" : PySem.Str)) = false ∧ (x == ("__classdict__" : PySem.Str)) = false ∧ fd.scope.names.lookup x = some .free ∧ ∃ c v, fd.closure.lookup x = some c ∧ G.IsCell c (some v) ∧ ∃ M h, Rep M h v d

theorem BDA.defn (T : TopG P mg mb G) {c Pt : Addr} {name : PySem.Str} {params : Arguments} {body r : List Stmt} {scope : Scope} {clos : List (PySem.Str × Addr)} {pos : Pos} (hC : CodeHd G c Pt) (hcode : env.code = .ref c) (hg0 : env.globals = mainGlobals) (hcl : closureFor scope env = pure clos) (hB : TabOf B Pt pos (qualnameIn env name name))
    (hx : Sto true env name) (hn : ∀ n d, (n, d) ∈ ρ → n ≠ name) (hd0 : params.defaults = []) (hk0 : params.kw_defaults = []) (ha : annTrees params none env = [])
    (hrest : ∀ G' f c' ctv doc, (∀ b o, G.get? b = some o → G'.get? b = some o) → TopG P mg mb G' → G'.get? f = some (fnMade name (qualnameIn env name name) params body scope clos doc ((mg "__name__").getD .none) c' ctv) → G'.CodeRec (.ref c') (qualnameIn env name name) →
      (∀ x dv, (x, dv) ∈ (name, .ref f) :: ρ → env.kindOf x = some .cell → ∃ cc v, env.cells.lookup x = some cc ∧ G'.IsCell cc (some v) ∧ Rep [] G' v dv) → BDA prog w B G' A false env k ((name, .ref f) :: ρ) r d) :
    BDA prog w B G A true env k ρ (.FunctionDef name params body [] none [] scope none name pos :: r) d := fun M₀ M s Q E hM hx0 F a h => by
  refine wpAny_execs_cons (nestDef_K hd0 hk0 ha (make_wp T hC hcode hg0 hcl hB F.z fun f c' ctv doc s1 p1 hf hob hrec => ?_))
  have F1 := F.step p1
  have a1 := a.step F.z p1
  refine store_wp F1 hx hn (.ref f) fun s2 p2 F2 => ?_
  have a2 := a1.stepWr F1 p2
  have nW := a1.notWr F1
  have nW2 := a2.notWr F2
  have fM := F.z.fresh hf
  have fOff := F.z.offOf fM
  have fW : f ∉ wr true env := fun q => fM (F.inW _ q)
  have hob2 : s2.heap.get? f = some (fnMade name (qualnameIn env name name) params body scope clos doc ((mg "__name__").getD .none) c' ctv) := p2.keep _ _ (fun q => by
    simp only [List.mem_cons] at q
    rcases q with q | q | q
    · exact fOff.1 q
    · exact fOff.2 q
    · exact fW q) hob
  have isW : ∀ b ∈ wr true env, ∀ o, s1.heap.get? b = some o → (∃ es ep, o.data = .dict es ep) ∨ ∃ v, o.data = .cell v := fun b hb o e => by
    unfold wr at hb
    rcases List.mem_cons.mp hb with rfl | hb
    · obtain ⟨m, o', es, ep, e', d', _⟩ := F1.ns
      rw [e] at e'; cases e'; exact .inl ⟨es, ep, d'⟩
    · obtain ⟨⟨n, cc⟩, h1, rfl⟩ := List.mem_map.mp hb
      obtain ⟨_, _, _, v, o', e', d'⟩ := (F1.cell rfl).1 n cc h1
      rw [e] at e'; cases e'; exact .inr ⟨v, d'⟩
  have hrec2 : s2.heap.CodeRec (.ref c') (qualnameIn env name name) := by
    obtain ⟨c₁, o, vs, t, e1, e2, e3, e4⟩ := hrec
    cases e1
    refine ⟨c', o, vs, t, rfl, p2.keep _ _ (fun q => ?_) e2, e3, e4⟩
    simp only [List.mem_cons] at q
    rcases q with q | q | q
    · subst q
      rcases p1.inv.t1.st with e | ⟨_, e, _⟩ <;> (rw [e2] at e; cases e; cases e3; simp [rawInt] at e4)
    · subst q
      rcases p1.inv.t2.st with e | ⟨_, e, _⟩ <;> (rw [e2] at e; cases e; cases e3; simp [rawInt] at e4)
    · rcases isW _ q _ e2 with ⟨es, ep, q'⟩ | ⟨v, q'⟩ <;> (rw [e3] at q'; cases q')
  have xaObj : ∀ b ∈ xa k, ∃ o vs n, s2.heap.get? b = some o ∧ o.data = .seq vs n ∧ G.get? b = none := fun b hb => by
    cases k with
    | none => cases hb
    | some p =>
      obtain ⟨al, ds⟩ := p
      unfold xa at hb; rw [List.mem_singleton] at hb; subst hb
      obtain ⟨_, _, g, vs, ⟨n, e⟩, _⟩ := a2
      exact ⟨_, _, _, e, rfl, g⟩
  generalize hHd : (47 : Addr) :: 54 :: env.locals :: xa k = Hd
  have locObj : ∃ o es ep, s2.heap.get? env.locals = some o ∧ o.data = .dict es ep := by
    obtain ⟨m, o, es, ep, e, d, _⟩ := F2.ns
    exact ⟨o, es, ep, e, d⟩
  have inHd : ∀ b, b ∈ Hd → b = 47 ∨ b = 54 ∨ b = env.locals ∨ b ∈ xa k := fun b hb => by
    rw [← hHd] at hb
    simpa only [List.mem_cons] using hb
  have gHd : ∀ b o, G.get? b = some o → b ∉ Hd := fun b o e hb => by
    rcases inHd b hb with q | q | q | q
    · subst q; rw [T.g47] at e; cases e
    · subst q; rw [T.g54] at e; cases e
    · subst q; rw [F2.g0] at e; cases e
    · obtain ⟨_, _, _, _, _, g⟩ := xaObj b q
      rw [g] at e; cases e
  have sub : ∀ b o, G.get? b = some o → (hideAll s2.heap Hd).get? b = some o := fun b o e => hideAll_get _ (F2.z.inv.keep _ _ e) (gHd b o e)
  have h47 : (hideAll s2.heap Hd).get? 47 = none := hideAll_none _ (by rw [← hHd]; simp)
  have h54 : (hideAll s2.heap Hd).get? 54 = none := hideAll_none _ (by rw [← hHd]; simp)
  have fHd : f ∉ Hd := fun q => by
    rcases inHd f q with q | q | q | q
    · exact fOff.1 q
    · exact fOff.2 q
    · exact fW (by unfold wr; rw [q]; simp)
    · exact fM (a.inM _ q)
  have cHd : c' ∉ Hd := fun q => by
    obtain ⟨c₁, o, vs, t, e1, e2, e3, e4⟩ := hrec2
    cases e1
    rcases inHd c' q with q | q | q | q
    · subst q
      rcases p2.inv.t1.st with e | ⟨_, e, _⟩ <;> (rw [e2] at e; cases e; cases e3; simp [rawInt] at e4)
    · subst q
      rcases p2.inv.t2.st with e | ⟨_, e, _⟩ <;> (rw [e2] at e; cases e; cases e3; simp [rawInt] at e4)
    · obtain ⟨o', es, ep, e, d'⟩ := locObj
      subst q; rw [e2] at e; cases e; rw [e3] at d'; cases d'
    · obtain ⟨o', vs', n', e, d', _⟩ := xaObj c' q
      rw [e2] at e; cases e; rw [e3] at d'; cases d'
  have hrec3 : (hideAll s2.heap Hd).CodeRec (.ref c') (qualnameIn env name name) := by
    obtain ⟨c₁, o, vs, t, e1, e2, e3, e4⟩ := hrec2
    cases e1
    exact ⟨c', o, vs, t, rfl, hideAll_get _ e2 cHd, e3, e4⟩
  refine hrest (hideAll s2.heap Hd) f c' ctv doc sub (T.keeps sub h47 h54) (hideAll_get _ hob2 fHd) hrec3 (fun x dv hm hkd => ?_) M₀ M s2 Q E hM hx0 ?_ ?_ fun v s3 p3 r3 => ?_
  · obtain ⟨v, ⟨_, _, b2⟩, rv⟩ := F2.vars x dv hm
    rcases b2 with ⟨q, _⟩ | ⟨_, cc, hoff, hlk, hcell⟩
    · rw [hkd] at q; cases q
    · refine ⟨cc, v, hlk, ?_, Rep.less (M := M) (N := []) (fun b h => by cases h) (rv.grow fun b o hb e => hideAll_get _ e fun q => ?_)⟩
      rotate_left
      · rcases inHd b q with q | q | q | q
        · exact hb (q ▸ F2.z.m1)
        · exact hb (q ▸ F2.z.m2)
        · exact hb (q ▸ F2.locM)
        · exact hb (a2.inM _ q)
      obtain ⟨o, e, d'⟩ := hcell
      refine ⟨o, hideAll_get _ e fun q => ?_, d'⟩
      rcases inHd cc q with q | q | q | q
      · exact hoff.1 q
      · exact hoff.2 q
      · obtain ⟨o', es, ep, e', d''⟩ := locObj
        subst q; rw [e] at e'; cases e'; rw [d'] at d''; cases d''
      · obtain ⟨o', vs', n', e', d'', _⟩ := xaObj cc q
        rw [e] at e'; cases e'; rw [d'] at d''; cases d''
  · exact ⟨⟨⟨fun b o e => of_hideAll _ e, p2.inv.t1, p2.inv.t2⟩, F2.z.m1, F2.z.m2, F2.z.there⟩, F2.kind, F2.locM, F2.off, hideAll_none _ (by rw [← hHd]; simp), F2.ns, fun q => (nomatch q), F2.vars⟩
  · cases k with
    | none => trivial
    | some p =>
      obtain ⟨al, ds⟩ := p
      obtain ⟨h1, h2, _, h4⟩ := a2
      exact ⟨h1, h2, hideAll_none _ (by rw [← hHd]; simp [xa]), h4⟩
  · refine h v s3 ((p1.toW.trans (p2.mono wr_sub)).trans ⟨p3.same, p3.keep.sub (fun b hb => ?_), p3.there, ⟨fun b o e => ?_, p3.inv.t1, p3.inv.t2⟩⟩) r3
    · simp only [List.mem_cons, List.mem_append] at hb ⊢
      rcases hb with q | q | q | q
      · exact .inl q
      · exact .inr (.inl q)
      · exact .inr (.inr (.inl q))
      · refine .inr (.inr (.inr ?_))
        unfold wr at q ⊢
        rcases List.mem_cons.mp q with q | q
        · rw [q]; simp
        · cases q
    · refine p3.keep b o (fun q => ?_) (F2.z.inv.keep _ _ e)
      refine gHd b o e ?_
      rw [← hHd]
      simp only [List.mem_cons, List.mem_append] at q ⊢
      rcases q with q | q | q | q
      · exact .inl q
      · exact .inr (.inl q)
      · exact .inr (.inr (.inr q))
      · unfold wr at q
        rcases List.mem_cons.mp q with q | q
        · exact .inr (.inr (.inl q))
        · cases q
end
end Mine

end

/-! # text C9 -/
section
open PySem PySem.Spec PySem.Calls PyProof.Rows PySem.W
set_option maxRecDepth 100000
set_option linter.unusedVariables false
set_option linter.unusedSimpArgs false
set_option maxHeartbeats 8000000
namespace Mine
section
variable {P : Params} {mg mb : PySem.Str → Option Value} {G G' : Heap} {env : Env} {prog : Program} {w : World} {B : Tb} {A : Around} {ρ ρc : List (PySem.Str × D)} {k k' k'' : Option (Addr × List D)} {d : D}

structure DefX (G : Heap) (f : Addr) (fd : FuncData) (body : List Stmt) (names : List PySem.Str) : Prop where
  obj : ∃ o, G.get? f = some o ∧ o.data = .func fd
  body : fd.body = .stmts body
  code : G.CodeRec fd.code fd.qualname
  bind : ∀ vs : List Value, vs.length = names.length → bindArgs fd ⟨vs, []⟩ = pure (zipv names vs)
  nd : names.Nodup
  kinds : ∀ x ∈ names, (x == ("__debug__" : PySem.Str)) = false ∧ fd.scope.names.lookup x = some .local
  nocell : ∀ x ∈ fd.scope.names, x.2 ≠ .cell
  co : fd.scope.isCoroutine = false
  gen : fd.scope.isGenerator = false
  kind : fd.scope.kind = .function

theorem lookup_rev : ∀ (names : List PySem.Str) (vs : List Value) (x : PySem.Str) (v : Value), names.Nodup → (x, v) ∈ zipv names vs → (zipv names vs).reverse.lookup x = some v := by
  intro names vs x v hn hm
  have hnd : ((zipv names vs).reverse.map (·.1)).Nodup := by
    rw [List.map_reverse]
    refine (List.reverse_perm _).nodup_iff.mpr ?_
    clear hm
    induction names generalizing vs with
    | nil => simp [zipv]
    | cons n names ih =>
      cases vs with
      | nil => simp [zipv]
      | cons u vs =>
        rw [List.nodup_cons] at hn
        simp only [zipv, List.map_cons, List.nodup_cons]
        refine ⟨fun q => ?_, ih vs hn.2⟩
        obtain ⟨⟨y, z⟩, h1, h2⟩ := List.mem_map.mp q
        simp only at h2
        subst h2
        exact hn.1 (zipv_names names vs y z h1)
  have hm' : (x, v) ∈ (zipv names vs).reverse := List.mem_reverse.mpr hm
  generalize (zipv names vs).reverse = l at hnd hm'
  induction l with
  | nil => cases hm'
  | cons p r ih =>
    obtain ⟨y, u⟩ := p
    rw [List.map_cons, List.nodup_cons] at hnd
    rw [List.lookup_cons]
    rcases List.mem_cons.mp hm' with q | q
    · cases q; simp
    · have : (x == y) = false := by
        cases e : x == y with
        | false => rfl
        | true =>
          have e' : x = y := by simpa using e
          subst e'
          exact absurd (List.mem_map.mpr ⟨_, q, rfl⟩) hnd.1
      rw [this]
      exact ih hnd.2 q

theorem enterX {f : Addr} {fd : FuncData} {body : List Stmt} {names : List PySem.Str} {ds : List D} (ok : DefX G f fd body names) (clo : CloOk G fd ρc) (g47 : G.get? 47 = none) (g54 : G.get? 54 = none) {M : List Addr} {s : Shared} {vs : List Value} {h₁ : Heap} {tk : Tok} (z : St0 B G M s) (r : Reps M s.heap vs ds)
    (hns : h₁.Ns s.heap.objs.size (fun x => (zipv names vs).reverse.lookup x)) (hk : ∀ b o, s.heap.get? b = some o → h₁.get? b = some o) :
    FS B G (s.heap.objs.size :: M) false (callEnv fd s.heap.objs.size f) { s with heap := h₁, toks := tk } (zipd names ds ++ ρc) := by
  have fL := get?_size s.heap
  have p1 : Stp B G s { s with heap := h₁, toks := tk } := Stp.of z.inv hk
  have z1 := z.step p1
  have gkeep : ∀ b o, G.get? b = some o → h₁.get? b = some o := fun b o e => hk _ _ (z.inv.keep _ _ e)
  refine ⟨⟨z1.inv, List.mem_cons_of_mem _ z1.m1, List.mem_cons_of_mem _ z1.m2, fun b hb => ?_⟩, ok.kind, List.mem_cons_self, z.offOf (z.fresh fL), z.inv.gnone fL, ⟨_, hns⟩, fun q => (nomatch q), fun y dy hm => ?_⟩
  · rcases List.mem_cons.mp hb with rfl | hb
    · obtain ⟨o, _, _, e, _⟩ := hns; exact ⟨o, e⟩
    · exact z1.there b hb
  · rcases List.mem_append.mp hm with hm | hm
    · obtain ⟨v, hv, rv⟩ := zip_mem r hm
      obtain ⟨hdb, hkk⟩ := ok.kinds y (zipv_names names vs y v hv)
      refine ⟨v, ⟨hdb, ok.kind, .inl ⟨hkk, z.offOf (z.fresh fL), _, hns, lookup_rev names vs y v ok.nd hv⟩⟩, (rv.more fun b hb => ?_).grow fun b o _ e => hk b o e⟩
      rcases List.mem_cons.mp hb with rfl | hb
      · exact .inr fL
      · exact .inl hb
    · obtain ⟨hs, hdb, hcd, hkk, c, v, hl, ⟨o, e, d'⟩, _, _, rv⟩ := clo y dy hm
      refine ⟨v, ⟨hdb, ok.kind, .inr ⟨.inr ⟨hkk, hcd⟩, c, ⟨fun q => ?_, fun q => ?_⟩, hl, o, gkeep _ _ e, d'⟩⟩, hs _ _ _ _ v rv⟩
      · rw [q, g47] at e; cases e
      · rw [q, g54] at e; cases e

theorem CALLS.of_defX {f : Addr} {fd : FuncData} {body : List Stmt} {names : List PySem.Str} {ds : List D} (ok : DefX G f fd body names) (clo : CloOk G fd ρc) (g47 : G.get? 47 = none) (g54 : G.get? 54 = none) (hroom : A.depth < recursionLimit) (hlim : G.NoLimit) (hlen : ds.length = names.length)
    (hB : ∀ L, BDA prog w B G (A.deeper (callEnv fd L f)) false (callEnv fd L f) none (zipd names ds ++ ρc) body d) : CALLS prog w B G A (.ref f) ds d := fun M s Q E vs z r h => by
  obtain ⟨o, ho, hd⟩ := ok.obj
  have hl : vs.length = names.length := r.length.trans hlen
  refine wpAny_call (codeAny_call_def hroom (z.inv.keep _ _ ho) hd (hlim.keeps z.inv.keep) (ok.code.keeps z.inv.keep) ok.body (BindsTo.of_eq (ok.bind vs hl)) ok.nocell (fun p hp => (ok.kinds p.1 (zipv_names names vs p.1 p.2 hp)).2) (fun h₁ hns hk => ?_) ok.co ok.gen ok.kind)
  have F := enterX (tk := s.toks + (zipv names vs).length) ok clo g47 g54 z r hns hk
  refine hB _ M _ _ _ _ (fun b hb => List.mem_cons_of_mem _ hb) (fun b hb => nomatch hb) F trivial fun v s' p' r' => ?_
  have p1 : Stp B G s { s with heap := h₁, toks := s.toks + (zipv names vs).length } := Stp.of z.inv hk
  refine h v s' (StpW.toS (W := [s.heap.objs.size]) (p1.toW.trans (p'.mono fun b hb => ?_)) fun b hb => ?_) r'
  · unfold xa wr at hb
    simp only [List.nil_append, List.mem_cons, List.not_mem_nil, or_false] at hb
    exact List.mem_singleton.mpr hb
  · rw [List.mem_singleton] at hb; subst hb; exact get?_size _

/-! ## calls that fill a list -/
def CALLK (prog : Program) (w : World) (B : Tb) (G : Heap) (A : Around) (f : Value) (ds : List D) (k k' : Option (Addr × List D)) : Prop :=
  ∀ (M : List Addr) (s : Shared) (Q : Value → Shared → Prop) (E : Value → Shared → Prop) (vs : List Value), St0 B G M s → Reps M s.heap vs ds → Acc G M s.heap k →
    (∀ v s', StpW B G (xa k) s s' → Acc G M s'.heap k' → Q v s') → wpAny (model prog w) A (call f vs) Q E s
def BODYK (prog : Program) (w : World) (B : Tb) (G : Heap) (A : Around) (env : Env) (k : Option (Addr × List D)) (ρ : List (PySem.Str × D)) (sts : List Stmt) (k' : Option (Addr × List D)) : Prop :=
  ∀ (M : List Addr) (s : Shared) (Q : Flow → Shared → Prop) (E : Value → Shared → Prop), FS B G M false env s ρ → Acc G M s.heap k →
    (∀ fl s', (fl = .next ∨ ∃ v, fl = .ret v) → StpW B G (xa k ++ wr false env) s s' → Acc G M s'.heap k' → Q fl s') → wpAny (model prog w) A (execs sts env) Q E s
theorem CALLK.of_defX {f : Addr} {fd : FuncData} {body : List Stmt} {names : List PySem.Str} {ds : List D} {al : Addr} {es es' : List D} (ok : DefX G f fd body names) (clo : CloOk G fd ρc) (g47 : G.get? 47 = none) (g54 : G.get? 54 = none) (hroom : A.depth < recursionLimit) (hlim : G.NoLimit) (hlen : ds.length = names.length)
    (hB : ∀ L, BODYK prog w B G (A.deeper (callEnv fd L f)) (callEnv fd L f) (some (al, es)) (zipd names ds ++ ρc) body (some (al, es'))) : CALLK prog w B G A (.ref f) ds (some (al, es)) (some (al, es')) := fun M s Q E vs z r a h => by
  obtain ⟨o, ho, hd⟩ := ok.obj
  have hl : vs.length = names.length := r.length.trans hlen
  refine wpAny_call (codeAny_call_def hroom (z.inv.keep _ _ ho) hd (hlim.keeps z.inv.keep) (ok.code.keeps z.inv.keep) ok.body (BindsTo.of_eq (ok.bind vs hl)) ok.nocell (fun p hp => (ok.kinds p.1 (zipv_names names vs p.1 p.2 hp)).2) (fun h₁ hns hk => ?_) ok.co ok.gen ok.kind)
  have F := enterX (tk := s.toks + (zipv names vs).length) ok clo g47 g54 z r hns hk
  obtain ⟨aM, aO, aG, us, pl, rs⟩ := id a
  have a1 : Acc G (s.heap.objs.size :: M) h₁ (some (al, es)) := ⟨List.mem_cons_of_mem _ aM, aO, aG, us, pl.at fun o e => hk _ _ e, (rs.more fun b hb => by
    rcases List.mem_cons.mp hb with rfl | hb
    · exact .inr (get?_size _)
    · exact .inl hb).grow fun b o _ e => hk b o e⟩
  have p1 : Stp B G s { s with heap := h₁, toks := s.toks + (zipv names vs).length } := Stp.of z.inv hk
  refine hB _ _ _ _ _ F a1 fun fl s' hfl p' a' => ?_
  obtain ⟨bM, bO, bG, us', pl', rs'⟩ := id a'
  have p2 : StpW B G [al] s s' := (p1.toW.trans p').drop fun b hb => by
    rcases List.mem_append.mp hb with hb | hb
    · exact .inl hb
    · unfold wr at hb
      simp only [List.mem_cons, List.not_mem_nil, or_false] at hb
      subst hb
      exact .inr (get?_size _)
  rcases hfl with rfl | ⟨v, rfl⟩
  · exact h _ s' p2 ⟨aM, aO, aG, us', pl', rs'.less fun b hb => List.mem_cons_of_mem _ hb⟩
  · exact h _ s' p2 ⟨aM, aO, aG, us', pl', rs'.less fun b hb => List.mem_cons_of_mem _ hb⟩
end
end Mine

end

/-! # text C10 -/
section
open PySem PySem.Spec PySem.Calls PyProof.Rows PySem.W
set_option maxRecDepth 100000
set_option linter.unusedVariables false
set_option linter.unusedSimpArgs false
set_option maxHeartbeats 8000000
namespace Mine
section
variable {P : Params} {mg mb : PySem.Str → Option Value} {G G' : Heap} {env : Env} {prog : Program} {w : World} {B : Tb} {A : Around} {ρ ρc : List (PySem.Str × D)} {k k' k'' : Option (Addr × List D)} {d d1 : D} {e e1 e2 : PySem.Expr}

/-- a call of a def that a name of the frame holds -/
theorem EV.callN {x : PySem.Str} {np pos : Pos} {es : List PySem.Expr} {ds : List D} {f : Addr} {fd : FuncData} {body : List Stmt} {names : List PySem.Str} (hx : ρ.lookup x = some (.ref f)) (ok : DefX G f fd body names) (a : ArgsEV prog w B G A env ρ es ds) (hc : CALLS prog w B G A (.ref f) ds d) :
    EV prog w B G A env ρ (.Call (.Name x np) es [] pos) d := fun M s Q E z y h => by
  obtain ⟨v, b, r⟩ := y x _ (mem_of_lookupD hx)
  cases r
  refine wpAny_Call_ofName (wp_bound b ?_)
  obtain ⟨o, h1, h2⟩ := ok.obj
  exact callW (fs := []) (.inr ⟨f, o, fd, rfl, h1, h2⟩) a hc z y .nil h

/-- l[j], a list of ints that the view holds -/
theorem EV.idxG {a : Addr} {vs : List Value} {ns : List Int} {j : Nat} {pos : Pos} (h1 : EV prog w B G A env ρ e1 (.ref a)) (hg : G.IsList a (List.toArray vs)) (hi : IntsAre vs ns) (h2 : EV prog w B G A env ρ e2 (.int j)) (hj : j < ns.length) (hl : ns.length ≤ 100000)
    (hs : ∀ o i, ∃ l, subscripted e2 false o i = operate l (getItem o i) := by intro _ _; exact ⟨_, rfl⟩) : EV prog w B G A env ρ (.Subscript e1 e2 pos) (.int (ns.getD j 0)) := fun M s Q E z y h =>
  sub_wp (h1 M s _ _ z y fun v1 s1 p1 r1 => h2 M s1 _ _ (z.step p1) (y.step z p1) fun v2 s2 p2 r2 => by
    cases r1; cases r2
    have hL : s2.heap.IsList a (List.toArray vs) := by
      obtain ⟨o, e, r⟩ := hg
      exact ⟨o, p2.inv.keep _ _ e, r⟩
    have hr : Reps M s2.heap vs (ns.map .int) := ints_reps hi
    obtain ⟨v, hv, rv⟩ := hr.get (getI hj)
    exact ⟨"list", _, slot_list_getitem.lookup, hL.typeIs, wpAny_getItem_list hL (by omega) (by omega) (by simpa using hv) (wpAny_letTemporaryGo (h _ _ (p1.trans p2) rv))⟩) hs
theorem CALLS.lenG {a : Addr} {vs : List Value} {ns : List Int} (hg : G.IsList a (List.toArray vs)) (hi : IntsAre vs ns) (hl : ns.length ≤ 100000) : CALLS prog w B G A (.builtin "len") [.ref a] (.int ns.length) := fun M s Q E us z r h => by
  cases r with
  | cons r1 r2 =>
    cases r2
    cases r1
    have hL : s.heap.IsList a (List.toArray vs) := by
      obtain ⟨o, e, r⟩ := hg
      exact ⟨o, z.inv.keep _ _ e, r⟩
    have e : vs.length = ns.length := hi.length
    refine call_len_list hL (by rw [List.size_toArray, e]; omega) ?_
    rw [List.size_toArray, e]
    exact h _ _ (.tok z.inv) (.int _ _)

/-! ### the number of some figures -/
def dsum (n : Nat) : List Int → Int
  | [] => 0
  | x :: r => x + 2 ^ n * dsum n r
theorem dsum_app (n : Nat) : ∀ (u v : List Int), dsum n (u ++ v) = dsum n u + 2 ^ (n * u.length) * dsum n v
  | [], v => by simp [dsum]
  | x :: u, v => by
    rw [List.cons_append, dsum, dsum_app n u v, dsum, List.length_cons, Nat.mul_succ, Int.pow_add, Int.mul_add]
    rw [← Int.mul_assoc, Int.mul_comm ((2 : Int) ^ (n * u.length)) (2 ^ n)]
    omega
theorem dsum_bd (n : Nat) : ∀ (l : List Int), (∀ x ∈ l, 0 ≤ x ∧ x < 2 ^ n) → 0 ≤ dsum n l ∧ dsum n l < 2 ^ (n * l.length)
  | [], _ => by simp [dsum]
  | x :: r, h => by
    obtain ⟨h1, h2⟩ := dsum_bd n r fun y hy => h y (by simp [hy])
    obtain ⟨h3, h4⟩ := h x (by simp)
    have hp : (0 : Int) < 2 ^ n := Int.pow_pos (by decide)
    rw [dsum, List.length_cons, Nat.mul_succ, Int.pow_add]
    constructor
    · have := Int.mul_nonneg (Int.le_of_lt hp) h1
      omega
    · have h5 : dsum n r + 1 ≤ 2 ^ (n * r.length) := h2
      have h6 := Int.mul_le_mul_of_nonneg_left h5 (Int.le_of_lt hp)
      rw [Int.mul_add, Int.mul_one] at h6
      rw [Int.mul_comm ((2 : Int) ^ (n * r.length)) (2 ^ n)]
      omega
def seg (ns : List Int) (L R : Nat) : List Int := (ns.drop L).take (R - L)
theorem seg_len {ns : List Int} {L R : Nat} (h : R ≤ ns.length) : (seg ns L R).length = R - L := by unfold seg; simp; omega
theorem seg_one {ns : List Int} {L : Nat} (h : L < ns.length) : seg ns L (L + 1) = [ns.getD L 0] := by
  unfold seg
  rw [show L + 1 - L = 1 by omega, List.drop_eq_getElem_cons h, List.take_succ_cons, List.take_zero, List.getD_eq_getElem?_getD, List.getElem?_eq_getElem h]; rfl
theorem seg_app {ns : List Int} {L m R : Nat} (h1 : L ≤ m) (h2 : m ≤ R) : seg ns L R = seg ns L m ++ seg ns m R := by
  unfold seg
  rw [show R - L = (m - L) + (R - m) by omega, List.take_add, List.drop_drop, show L + (m - L) = m by omega]
theorem seg_mem {ns : List Int} {L R : Nat} {x : Int} (h : x ∈ seg ns L R) : x ∈ ns := List.mem_of_mem_drop (List.mem_of_mem_take h)
theorem bits_lt {x : Int} {m : Nat} (h0 : 0 ≤ x) (h : x < 2 ^ m) : Builtin.Int.intBits x ≤ m := intBits_le_iff.mpr (by
  have h2 : ((x.natAbs : Nat) : Int) < ((2 ^ m : Nat) : Int) := by
    rw [Int.natAbs_of_nonneg h0]; simpa using h
  exact Int.ofNat_lt.mp h2)

theorem DefX.of {f : Addr} {name qual : PySem.Str} {params : Arguments} {body : List Stmt} {scope : Scope} {clos : List (PySem.Str × Addr)} {doc pm ctv : Value} {c' : Addr} {names : List PySem.Str} (hob : G.get? f = some (fnMade name qual params body scope clos doc pm c' ctv)) (hrec : G.CodeRec (.ref c') qual)
    (hb : ∀ vs : List Value, vs.length = names.length → bindArgs (fnX name qual params body scope clos .none .none doc pm none (.ref c') ctv) ⟨vs, []⟩ = pure (zipv names vs)) (hn : names.Nodup) (hk : (names.all fun x => !(x == ("__debug__" : PySem.Str)) && scope.names.lookup x == some .local) = true)
    (hc : (scope.names.all fun y => y.2 != .cell) = true) (h1 : scope.isCoroutine = false) (h2 : scope.isGenerator = false) (h3 : scope.kind = .function) : DefX G f (fnX name qual params body scope clos .none .none doc pm none (.ref c') ctv) body names := by
  refine ⟨⟨_, hob, rfl⟩, rfl, hrec, hb, hn, fun x hx => ?_, fun x hx q => ?_, h1, h2, h3⟩
  · have := List.all_eq_true.mp hk x hx
    simp only [Bool.and_eq_true, Bool.not_eq_true', beq_iff_eq] at this
    exact this
  · have := List.all_eq_true.mp hc x hx
    rw [q] at this; simp at this
theorem CloOk.nil {fd : FuncData} : CloOk G fd [] := fun _ _ h => nomatch h
theorem CloOk.cons {fd : FuncData} {x : PySem.Str} {d : D} {c : Addr} {v : Value} {M : List Addr} {h : Heap} (sc : Scal d) (hl : fd.closure.lookup x = some c) (hc : G.IsCell c (some v)) (r : Rep M h v d) (rest : CloOk G fd ρc) (h1 : (x == ("__debug__" : PySem.Str)) = false := by rfl) (h2 : (x == ("__classdict__" : PySem.Str)) = false := by rfl) (h3 : fd.scope.names.lookup x = some .free := by rfl) : CloOk G fd ((x, d) :: ρc) := fun y d' hm => by
  rcases List.mem_cons.mp hm with q | q
  · cases q; exact ⟨sc, h1, h2, h3, c, v, hl, hc, M, h, r⟩
  · exact rest y d' q
end
end Mine

end

/-! # text C11 -/
section
open PySem PySem.Spec PySem.Calls PyProof.Rows PySem.W
set_option maxRecDepth 100000
set_option linter.unusedVariables false
set_option linter.unusedSimpArgs false
set_option maxHeartbeats 8000000
namespace Mine
section
variable {P : Params} {mg mb : PySem.Str → Option Value} {G G' : Heap} {env : Env} {prog : Program} {w : World} {A : Around}

def defPos : List Stmt → Pos
  | .FunctionDef _ _ _ _ _ _ _ _ _ pos :: _ => pos
  | _ => ⟨0, 0, 0, 0⟩
noncomputable def BB (P : Params) : Tb := ⟨defPos ((bodyOf P 52).drop 1), (fdOf P 52).qualname ++ ".<locals>." ++ "inner", defPos (bodyOf P 59), (fdOf P 59).qualname ++ ".<locals>." ++ "inner"⟩

theorem TRU.list {B : Tb} {ds : List D} (hl : ds.length ≤ 100000) : TRU prog w B G A (.list ds) (decide (ds.length ≠ 0)) := fun M s Q E v z r h => by
  cases r with
  | list hm ho hr =>
    refine wpAny_truthy_list ⟨_, ho, rfl, _, rfl⟩ (by rw [List.size_toArray, hr.length]; omega) ?_
    rename_i a n vs
    have := h { s with toks := s.toks + 1 + 1 } (.tok z.inv)
    have e : (!(List.toArray vs).isEmpty) = decide (ds.length ≠ 0) := by
      rw [← hr.length]
      cases vs <;> simp
    rw [e]
    exact this
theorem def_d2i (T : TopG P mg mb G) : DefOk G 59 (fdOf P 59) (bodyOf P 59) ["digits", "n"] :=
  T.def ⟨_, rfl, rfl⟩ rfl rfl rfl (fun vs h => by match vs, h with | [a, b], _ => rfl) (by decide) rfl rfl rfl rfl rfl
theorem c_d2i (T : TopG P mg mb G) (hA : A.handled = none) {ns : List Int} {n : Nat} (hroom : A.depth + ns.length + 5 < recursionLimit) (hl : ns.length ≤ 64) (hn : n ≤ 64) (hb : ∀ x ∈ ns, 0 ≤ x ∧ x < 2 ^ n) : CALLS prog w (BB P) G A (.ref 59) [iL ns, .int n] (.int (dsum n ns)) := by
  refine CALLS.of_def (def_d2i T) (by omega) T.nolimit rfl fun L => ?_
  refine BDA.defn T T.hd2 rfl rfl rfl (.inr ⟨rfl, rfl, rfl⟩) ⟨rfl, .inr ⟨rfl, rfl, rfl⟩⟩ (fresh_of rfl) rfl rfl rfl fun G' f c' ctv doc sub T' hob hrec hcells => ?_
  obtain ⟨c1, v1, l1, i1, r1⟩ := hcells "digits" (iL ns) (List.mem_cons_of_mem _ List.mem_cons_self) rfl
  obtain ⟨c2, v2, l2, i2, r2⟩ := hcells "n" (.int n) (List.mem_cons_of_mem _ (List.mem_cons_of_mem _ List.mem_cons_self)) rfl
  obtain ⟨c3, v3, l3, i3, r3⟩ := hcells "inner" (.ref f) List.mem_cons_self rfl
  cases r1 with
  | list hm ho hr =>
    rename_i a kk vs
    have hg : G'.IsList a (List.toArray vs) := ⟨_, ho, rfl, _, rfl⟩
    have hi := reps_ints hr
    have okX := DefX.of (names := ["L", "R"]) hob hrec (fun vs h => by match vs, h with | [a, b], _ => rfl) (by decide) rfl rfl rfl rfl rfl
    have hseg : ∀ L R, 0 ≤ dsum n (seg ns L R) ∧ dsum n (seg ns L R) < 2 ^ (n * (seg ns L R).length) := fun L R => dsum_bd n _ fun x hx => hb x (seg_mem hx)
    have inner : ∀ (m : Nat) (A : Around) (L R : Nat), R - L = m → L < R → R ≤ ns.length → A.depth + m < recursionLimit → CALLS prog w (BB P) G' A (.ref f) [.int L, .int R] (.int (dsum n (seg ns L R))) := by
      intro m
      induction m using Nat.strongRecOn with
      | _ m ih =>
        intro A L R hm hLR hR hd
        refine CALLS.of_defX (ρc := [("digits", .ref a), ("n", .int n), ("inner", .ref f)]) okX (CloOk.cons (M := []) (h := G') .ref l1 i1 (.ref a) (CloOk.cons .int l2 i2 r2 (CloOk.cons .ref l3 i3 r3 CloOk.nil))) T'.g47 T'.g54 (by omega) T'.nolimit rfl fun Lc => ?_
        by_cases h1 : L + 1 = R
        · subst h1
          refine BDA.iteT (TV.castB (TV.cmp (EV.bin EV.nm EV.int BOP.add) EV.nm BOP.eq) ?_) (BDA.ret (EV.cast (EV.idxG EV.nm hg hi EV.nm (by omega) (by omega)) ?_))
          · rw [beq_iff_eq]; omega
          · rw [seg_one (by omega)]; simp [dsum]
        · refine BDA.cons (ST.skip (TV.castB (TV.cmp (EV.bin EV.nm EV.int BOP.add) EV.nm BOP.eq) ?_)) rfl ?_
          · rw [beq_eq_false_iff_ne]; omega
          obtain ⟨mid, hmid⟩ : ∃ mid, mid = (L + R) / 2 := ⟨_, rfl⟩
          refine BDA.cons (ST.asg (d1 := .int (mid : Nat)) (EV.cast (EV.bin (EV.bin EV.nm EV.nm BOP.add) EV.int (BOP.shr (by decide))) ?_) ⟨rfl, .inl rfl⟩ (fresh_of rfl)) rfl ?_
          · rw [show ((2 : Int) ^ (1 : Int).toNat) = ((2 : Nat) : Int) by rfl, show ((L : Int) + (R : Int)) = ((L + R : Nat) : Int) by omega, fdiv_nat, hmid]
          refine BDA.cons (ST.asg (d1 := .int ((mid - L) * n : Nat)) (EV.cast (EV.bin (EV.bin EV.nm EV.nm BOP.sub) EV.nm (BOP.mul ?_)) ?_) ⟨rfl, .inl rfl⟩ (fresh_of rfl)) rfl ?_
          · refine IntMulOk.of_right (bits_lt (by omega) ?_)
            have : (n : Int) < 128 := by omega
            exact Int.lt_of_lt_of_le this (by decide)
          · rw [Int.natCast_mul, Int.natCast_sub (by omega)]
          have hk1 := hseg mid R
          have len1 : (seg ns mid R).length = R - mid := seg_len hR
          have len2 : (seg ns L mid).length = mid - L := seg_len (by omega)
          refine BDA.ret (EV.cast (EV.bin (EV.bin (EV.callN rfl okX (A2 EV.nm EV.nm) (ih (R - mid) (by omega) _ mid R rfl (by omega) hR ?_)) EV.nm (BOP.shl (by omega) ?_)) (EV.callN rfl okX (A2 EV.nm EV.nm) (ih (mid - L) (by omega) _ L mid rfl (by omega) (by omega) ?_)) BOP.add) ?_)
          · show A.depth + 1 + (R - mid) < recursionLimit; omega
          · have hb1 := bits_lt hk1.1 hk1.2
            rw [len1] at hb1
            have : n * (R - mid) ≤ 64 * 64 := Nat.mul_le_mul hn (by omega)
            have : (mid - L) * n ≤ 64 * 64 := Nat.mul_le_mul (by omega) hn
            omega
          · show A.depth + 1 + (mid - L) < recursionLimit; omega
          · rw [seg_app (ns := ns) (L := L) (m := mid) (R := R) (by omega) (by omega), dsum_app, len2, Int.toNat_natCast, Nat.mul_comm n, Int.mul_comm]
            congr 1
            omega
    refine BDA.ret (EV.ifT (TV.val EV.nm (TRU.list (by simp; omega))) (fun hc => ?_) (fun hc => ?_))
    · have hpos : 0 < ns.length := by
        have := of_decide_eq_true hc
        rw [List.length_map] at this
        omega
      refine EV.cast (EV.callN rfl okX (A2 EV.int (EV.cast (d2 := .int (ns.length : Int)) (EV.callb (T'.bi rfl rfl rfl rfl rfl rfl rfl rfl) (A1 EV.nm) (CALLS.lenL (by simp; omega))) (by simp))) (inner ns.length _ 0 ns.length (by omega) hpos (Nat.le_refl _) ?_)) ?_
      · show A.depth + 1 + ns.length < recursionLimit; omega
      · unfold seg; simp
    · have := of_decide_eq_false hc
      have hnil : ns = [] := by
        cases ns with
        | nil => rfl
        | cons a b => simp at this
      exact EV.cast EV.int (by rw [hnil]; rfl)
end
end Mine

end

/-! # text C12 -/
section
open PySem PySem.Spec PySem.Calls PyProof.Rows PySem.W
set_option maxRecDepth 100000
set_option linter.unusedVariables false
set_option linter.unusedSimpArgs false
set_option maxHeartbeats 8000000
namespace Mine
section
variable {P : Params} {mg mb : PySem.Str → Option Value} {G G' : Heap} {env : Env} {prog : Program} {w : World} {B : Tb} {A : Around} {own : Bool} {ρ ρ' ρc : List (PySem.Str × D)} {k k' k'' : Option (Addr × List D)} {d d1 : D} {e e1 e2 : PySem.Expr} {st : Stmt} {sts r b : List Stmt}

/-! ## expressions that read the list that is filled -/
def AEV (prog : Program) (w : World) (B : Tb) (G : Heap) (A : Around) (env : Env) (k : Option (Addr × List D)) (ρ : List (PySem.Str × D)) (e : PySem.Expr) (d : D) : Prop :=
  ∀ (M : List Addr) (s : Shared) (Q : Value → Shared → Prop) (E : Value → Shared → Prop), St0 B G M s → Vars M env s.heap ρ → Acc G M s.heap k →
    (∀ v s', Stp B G s s' → Rep M s'.heap v d → Q v s') → wpAny (model prog w) A (eval e env) Q E s
theorem EV.toA (h : EV prog w B G A env ρ e d) : AEV prog w B G A env k ρ e d := fun M s Q E z y _ q => h M s Q E z y q
theorem AEV.len {x : PySem.Str} {np xp pos : Pos} {a : Addr} {ds : List D} (g : Gl G env x (.builtin "len")) {y : PySem.Str} (hy : ρ.lookup y = some (.ref a)) (hl : ds.length ≤ 100000)
    (hs : ∀ r, starEach (PySem.Expr.Name y xp :: r) env = (false, eval (.Name y xp) env) :: starEach r env := by intro _; rfl) :
    AEV prog w B G A env (some (a, ds)) ρ (.Call (.Name x np) [.Name y xp] [] pos) (.int ds.length) := fun M s Q E z yv ac h => by
  have ar : ArgsEV prog w B G A env ρ [.Name y xp] [.ref a] := A1 (EV.nm hy) hs
  refine wpAny_Call_ofName (wp_glob g z.inv (callWith_builtin (args_any ar pos) (evalArgs_wp ar pos _ z yv fun vs s1 p1 r1 => ?_)))
  cases r1 with
  | cons r1 r2 =>
    cases r2; cases r1
    obtain ⟨_, _, _, us, ⟨n, e⟩, rs⟩ := ac.step z p1
    refine call_len_list ⟨_, e, rfl, _, rfl⟩ (by rw [List.size_toArray, rs.length]; omega) ?_
    rw [List.size_toArray, rs.length]
    exact h _ _ (p1.trans (.tok p1.inv)) (.int _ _)
inductive ArgsK (prog : Program) (w : World) (B : Tb) (G : Heap) (A : Around) (env : Env) (k : Option (Addr × List D)) (ρ : List (PySem.Str × D)) : List PySem.Expr → List D → Prop
  | nil : ArgsK prog w B G A env k ρ [] []
  | cons {e es d ds} : AEV prog w B G A env k ρ e d → (∀ r, starEach (e :: r) env = (false, eval e env) :: starEach r env) → ArgsK prog w B G A env k ρ es ds → ArgsK prog w B G A env k ρ (e :: es) (d :: ds)
theorem argsK_any {es : List PySem.Expr} {ds : List D} (a : ArgsK prog w B G A env k ρ es ds) (pos : Pos) : (backTo pos (starEach es env)).any (·.1) = false := by
  refine backTo_plain pos _ ?_
  induction a with
  | nil => rfl
  | cons _ hs _ ih => rw [hs, List.any_cons, ih]; rfl
theorem argsK_wp {es : List PySem.Expr} {ds : List D} (a : ArgsK prog w B G A env k ρ es ds) (pos : Pos) : ∀ (M : List Addr) (s : Shared) (Q : List Value → Shared → Prop) (E : Value → Shared → Prop), St0 B G M s → Vars M env s.heap ρ → Acc G M s.heap k →
    (∀ vs s', Stp B G s s' → Reps M s'.heap vs ds → Q vs s') → wpAny (model prog w) A (spliced (backTo pos (starEach es env))) Q E s := by
  induction a with
  | nil => intro M s Q E z y ac h; exact spliced_nil (h [] s (.refl z.inv) .nil)
  | cons he hs _ ih =>
    intro M s Q E z y ac h
    rw [hs, backTo_cons]
    refine spliced_cons (he M s _ _ z y ac fun v s1 p1 r1 => ?_)
    exact ih M s1 _ _ (z.step p1) (y.step z p1) (ac.step z p1) fun vs s2 p2 r2 => h (v :: vs) s2 (p1.trans p2) (.cons (r1.step (z.step p1) p2) r2)
theorem evalArgsK_wp {es : List PySem.Expr} {ds : List D} (a : ArgsK prog w B G A env k ρ es ds) (pos : Pos) (f : Value) {M : List Addr} {s : Shared} {Q : Args → Shared → Prop} {E : Value → Shared → Prop} (z : St0 B G M s) (y : Vars M env s.heap ρ) (ac : Acc G M s.heap k)
    (h : ∀ vs s', Stp B G s s' → Reps M s'.heap vs ds → Q ⟨vs, []⟩ s') : wpAny (model prog w) A (evalArgs f true (backTo pos (starEach es env)) []) Q E s := by
  have key := argsK_wp a pos M s (fun vs s' => Q ⟨vs, []⟩ s') E z y ac h
  cases a with
  | nil => exact evalArgs_nil3 (h [] s (.refl z.inv) .nil)
  | cons he hs hr =>
    rw [hs, backTo_cons] at key ⊢
    exact evalArgs_plain key

/-- f(..), a statement that fills the list -/
theorem ST.callK {x : PySem.Str} {np cpos pos : Pos} {es : List PySem.Expr} {ds es1 es2 : List D} {f al : Addr} {fd : FuncData} {body : List Stmt} {names : List PySem.Str} (hx : ρ.lookup x = some (.ref f)) (ok : DefX G f fd body names) (a : ArgsK prog w B G A env (some (al, es1)) ρ es ds) (hc : CALLK prog w B G A (.ref f) ds (some (al, es1)) (some (al, es2)))
    (hs : swapsWith (.Call (.Name x np) es [] cpos) none pos.line env = pure false := by rfl) (hi : interactive env = false := by rfl) :
    ST prog w B G A own env (some (al, es1)) ρ (.Expr (.Call (.Name x np) es [] cpos) pos) (some (al, es2)) ρ := fun M s Q E F ac h => by
  obtain ⟨v, bb, rr⟩ := F.vars x _ (mem_of_lookupD hx)
  cases rr
  obtain ⟨o, h1, h2⟩ := ok.obj
  refine wpAny_Expr_any (wpAny_Call_ofName (wp_bound bb (callWith_function (o := o) (fd := fd) (evalArgsK_wp a cpos _ F.z F.vars ac fun vs s1 p1 r1 => ⟨⟨p1.inv.keep _ _ h1, h2⟩, ?_⟩)))) hi hs
  have F1 := F.step p1
  have a1 := ac.step F.z p1
  have nW := a1.notWr F1
  refine hc M s1 _ _ _ F1.z r1 a1 fun v s2 p2 a2 => ?_
  have alN : al ∉ wr own env := nW al (by unfold xa; simp)
  refine h s2 (p1.toW.trans (p2.mono fun b hb => List.mem_append_left _ hb)) (F1.stepW p2 (fun b hb => ?_) (fun q => ?_) fun n c hm hcell q => ?_) a2
  · unfold xa at hb; rw [List.mem_singleton] at hb; subst hb; exact a1.1
  · unfold xa at q; rw [List.mem_singleton] at q
    exact alN (by unfold wr; rw [← q]; simp)
  · unfold xa at q; rw [List.mem_singleton] at q; subst q
    obtain ⟨v, o, e, dd⟩ := hcell
    obtain ⟨_, _, _, us, ⟨n', e'⟩, _⟩ := a1
    rw [e'] at e; cases e; cases dd

theorem setItem_plainA {s : Shared} {l : Addr} {items : Array Value} {n : Nat} {k : Int} {t : Tok} {v : Value} {Q : Unit → Shared → Prop} {E : Value → Shared → Prop} (ho : s.heap.get? l = some (seqObj "list" items n)) (h0 : 0 ≤ k) (hfit : k < 2 ^ 63) (hn : k < items.size)
    (hQ : Q () { s with heap := s.heap.update l (Obj.mapSeq (·.setIfInBounds k.toNat v)) }) : wpAny (model prog w) A (setItem (.ref l) (.int k t) v) Q E s := by
  have hT : s.TypeIs (.ref l) "list" := ⟨_, ho, rfl⟩
  have hd : (seqObj "list" items n).data = .seq items n := rfl
  unfold setItem
  try with_reducible refine wpAny_holding ?_
  first | refine wpAny_bind (wpAny_pure ?_) | skip
  refine wpAny_bind (wpAny_sequenceKey hT (by decide) ?_)
  refine wpAny_bind (wpAny_callSpecial?_slot (name := Str.ofString "__setitem__") hT slot_list_setitem (wpAny_call_entry slot_list_setitem hT entry_list_setitem ?_ (args_list_setitem _ _ _)))
  show wpAny _ _ (Builtin.List.listSubscript? (.int k t) >>= _) _ _ s
  refine wpAny_bind (wpAny_listSubscript_int (fitsIndex_of h0 hfit) ?_)
  clear hfit
  obtain ⟨j, rfl⟩ := Int.eq_ofNat_of_zero_le h0
  have hj : j < items.size := by omega
  have hx' : items[j]? = some items[j] := Array.getElem?_eq_getElem hj
  show wpAny _ _ ((seqItemAt l j >>= fun r => pure (r.map (j, ·))) >>= _) _ _ s
  refine wpAny_bind (wpAny_bind (wpAny_seqItemAt ho hd (wpAny_pure ?_)))
  rw [hx']
  show wpAny _ _ (setSeqItemAt l j v >>= _) _ _ s
  refine wpAny_bind (wpAny_setSeqItemAt ho hd ?_)
  first
    | exact wpAny_bind (wpAny_pure (wpAny_pure ⟨.none, rfl, wpAny_pure hQ⟩))
    | exact wpAny_pure ⟨.none, rfl, wpAny_pure hQ⟩
theorem setItem_plain {s : Shared} {l : Addr} {vs : List Value} {j : Nat} {t : Tok} {v : Value} {Q : Unit → Shared → Prop} {E : Value → Shared → Prop} (hl : s.heap.PlainList l (List.toArray vs)) (hj : j < vs.length) (hz : vs.length ≤ 100000)
    (hQ : ∀ h', h'.PlainList l (List.toArray (vs.set j v)) → Heap.SameBut l s.heap h' → Q () { s with heap := h' }) : wpAny (model prog w) A (setItem (.ref l) (.int (j : Int) t) v) Q E s := by
  obtain ⟨n, ho⟩ := hl
  have e := get?_update_seq (h := s.heap) (a := l) (xs := List.toArray vs) (n := n) (c := "list") ho (·.setIfInBounds j v)
  have e2 : (List.toArray vs).setIfInBounds j v = List.toArray (vs.set j v) := by simp
  rw [e2] at e
  exact setItem_plainA (n := n) ho (by omega) (by omega) (by rw [List.size_toArray]; omega) (by rw [Int.toNat_natCast]; exact hQ _ ⟨_, e⟩ (Heap.SameBut.update ..))
theorem Reps.set {M : List Addr} {h : Heap} {v : Value} {d : D} (rv : Rep M h v d) : ∀ {vs ds}, Reps M h vs ds → ∀ j, Reps M h (vs.set j v) (ds.set j d)
  | _, _, .nil, j => .nil
  | _, _, .cons a b, 0 => .cons rv b
  | _, _, .cons a b, j + 1 => .cons a (Reps.set rv b j)
/-- acc[j] = e -/
theorem ST.setItem {x : PySem.Str} {xp sp pos : Pos} {ei : PySem.Expr} {a : Addr} {ds : List D} {j : Nat} (h1 : EV prog w B G A env ρ e d1) (hx : ρ.lookup x = some (.ref a)) (hi : EV prog w B G A env ρ ei (.int j)) (hj : j < ds.length) (hl : ds.length ≤ 100000)
    (hs : swapsWith e (some (.Subscript (.Name x xp) ei sp)) pos.line env = pure false := by rfl) :
    ST prog w B G A own env (some (a, ds)) ρ (.Assign [.Subscript (.Name x xp) ei sp] e pos) (some (a, ds.set j d1)) ρ := fun M s Q E F ac h => by
  refine wpAny_Assign_Subscript (h1 M s _ _ F.z F.vars fun v s1 p1 r1 => EV.nm hx M s1 _ _ (F.z.step p1) (F.vars.step F.z p1) fun ov s2 p2 r2 => hi M s2 _ _ ((F.z.step p1).step p2) ((F.vars.step F.z p1).step (F.z.step p1) p2) fun iv s3 p3 r3 => ?_) hs
  cases r2; cases r3
  have p13 := (p1.trans p2).trans p3
  have F3 := F.step p13
  have a3 := ac.step F.z p13
  have rv : Rep M s3.heap v d1 := (r1.step (F.z.step p1) p2).step ((F.z.step p1).step p2) p3
  obtain ⟨aM, aO, aG, vs, pl, rs⟩ := id a3
  refine setItem_plain pl (by rw [rs.length]; exact hj) (by rw [rs.length]; exact hl) fun h' hl' hs' => ?_
  obtain ⟨n, ea⟩ := id pl
  have p4 : StpW B G [a] s3 { s3 with heap := h' } := StpW.upd (tk := s3.toks) F3.z.inv hs' ea (notCode_seq rfl) aO aG (let ⟨n, e⟩ := hl'; ⟨_, e⟩) (by simp)
  have sub : ∀ b ∈ [a], b ∈ M := fun b hb => by rw [List.mem_singleton] at hb; subst hb; exact aM
  have nW := a3.notWr F3
  refine h _ (p13.toW.trans (p4.mono fun b hb => List.mem_append_left _ hb)) (F3.stepW p4 sub (fun q => ?_) fun n c hm ⟨v, o, e, dd⟩ q => ?_) ⟨aM, aO, aG, vs.set j v, hl', (Reps.set rv rs j).grow (F3.z.growW p4 sub)⟩
  · rw [List.mem_singleton] at q
    exact nW a (by unfold xa; simp) (by unfold wr; rw [← q]; simp)
  · rw [List.mem_singleton] at q; subst q
    rw [ea] at e; cases e; cases dd

/-! ## bodies that give nothing back -/
def BODYR (prog : Program) (w : World) (B : Tb) (G : Heap) (A : Around) (env : Env) (k : Option (Addr × List D)) (ρ : List (PySem.Str × D)) (sts : List Stmt) (k' : Option (Addr × List D)) : Prop :=
  ∀ (M : List Addr) (s : Shared) (Q : Flow → Shared → Prop) (E : Value → Shared → Prop), FS B G M false env s ρ → Acc G M s.heap k →
    (∀ v s', StpW B G (xa k ++ wr false env) s s' → Acc G M s'.heap k' → Q (.ret v) s') → wpAny (model prog w) A (execs sts env) Q E s
theorem BODYR.cons (h1 : ST prog w B G A false env k ρ st k' ρ') (hk : xa k' = xa k) (h2 : BODYR prog w B G A env k' ρ' r k'') : BODYR prog w B G A env k ρ (st :: r) k'' := fun M s Q E F a h =>
  wpAny_execs_cons (h1 M s _ _ F a fun s1 p1 F1 a1 => h2 M s1 _ _ F1 a1 fun v s2 p2 a2 => h v s2 (p1.trans (hk ▸ p2)) a2)
theorem BODYR.ret {pos : Pos} : BODYR prog w B G A env k ρ (.Return none pos :: r) k := fun M s Q E F a h =>
  wpAny_execs_cons (wpAny_Return_none (h _ s (Stp.refl F.z.inv).toW a))
theorem BODYK.cons (h1 : ST prog w B G A false env k ρ st k' ρ') (hk : xa k' = xa k) (h2 : BODYK prog w B G A env k' ρ' r k'') : BODYK prog w B G A env k ρ (st :: r) k'' := fun M s Q E F a h =>
  wpAny_execs_cons (h1 M s _ _ F a fun s1 p1 F1 a1 => h2 M s1 _ _ F1 a1 fun fl s2 hf p2 a2 => h fl s2 hf (p1.trans (hk ▸ p2)) a2)
theorem BODYK.nil : BODYK prog w B G A env k ρ [] k := fun M s Q E F a h => wpAny_execs_nil (h _ s (.inl rfl) (Stp.refl F.z.inv).toW a)
theorem BODYK.iteR {t : PySem.Expr} {o : List Stmt} {pos : Pos} (ht : TV prog w B G A env ρ t true) (h1 : BODYR prog w B G A env k ρ b k') : BODYK prog w B G A env k ρ (.If t b o pos :: r) k' := fun M s Q E F a h =>
  wpAny_execs_cons (wpAny_If (ht M s _ _ F.z F.vars fun s1 p1 => by
    exact h1 M s1 _ _ (F.step p1) (a.step F.z p1) fun v s2 p2 a2 => h _ s2 (.inr ⟨v, rfl⟩) (p1.toW.trans p2) a2))
/-- if t: (statements that go on) -/
theorem ST.ifRun {t : PySem.Expr} {pos : Pos} (ht : TV prog w B G A env ρ t true) (h1 : RUN prog w B G A own env k ρ b k' ρ') : ST prog w B G A own env k ρ (.If t b [] pos) k' ρ' := fun M s Q E F a h =>
  wpAny_If (ht M s _ _ F.z F.vars fun s1 p1 => by
    exact h1 M s1 _ _ (F.step p1) (a.step F.z p1) fun s2 p2 F2 a2 => h s2 (p1.toW.trans p2) F2 a2)
end
end Mine

end

/-! # text C13 -/
section
open PySem PySem.Spec PySem.Calls PyProof.Rows PySem.W
set_option maxRecDepth 100000
set_option linter.unusedVariables false
set_option linter.unusedSimpArgs false
set_option maxHeartbeats 8000000
namespace Mine
section
variable {P : Params} {mg mb : PySem.Str → Option Value} {G G' : Heap} {env : Env} {prog : Program} {w : World} {B : Tb} {A : Around} {own : Bool} {ρ ρ' ρc : List (PySem.Str × D)} {k k' k'' : Option (Addr × List D)} {d d1 : D} {e e1 e2 : PySem.Expr} {st : Stmt} {sts r b : List Stmt}

def digs (n : Nat) : Nat → Nat → List Int
  | 0, _ => []
  | m + 1, x => ((x % 2 ^ n : Nat) : Int) :: digs n m (x / 2 ^ n)
theorem digs_len (n : Nat) : ∀ m x, (digs n m x).length = m
  | 0, _ => rfl
  | m + 1, x => by rw [digs, List.length_cons, digs_len n m]
theorem digs_app (n q : Nat) : ∀ (p x : Nat), digs n (p + q) x = digs n p (x % 2 ^ (n * p)) ++ digs n q (x / 2 ^ (n * p))
  | 0, x => by simp [digs]
  | p + 1, x => by
    have e : 2 ^ (n * (p + 1)) = 2 ^ n * 2 ^ (n * p) := by rw [← Nat.pow_add]; congr 1; rw [Nat.mul_succ]; omega
    rw [show p + 1 + q = (p + q) + 1 by omega, digs, digs, digs_app n q p (x / 2 ^ n), List.cons_append, e]
    rw [Nat.mod_mul_right_div_self, Nat.div_div_eq_div_mul, Nat.mod_mod_of_dvd _ (Nat.dvd_mul_right _ _)]
theorem digs_zero (n : Nat) : ∀ m, digs n m 0 = List.replicate m 0
  | 0 => rfl
  | m + 1 => by rw [digs, Nat.zero_mod, Nat.zero_div, digs_zero n m, List.replicate_succ]; rfl
theorem digs_one {n x : Nat} (h : x < 2 ^ n) : digs n 1 x = [(x : Int)] := by rw [digs, digs, Nat.mod_eq_of_lt h]
theorem xor_low (x s : Nat) : Builtin.bitXor (x : Int) (((x / 2 ^ s : Nat) : Int) * 2 ^ s) = ((x % 2 ^ s : Nat) : Int) := by
  rw [bitXor_and]
  have e : ((x / 2 ^ s : Nat) : Int) * 2 ^ s = ((x / 2 ^ s * 2 ^ s : Nat) : Int) := by rw [Int.natCast_mul]; congr 1
  rw [e]
  have h1 : Builtin.bitAnd (x : Int) ((x / 2 ^ s * 2 ^ s : Nat) : Int) = ((x &&& (x / 2 ^ s * 2 ^ s) : Nat) : Int) := by
    unfold Builtin.bitAnd
    rw [decide_eq_true (by omega : (0 : Int) ≤ (x : Int)), decide_eq_true (by omega : (0 : Int) ≤ ((x / 2 ^ s * 2 ^ s : Nat) : Int))]
    rfl
  have h2 : x &&& (x / 2 ^ s * 2 ^ s) = x / 2 ^ s * 2 ^ s := by
    apply Nat.eq_of_testBit_eq
    intro i
    rw [Nat.testBit_and, ← Nat.shiftRight_eq_div_pow, ← Nat.shiftLeft_eq, Nat.testBit_shiftLeft, Nat.testBit_shiftRight]
    by_cases hi : s ≤ i
    · rw [show s + (i - s) = i by omega]; simp [hi]
    · simp [hi]
  rw [h1, h2]
  have := Nat.div_add_mod x (2 ^ s)
  rw [Nat.mul_comm] at this
  omega
def fill (n : Nat) (ds : List D) (L m x : Nat) : List D := ds.take L ++ (digs n m x).map .int ++ ds.drop (L + m)
theorem fill_len {n : Nat} {ds : List D} {L m x : Nat} (h : L + m ≤ ds.length) : (fill n ds L m x).length = ds.length := by
  unfold fill; simp [digs_len]; omega
theorem fill_one {n : Nat} {ds : List D} {L x : Nat} (h : L < ds.length) (hx : x < 2 ^ n) : ds.set L (.int x) = fill n ds L 1 x := by
  unfold fill
  rw [digs_one hx, List.set_eq_take_append_cons_drop, if_pos h]
  simp
theorem fill_two {n : Nat} {ds : List D} {L p q x : Nat} (h : L + p + q ≤ ds.length) : fill n (fill n ds L p (x % 2 ^ (n * p))) (L + p) q (x / 2 ^ (n * p)) = fill n ds L (p + q) x := by
  have e1 : (fill n ds L p (x % 2 ^ (n * p))).take (L + p) = ds.take L ++ (digs n p (x % 2 ^ (n * p))).map .int := by
    unfold fill
    rw [List.take_left' (by simp [digs_len]; omega)]
  have e2 : (fill n ds L p (x % 2 ^ (n * p))).drop (L + p + q) = ds.drop (L + (p + q)) := by
    unfold fill
    rw [← List.drop_drop, List.drop_left' (by simp [digs_len]; omega), List.drop_drop]
    congr 1
    omega
  show (fill n ds L p (x % 2 ^ (n * p))).take (L + p) ++ _ ++ (fill n ds L p (x % 2 ^ (n * p))).drop (L + p + q) = _
  rw [e1, e2]
  unfold fill
  rw [digs_app n q p x]
  simp

theorem mul_push {s : Shared} {l : Addr} {kk : Nat} {vs : List Value} {x : Int} {u : Tok} {Q : Value → Shared → Prop} {E : Value → Shared → Prop} (ho : s.heap.get? l = some { cls := .type "list", data := .seq (List.toArray vs) kk }) (hv : vs ≠ []) (hlo : -(2 ^ 63 : Int) ≤ x) (hhi : x < 2 ^ 63) (hsz : vs.length * x.toNat ≤ 2 ^ 24)
    (h : Q (.ref s.heap.objs.size) { s with heap := s.heap.push { cls := .type "list", data := .seq (List.toArray (List.replicate x.toNat vs).flatten) } }) : wpAny (model prog w) A (binaryOp .Mult (.ref l) (.int x u)) Q E s := by
  have hne : vs.toArray.isEmpty = false := by
    cases vs with
    | nil => exact absurd rfl hv
    | cons a b => rfl
  have hsz2 : vs.toArray.size * x.toNat ≤ 2 ^ 24 := by rw [List.size_toArray]; exact hsz
  refine wpAny_binaryOp_repeat_ref (T := "list") (U := "int") (by decide) ⟨_, ho, rfl⟩ (fun s' => typeIs_int s' x u) noFill_list_mul PySem.F.fills_int_mul PySem.F.slot_int_rmul repeat_list PySem.F.slot_int_index.lookup
    (call_meets PySem.F.slot_int_rmul (typeIs_int s x u) PySem.F.entry_int_rmul (PySem.F.args_int_rmul_2 _ _) (int___rmul___int_list x u l vs.toArray kk)
      ⟨ho, rfl, ⟨_, ho, rfl⟩, call_meets PySem.F.slot_list_mul ⟨_, ho, rfl⟩ PySem.F.entry_list_mul (PySem.F.args_list_mul_2 _ _)
        (AutoListH.list___mul___list_int_3 l vs.toArray kk x u (by simp [Builtin.List.listFitsIndex]; omega) (by omega) (by simp only [Builtin.List.listTooLong, sizeLine]; simpa using hsz2))
        ⟨ho, ?_⟩⟩)
  rw [hne, if_neg (by decide), foldl_app]
  simp only [Array.empty_append]
  exact h
theorem flat_one (d : D) : ∀ m, (List.replicate m [d]).flatten = List.replicate m d
  | 0 => rfl
  | m + 1 => by rw [List.replicate_succ, List.flatten_cons, flat_one d m, List.replicate_succ]; rfl
/-- a list of n times one datum, new, that the frame is to fill -/
theorem BDA.newMul {x : PySem.Str} {px lp bp zp pos : Pos} {zk : Nat} {z0 : Int} {m : Nat} (he : EV prog w B G A env ρ e (.int m)) (hm : m ≤ 100000) (hx : Sto own env x) (hn : ∀ n d, (n, d) ∈ ρ → n ≠ x) (h2 : ∀ a, BDA prog w B G A own env (some (a, List.replicate m (.int z0))) ((x, .ref a) :: ρ) r d)
    (hs : swapsWith (.BinOp (.List [.Constant (.int z0) zk zp] lp) .Mult e bp) (some (.Name x px)) pos.line env = pure false := by rfl) : BDA prog w B G A own env none ρ (.Assign [.Name x px] (.BinOp (.List [.Constant (.int z0) zk zp] lp) .Mult e bp) pos :: r) d := fun M₀ M s Q E hM hx0 F ac h => by
  have hl : EV prog w B G A env ρ (.List [.Constant (.int z0) zk zp] lp) (.list [.int z0]) := EV.list (A1 EV.int) (by simp)
  refine wpAny_execs_cons (wpAny_Assign_Name (wpAny_BinOp (hl M s _ _ F.z F.vars fun v1 s1 p1 r1 => he M s1 _ _ (F.z.step p1) (F.vars.step F.z p1) fun v2 s2 p2 r2 => ?_)) hs)
  have p12 := p1.trans p2
  have F2 := F.step p12
  have r12 := r1.step (F.z.step p1) p2
  clear r1
  cases r2
  rename_i u
  cases r12 with
  | list hm' ho hr =>
    rename_i l kk vs
    have hvl : vs.length = 1 := hr.length
    refine mul_push ho (by intro q; rw [q] at hvl; cases hvl) (by omega) (by omega) (by rw [hvl, Int.toNat_natCast]; omega) ?_
    rw [Int.toNat_natCast]
    have hreps : Reps M s2.heap ((List.replicate m vs).flatten) (List.replicate m (.int z0)) := by
      have := hr.times m
      rw [flat_one] at this
      exact this
    have fa := get?_size s2.heap
    generalize hus : (List.replicate m vs).flatten = us at hreps
    generalize hob : ({ cls := .type "list", data := .seq (List.toArray us) } : Obj) = ob
    have hfr : ob.isFreed = false := by rw [← hob]; rfl
    have p3 : Stp B G s2 { s2 with heap := s2.heap.push ob } := Stp.push' F2.z.inv
    have haM := F2.z.fresh fa
    have F3 := F2.step p3
    have up : ∀ b o, s2.heap.get? b = some o → (s2.heap.push ob).get? b = some o := fun b o e => Heap.get?_push_of_some _ e
    have F3' : FS B G ([s2.heap.objs.size] ++ M) own env { s2 with heap := s2.heap.push ob } ρ := by
      refine ⟨F3.z.more fun b hb => ?_, F3.kind, List.mem_append_right _ F3.locM, F3.off, F3.g0, F3.ns, fun ho => ⟨fun n c hm => ?_, (F3.cell ho).2⟩, fun n d hm => ?_⟩
      · rw [List.mem_singleton] at hb; subst hb; exact ⟨_, Heap.get?_push_size _ hfr⟩
      · obtain ⟨h1, h2⟩ := (F3.cell ho).1 n c hm; exact ⟨List.mem_append_right _ h1, h2⟩
      · obtain ⟨v, b, rr⟩ := F2.vars n d hm
        refine ⟨v, b.grow p3.keep, (rr.more (N := [s2.heap.objs.size] ++ M) fun b hb => ?_).grow fun b o _ e => up b o e⟩
        rcases List.mem_append.mp hb with hb | hb
        · rw [List.mem_singleton] at hb; subst hb; exact .inr fa
        · exact .inl hb
    refine store_wp F3' hx hn (.ref s2.heap.objs.size) fun s4 p4 F4 => ?_
    have a1 : Acc G ([s2.heap.objs.size] ++ M) ({ s2 with heap := s2.heap.push ob } : Shared).heap (some (s2.heap.objs.size, List.replicate m (.int z0))) :=
      ⟨by simp, F2.z.offOf haM, F2.z.inv.gnone fa, us, ⟨0, by rw [Heap.get?_push_size _ hfr, ← hob]⟩, (hreps.more fun b hb => by
        rcases List.mem_append.mp hb with hb | hb
        · rw [List.mem_singleton] at hb; subst hb; exact .inr fa
        · exact .inl hb).grow fun b o _ e => up b o e⟩
    have a4 := a1.stepWr F3' p4
    have fas : s.heap.get? s2.heap.objs.size = none := p12.none fa
    refine h2 s2.heap.objs.size M₀ _ s4 _ _ (fun b hb => List.mem_append_right _ (hM b hb)) (fun b hb q => ?_) F4 a4 fun v s5 p5 r5 => h v s5 ?_ r5
    · unfold xa at hb; rw [List.mem_singleton] at hb; subst hb
      exact haM (hM _ q)
    · refine (p12.toW.trans (p3.toW.trans ((p4.mono wr_sub).trans p5))).drop fun b hb => ?_
      rcases List.mem_append.mp hb with hb | hb
      · unfold xa at hb; rw [List.mem_singleton] at hb; subst hb; exact .inr fas
      · exact .inl (List.mem_append_right _ hb)

/-! ### _int2digits -/
theorem def_i2d (T : TopG P mg mb G) : DefOk G 52 (fdOf P 52) (bodyOf P 52) ["a", "n"] :=
  T.def ⟨_, rfl, rfl⟩ rfl rfl rfl (fun vs h => by match vs, h with | [a, b], _ => rfl) (by decide) rfl rfl rfl rfl rfl
def ndig (n a : Nat) : Nat := (Builtin.Int.intBits (a : Int) + n - 1) / n
theorem ndig_ok {n a : Nat} (hn : 0 < n) : a < 2 ^ (n * ndig n a) := by
  have h1 : a < 2 ^ Builtin.Int.intBits (a : Int) := by
    have := (intBits_le_iff (m := Builtin.Int.intBits (a : Int)) (x := (a : Int))).mp (Nat.le_refl _)
    simpa using this
  refine Nat.lt_of_lt_of_le h1 (Nat.pow_le_pow_right (by decide) ?_)
  unfold ndig
  have := Nat.div_add_mod (Builtin.Int.intBits (a : Int) + n - 1) n
  have h2 := Nat.mod_lt (Builtin.Int.intBits (a : Int) + n - 1) hn
  omega
theorem c_i2d (T : TopG P mg mb G) (hA : A.handled = none) {n a : Nat} (hroom : A.depth + 80 < recursionLimit) (hn : n ≤ 64) (hn0 : 0 < n) (hl : ndig n a ≤ 64) : CALLS prog w (BB P) G A (.ref 52) [.int a, .int n] (iL (digs n (ndig n a) a)) := by
  refine CALLS.of_def (def_i2d T) (by omega) T.nolimit rfl fun L => ?_
  refine BDA.newMul (m := ndig n a) (EV.cast (EV.bin (EV.bin (EV.bin (EV.meth EV.nm (.int _) mt_bitlen A0 CALLS.bitLength) EV.nm BOP.add) EV.int BOP.sub) EV.nm (BOP.fdiv (by omega) (noPy ?_))) ?_) (by omega) ⟨rfl, .inr ⟨rfl, rfl, rfl⟩⟩ (fresh_of rfl) fun al => ?_
  · have : (n : Int).natAbs ≤ 64 := by omega
    exact Nat.lt_of_le_of_lt this (by decide)
  · unfold ndig
    rw [← fdiv_nat]
    congr 2
    omega
  refine BDA.defn T T.hd1 rfl rfl rfl (.inl ⟨rfl, rfl, rfl⟩) ⟨rfl, .inr ⟨rfl, rfl, rfl⟩⟩ (fresh_of rfl) rfl rfl rfl fun G' f c' ctv doc sub T' hob hrec hcells => ?_
  obtain ⟨c1, v1, l1, i1, r1⟩ := hcells "a_digits" (.ref al) (List.mem_cons_of_mem _ List.mem_cons_self) rfl
  obtain ⟨c2, v2, l2, i2, r2⟩ := hcells "n" (.int n) (List.mem_cons_of_mem _ (List.mem_cons_of_mem _ (List.mem_cons_of_mem _ List.mem_cons_self))) rfl
  obtain ⟨c3, v3, l3, i3, r3⟩ := hcells "inner" (.ref f) List.mem_cons_self rfl
  have okX := DefX.of (names := ["x", "L", "R"]) hob hrec (fun vs h => by match vs, h with | [a, b, c], _ => rfl) (by decide) rfl rfl rfl rfl rfl
  have inner : ∀ (m : Nat) (A : Around) (L R x : Nat) (ds : List D), R - L = m → L < R → R ≤ ds.length → ds.length ≤ 64 → x < 2 ^ (n * (R - L)) → A.depth + m < recursionLimit → CALLK prog w (BB P) G' A (.ref f) [.int x, .int L, .int R] (some (al, ds)) (some (al, fill n ds L (R - L) x)) := by
    intro m
    induction m using Nat.strongRecOn with
    | _ m ih =>
      intro A L R x ds hm hLR hR hds hx hd
      refine CALLK.of_defX (ρc := [("a_digits", .ref al), ("n", .int n), ("inner", .ref f)]) okX (CloOk.cons .ref l1 i1 r1 (CloOk.cons .int l2 i2 r2 (CloOk.cons .ref l3 i3 r3 CloOk.nil))) T'.g47 T'.g54 (by omega) T'.nolimit rfl fun Lc => ?_
      by_cases h1 : L + 1 = R
      · subst h1
        rw [show L + 1 - L = 1 by omega] at hx ⊢
        rw [Nat.mul_one] at hx
        refine BODYK.iteR (TV.castB (TV.cmp (EV.bin EV.nm EV.int BOP.add) EV.nm BOP.eq) ?_) ?_
        · rw [beq_iff_eq]; omega
        · rw [← fill_one (by omega) hx]
          exact BODYR.cons (ST.setItem EV.nm rfl EV.nm (by omega) (by omega)) rfl BODYR.ret
      · refine BODYK.cons (ST.skip (TV.castB (TV.cmp (EV.bin EV.nm EV.int BOP.add) EV.nm BOP.eq) ?_)) rfl ?_
        · rw [beq_eq_false_iff_ne]; omega
        obtain ⟨mid, hmid⟩ : ∃ mid, mid = (L + R) / 2 := ⟨_, rfl⟩
        obtain ⟨p, hp⟩ : ∃ p, mid = L + p := ⟨mid - L, by omega⟩
        obtain ⟨q, hq⟩ : ∃ q, R = L + p + q := ⟨R - mid, by omega⟩
        have hp0 : 0 < p := by omega
        have hq0 : 0 < q := by omega
        refine BODYK.cons (ST.asg (d1 := .int (mid : Nat)) (EV.cast (EV.bin (EV.bin EV.nm EV.nm BOP.add) EV.int (BOP.shr (by decide))) ?_) ⟨rfl, .inl rfl⟩ (fresh_of rfl)) rfl ?_
        · rw [show ((2 : Int) ^ (1 : Int).toNat) = ((2 : Nat) : Int) by rfl, show ((L : Int) + (R : Int)) = ((L + R : Nat) : Int) by omega, fdiv_nat, hmid]
        refine BODYK.cons (ST.asg (d1 := .int ((n * p : Nat) : Int)) (EV.cast (EV.bin (EV.bin EV.nm EV.nm BOP.sub) EV.nm (BOP.mul ?_)) ?_) ⟨rfl, .inl rfl⟩ (fresh_of rfl)) rfl ?_
        · refine IntMulOk.of_right (bits_lt (by omega) ?_)
          have : (n : Int) < 128 := by omega
          exact Int.lt_of_lt_of_le this (by decide)
        · rw [Int.natCast_mul, show ((mid : Int) - (L : Int)) = ((p : Nat) : Int) by omega, Int.mul_comm]
        have hnp : n * p ≤ 64 * 64 := Nat.mul_le_mul hn (by omega)
        have hnq : n * q ≤ 64 * 64 := Nat.mul_le_mul hn (by omega)
        have hup : x / 2 ^ (n * p) < 2 ^ (n * q) := by
          rw [Nat.div_lt_iff_lt_mul (Nat.pow_pos (by decide)), ← Nat.pow_add, ← Nat.mul_add]
          rw [show R - L = p + q by omega] at hx
          rw [Nat.add_comm q p]; exact hx
        have hlow : x % 2 ^ (n * p) < 2 ^ (n * p) := Nat.mod_lt _ (Nat.pow_pos (by decide))
        refine BODYK.cons (ST.asg (d1 := .int ((x / 2 ^ (n * p) : Nat) : Int)) (EV.cast (EV.bin EV.nm EV.nm (BOP.shr (by omega))) ?_) ⟨rfl, .inl rfl⟩ (fresh_of rfl)) rfl ?_
        · rw [Int.toNat_natCast, show ((2 : Int) ^ (n * p)) = ((2 ^ (n * p) : Nat) : Int) by simp, fdiv_nat]
        refine BODYK.cons (ST.asg (d1 := .int ((x % 2 ^ (n * p) : Nat) : Int)) (EV.cast (EV.bin EV.nm (EV.bin EV.nm EV.nm (BOP.shl (by omega) ?_)) BOP.xor) ?_) ⟨rfl, .inl rfl⟩ (fresh_of rfl)) rfl ?_
        · have hb1 := bits_lt (x := ((x / 2 ^ (n * p) : Nat) : Int)) (m := n * q) (Int.natCast_nonneg _) (by
            have : ((x / 2 ^ (n * p) : Nat) : Int) < ((2 ^ (n * q) : Nat) : Int) := Int.ofNat_lt.mpr hup
            simpa using this)
          omega
        · rw [Int.toNat_natCast, xor_low]
        refine BODYK.cons (ST.callK (es2 := fill n ds L p (x % 2 ^ (n * p))) rfl okX (.cons (EV.toA EV.nm) (by intro _; rfl) (.cons (EV.toA EV.nm) (by intro _; rfl) (.cons (EV.toA EV.nm) (by intro _; rfl) .nil))) ?_) rfl ?_
        · have key := fun (A' : Around) (hA' : A'.depth + p < recursionLimit) => ih p (by omega) A' L mid (x % 2 ^ (n * p)) ds (by omega) (by omega) (by omega) hds (by rw [show mid - L = p by omega]; exact hlow) hA'
          rw [show mid - L = p by omega] at key
          exact key _ (show A.depth + 1 + p < recursionLimit by omega)
        refine BODYK.cons (ST.callK (es2 := fill n ds L (R - L) x) rfl okX (.cons (EV.toA EV.nm) (by intro _; rfl) (.cons (EV.toA EV.nm) (by intro _; rfl) (.cons (EV.toA EV.nm) (by intro _; rfl) .nil))) ?_) rfl BODYK.nil
        · have hfl : (fill n ds L p (x % 2 ^ (n * p))).length = ds.length := fill_len (by omega)
          have key := fun (A' : Around) (hA' : A'.depth + q < recursionLimit) => ih q (by omega) A' mid R (x / 2 ^ (n * p)) (fill n ds L p (x % 2 ^ (n * p))) (by omega) (by omega) (by omega) (by omega) (by rw [show R - mid = q by omega]; exact hup) hA'
          have e3 : fill n (fill n ds L p (x % 2 ^ (n * p))) mid (R - mid) (x / 2 ^ (n * p)) = fill n ds L (R - L) x := by
            rw [show R - mid = q by omega, hp, fill_two (by omega)]
            congr 1
            omega
          rw [e3] at key
          exact key _ (show A.depth + 1 + q < recursionLimit by omega)
  have hxa := ndig_ok (a := a) hn0
  have hdg : (digs n (ndig n a) a).map D.int = fill n (List.replicate (ndig n a) (.int 0)) 0 (ndig n a) a := by
    unfold fill; simp
  by_cases ha : a = 0
  · subst ha
    refine BDA.cons (ST.skip (TV.castB (TV.val EV.nm TRU.int) (by rfl))) rfl ?_
    refine BDA.pre (ρ' := [("a_digits", .ref al)]) ?_ (fun p hp => by rw [List.mem_singleton] at hp; subst hp; exact List.mem_cons_of_mem _ List.mem_cons_self)
    refine BDA.freeze (BDA.ret (EV.cast EV.nm ?_))
    rw [digs_zero]; simp [iL]
  · have hpos : 0 < ndig n a := by
      rcases Nat.eq_zero_or_pos (ndig n a) with q | q
      · rw [q, Nat.mul_zero, Nat.pow_zero] at hxa; omega
      · exact q
    refine BDA.cons (ST.ifRun (k' := some (al, fill n (List.replicate (ndig n a) (.int 0)) 0 (ndig n a) a)) (TV.castB (TV.val EV.nm TRU.int) ?_) (RUN.cons (ST.callK (es2 := fill n (List.replicate (ndig n a) (.int 0)) 0 (ndig n a) a) rfl okX (.cons (EV.toA EV.nm) (by intro _; rfl) (.cons (EV.toA EV.int) (by intro _; rfl) (.cons (AEV.len (T'.bi rfl rfl rfl rfl rfl rfl rfl rfl) rfl (by simp; omega)) (by intro _; rfl) .nil))) ?_) rfl RUN.nil)) rfl ?_
    · rw [bne_iff_ne]; omega
    · have := inner (ndig n a) (A.deeper (callEnvC (fdOf P 52) L 52)) 0 (ndig n a) a (List.replicate (ndig n a) (.int 0)) (by omega) hpos (by simp) (by simp; omega) (by simpa using hxa) (show A.depth + 1 + ndig n a < recursionLimit by omega)
      simpa using this
    · refine BDA.pre (ρ' := [("a_digits", .ref al)]) ?_ (fun p hp => by rw [List.mem_singleton] at hp; subst hp; exact List.mem_cons_of_mem _ List.mem_cons_self)
      rw [← hdg]
      exact BDA.freeze (BDA.ret EV.nm)
end
end Mine

end

/-! # text C14 -/
section
open PySem PySem.Spec PySem.Calls PyProof.Rows PySem.W
set_option maxRecDepth 100000
set_option linter.unusedVariables false
set_option linter.unusedSimpArgs false
set_option maxHeartbeats 8000000
namespace Mine
section
variable {P : Params} {mg mb : PySem.Str → Option Value} {G G' : Heap} {env : Env} {prog : Program} {w : World} {B : Tb} {A : Around}

/-! ### _div2n1n, the direct branch -/
theorem def_21 (T : TopG P mg mb G) : DefOk G 38 (fdOf P 38) (bodyOf P 38) ["a", "b", "n"] :=
  T.def ⟨_, rfl, rfl⟩ rfl rfl rfl (fun vs h => by match vs, h with | [a, b, c], _ => rfl) (by decide) rfl rfl rfl rfl rfl
theorem c_21 (T : TopG P mg mb G) (hroom : A.depth < recursionLimit) {a b n : Nat} (hb : 0 < b) (hb2 : b < 2 ^ 200) (ha : Builtin.Int.intBits (a : Int) ≤ 4000) : CALLS prog w B G A (.ref 38) [.int a, .int b, .int n] (.tup [.int ((a / b : Nat) : Int), .int ((a % b : Nat) : Int)]) := by
  refine CALLS.of_def (def_21 T) hroom T.nolimit rfl fun L => ?_
  refine BDA.iteT (TV.castB (TV.cmp (EV.bin (EV.meth EV.nm (.int _) mt_bitlen A0 CALLS.bitLength) EV.nm BOP.sub) (EV.globI (T.gl rfl rfl rfl rfl rfl)) BOP.le) ?_) (BDA.ret (EV.cast (EV.callb (T.bi rfl rfl rfl rfl rfl rfl rfl rfl) (A2 EV.nm EV.nm) (CALLS.divmod (by omega) (noPy (by omega)))) ?_))
  · exact decide_eq_true (by omega)
  · rw [fdiv_nat, fmod_nat]

/-! ### _divmod_pos -/
theorem digs_get (n : Nat) : ∀ (m x j : Nat), j < m → (digs n m x)[j]? = some ((x / 2 ^ (n * j) % 2 ^ n : Nat) : Int)
  | 0, x, j, h => by omega
  | m + 1, x, 0, h => by simp [digs]
  | m + 1, x, j + 1, h => by
    rw [digs, List.getElem?_cons_succ, digs_get n m _ j (by omega), Nat.div_div_eq_div_mul, ← Nat.pow_add, Nat.mul_succ, Nat.add_comm]
def topA (n m a i : Nat) : Nat := a / 2 ^ (n * (m - i))
def figA (n m a i : Nat) : Nat := topA n m a (i + 1) % 2 ^ n
theorem topA_succ {n m a i : Nat} (h : i < m) : topA n m a (i + 1) = topA n m a i * 2 ^ n + figA n m a i := by
  have e : topA n m a i = topA n m a (i + 1) / 2 ^ n := by
    unfold topA
    rw [Nat.div_div_eq_div_mul, ← Nat.pow_add]
    congr 2
    rw [show m - i = (m - (i + 1)) + 1 by omega, Nat.mul_succ]
  unfold figA
  rw [e, Nat.mul_comm]
  exact (Nat.div_add_mod _ _).symm
def qdA (n m a b i : Nat) : Nat := (topA n m a i % b * 2 ^ n + figA n m a i) / b
theorem long_r {n m a b i : Nat} (h : i < m) : (topA n m a i % b * 2 ^ n + figA n m a i) % b = topA n m a (i + 1) % b := by
  rw [topA_succ h, Nat.add_mod, Nat.mul_mod, Nat.mod_mod, ← Nat.mul_mod, ← Nat.add_mod]
theorem long_q {n m a b i : Nat} (hb : 0 < b) (h : i < m) : topA n m a (i + 1) / b = 2 ^ n * (topA n m a i / b) + qdA n m a b i := by
  rw [topA_succ h]
  unfold qdA
  have e : topA n m a i * 2 ^ n + figA n m a i = (topA n m a i % b * 2 ^ n + figA n m a i) + b * (2 ^ n * (topA n m a i / b)) := by
    have := Nat.div_add_mod (topA n m a i) b
    generalize topA n m a i / b = q at *
    generalize topA n m a i % b = r at *
    rw [← this, Nat.add_mul]
    rw [Nat.mul_assoc, Nat.mul_comm q]
    omega
  rw [e, Nat.add_mul_div_left _ _ hb]
  omega
theorem dsum_q {n m a b : Nat} (hb : 0 < b) (ha : a < 2 ^ (n * m)) : ∀ i, i ≤ m → dsum n ((List.range i).map fun j => ((qdA n m a b j : Nat) : Int)).reverse = ((topA n m a i / b : Nat) : Int)
  | 0, _ => by
    have : topA n m a 0 = 0 := by unfold topA; exact Nat.div_eq_of_lt (by simpa using ha)
    rw [this, Nat.zero_div]; rfl
  | i + 1, h => by
    rw [List.range_succ, List.map_append, List.reverse_append]
    show ((qdA n m a b i : Nat) : Int) + 2 ^ n * dsum n ((List.range i).map fun j => ((qdA n m a b j : Nat) : Int)).reverse = _
    rw [dsum_q hb ha i (by omega), long_q hb (by omega), Int.natCast_add, Int.natCast_mul]
    have : ((2 ^ n : Nat) : Int) = 2 ^ n := by simp
    rw [this]
    omega
theorem qd_lt {n m a b i : Nat} (hb : 0 < b) : qdA n m a b i < 2 ^ n := by
  unfold qdA
  rw [Nat.div_lt_iff_lt_mul hb]
  have h1 := Nat.mod_lt (topA n m a i) hb
  have h2 : figA n m a i < 2 ^ n := Nat.mod_lt _ (Nat.pow_pos (by decide))
  have h3 : topA n m a i % b + 1 ≤ b := h1
  have h4 := Nat.mul_le_mul_right (2 ^ n) h3
  rw [Nat.add_mul, Nat.one_mul] at h4
  rw [Nat.mul_comm (2 ^ n) b]
  omega
theorem def_dp (T : TopG P mg mb G) : DefOk G 66 (fdOf P 66) (bodyOf P 66) ["a", "b"] :=
  T.def ⟨_, rfl, rfl⟩ rfl rfl rfl (fun vs h => by match vs, h with | [a, b], _ => rfl) (by decide) rfl rfl rfl rfl rfl
theorem c_dp (T : TopG P mg mb G) (hA : A.handled = none) {a b : Nat} (hroom : A.depth + 100 < recursionLimit) (hb : 0 < b) (hb2 : b < 2 ^ 64) (hm : ndig (Builtin.Int.intBits (b : Int)) a ≤ 64) :
    CALLS prog w (BB P) G A (.ref 66) [.int a, .int b] (.tup [.int ((a / b : Nat) : Int), .int ((a % b : Nat) : Int)]) := by
  have hbn : b < 2 ^ Builtin.Int.intBits (b : Int) := by
    have := (intBits_le_iff (m := Builtin.Int.intBits (b : Int)) (x := (b : Int))).mp (Nat.le_refl _)
    simpa using this
  have hn64 : Builtin.Int.intBits (b : Int) ≤ 64 := intBits_le_iff.mpr (by simpa using hb2)
  have hn0 : 0 < Builtin.Int.intBits (b : Int) := by
    rcases Nat.eq_zero_or_pos (Builtin.Int.intBits (b : Int)) with q | q
    · rw [q] at hbn; omega
    · exact q
  refine CALLS.of_def (def_dp T) (by omega) T.nolimit rfl fun L => ?_
  refine BDA.cons (ST.asg (EV.meth EV.nm (.int _) mt_bitlen A0 CALLS.bitLength) ⟨rfl, .inl rfl⟩ (fresh_of rfl)) rfl ?_
  generalize Builtin.Int.intBits (b : Int) = n at *
  have ha := ndig_ok (a := a) hn0
  refine BDA.cons (ST.asg (EV.calld (T.gl rfl rfl rfl rfl rfl) (def_i2d T) (A2 EV.nm EV.nm) (c_i2d (A := A.deeper _) T hA (show A.depth + 1 + 80 < recursionLimit by omega) hn64 hn0 hm)) ⟨rfl, .inl rfl⟩ (fresh_of rfl)) rfl ?_
  generalize ndig n a = m at *
  have hA0 : topA n m a 0 = 0 := by unfold topA; exact Nat.div_eq_of_lt (by simpa using ha)
  refine BDA.cons (ST.asg (d1 := .int ((topA n m a 0 % b : Nat) : Int)) (EV.cast EV.int (by rw [hA0, Nat.zero_mod]; rfl)) ⟨rfl, .inl rfl⟩ (fresh_of rfl)) rfl ?_
  refine BDA.newAcc ⟨rfl, .inl rfl⟩ (fresh_of rfl) fun qa => ?_
  refine BDA.pre (ρ' := ("r", .int ((topA n m a 0 % b : Nat) : Int)) :: ("q_digits", .ref qa) :: ("a_digits", iL (digs n m a)) :: ("n", .int n) :: zipd ["a", "b"] [.int a, .int b]) ?_ (fun p hp => ?_)
  · refine BDA.cons (ST.for (ds := ((digs n m a).map D.int).reverse) (ρs := fun i => ("r", .int ((topA n m a i % b : Nat) : Int)) :: ("q_digits", .ref qa) :: ("a_digits", iL (digs n m a)) :: ("n", .int n) :: zipd ["a", "b"] [.int a, .int b]) (ks := fun i => some (qa, (List.range i).map fun j => .int ((qdA n m a b j : Nat) : Int)))
      (IEV.reversed hA (by simp [digs_len]; omega) (T.bi rfl rfl rfl rfl rfl rfl rfl rfl) (A1 EV.nm)) ⟨rfl, .inl rfl⟩ (fun _ => fresh_of rfl) (fun _ => rfl) (fun i d hd => ?_)) rfl ?_
    · have hlen : (digs n m a).length = m := digs_len n m a
      have hi : i < m := by
        rcases Nat.lt_or_ge i m with q | q
        · exact q
        · rw [List.getElem?_eq_none (by simp [hlen]; omega)] at hd; cases hd
      have hd' : d = .int ((figA n m a i : Nat) : Int) := by
        rw [List.getElem?_reverse (by rw [List.length_map, hlen]; exact hi), List.length_map, hlen, List.getElem?_map, digs_get n m a _ (by omega)] at hd
        cases hd
        unfold figA topA
        rw [show m - 1 - i = m - (i + 1) by omega]
      subst hd'
      have hr : topA n m a i % b < b := Nat.mod_lt _ hb
      have hf : figA n m a i < 2 ^ n := Nat.mod_lt _ (Nat.pow_pos (by decide))
      have hsum : topA n m a i % b * 2 ^ n + figA n m a i < 2 ^ (n + n) := by
        rw [Nat.pow_add]
        have h3 : topA n m a i % b + 1 ≤ 2 ^ n := by omega
        have h4 := Nat.mul_le_mul_right (2 ^ n) h3
        rw [Nat.add_mul, Nat.one_mul] at h4
        omega
      have hbits : Builtin.Int.intBits ((topA n m a i % b * 2 ^ n + figA n m a i : Nat) : Int) ≤ 128 := by
        refine Nat.le_trans (intBits_le_iff (m := n + n).mpr (by rw [Int.natAbs_natCast]; exact hsum)) (by omega)
      have hb3 : b < 2 ^ 200 := Nat.lt_trans hb2 (by decide)
      have eR : (List.range (i + 1)).map (fun j => D.int ((qdA n m a b j : Nat) : Int)) = (List.range i).map (fun j => D.int ((qdA n m a b j : Nat) : Int)) ++ [.int ((qdA n m a b i : Nat) : Int)] := by rw [List.range_succ, List.map_append]; rfl
      show RUN prog w (BB P) G _ true _ (some (qa, (List.range i).map (fun j => D.int ((qdA n m a b j : Nat) : Int)))) _ _ (some (qa, (List.range (i + 1)).map (fun j => D.int ((qdA n m a b j : Nat) : Int)))) _
      rw [eR]
      refine RUN.cons (ST.asgTW (ρ₁ := ("a_digit", .int ((figA n m a i : Nat) : Int)) :: ("q_digits", .ref qa) :: ("a_digits", iL (digs n m a)) :: ("n", .int n) :: zipd ["a", "b"] [.int a, .int b]) (d1 := .tup [.int ((qdA n m a b i : Nat) : Int), .int ((topA n m a (i + 1) % b : Nat) : Int)])
        (EV.cast (EV.calld (T.gl rfl rfl rfl rfl rfl) (def_21 T) (A3 (EV.cast (d2 := .int ((topA n m a i % b * 2 ^ n + figA n m a i : Nat) : Int)) (EV.bin (EV.bin EV.nm EV.nm (BOP.shl (by omega) ?_)) EV.nm BOP.add) ?_) EV.nm EV.nm) (c_21 (A := A.deeper _) T (show A.depth + 1 < recursionLimit by omega) hb hb3 (by omega))) ?_) (ASG.tup2 hA ⟨rfl, .inl rfl⟩ ⟨rfl, .inl rfl⟩ (by decide)) (fun p hp => ?_) (fun n' d' x d'' q1 q2 => ?_)) rfl ?_
      · have := intBits_le_iff (m := n) (x := ((topA n m a i % b : Nat) : Int)) |>.mpr (by simp; omega)
        omega
      · rw [Int.toNat_natCast, Int.natCast_add, Int.natCast_mul]
        congr 2
      · rw [long_r hi]; rfl
      · simp only [List.mem_cons] at hp ⊢
        rcases hp with h | h
        · exact .inl h
        · exact .inr (.inr h)
      · have f1 : fresh? "r" (("a_digit", .int ((figA n m a i : Nat) : Int)) :: ("q_digits", .ref qa) :: ("a_digits", iL (digs n m a)) :: ("n", .int n) :: zipd ["a", "b"] [.int a, .int b]) = true := rfl
        have f2 : fresh? "q_digit" (("a_digit", .int ((figA n m a i : Nat) : Int)) :: ("q_digits", .ref qa) :: ("a_digits", iL (digs n m a)) :: ("n", .int n) :: zipd ["a", "b"] [.int a, .int b]) = true := rfl
        simp only [List.mem_cons, List.not_mem_nil, or_false, Prod.mk.injEq] at q2
        rcases q2 with ⟨rfl, _⟩ | ⟨rfl, _⟩
        · exact fresh_of f1 n' d' q1
        · exact fresh_of f2 n' d' q1
      · refine RUN.cons (ST.append (x := "q_digits") (a := qa) (d1 := .int ((qdA n m a b i : Nat) : Int)) (mem_of_lookupD rfl) EV.nm (by simp; omega) (hi := rfl)) rfl ?_
        refine RUN.weak RUN.nil (fun p hp => ?_)
        simp only [List.mem_cons, List.cons_append, List.nil_append] at hp ⊢
        rcases hp with h | h
        · exact .inl h
        · exact .inr (.inr (.inr h))
    · have hlen : ((digs n m a).map D.int).reverse.length = m := by simp [digs_len]
      rw [hlen]
      have htop : topA n m a m = a := by unfold topA; simp
      refine BDA.cons (ST.reverse (x := "q_digits") (a := qa) (mem_of_lookupD rfl) (by simp; omega) (hi := rfl)) rfl ?_
      refine BDA.pre (ρ' := ("q_digits", .ref qa) :: ("r", .int ((a % b : Nat) : Int)) :: [("n", .int n)]) ?_ (fun p hp => ?_)
      · refine BDA.freeze ?_
        have er : ((List.range m).map (fun j => D.int ((qdA n m a b j : Nat) : Int))).reverse = (((List.range m).map fun j => ((qdA n m a b j : Nat) : Int)).reverse).map .int := by
          rw [List.map_reverse, List.map_map]; rfl
        rw [er]
        have hq := dsum_q (n := n) (m := m) (a := a) hb ha m (Nat.le_refl _)
        rw [htop] at hq
        refine BDA.cons (ST.asg (EV.cast (EV.calld (T.gl rfl rfl rfl rfl rfl) (def_d2i T) (A2 EV.nm EV.nm) (c_d2i (A := A.deeper _) T hA (show A.depth + 1 + _ + 5 < recursionLimit from ?_) (by simp; omega) hn64 (fun x hx => ?_))) (by rw [hq])) ⟨rfl, .inl rfl⟩ (fresh_of rfl)) rfl (BDA.ret (EV.tup (A2 EV.nm EV.nm) (by simp)))
        · simp; omega
        · rw [List.mem_reverse, List.mem_map] at hx
          obtain ⟨j, _, rfl⟩ := hx
          have := qd_lt (n := n) (m := m) (a := a) (i := j) hb
          have h2 : ((qdA n m a b j : Nat) : Int) < ((2 ^ n : Nat) : Int) := Int.ofNat_lt.mpr this
          exact ⟨Int.natCast_nonneg _, by simpa using h2⟩
      · simp only [List.mem_cons, List.not_mem_nil, or_false] at hp ⊢
        rcases hp with h | h | h
        · exact .inr (.inl h)
        · rw [htop]; exact .inl h
        · exact .inr (.inr (.inr (.inl h)))
  · simp only [List.mem_cons] at hp ⊢
    rcases hp with h | h | h | h | h
    · exact .inr (.inl h)
    · exact .inl h
    · exact .inr (.inr (.inl h))
    · exact .inr (.inr (.inr (.inl h)))
    · exact .inr (.inr (.inr (.inr h)))

/-! ### int_divmod -/
theorem def_dm (T : TopG P mg mb G) : DefOk G 73 (fdOf P 73) (bodyOf P 73) ["a", "b"] :=
  T.def ⟨_, rfl, rfl⟩ rfl rfl rfl (fun vs h => by match vs, h with | [a, b], _ => rfl) (by decide) rfl rfl rfl rfl rfl
theorem c_dm (T : TopG P mg mb G) (hA : A.handled = none) {a b : Nat} (hroom : A.depth + 110 < recursionLimit) (hb : 0 < b) (hb2 : b < 2 ^ 64) (hm : ndig (Builtin.Int.intBits (b : Int)) a ≤ 64) :
    CALLS prog w (BB P) G A (.ref 73) [.int a, .int b] (.tup [.int ((a / b : Nat) : Int), .int ((a % b : Nat) : Int)]) := by
  refine CALLS.of_def (def_dm T) (by omega) T.nolimit rfl fun L => ?_
  refine BDA.iteF (TV.castB (TV.cmp EV.nm EV.int BOP.eq) ?_) (BDA.iteF (TV.castB (TV.cmp EV.nm EV.int BOP.lt) ?_) (BDA.iteF (TV.castB (TV.cmp EV.nm EV.int BOP.lt) ?_) (BDA.ret (EV.calld (T.gl rfl rfl rfl rfl rfl) (def_dp T) (A2 EV.nm EV.nm) (c_dp (A := A.deeper _) T hA (show A.depth + 1 + 100 < recursionLimit by omega) hb hb2 hm)))))
  · rw [beq_eq_false_iff_ne]; omega
  · exact decide_eq_false (by omega)
  · exact decide_eq_false (by omega)
end
end Mine

end

/-! # text C15 -/
section
open PySem PySem.Spec PySem.Calls PyProof.Rows PySem.W
set_option maxRecDepth 100000
set_option linter.unusedVariables false
set_option linter.unusedSimpArgs false
set_option maxHeartbeats 8000000
namespace Mine
/-! ## the plain law -/
def wordL (bits : List Int) : List UInt8 := (bits.map fun x => (65 + x).toNat.toUInt8).dropWhile (· == 65)
theorem wordF_eq (bits : List Int) : wordF bits = (wordL bits).toArray := by
  unfold wordF wordL byteArr
  congr 1
  have e : ∀ l : List UInt8, l.dropWhile (#[65] : Array UInt8).contains = l.dropWhile (· == 65) := by
    intro l
    congr 1
    funext c
    simp only [Array.contains_iff, List.elem_toArray, List.contains_toArray]
    rw [Bool.eq_iff_iff]
    simp
  rw [e]
  simp [List.map_map, Function.comp_def]
def numF (h : List Int) (b : Nat) : Int := dsum 4 (bitsF (cornersF h) b)
def ringF (m : Nat) : Int := dsum 4 (List.replicate m 15)
def toldN (h : List Int) (b m t : Nat) : Nat := 16 ^ t * (numF h b).toNat
def wordsF (h : List Int) (b m t : Nat) : List UInt8 × List UInt8 := (apF (toldN h b m t / (ringF m).toNat), apF (toldN h b m t % (ringF m).toNat))
def firstF (h : List Int) (b : Nat) (t : Nat) : Int := if (grownF (nowAt h b t) b).getD 0 0 > 0 then 1 else 0
def dueF (h : List Int) (b m t : Nat) : List UInt8 × List UInt8 := (wordL (((List.range m).map (firstF h b)).take t), wordL ((bitsF (grownF (nowAt h b (t - 1)) b) b).reverse))
def dotsF (h : List Int) (b m : Nat) : Int := ((List.range m).map fun t => (nowAt h b (t + 1)).sum).sum
def checkF (a b : Nat) (h : List Int) : Bool :=
  ((List.range (a + b)).all fun t => wordsF h b (a + b) (t + 1) == dueF h b (a + b) (t + 1)) && (wordsF h b (a + b) (a + b) == (apF (numF h b).toNat, apF (numF h b).toNat)) && nowAt h b (a + b) == h && 2 * dotsF h b (a + b) == ((a + b) * a * b : Nat)
def lists (vals : List Int) : Nat → List (List Int)
  | 0 => [[]]
  | n + 1 => vals.flatMap fun v => (lists vals n).map (v :: ·)
def desc : List Int → Bool
  | a :: b :: r => decide (b ≤ a) && desc (b :: r)
  | _ => true
theorem mem_lists {vals : List Int} : ∀ h : List Int, (∀ x ∈ h, x ∈ vals) → h ∈ lists vals h.length
  | [], _ => by simp [lists]
  | x :: h, hv => by
    rw [List.length_cons, lists, List.mem_flatMap]
    exact ⟨x, hv x (by simp), List.mem_map.mpr ⟨h, mem_lists h fun y hy => hv y (by simp [hy]), rfl⟩⟩
/-! words are read as numbers: first figure last -/
def valL : List Int → Nat
  | [] => 0
  | x :: r => x.toNat + 16 * valL r
theorem wordL_app (l : List Int) (x : Int) (h : wordL l ≠ [] ∨ x = 1) (h01 : x = 0 ∨ x = 1) : wordL (l ++ [x]) = wordL l ++ [(65 + x).toNat.toUInt8] := by
  unfold wordL at *
  rw [List.map_append, List.dropWhile_append]
  rcases h with h | h
  · rw [if_neg (by simpa using h)]; rfl
  · subst h
    split
    · rename_i e
      rw [List.isEmpty_iff.mp e]; decide
    · rfl
theorem drop_all {p : UInt8 → Bool} : ∀ (l : List UInt8), (∀ y ∈ l, p y = true) → l.dropWhile p = []
  | [], _ => rfl
  | a :: l, h => by
    rw [List.dropWhile_cons, if_pos (h a (by simp))]
    exact drop_all l fun y hy => h y (by simp [hy])
theorem ap_word : ∀ (l : List Int) (f : Nat) (acc : List UInt8), (∀ x ∈ l, x = 0 ∨ x = 1) → l.length ≤ f → apGo f (valL l) acc = wordL l.reverse ++ acc ∧ (valL l ≠ 0 → wordL l.reverse ≠ [])
  | [], f, acc, _, _ => ⟨by cases f <;> simp [apGo, valL, wordL], fun h => absurd rfl h⟩
  | x :: r, 0, acc, _, hl => by simp at hl
  | x :: r, f + 1, acc, h01, hl => by
    have hx := h01 x (by simp)
    obtain ⟨i1, i2⟩ := ap_word r f ((65 + (x.toNat % 16)).toUInt8 :: acc) (fun y hy => h01 y (by simp [hy])) (by simpa using hl)
    rw [List.reverse_cons, valL]
    by_cases h0 : x.toNat + 16 * valL r = 0
    · have hr : valL r = 0 := by omega
      have hx0 : x = 0 := by omega
      refine ⟨?_, fun h => absurd h0 h⟩
      rw [h0, apGo, if_pos rfl]
      have hz : ∀ l : List Int, (∀ y ∈ l, y = 0 ∨ y = 1) → valL l = 0 → ∀ y ∈ l, y = 0 := by
        intro l
        induction l with
        | nil => simp
        | cons a l ih =>
          intro ha hv y hy
          rw [valL] at hv
          rcases List.mem_cons.mp hy with e | e
          · rcases ha a (by simp) with h | h <;> subst h <;> simp_all
          · exact ih (fun z hz => ha z (by simp [hz])) (by omega) y e
      have hr0 := hz r (fun y hy => h01 y (by simp [hy])) hr
      have : wordL (r.reverse ++ [x]) = [] := by
        unfold wordL
        refine drop_all _ fun y hy => ?_
        obtain ⟨z, hz, rfl⟩ := List.mem_map.mp hy
        have : z = 0 := by
          rcases List.mem_append.mp hz with h | h
          · exact hr0 z (List.mem_reverse.mp h)
          · rw [List.mem_singleton.mp h, hx0]
        subst this; decide
      rw [this]; rfl
    · have hw : wordL r.reverse ≠ [] ∨ x = 1 := by
        by_cases h1 : valL r = 0
        · exact .inr (by omega)
        · exact .inl (i2 h1)
      rw [wordL_app _ _ hw hx]
      refine ⟨?_, fun _ => by simp⟩
      rw [apGo, if_neg h0, show (x.toNat + 16 * valL r) / 16 = valL r by omega, show (x.toNat + 16 * valL r) % 16 = x.toNat % 16 by omega, i1]
      rcases hx with rfl | rfl <;> simp
theorem ap_wordF {l : List Int} (h : ∀ x ∈ l, x = 0 ∨ x = 1) (hl : l.length ≤ 20) : apF (valL l) = wordL l.reverse := by
  have := (ap_word l 20 [] h hl).1
  rw [List.append_nil] at this
  exact this
/-! the check, step by step; `forceL` puts plain numbers into the kernel's hands -/
def forceI : Nat → Int → (Int → Bool) → Bool
  | 0, x, k => k x
  | n + 1, x, k => if x = Int.ofNat n then k (Int.ofNat n) else forceI n x k
theorem forceI_eq : ∀ (n : Nat) (x : Int) (k : Int → Bool), forceI n x k = k x
  | 0, x, k => rfl
  | n + 1, x, k => by
    rw [forceI]
    split
    · rename_i e; rw [e]
    · exact forceI_eq n x k
def forceL : List Int → (List Int → Bool) → Bool
  | [], k => k []
  | x :: l, k => forceI 6 x fun y => forceL l fun r => k (y :: r)
theorem forceL_eq : ∀ (l : List Int) (k : List Int → Bool), forceL l k = k l
  | [], k => rfl
  | x :: l, k => by rw [forceL, forceI_eq, forceL_eq l]
def goF (a b m N R : Nat) (h : List Int) : Nat → Nat → List Int → Nat → Int → Bool
  | 0, _, now, _, s => now == h && 2 * s == ((a + b) * a * b : Nat)
  | f + 1, t, now, q, s => forceL (grownF now b) fun g => forceL (nowF g) fun nx =>
    ((16 ^ (t + 1) * N / R).beq ((if g.getD 0 0 > 0 then (1 : Int) else 0).toNat + 16 * q) && (16 ^ (t + 1) * N % R).beq (valL (bitsF g b))) && goF a b m N R h f (t + 1) nx ((if g.getD 0 0 > 0 then (1 : Int) else 0).toNat + 16 * q) (s + nx.sum)
def chk (a b : Nat) (h : List Int) : Bool :=
  ((toldN h b (a + b) (a + b) / (ringF (a + b)).toNat).beq (numF h b).toNat && (toldN h b (a + b) (a + b) % (ringF (a + b)).toNat).beq (numF h b).toNat) && goF a b (a + b) (numF h b).toNat (ringF (a + b)).toNat h (a + b) 0 h 0 0
theorem firsts_app (h : List Int) (b t : Nat) : ((List.range (t + 1)).map (firstF h b)).reverse = firstF h b t :: ((List.range t).map (firstF h b)).reverse := by
  rw [List.range_succ, List.map_append, List.reverse_append]; rfl
theorem firsts_01 (h : List Int) (b t : Nat) : ∀ x ∈ ((List.range t).map (firstF h b)).reverse, x = 0 ∨ x = 1 := fun x hx => by
  obtain ⟨i, _, rfl⟩ := List.mem_map.mp (List.mem_reverse.mp hx)
  unfold firstF
  split
  · exact .inr rfl
  · exact .inl rfl
theorem bitsF_01 (g : List Int) (b : Nat) : ∀ x ∈ bitsF g b, x = 0 ∨ x = 1 := fun x hx => by
  unfold bitsF at hx
  rcases List.mem_append.mp hx with h | h
  · obtain ⟨y, _, rfl⟩ := List.mem_map.mp h
    split
    · exact .inr rfl
    · exact .inl rfl
  · obtain ⟨y, _, rfl⟩ := List.mem_map.mp h
    split
    · exact .inl rfl
    · exact .inr rfl
theorem goF_ok (a b m : Nat) (h : List Int) (hm20 : m ≤ 20) (hl : h.length + b ≤ 20) : ∀ (f t : Nat), f + t = m → goF a b m (numF h b).toNat (ringF m).toNat h f t (nowAt h b t) (valL ((List.range t).map (firstF h b)).reverse) (dotsF h b t) = true → (∀ i, t ≤ i → i < m → wordsF h b m (i + 1) = dueF h b m (i + 1)) ∧ nowAt h b m = h ∧ 2 * dotsF h b m = (((a + b) * a * b : Nat) : Int)
  | 0, t, e, hg => by
    have e2 : t = m := by omega
    subst e2
    simp only [goF, Bool.and_eq_true, beq_iff_eq] at hg
    exact ⟨fun i _ _ => by omega, hg.1, hg.2⟩
  | f + 1, t, e, hg => by
    rw [goF, forceL_eq, forceL_eq, Bool.and_eq_true, Bool.and_eq_true] at hg
    have e1 : (if (grownF (nowAt h b t) b).getD 0 0 > 0 then (1 : Int) else 0).toNat + 16 * valL ((List.range t).map (firstF h b)).reverse = valL ((List.range (t + 1)).map (firstF h b)).reverse := by
      rw [firsts_app]; rfl
    have e2 : dotsF h b t + (nowF (grownF (nowAt h b t) b)).sum = dotsF h b (t + 1) := by
      unfold dotsF
      rw [List.range_succ, List.map_append, List.sum_append]
      simp [nowAt]
    rw [e1, e2] at hg
    obtain ⟨h1, h2, h3⟩ := goF_ok a b m h hm20 hl f (t + 1) (by omega) hg.2
    refine ⟨fun i hi hm => ?_, h2, h3⟩
    rcases Nat.lt_or_ge t i with hlt | hge
    · exact h1 i hlt hm
    · have : i = t := by omega
      subst this
      unfold wordsF toldN dueF
      rw [← List.map_take, List.take_range, Nat.min_eq_left (by omega), Nat.eq_of_beq_eq_true hg.1.1, Nat.eq_of_beq_eq_true hg.1.2, ap_wordF (firsts_01 h b (i + 1)) (by simp; omega), ap_wordF (bitsF_01 _ b) (by simp [bitsF, grownF_len, nowAt_len]; omega), List.reverse_reverse]
      rfl
theorem chk_ok {a b : Nat} {h : List Int} (ha : a ≤ 4) (hb : b ≤ 4) (hl : h.length = a) (hc : chk a b h = true) : checkF a b h = true := by
  unfold chk at hc
  rw [Bool.and_eq_true, Bool.and_eq_true] at hc
  obtain ⟨h1, h2, h3⟩ := goF_ok a b (a + b) h (by omega) (by omega) (a + b) 0 rfl hc.2
  unfold checkF
  simp only [Bool.and_eq_true, beq_iff_eq, List.all_eq_true, List.mem_range]
  exact ⟨⟨⟨fun t ht => h1 t (by omega) ht, by unfold wordsF; rw [Nat.eq_of_beq_eq_true hc.1.1, Nat.eq_of_beq_eq_true hc.1.2]⟩, h2⟩, h3⟩
def allOk (a b : Nat) : Bool := (lists ((List.range (b + 1)).map fun (i : Nat) => (i : Int)) a).all fun h => !desc h || chk a b h
theorem ok22 : allOk 2 2 = true := by decide +kernel
theorem ok23 : allOk 2 3 = true := by decide +kernel
theorem ok24 : allOk 2 4 = true := by decide +kernel
theorem ok32 : allOk 3 2 = true := by decide +kernel
theorem ok33 : allOk 3 3 = true := by decide +kernel
theorem ok34 : allOk 3 4 = true := by decide +kernel
theorem ok42 : allOk 4 2 = true := by decide +kernel
theorem ok43 : allOk 4 3 = true := by decide +kernel
theorem ok44 : allOk 4 4 = true := by decide +kernel
theorem ok_all {a b : Nat} (ha : a = 2 ∨ a = 3 ∨ a = 4) (hb : b = 2 ∨ b = 3 ∨ b = 4) : allOk a b = true := by
  rcases ha with rfl | rfl | rfl <;> rcases hb with rfl | rfl | rfl
  · exact ok22
  · exact ok23
  · exact ok24
  · exact ok32
  · exact ok33
  · exact ok34
  · exact ok42
  · exact ok43
  · exact ok44
theorem plain_law {a b : Nat} {h : List Int} (ha : a = 2 ∨ a = 3 ∨ a = 4) (hb : b = 2 ∨ b = 3 ∨ b = 4) (hl : h.length = a) (hv : ∀ x ∈ h, 0 ≤ x ∧ x ≤ b) (hd : desc h = true) : checkF a b h = true := by
  have h2 := List.all_eq_true.mp (ok_all ha hb) h (by
    rw [← hl]
    refine mem_lists h fun x hx => ?_
    obtain ⟨h3, h4⟩ := hv x hx
    exact List.mem_map.mpr ⟨x.toNat, List.mem_range.mpr (by omega), by omega⟩)
  rw [hd] at h2
  exact chk_ok (by omega) (by omega) hl (by simpa using h2)
end Mine

end

/-! # text C16 -/
section
open PySem PySem.Spec PySem.Calls PyProof.Rows PySem.W
set_option maxRecDepth 100000
set_option linter.unusedVariables false
set_option linter.unusedSimpArgs false
set_option maxHeartbeats 16000000
namespace Mine
section
variable {P : Params} {mg mb : PySem.Str → Option Value} {G G' : Heap} {env : Env} {prog : Program} {w : World} {B : Tb} {A : Around} {own : Bool} {ρ ρc : List (PySem.Str × D)} {k : Option (Addr × List D)}

theorem TV.orFF {a b : PySem.Expr} {pos : Pos} (h1 : TV prog w B G A env ρ a false) (h2 : TV prog w B G A env ρ b false) : TV prog w B G A env ρ (.BoolOp .Or [a, b] pos) false := fun M s Q E z y h => by
  refine isTrue_or (h1 M s _ _ z y fun s1 p1 => ?_)
  refine isTrue_or (h2 M s1 _ _ (z.step p1) (y.step z p1) fun s2 p2 => ?_)
  exact isTrue_or_nil (h s2 (p1.trans p2))
/-- a name bound to [elt for x, y in a list of pairs], on its own line -/
theorem ST.asgCT {elt iter : PySem.Expr} {x y q : PySem.Str} {px py pt pq : Pos} {scope : Scope} {pos cpos : Pos} {kk : Nat} {cl : List (PySem.Str × Addr)} {α : Type} {l : List α} (u v : α → D) (f : α → D) (hA : A.handled = none) (hi : IEV prog w B G A env ρ iter (l.map fun p => .tup [u p, v p])) (ok : CompOk scope env cl ρ ρc) (hx : ∀ C, Sto false (compEnvC scope cl C env) x) (hy : ∀ C, Sto false (compEnvC scope cl C env) y) (hxy : (y == x) = false)
    (hfr : fresh? x ρc = true) (hfr2 : fresh? y ρc = true)
    (helt : ∀ (C : Addr) (p : α), p ∈ l → EV prog w B G A (compEnvC scope cl C env) ((y, v p) :: (x, u p) :: ρc) elt (f p)) (hq : Sto own env q) (hn : fresh? q ρ = true)
    (hsw : swapsWith (.ListComp elt [⟨.Tuple [.Name x px, .Name y py] kk pt, iter, [], 0⟩] scope cpos) (some (.Name q pq)) pos.line env = pure true := by rfl) (hs : ∀ x, foldedSetIterable iter env x = pure x := by intro _; rfl) :
    ST prog w B G A own env k ρ (.Assign [.Name q pq] (.ListComp elt [⟨.Tuple [.Name x px, .Name y py] kk pt, iter, [], 0⟩] scope cpos) pos) k ((q, .list (l.map f)) :: ρ) := by
  let tb : D → List (PySem.Str × D) := fun d => match d with
    | .tup [a, b] => [(y, b), (x, a)]
    | _ => []
  refine ST.asgC (tb := tb) hi ok (fun C d hd => ?_) (fun d hd n d' z e h1 h2 => ?_) (fun C i d e hd he => ?_) (by simp) hq (fresh_of hn) hsw hs
  · obtain ⟨p, _, rfl⟩ := List.mem_map.mp hd
    exact ASG.tup2 hA (hx C) (hy C) (fun q => by rw [q] at hxy; simp at hxy)
  · obtain ⟨p, _, rfl⟩ := List.mem_map.mp hd
    rcases List.mem_cons.mp h2 with q | q
    · cases q; exact fresh_of hfr2 n d' h1
    · rw [List.mem_singleton] at q; cases q; exact fresh_of hfr n d' h1
  · rw [List.getElem?_map] at hd he
    cases hp : l[i]? with
    | none => rw [hp] at hd; cases hd
    | some p =>
      rw [hp] at hd he
      cases hd; cases he
      exact helt C p (List.mem_of_getElem? hp)
theorem def_law (T : TopG P mg mb G) : DefOk G 141 (fdOf P 141) (bodyOf P 141) ["script"] :=
  T.def ⟨_, rfl, rfl⟩ rfl rfl rfl (fun vs h => by match vs, h with | [a], _ => rfl) (by decide) rfl rfl rfl rfl rfl

def endS (k : Nat) : PySem.Str := ([("\n" : PySem.Str), "\r", "\r\n"] : List PySem.Str).getD k Str.empty
theorem endS_ok {k : Nat} (h : k < 3) : EndOk (endS k) := by
  have : k = 0 ∨ k = 1 ∨ k = 2 := by omega
  rcases this with rfl | rfl | rfl
  · exact .inl (by decide)
  · exact .inr (.inl (by decide))
  · exact .inr (.inr (by decide))
def mod3 (x : Int) : Nat := (x.fmod 3).toNat
theorem mod3_eq (x : Int) : x.fmod 3 = (mod3 x : Int) ∧ mod3 x < 3 := by
  unfold mod3
  rw [Int.fmod_eq_emod_of_nonneg _ (by decide)]
  omega
def rawH (cs : List Int) (a b : Nat) : List Int := (List.range a).map fun j => (cs.getD j 0).fmod ((b : Int) + 1)
def srtH (cs : List Int) (a b : Nat) : List Int := (rawH cs a b).mergeSort (fun x y => decide (x ≤ y))
def lawH (cs : List Int) (a b : Nat) : List Int := (srtH cs a b).reverse
theorem srt_perm (cs : List Int) (a b : Nat) : (srtH cs a b).Perm (rawH cs a b) := List.mergeSort_perm _ _
theorem srt_le (cs : List Int) (a b : Nat) : (srtH cs a b).Pairwise (· ≤ ·) := by
  have := List.pairwise_mergeSort (le := fun (x y : Int) => decide (x ≤ y)) (fun a b c h1 h2 => by simp at *; omega) (fun a b => by simp; omega) (rawH cs a b)
  exact this.imp fun h => by simpa using h
theorem lawH_len (cs : List Int) (a b : Nat) : (lawH cs a b).length = a := by
  unfold lawH
  rw [List.length_reverse, (srt_perm cs a b).length_eq]; simp [rawH]
theorem lawH_bd (cs : List Int) (a b : Nat) : ∀ x ∈ lawH cs a b, 0 ≤ x ∧ x ≤ (b : Int) := fun x hx => by
  unfold lawH at hx
  have hx2 := (srt_perm cs a b).mem_iff.mp (List.mem_reverse.mp hx)
  unfold rawH at hx2
  obtain ⟨j, _, rfl⟩ := List.mem_map.mp hx2
  rw [Int.fmod_eq_emod_of_nonneg _ (by omega)]
  have h1 := Int.emod_nonneg (cs.getD j 0) (show ((b : Int) + 1) ≠ 0 by omega)
  have h2 := Int.emod_lt_of_pos (cs.getD j 0) (show 0 < ((b : Int) + 1) by omega)
  omega
theorem desc_of : ∀ l : List Int, l.Pairwise (fun a b => b ≤ a) → desc l = true
  | [], _ => rfl
  | [a], _ => rfl
  | a :: b :: r, h => by
    rw [List.pairwise_cons] at h
    unfold desc
    rw [desc_of (b :: r) h.2, decide_eq_true (h.1 b (by simp))]; rfl
theorem lawH_desc (cs : List Int) (a b : Nat) : desc (lawH cs a b) = true := desc_of _ (by
  unfold lawH
  rw [List.pairwise_reverse]
  exact (srt_le cs a b))
end
end Mine

end

/-! # text C17 -/
section
open PySem PySem.Spec PySem.Calls PyProof.Rows PySem.W
set_option maxRecDepth 100000
set_option linter.unusedVariables false
set_option linter.unusedSimpArgs false
set_option maxHeartbeats 16000000
namespace Mine
section
variable {P : Params} {mg mb : PySem.Str → Option Value} {G G' : Heap} {env : Env} {prog : Program} {w : World} {B : Tb} {A : Around} {own : Bool} {ρ ρc : List (PySem.Str × D)} {k : Option (Addr × List D)}

theorem b_law (T : TopG P mg mb G) (hA : A.handled = none) (hroom : A.depth + 200 < recursionLimit) (hu : A.units + 20 < cLine) {sa : Addr} {vs : List Value} {ns : List Int} (hg : G.IsList sa (List.toArray vs)) (hi : IntsAre vs ns) (hl : ns.length ≤ 63) :
    ∀ L, BDA prog w (BB P) G (A.deeper (callEnvC (fdOf P 141) L 141)) true (callEnvC (fdOf P 141) L 141) none (zipd ["script"] [.ref sa]) (bodyOf P 141) (.bool true) := by
  intro L
  have hpk : (pickD ns none (some 18) none).length ≤ 63 := by have := pickD_len ns none (some 18); omega
  refine BDA.cons (ST.asg (EV.calld (T.gl rfl rfl rfl rfl rfl) (def_cells T) (A1 EV.nm) (c_cells (A := A.deeper _) T hA (show A.depth + 1 < recursionLimit by omega) hg hi hl hpk)) (by first | exact ⟨rfl, .inl rfl⟩ | exact ⟨rfl, .inr ⟨rfl, rfl, rfl⟩⟩) (fresh_of rfl)) rfl ?_
  have hcs : (cellsF ns).length = 6 := by simp [cellsF]
  generalize cellsF ns = cs at hcs ⊢
  obtain ⟨ea, la⟩ := mod3_eq (cs.getD 4 0)
  obtain ⟨eb, lb⟩ := mod3_eq (cs.getD 5 0)
  obtain ⟨a, haa⟩ : ∃ a, a = 2 + mod3 (cs.getD 4 0) := ⟨_, rfl⟩
  obtain ⟨b, hbb⟩ : ∃ b, b = 2 + mod3 (cs.getD 5 0) := ⟨_, rfl⟩
  refine BDA.cons (ST.asg (d1 := .int (a : Nat)) (EV.cast (EV.bin EV.int (EV.bin (EV.idx (j := 4) EV.nm EV.int (by omega) (by omega)) EV.int (BOP.mod (by decide))) BOP.add) (by rw [ea, haa]; congr 1)) (by first | exact ⟨rfl, .inl rfl⟩ | exact ⟨rfl, .inr ⟨rfl, rfl, rfl⟩⟩) (fresh_of rfl)) rfl ?_
  refine BDA.cons (ST.asg (d1 := .int (b : Nat)) (EV.cast (EV.bin EV.int (EV.bin (EV.idx (j := 5) EV.nm EV.int (by omega) (by omega)) EV.int (BOP.mod (by decide))) BOP.add) (by rw [eb, hbb]; congr 1)) (by first | exact ⟨rfl, .inl rfl⟩ | exact ⟨rfl, .inr ⟨rfl, rfl, rfl⟩⟩) (fresh_of rfl)) rfl ?_
  have ha : a = 2 ∨ a = 3 ∨ a = 4 := by omega
  have hb : b = 2 ∨ b = 3 ∨ b = 4 := by omega
  have ha4 : a ≤ 4 := by omega
  have hb4 : b ≤ 4 := by omega
  clear ea eb la lb haa hbb hpk
  refine BDA.cons (ST.asg (d1 := iL (lawH cs a b)) (EV.cast (EV.sliceI (EV.callb (T.bi rfl rfl rfl rfl rfl rfl rfl rfl) (A1 (EV.compRI (n := a) (fun j => (cs.getD j 0).fmod ((b : Int) + 1)) (IEV.range1 hA (T.bi rfl rfl rfl rfl rfl rfl rfl rfl) (by omega) (A1 EV.nm)) (CompOk.mk' (r := Caps.cons "cells" (Caps.cons "b" Caps.nil))) (fun C => ⟨rfl, .inl rfl⟩) rfl (fun C i hi' => EV.bin (EV.idx (j := i) EV.nm (EV.cast EV.nm (by simp)) (by omega) (by omega)) (EV.bin EV.nm EV.int BOP.add) (BOP.mod (by omega))))) (CALLS.sorted (by simp; omega) (srt_perm cs a b) (srt_le cs a b))) .none .none (.some (EV.un EV.int UOP.neg)) (by simp) (by have := lawH_len cs a b; unfold lawH at this; rw [List.length_reverse] at this; omega)) (by rw [pickD_rev]; rfl)) (by first | exact ⟨rfl, .inl rfl⟩ | exact ⟨rfl, .inr ⟨rfl, rfl, rfl⟩⟩) (fresh_of rfl)) rfl ?_
  have hHl := lawH_len cs a b
  have hHb := lawH_bd cs a b
  have hHd := lawH_desc cs a b
  generalize lawH cs a b = H at hHl hHb hHd ⊢
  -- ends
  refine BDA.cons (ST.asgCR (n := a) (fun j => .str (endS (mod3 ((cs.getD j 0).fdiv 5)))) (IEV.range1 hA (T.bi rfl rfl rfl rfl rfl rfl rfl rfl) (by omega) (A1 EV.nm)) (CompOk.mk' (r := Caps.cons "cells" Caps.nil)) (fun C => ⟨rfl, .inl rfl⟩) rfl (fun C j hj => ?_) ⟨rfl, .inl rfl⟩ rfl) rfl ?_
  · refine EV.idxD (h := [.str "\n", .str "\r", .str "\r\n"]) (j := mod3 ((cs.getD j 0).fdiv 5)) (EV.list (.cons EV.str (by intro _; rfl) (A2 EV.str EV.str)) (by simp)) (EV.cast (EV.bin (EV.bin (EV.idx (j := j) EV.nm (EV.cast EV.nm (by simp)) (by omega) (by omega)) EV.int (BOP.fdiv (by decide) (noPy (by decide)))) EV.int (BOP.mod (by decide))) (by rw [(mod3_eq _).1])) ?_ (by simp)
    have h3 := (mod3_eq ((cs.getD j 0).fdiv 5)).2
    have : mod3 ((cs.getD j 0).fdiv 5) = 0 ∨ mod3 ((cs.getD j 0).fdiv 5) = 1 ∨ mod3 ((cs.getD j 0).fdiv 5) = 2 := by omega
    rcases this with q | q | q <;> rw [q] <;> rfl
  obtain ⟨es, hes⟩ : ∃ es : List PySem.Str, es = (List.range a).map fun j => endS (mod3 ((cs.getD j 0).fdiv 5)) := ⟨_, rfl⟩
  have hesD : (List.range a).map (fun j => D.str (endS (mod3 ((cs.getD j 0).fdiv 5)))) = es.map .str := by rw [hes, List.map_map]; rfl
  have hesl : es.length = a := by rw [hes]; simp
  have heok : ∀ e ∈ es, EndOk e := fun e he => by
    rw [hes] at he
    obtain ⟨j, _, rfl⟩ := List.mem_map.mp he
    exact endS_ok (mod3_eq _).2
  rw [hesD]
  clear hesD hes
  -- rounds
  refine BDA.cons (ST.asg (d1 := .list ((List.range (a + b)).map (roundD H b))) (EV.cast (EV.calld (T.gl rfl rfl rfl rfl rfl) (def_rounds T) (A3 EV.nm EV.nm EV.nm) (c_rounds (A := A.deeper _) T hA (show A.depth + 1 + 8 < recursionLimit by omega) (by omega) (by omega) (by omega) (by omega) hHb heok)) (by rw [hHl])) (by first | exact ⟨rfl, .inl rfl⟩ | exact ⟨rfl, .inr ⟨rfl, rfl, rfl⟩⟩) (fresh_of rfl)) rfl ?_
  -- number
  have bits01 : ∀ (g : List Int), ∀ x ∈ bitsF g b, x = 0 ∨ x = 1 := fun g x hx => by
    unfold bitsF at hx
    rcases List.mem_append.mp hx with q | q
    · obtain ⟨y, _, rfl⟩ := List.mem_map.mp q; split <;> simp
    · obtain ⟨y, _, rfl⟩ := List.mem_map.mp q; split <;> simp
  have bitsLen : ∀ (g : List Int), (bitsF g b).length = g.length + b := fun g => by simp [bitsF]
  have cl : (cornersF H).length = a := by unfold cornersF; simp [hHl]
  have bitsR : ∀ x ∈ bitsF (cornersF H) b, 0 ≤ x ∧ x < 2 ^ 4 := fun x hx => by rcases bits01 _ x hx with rfl | rfl <;> decide
  have hN := dsum_bd 4 _ bitsR
  rw [bitsLen, cl] at hN
  refine BDA.cons (ST.asg (d1 := .int ((numF H b).toNat : Nat)) (EV.cast (EV.calld (T.gl rfl rfl rfl rfl rfl) (def_d2i T) (A2 (EV.calld (T.gl rfl rfl rfl rfl rfl) (def_bits T) (A2 (EV.calld (T.gl rfl rfl rfl rfl rfl) (def_corners T) (A1 EV.nm) (c_corners (A := A.deeper _) T hA (show A.depth + 1 < recursionLimit by omega) (by omega))) EV.nm) (c_bits (A := A.deeper _) T hA (show A.depth + 1 < recursionLimit by omega) (by omega) (by omega))) EV.int) (c_d2i (A := A.deeper _) (n := 4) T hA (show A.depth + 1 + _ + 5 < recursionLimit by rw [bitsLen]; omega) (by rw [bitsLen]; omega) (by omega) bitsR)) (by unfold numF; rw [Int.toNat_of_nonneg hN.1])) (by first | exact ⟨rfl, .inl rfl⟩ | exact ⟨rfl, .inr ⟨rfl, rfl, rfl⟩⟩) (fresh_of rfl)) rfl ?_
  -- ring
  have ringR : ∀ x ∈ List.replicate (a + b) (15 : Int), 0 ≤ x ∧ x < 2 ^ 4 := fun x hx => by rw [List.eq_of_mem_replicate hx]; decide
  have hR := dsum_bd 4 _ ringR
  rw [List.length_replicate] at hR
  refine BDA.cons (ST.asg (d1 := .int ((ringF (a + b)).toNat : Nat)) (EV.cast (EV.calld (T.gl rfl rfl rfl rfl rfl) (def_d2i T) (A2 (EV.cast (d2 := iL (List.replicate (a + b) 15)) (EV.bin (EV.ints (ns := [15]) (A1 EV.int) (by decide)) (EV.bin EV.nm EV.nm BOP.add) (BOP.mulL (by simp) (by omega) (by omega) (by simp; omega))) ?_) EV.int) (c_d2i (A := A.deeper _) (n := 4) T hA (show A.depth + 1 + _ + 5 < recursionLimit by rw [List.length_replicate]; omega) (by rw [List.length_replicate]; omega) (by omega) ringR)) (by unfold ringF; rw [Int.toNat_of_nonneg hR.1])) (by first | exact ⟨rfl, .inl rfl⟩ | exact ⟨rfl, .inr ⟨rfl, rfl, rfl⟩⟩) (fresh_of rfl)) rfl ?_
  · rw [show ((a : Int) + (b : Int)).toNat = a + b by omega]
    show D.list (List.replicate (a + b) [D.int 15]).flatten = _
    rw [flat_one]; simp [iL]
  -- what the plain law says
  have hck := plain_law ha hb hHl hHb hHd
  unfold checkF at hck
  simp only [Bool.and_eq_true, List.all_eq_true, List.mem_range, beq_iff_eq] at hck
  obtain ⟨⟨⟨hw, hlast⟩, hnow⟩, hdots⟩ := hck
  obtain ⟨m, hm⟩ : ∃ m, m = a + b := ⟨_, rfl⟩
  have hR0 : 0 < (ringF (a + b)).toNat ∧ (ringF (a + b)).toNat < 2 ^ 64 := by
    rcases ha with rfl | rfl | rfl <;> rcases hb with rfl | rfl | rfl <;> decide
  rw [← hm] at hR0 hw hlast hnow hdots ⊢
  have hm8 : m ≤ 8 := by omega
  have hm0 : 0 < m := by omega
  have hN2 : (numF H b).toNat < 2 ^ 32 := by
    have h1 : numF H b < 2 ^ (4 * (a + b)) := hN.2
    have h2 : ∀ a b : Nat, (a = 2 ∨ a = 3 ∨ a = 4) → (b = 2 ∨ b = 3 ∨ b = 4) → (2 : Int) ^ (4 * (a + b)) ≤ 4294967296 := fun a b ha hb => by
      rcases ha with rfl | rfl | rfl <;> rcases hb with rfl | rfl | rfl <;> decide
    have h3 := Int.lt_of_lt_of_le h1 (h2 a b ha hb)
    omega
  have hx : ∀ i, i < m → toldN H b m (i + 1) < 2 ^ 64 := fun i hi => by
    unfold toldN
    have h1 : 16 ^ (i + 1) ≤ 16 ^ 8 := Nat.pow_le_pow_right (by decide) (by omega)
    have h2 := Nat.mul_le_mul h1 (Nat.le_of_lt_succ (Nat.lt_succ_of_lt hN2))
    have h3 : 16 ^ (i + 1) * (numF H b).toNat < 16 ^ 8 * 2 ^ 32 := Nat.lt_of_le_of_lt (Nat.mul_le_mul_right _ h1) (Nat.mul_lt_mul_of_pos_left hN2 (by decide))
    exact Nat.lt_of_lt_of_le h3 (by decide)
  generalize hRR : (ringF m).toNat = R at hR0 ⊢
  obtain ⟨hRpos, hRlt⟩ := hR0
  have hnd : ∀ i, i < m → ndig (Builtin.Int.intBits (R : Int)) (toldN H b m (i + 1)) ≤ 64 := fun i hi => by
    have h1 : Builtin.Int.intBits ((toldN H b m (i + 1) : Nat) : Int) ≤ 64 := intBits_le_iff.mpr (by rw [Int.natAbs_natCast]; exact hx i hi)
    have h2 : 0 < Builtin.Int.intBits (R : Int) := by
      rcases Nat.eq_zero_or_pos (Builtin.Int.intBits (R : Int)) with q | q
      · have := (intBits_le_iff (m := 0) (x := (R : Int))).mp (by omega)
        simp at this; omega
      · exact q
    unfold ndig
    generalize Builtin.Int.intBits (R : Int) = n at h2
    refine Nat.div_le_of_le_mul ?_
    omega
  -- told
  refine BDA.cons (ST.asgCR (n := m) (fun i => .tup [.int ((toldN H b m (i + 1) / R : Nat) : Int), .int ((toldN H b m (i + 1) % R : Nat) : Int)]) (IEV.range2 (n := m) hA (T.bi rfl rfl rfl rfl rfl rfl rfl rfl) (by decide) (by decide) rfl (by omega) (A2 EV.int (EV.cast (EV.bin (EV.bin EV.nm EV.nm BOP.add) EV.int BOP.add) (by congr 1; omega)))) (CompOk.mk' (r := Caps.cons "number" (Caps.cons "ring" Caps.nil))) (fun C => ⟨rfl, .inl rfl⟩) rfl (fun C i hi => ?_) ⟨rfl, .inl rfl⟩ rfl) rfl ?_
  · refine EV.calld (T.gl rfl rfl rfl rfl rfl) (def_dm T) (A2 (EV.cast (d2 := .int ((toldN H b m (i + 1) : Nat) : Int)) (EV.bin (EV.bin EV.int EV.nm (BOP.pow (by omega) ?_)) EV.nm (BOP.mul ?_)) ?_) EV.nm) (c_dm (A := A.deeper _) T hA (show A.depth + 1 + 110 < recursionLimit by omega) hRpos hRlt (hnd i hi))
    · have : Builtin.Int.intBits 16 = 5 := by decide
      rw [this]; omega
    · refine IntMulOk.of_right (Nat.le_trans (intBits_le_iff (m := 32).mpr (by rw [Int.natAbs_natCast]; exact hN2)) (by decide))
    · unfold toldN
      rw [show (1 + (i : Int)).toNat = i + 1 by omega, Int.natCast_mul]
      congr 2
  -- words
  have hwl : ∀ i, i < m → toldN H b m (i + 1) < 16 ^ 20 := fun i hi => Nat.lt_trans (hx i hi) (by decide)
  let fW : Nat → D := fun i => .tup [.bytes (apF (toldN H b m (i + 1) / R)).toArray, .bytes (apF (toldN H b m (i + 1) % R)).toArray]
  refine BDA.cons (ST.asgCT (l := List.range m) (fun i => .int ((toldN H b m (i + 1) / R : Nat) : Int)) (fun i => .int ((toldN H b m (i + 1) % R : Nat) : Int)) fW hA (IEV.list hA (by simp; omega) EV.nm) (CompOk.mk' (r := Caps.nil)) (fun C => ⟨rfl, .inl rfl⟩) (fun C => ⟨rfl, .inl rfl⟩) rfl rfl rfl (fun C i hi => ?_) ⟨rfl, .inl rfl⟩ rfl) rfl ?_
  · have hi' := List.mem_range.mp hi
    exact EV.tup (A2 (EV.calld (T.gl rfl rfl rfl rfl rfl) (def_ap T) (A1 EV.nm) (c_ap (A := A.deeper _) T hA (show A.depth + 1 < recursionLimit by omega) (Nat.lt_of_le_of_lt (Nat.div_le_self _ _) (hwl i hi')))) (EV.calld (T.gl rfl rfl rfl rfl rfl) (def_ap T) (A1 EV.nm) (c_ap (A := A.deeper _) T hA (show A.depth + 1 < recursionLimit by omega) (Nat.lt_of_le_of_lt (Nat.mod_le _ _) (hwl i hi'))))) (by simp)
  -- first
  have gl : ∀ t, (grownF (nowAt H b t) b).length = a := fun t => by rw [grownF_len, nowAt_len, hHl]
  refine BDA.cons (ST.asg (d1 := iL ((List.range m).map (firstF H b))) (EV.cast (EV.compT (l := List.range m) (fun t => iL (grownF (nowAt H b t) b)) (fun t => iL (nowAt H b (t + 1))) (fun t => .int (firstF H b t)) hA (IEV.list hA (by simp; omega) EV.nm) (CompOk.mk' (r := Caps.nil)) (fun C => ⟨rfl, .inl rfl⟩) (fun C => ⟨rfl, .inl rfl⟩) rfl rfl rfl (fun C t ht => ?_)) (by simp [iL, List.map_map, Function.comp_def])) (by first | exact ⟨rfl, .inl rfl⟩ | exact ⟨rfl, .inr ⟨rfl, rfl, rfl⟩⟩) (fresh_of rfl)) rfl ?_
  · refine EV.ifT (TV.cmp (EV.idx (j := 0) EV.nm EV.int (by rw [gl]; omega) (by rw [gl]; omega)) EV.int BOP.gt) (fun hc => ?_) (fun hc => ?_)
    · exact EV.cast EV.int (by unfold firstF; rw [if_pos (of_decide_eq_true hc)])
    · exact EV.cast EV.int (by unfold firstF; rw [if_neg (of_decide_eq_false hc)])
  -- due
  have first01 : ∀ x ∈ (List.range m).map (firstF H b), x = 0 ∨ x = 1 := fun x hx => by
    obtain ⟨t, _, rfl⟩ := List.mem_map.mp hx
    unfold firstF; split <;> simp
  have hfW : ∀ i, i < m → (wordF (((List.range m).map (firstF H b)).take (i + 1)) = (apF (toldN H b m (i + 1) / R)).toArray) ∧ wordF ((bitsF (grownF (nowAt H b i) b) b).reverse) = (apF (toldN H b m (i + 1) % R)).toArray := fun i hi => by
    have h1 := hw i hi
    unfold wordsF dueF at h1
    rw [hRR, show i + 1 - 1 = i by omega, Prod.mk.injEq] at h1
    rw [wordF_eq, wordF_eq, h1.1, h1.2]
    exact ⟨rfl, rfl⟩
  refine BDA.cons (ST.asgCR (n := m) fW (IEV.range2 (n := m) hA (T.bi rfl rfl rfl rfl rfl rfl rfl rfl) (by decide) (by decide) rfl (by omega) (A2 EV.int (EV.cast (EV.bin (EV.bin EV.nm EV.nm BOP.add) EV.int BOP.add) (by congr 1; omega)))) (CompOk.mk' (r := Caps.cons "first" (Caps.cons "rounds" (Caps.cons "b" Caps.nil)))) (fun C => ⟨rfl, .inl rfl⟩) rfl (fun C i hi => ?_) ⟨rfl, .inl rfl⟩ rfl) rfl ?_
  · have hrd : ((List.range m).map (roundD H b))[i]? = some (roundD H b i) := by rw [List.getElem?_map, List.getElem?_range hi]; rfl
    refine EV.cast (EV.tup (A2 (EV.calld (T.gl rfl rfl rfl rfl rfl) (def_word T) (A1 (EV.cast (d2 := iL (((List.range m).map (firstF H b)).take (i + 1))) (EV.sliceI EV.nm .none (.some (EV.cast (d2 := .int ((i + 1 : Nat) : Int)) EV.nm (by congr 1; omega))) .none (by simp) (by simp; omega)) (by rw [pickD_take]))) (c_word (A := A.deeper _) T hA (show A.depth + 1 < recursionLimit by omega) (by simp; omega) (fun x hx => first01 x (List.mem_of_mem_take hx))))
      (EV.calld (T.gl rfl rfl rfl rfl rfl) (def_word T) (A1 (EV.cast (d2 := iL (bitsF (grownF (nowAt H b i) b) b).reverse) (EV.sliceI (EV.calld (T.gl rfl rfl rfl rfl rfl) (def_bits T) (A2 (EV.sub (EV.idxD (d := roundD H b i) (j := i) EV.nm (EV.cast (EV.bin EV.nm EV.int BOP.sub) (by congr 1; omega)) hrd (by simp; omega)) EV.int (GET.tup (k := 0) (by decide) rfl)) EV.nm) (c_bits (A := A.deeper _) T hA (show A.depth + 1 < recursionLimit by omega) (by rw [gl]; omega) (by omega))) .none .none (.some (EV.un EV.int UOP.neg)) (by simp) (by rw [bitsLen, gl]; omega)) (by rw [pickD_rev]))) (c_word (A := A.deeper _) T hA (show A.depth + 1 < recursionLimit by omega) (by rw [List.length_reverse, bitsLen, gl]; omega) (fun x hx => bits01 _ x (List.mem_reverse.mp hx))))) (by simp)) ?_
    obtain ⟨h1, h2⟩ := hfW i hi
    rw [h1, h2]
  -- the test
  have sameT : ∀ (A' : Around), A'.units + 6 < cLine → ∀ i, Same A' (fW i) := fun A' hA' i => Same.tup (by omega) (fun d hd => by
    simp only [List.mem_cons, List.not_mem_nil, or_false] at hd
    rcases hd with rfl | rfl <;> exact Same.bytes)
  have hlast2 : fW (m - 1) = .tup [.bytes (apF (numF H b).toNat).toArray, .bytes (apF (numF H b).toNat).toArray] := by
    have h1 := hlast
    unfold wordsF at h1
    rw [hRR, Prod.mk.injEq] at h1
    show D.tup [.bytes (apF (toldN H b m (m - 1 + 1) / R)).toArray, .bytes (apF (toldN H b m (m - 1 + 1) % R)).toArray] = _
    rw [show m - 1 + 1 = m by omega, h1.1, h1.2]
  have hNl : (numF H b).toNat < 16 ^ 20 := Nat.lt_trans hN2 (by decide)
  have getW : ((List.range m).map fW)[((-1 : Int) + ((List.range m).map fW).length).toNat]? = some (fW (m - 1)) := by
    rw [List.length_map, List.length_range, show ((-1 : Int) + (m : Int)).toNat = m - 1 by omega, List.getElem?_map, List.getElem?_range (by omega)]; rfl
  refine BDA.cons (ST.skip (TV.orFF (TV.cmp EV.nm EV.nm (BOP.neL (show A.units + 3 + 2 < cLine by omega) (fun d hd => ?_))) (TV.cmp (EV.sub EV.nm (EV.un EV.int UOP.neg) (GET.listNeg (by decide) (by simp; omega) (by decide) getW)) (EV.cast (EV.tup (A2 (EV.calld (T.gl rfl rfl rfl rfl rfl) (def_ap T) (A1 EV.nm) (c_ap (A := A.deeper _) T hA (show A.depth + 1 < recursionLimit by omega) hNl)) (EV.calld (T.gl rfl rfl rfl rfl rfl) (def_ap T) (A1 EV.nm) (c_ap (A := A.deeper _) T hA (show A.depth + 1 < recursionLimit by omega) hNl))) (by simp)) hlast2.symm) (BOP.neT (show A.units + 3 + 2 < cLine by omega) (fun d hd => ?_))))) rfl ?_
  · obtain ⟨i, _, rfl⟩ := List.mem_map.mp hd
    exact sameT _ (show A.units + 3 + 1 + 6 < cLine by omega) i
  · simp only [List.mem_cons, List.not_mem_nil, or_false] at hd
    rcases hd with rfl | rfl <;> exact Same.bytes
  -- dots
  refine BDA.cons (ST.asg (d1 := .int (dotsF H b m)) (EV.callb (T.bi rfl rfl rfl rfl rfl rfl rfl rfl) (A1 (EV.cast (d2 := iL ((List.range m).map fun t => (nowAt H b (t + 1)).sum)) (EV.compT (l := List.range m) (fun t => iL (grownF (nowAt H b t) b)) (fun t => iL (nowAt H b (t + 1))) (fun t => .int (nowAt H b (t + 1)).sum) hA (IEV.list hA (by simp; omega) EV.nm) (CompOk.mk' (r := Caps.nil)) (fun C => ⟨rfl, .inl rfl⟩) (fun C => ⟨rfl, .inl rfl⟩) rfl rfl rfl (fun C t ht => EV.callb (T.bi rfl rfl rfl rfl rfl rfl rfl rfl) (A1 EV.nm) (CALLS.sum hA))) (by simp [iL, List.map_map, Function.comp_def]))) (CALLS.sum hA)) (by first | exact ⟨rfl, .inl rfl⟩ | exact ⟨rfl, .inr ⟨rfl, rfl, rfl⟩⟩) (fresh_of rfl)) rfl ?_
  -- the answer
  have getR : ((List.range m).map (roundD H b))[((-1 : Int) + ((List.range m).map (roundD H b)).length).toNat]? = some (roundD H b (m - 1)) := by
    rw [List.length_map, List.length_range, show ((-1 : Int) + (m : Int)).toNat = m - 1 by omega, List.getElem?_map, List.getElem?_range (by omega)]; rfl
  have hlastN : nowAt H b (m - 1 + 1) = H := by rw [show m - 1 + 1 = m by omega, hnow]
  refine BDA.ret (EV.and2 (d1 := .bool true) (EV.cmp (EV.cast (d2 := iL H) (EV.sub (EV.sub EV.nm (EV.un EV.int UOP.neg) (GET.listNeg (by decide) (by simp; omega) (by decide) getR)) EV.int (GET.tup (k := 1) (by decide) rfl)) (by rw [hlastN])) EV.nm (BOP.eqL (show A.units + 3 + 2 < cLine by omega) (fun d hd => ?_))) TRU.bool (fun _ => EV.cast (EV.cmp (EV.bin EV.int EV.nm (BOP.mul ?_)) (EV.bin (EV.bin (EV.bin EV.nm EV.nm BOP.add) EV.nm (BOP.mul ?_)) EV.nm (BOP.mul ?_)) BOP.eq) ?_) (fun h => by cases h))
  · obtain ⟨i, _, rfl⟩ := List.mem_map.mp hd
    exact Same.int
  · exact IntMulOk.of_left (by decide)
  · exact IntMulOk.of_right (Nat.le_trans (intBits_le_iff (m := 4).mpr (by omega)) (by decide))
  · exact IntMulOk.of_right (Nat.le_trans (intBits_le_iff (m := 4).mpr (by omega)) (by decide))
  · congr 1
    rw [beq_iff_eq, hdots, hm]
    simp
end
end Mine

end

/-! # text C18 -/
section
open PySem PySem.Spec PySem.Calls PyProof.Rows PySem.W
set_option maxRecDepth 100000
set_option linter.unusedVariables false
set_option linter.unusedSimpArgs false
set_option maxHeartbeats 8000000
namespace Mine
section
variable {prog : Program} {w : World} {B : Tb} {G : Heap} {A : Around}
theorem CODE.of_def {f : Addr} {fd : FuncData} {body : List Stmt} {names : List PySem.Str} {ds : List D} {d : D} (ok : DefOk G f fd body names) (hroom : A.depth < recursionLimit)
    (hlim : G.NoLimit) (hlen : ds.length = names.length)
    (hB : ∀ L, BDA prog w B G (A.deeper (callEnvC fd L f)) true (callEnvC fd L f) none (zipd names ds) body d) {M : List Addr} {s : Shared} {R : Result → Shared → Prop} {vs : List Value} (z : St0 B G M s) (r : Reps M s.heap vs ds)
    (h : ∀ v s', Stp B G s s' → Rep M s'.heap v d → R (.ok (.ret v)) s') : codeAny (model prog w) A (.call (.ref f) ⟨vs, []⟩) R s := by
  obtain ⟨⟨o, ho, hd⟩, hclo, hbody, hcode, hb, hnd, hkind, hcnd, hco, hgen, hk⟩ := ok
  have hl : vs.length = names.length := r.length.trans hlen
  have cellOf : ∀ x, fd.scope.names.lookup x = some .cell → ∀ n, ((cellsFrom n fd.scope.names []).lookup x).isSome = true := fun x e n => cellsFrom_some _ _ _ (.inl e)
  refine (codeAny_call_cells hroom (z.inv.keep _ _ ho) hd (hlim.keeps z.inv.keep) (hcode.keeps z.inv.keep) hbody (hb vs hl) hclo (fun p hp => ?_) (fun s₁ x => ?_) hco hgen hk)
  · obtain ⟨_, h1⟩ := hkind p.1 (zipv_names names vs p.1 p.2 hp)
    exact h1.imp id fun h2 => ⟨h2, cellOf _ h2 _⟩
  generalize hLe : s.heap.objs.size = L at x ⊢
  have fresh : ∀ a, L ≤ a → s.heap.get? a = none := fun a ha => by
    subst hLe
    cases e : s.heap.get? a with
    | none => rfl
    | some o' => exact absurd (Heap.lt_size e) (Nat.not_lt.mpr ha)
  obtain ⟨h₁, tk, rfl⟩ := x.toInCall.same
  have p1 : Stp B G s { s with heap := h₁, toks := tk } := Stp.of z.inv x.toInCall.keep
  generalize hEe : callEnvC fd L f = envc at x ⊢
  have eL : envc.locals = L := by rw [← hEe]; rfl
  have eS : envc.scope = fd.scope := by rw [← hEe]; rfl
  have eC : envc.cells = cellsFrom (L + 1) fd.scope.names [] := by rw [← hEe]; rfl
  have eK : ∀ y, envc.kindOf y = fd.scope.names.lookup y := fun y => by rw [← hEe]; rfl
  rw [eL] at x
  have cellGe : ∀ n c, (n, c) ∈ envc.cells → L < c := fun n c hm => x.above n c hm
  have newM : ∀ b ∈ wr true envc, s.heap.get? b = none := fun b hb => by
    unfold wr at hb
    rcases List.mem_cons.mp hb with rfl | hb
    · rw [eL]; exact fresh _ (Nat.le_refl _)
    · obtain ⟨⟨n, c⟩, h1, rfl⟩ := List.mem_map.mp hb
      exact fresh _ (Nat.le_of_lt (cellGe n c h1))
  have hns := x.toInCall.ns
  have hndC : (envc.cells.map (·.1)).Nodup := by
    rw [eC, cellsFrom_fst fd.scope.names (L + 1) 0 [] [] rfl]; exact hcnd
  have cellThere : ∀ n c, (n, c) ∈ envc.cells → ∃ v, h₁.IsCell c v := fun n c hm => ⟨_, x.cell n c (lookup_of_mem _ hndC hm)⟩
  have newOff : ∀ b, L ≤ b → Off b := fun b hb => z.offOf (z.fresh (fresh b hb))
  have newG : ∀ b, L ≤ b → G.get? b = none := fun b hb => z.inv.gnone (fresh b hb)
  have inM' : ∀ b ∈ M, b ∈ wr true envc ++ M := fun b hb => List.mem_append_right _ hb
  have z1 : St0 B G (wr true envc ++ M) { s with heap := h₁, toks := tk } := (z.step p1).more fun b hb => by
    unfold wr at hb
    rcases List.mem_cons.mp hb with rfl | hb
    · rw [eL]; obtain ⟨o, _, _, e, _⟩ := hns; exact ⟨o, e⟩
    · obtain ⟨⟨n, c⟩, h1, rfl⟩ := List.mem_map.mp hb
      obtain ⟨_, o, e, _⟩ := cellThere n c h1
      exact ⟨o, e⟩
  have F : FS B G (wr true envc ++ M) true envc { s with heap := h₁, toks := tk } (zipd names ds) := by
    refine ⟨z1, by rw [eS]; exact hk, List.mem_append_left _ (by unfold wr; simp), by rw [eL]; exact newOff _ (Nat.le_refl _), by rw [eL]; exact newG _ (Nat.le_refl _), ⟨_, by rw [eL]; exact hns⟩, fun _ => ⟨fun n c hm => ?_, x.apart⟩, fun y dy hm => ?_⟩
    · have l := Nat.le_of_lt (cellGe n c hm)
      exact ⟨List.mem_append_left _ (by unfold wr; exact List.mem_cons_of_mem _ (List.mem_map.mpr ⟨_, hm, rfl⟩)), newOff _ l, newG _ l, cellThere n c hm⟩
    · obtain ⟨v, hv, rv⟩ := zip_mem r hm
      have hy := zipv_names names vs y v hv
      obtain ⟨hdb, hkk⟩ := hkind y hy
      refine ⟨v, ⟨hdb, by rw [eS]; exact hk, ?_⟩, (rv.more fun b hb => ?_).grow fun b o _ e => x.toInCall.keep b o e⟩
      · rcases hkk with hkk | hkk
        · refine .inl ⟨by rw [eK]; exact hkk, by rw [eL]; exact newOff _ (Nat.le_refl _), _, by rw [eL]; exact hns, ?_⟩
          exact bindL_on names vs _ y v hnd hv (by rw [eK]; exact hkk)
        · obtain ⟨c, hc⟩ := Option.isSome_iff_exists.mp (cellOf y hkk (L + 1))
          rw [← eC] at hc
          have := x.cell y c hc
          refine .inr ⟨.inl (by rw [eK]; exact hkk), c, newOff _ (Nat.le_of_lt (cellGe y c (mem_of_lookup hc))), hc, ?_⟩
          rw [bindC_on names vs _ y v hnd hv (by rw [eK, hkk]; simp)] at this
          exact this
      · rcases List.mem_append.mp hb with hb | hb
        · exact .inr (newM b hb)
        · exact .inl hb
  have hB' := hB L
  rw [hEe] at hB'
  refine hB' M _ _ _ _ inM' (fun b hb => nomatch hb) F trivial fun v s' p' r' => ?_
  refine h v s' (StpW.toS (W := wr true envc) (p1.toW.trans (p'.mono fun b hb => ?_)) newM) r'
  rcases List.mem_append.mp hb with hb | hb
  · cases hb
  · exact hb
end
theorem law_true : PySem.Challenge.rw_sr0024_01.Holds := by
  apply Mine.hd
  intro w s₀ s₁ mg mb G Y fa o pm cd doc dV kV ho hd hcd hD hmg hg args vals as hpre hlay hrd hwl hlo
  have KX := km_in_of Y
  have hT8 := km_tabs_of Y
  refine Ground.open G ?_
  intro T B D TE TW
  have hT9 : TabsAt [(51, 47), (58, 54)] s₁.heap := List.forall_mem_cons.mpr ⟨⟨codeHd_of_K (c := 51) (P := 47) KX (by kernel_rfl), hT8 47 (by simp)⟩, List.forall_mem_cons.mpr ⟨⟨codeHd_of_K (c := 58) (P := 54) KX (by kernel_rfl), hT8 54 (by simp)⟩, fun _ h => nomatch h⟩⟩
  have hfa : fa = 141 := by
    have e := mg_of (n := Str.ofString "law") (v := .ref 141) KX T.g (by kernel_rfl)
    have hmg' : mg (Str.ofString "law") = some (.ref fa) := hmg
    rw [e] at hmg'
    cases hmg'; rfl
  subst hfa
  clear hmg hd hcd hD
  wrow_args hpre hlay hrd hwl hlo
  rename_i ns q1 q2 q3 q4 q5 as1 as2 sa vs as3 hL ra w1 r0 hI hr hc1 hc2
  have hlen : ns.length ≤ 63 := by omega
  have TT := ghost_top hT9 T
  have TG : TopG w.params mg mb (ghostOf s₁.heap [(51, 47), (58, 54)]) := ⟨ghost_K hT9 KX (by kernel_rfl), TT.g, TT.b, TT.builtins, TT.nolimit, TT.bmain, hideAll_none _ (by simp), hideAll_none _ (by simp), (ghost_code hT9).1, (ghost_code hT9).2.1⟩
  have z : St0 (BB w.params) (ghostOf s₁.heap [(51, 47), (58, 54)]) [47, 54] s₁ := by
    refine ⟨⟨fun b o e => of_hideAll _ e, ⟨.inl (hT8 47 (by simp))⟩, ⟨.inl (hT8 54 (by simp))⟩⟩, by simp, by simp, fun b hb => ⟨_, hT8 b hb⟩⟩
  refine enter_call (kn_post hT9 (fun _ _ => rfl) ?_)
  refine CODE.of_def (A := callerA) (def_law TG) (by decide) TG.nolimit rfl (b_law TG rfl (by decide) (by decide) (ghost_list hT9 hL) hI hlen) z (.cons (.ref _) .nil) fun v s' p r => ?_
  cases r
  refine ⟨⟨.inl ⟨_, .bool true, [], rfl, fun _ => rfl, .bool true, ?_, fun _ => ⟨.nil, fun _ ha => nomatch ha⟩⟩, fun b o e => p.inv.keep b o e, ?_, ?_⟩, ?_⟩
  · generalize [ofPy (PyData.list (List.map PyData.int ns))] = args0
    show (WShape.has [] (.bool true) .bool && (WTm.eq .res (.lit (.bool true))).holds [] { args := args0, res := some (.bool true), after := args0 }) = true
    refine Bool.and_eq_true_iff.mpr ⟨by decide +kernel, ?_⟩
    simp [WTm.holds, WTm.value]
    try decide +kernel
  · obtain ⟨h', tk, rfl⟩ := p.same; rfl
  · obtain ⟨h', tk, rfl⟩ := p.same; exact hg
  · refine ⟨?_, ?_, trivial⟩
    · rcases p.inv.t1.st with e | ⟨c', e, _⟩
      · exact ⟨_, e⟩
      · exact ⟨_, e⟩
    · rcases p.inv.t2.st with e | ⟨c', e, _⟩
      · exact ⟨_, e⟩
      · exact ⟨_, e⟩
end Mine

end

theorem PySem.Challenge.cw_sr0024_01_holds : PySem.Challenge.rw_sr0024_01.Holds := by
  exact Mine.law_true
