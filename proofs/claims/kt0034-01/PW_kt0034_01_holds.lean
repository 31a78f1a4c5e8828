import PyProof.Rows.All
import Wide.All
import OpenK.AllK
import Wide.FinOn
import PyProof.NeKinds
import PyProof.Draws
import PyProof.GenQ
import PyProof.IsiH_list
import PyProof.StrCalls6
import Lean
import PySem.Challenge.RW_kt0034_01
open PySem PySem.Calls PyProof.Rows
set_option Elab.async false
set_option linter.unusedVariables false
set_option linter.unusedSimpArgs false
set_option genInjectivity false
set_option genSizeOf false
set_option compiler.extract_closed false
set_option bootstrap.genMatcherCode false
namespace Mine
section

/-- the same object, its slots aside (a record is the very same) -/
noncomputable def Sim (o o' : Obj) : Prop := o'.cls = o.cls ∧ o'.dict = o.dict ∧ o'.data = o.data ∧ ((∃ vs, o.data = .fields vs) → o' = o)
theorem Sim.refl (o : Obj) : Sim o o := ⟨rfl, rfl, rfl, fun _ => rfl⟩
theorem Sim.trans {a b c : Obj} (x : Sim a b) (y : Sim b c) : Sim a c :=
  ⟨y.1.trans x.1, y.2.1.trans x.2.1, y.2.2.1.trans x.2.2.1, fun h => by
    have e := x.2.2.2 h
    subst e
    exact y.2.2.2 h⟩

/-- what the top left: the program, the world, its ghost, and the one table that may grow -/
structure TopC where
  prog : Program
  w : World
  hT : Heap
  P : Addr
  pc : Addr
  line : Int
  col : Int
  qual : Str
  mg : Str → Option Value
  mb : Str → Option Value

variable (G : TopC)

structure TopOk : Prop where
  ns : G.hT.Ns mainGlobals G.mg
  bns : G.hT.Ns builtinsNs G.mb
  nolimit : G.hT.NoLimit

noncomputable def TabI (h : Heap) : Prop := ∃ ps, h.get? G.P = some (PySem.W.tabObj ps) ∧ (ps = #[] ∨ ∃ c', ps = #[rawInt G.line, rawInt G.col, .ref c'] ∧ h.CodeRec (.ref c') G.qual)

/-- no bare record (of these alone one grows: the table) -/
noncomputable def Plain (o : Obj) : Prop := o.cls = Value.none → ∀ vs, o.data ≠ .fields vs
theorem Plain.of_cls {o : Obj} (h : o.cls ≠ Value.none) : Plain o := fun e => absurd e h
theorem Plain.of_data {o : Obj} (h : ∀ vs, o.data ≠ .fields vs) : Plain o := fun _ => h
theorem Plain.sim {o o' : Obj} (h : Plain o) (s : Sim o o') : Plain o' := fun e vs q => h (s.1 ▸ e) vs (s.2.2.1 ▸ q)
noncomputable def KpH (h h' : Heap) : Prop := ∀ a o, Plain o → h.get? a = some o → ∃ o', h'.get? a = some o' ∧ Sim o o'
theorem KpH.refl (h : Heap) : KpH h h := fun _ o _ e => ⟨o, e, .refl o⟩
theorem KpH.trans {a b c : Heap} (x : KpH a b) (y : KpH b c) : KpH a c := fun k o hc e => by
  obtain ⟨o1, e1, s1⟩ := x k o hc e
  obtain ⟨o2, e2, s2⟩ := y k o1 (hc.sim s1) e1
  exact ⟨o2, e2, s1.trans s2⟩
theorem KpH.of_keeps {h h' : Heap} (k : ∀ b o, h.get? b = some o → h'.get? b = some o) : KpH h h' := fun a o _ e => ⟨o, k a o e, .refl o⟩

structure Kp (s s' : Shared) : Prop where
  heap : KpH s.heap s'.heap
  top : G.hT.StaysIn s.heap → G.hT.StaysIn s'.heap
  tab : TabI G s.heap → TabI G s'.heap
  gens : ∃ gs : Array GenState, s'.gens = s.gens ++ gs ∧ ∀ g ∈ gs, g.bare = true
  os : s'.os = s.os

theorem Kp.refl (s : Shared) : Kp G s s := ⟨.refl _, id, id, ⟨#[], by simp, by simp⟩, rfl⟩
theorem Kp.trans {G} {a b c : Shared} (x : Kp G a b) (y : Kp G b c) : Kp G a c :=
  ⟨x.heap.trans y.heap, fun h => y.top (x.top h), fun h => y.tab (x.tab h), by
    obtain ⟨g1, e1, b1⟩ := x.gens
    obtain ⟨g2, e2, b2⟩ := y.gens
    refine ⟨g1 ++ g2, by rw [e2, e1, Array.append_assoc], fun g hg => ?_⟩
    rcases Array.mem_append.mp hg with h | h
    · exact b1 g h
    · exact b2 g h, y.os.trans x.os⟩

theorem TabI.keeps {G} {h h' : Heap} (x : TabI G h) (k : ∀ b o, h.get? b = some o → h'.get? b = some o) : TabI G h' := by
  obtain ⟨ps, e, r⟩ := x
  refine ⟨ps, k _ _ e, r.imp id ?_⟩
  rintro ⟨c', e', cr⟩
  exact ⟨c', e', cr.keeps k⟩

theorem Kp.of_keeps {s : Shared} {h' : Heap} (tk : Nat) (k : ∀ b o, s.heap.get? b = some o → h'.get? b = some o) : Kp G s { s with heap := h', toks := tk } :=
  ⟨.of_keeps k, fun x b o e => k b o (x b o e), fun x => x.keeps k, ⟨#[], by simp, by simp⟩, rfl⟩
theorem Kp.of_toks {s : Shared} (tk : Nat) : Kp G s { s with toks := tk } := Kp.of_keeps G (s := s) (h' := s.heap) tk (fun _ _ e => e)
theorem Kp.of_push {s : Shared} (tk : Nat) (o : Obj) : Kp G s { s with heap := s.heap.push o, toks := tk } := Kp.of_keeps G tk (fun _ _ e => Heap.get?_push_of_some _ e)

/-- what may be read: an object of a kind, none of the bad ones where it is no tuple -/
noncomputable def RK (h h' : Heap) (bad : Addr → Prop) : Prop := ∀ a o, h.get? a = some o → (o.cls ≠ .type "tuple" → ¬ bad a) → (o.cls ≠ .none ∧ ((∃ vs n, o.data = .seq vs n) ∨ (o.cls ≠ .type "tuple" ∧ ∃ es n, o.data = .dict es n))) → ∃ o', h'.get? a = some o' ∧ o'.cls = o.cls ∧ o'.data = o.data
theorem notTup {c : Value} {n : String} (e : c = .type n) (h : (n == "tuple") = false) : c ≠ .type "tuple" := fun z => by
  rw [e] at z; injection z with z; rw [z] at h; simp at h
theorem notNone {c : Value} {n : String} (e : c = .type n) : c ≠ .none := fun z => by rw [e] at z; cases z
theorem reads_gen {h h' : Heap} {bad : Addr → Prop} (k : RK h h' bad) {v : Value} {d : PyData} {as : List Addr} (r : Reads h v d as) : (∀ a ∈ as, ¬ bad a) → Reads h' v d as :=
  Reads.rec (motive_1 := fun v d as _ => (∀ a ∈ as, ¬ bad a) → Reads h' v d as) (motive_2 := fun vs ds as _ => (∀ a ∈ as, ¬ bad a) → ReadsAll h' vs ds as)
    (fun _ => .none) (fun b _ => .bool b) (fun i t _ => .int i t) (fun x t _ => .str x t)
    (fun h1 h2 h3 _ ih n => (k _ _ h1 (fun _ => n _ (.head _)) ⟨notNone h2, .inl ⟨_, _, h3⟩⟩).elim fun _ q => .list q.1 (q.2.1.trans h2) (q.2.2.trans h3) (ih fun a z => n a (.tail _ z)))
    (fun h1 h2 h3 _ ih n => (k _ _ h1 (fun z => absurd h2 z) ⟨notNone h2, .inl ⟨_, _, h3⟩⟩).elim fun _ q => .tuple q.1 (q.2.1.trans h2) (q.2.2.trans h3) (ih n))
    (fun h1 h2 h3 _ _ ih ih' n => (k _ _ h1 (fun _ => n _ (List.mem_append_left _ (.head _))) ⟨notNone h2, .inr ⟨notTup h2 rfl, _, _, h3⟩⟩).elim fun _ q => .dict q.1 (q.2.1.trans h2) (q.2.2.trans h3) (ih fun a z => n a (List.mem_append_left _ (.tail _ z))) (ih' fun a z => n a (List.mem_append_right _ z)))
    (fun _ => .nil) (fun _ _ ih ih' n => .cons (ih fun a z => n a (List.mem_append_left _ z)) (ih' fun a z => n a (List.mem_append_right _ z))) r
theorem readsAll_gen {h h' : Heap} {bad : Addr → Prop} (k : RK h h' bad) : ∀ {vs : List Value} {ds : List PyData} {as : List Addr}, ReadsAll h vs ds as → (∀ a ∈ as, ¬ bad a) → ReadsAll h' vs ds as := by
  intro vs
  induction vs with
  | nil => intro ds as r n; cases r; exact .nil
  | cons v vs ih => intro ds as r n; cases r with | cons a b => exact .cons (reads_gen k a fun x z => n x (List.mem_append_left _ z)) (ih b fun x z => n x (List.mem_append_right _ z))
theorem reads_all {h : Heap} {Q : Addr → Prop} (k : ∀ a o, h.get? a = some o → o.cls ≠ .none → Q a) {v : Value} {d : PyData} {as : List Addr} (r : Reads h v d as) : ∀ a ∈ as, Q a :=
  Reads.rec (motive_1 := fun _ _ as _ => ∀ a ∈ as, Q a) (motive_2 := fun _ _ as _ => ∀ a ∈ as, Q a)
    (fun _ z => nomatch z) (fun _ _ z => nomatch z) (fun _ _ _ z => nomatch z) (fun _ _ _ z => nomatch z)
    (fun h1 h2 _ _ ih a z => (List.mem_cons.mp z).elim (fun e => e ▸ k _ _ h1 (notNone h2)) (ih a)) (fun _ _ _ _ ih => ih)
    (fun h1 h2 _ _ _ ih ih' a z => (List.mem_append.mp z).elim (fun z => (List.mem_cons.mp z).elim (fun e => e ▸ k _ _ h1 (notNone h2)) (ih a)) (ih' a))
    (fun _ z => nomatch z) (fun _ _ ih ih' a z => (List.mem_append.mp z).elim (ih a) (ih' a)) r
theorem readsAll_all {h : Heap} {Q : Addr → Prop} (k : ∀ a o, h.get? a = some o → o.cls ≠ .none → Q a) : ∀ {vs : List Value} {ds : List PyData} {as : List Addr}, ReadsAll h vs ds as → ∀ a ∈ as, Q a := by
  intro vs
  induction vs with
  | nil => intro ds as r a z; cases r; cases z
  | cons v vs ih => intro ds as r a z; cases r with | cons x y => exact (List.mem_append.mp z).elim (reads_all k x a) (ih y a)
theorem rk_sim {h h' : Heap} (k : KpH h h') : RK h h' fun _ => False := fun a o e _ q => by
  obtain ⟨o', e', s⟩ := k a o (.of_cls q.1) e
  exact ⟨o', e', s.1, s.2.2.1⟩
theorem reads_sim {h h' : Heap} (k : KpH h h') {v : Value} {d : PyData} {as : List Addr} (r : Reads h v d as) : Reads h' v d as := reads_gen (rk_sim k) r fun _ _ z => z
theorem readsAll_sim {h h' : Heap} (k : KpH h h') {vs : List Value} {ds : List PyData} {as : List Addr} (r : ReadsAll h vs ds as) : ReadsAll h' vs ds as := readsAll_gen (rk_sim k) r fun _ _ z => z

/-- a value that reads as d, its lists none of the bad ones -/
noncomputable def Rd (bad : Addr → Prop) (h : Heap) (v : Value) (d : PyData) : Prop := ∃ as, Reads h v d as ∧ ∀ a ∈ as, ¬ bad a
noncomputable def RdAll (bad : Addr → Prop) (h : Heap) (vs : List Value) (ds : List PyData) : Prop := ∃ as, ReadsAll h vs ds as ∧ ∀ a ∈ as, ¬ bad a
section
variable {bad : Addr → Prop} {h h' : Heap}
theorem Rd.sim {v : Value} {d : PyData} (r : Rd bad h v d) (k : KpH h h') : Rd bad h' v d := let ⟨as, a, b⟩ := r; ⟨as, reads_sim k a, b⟩
theorem RdAll.sim {v : List Value} {d : List PyData} (r : RdAll bad h v d) (k : KpH h h') : RdAll bad h' v d := let ⟨as, a, b⟩ := r; ⟨as, readsAll_sim k a, b⟩
theorem Rd.none : Rd bad h .none .none := ⟨[], .none, by simp⟩
theorem Rd.bool (b : Bool) : Rd bad h (.bool b) (.bool b) := ⟨[], .bool b, by simp⟩
theorem Rd.int (i : Int) (t : Tok) : Rd bad h (.int i t) (.int i) := ⟨[], .int i t, by simp⟩
theorem Rd.str (x : Str) (t : Tok) : Rd bad h (.str x t) (.str x) := ⟨[], .str x t, by simp⟩
theorem RdAll.nil : RdAll bad h [] [] := ⟨[], .nil, by simp⟩
theorem RdAll.cons {v vs d ds} (r : Rd bad h v d) (rs : RdAll bad h vs ds) : RdAll bad h (v :: vs) (d :: ds) := by
  obtain ⟨a, x, p⟩ := r
  obtain ⟨b, y, q⟩ := rs
  exact ⟨a ++ b, .cons x y, fun k hk => (List.mem_append.mp hk).elim (p k) (q k)⟩
theorem RdAll.inv {v vs d ds} (r : RdAll bad h (v :: vs) (d :: ds)) : Rd bad h v d ∧ RdAll bad h vs ds := by
  obtain ⟨_, x, p⟩ := r
  cases x with
  | cons a b => exact ⟨⟨_, a, fun k hk => p k (List.mem_append_left _ hk)⟩, ⟨_, b, fun k hk => p k (List.mem_append_right _ hk)⟩⟩
theorem RdAll.nil_inv {vs} (r : RdAll bad h vs []) : vs = [] := by
  obtain ⟨_, x, _⟩ := r; cases x; rfl
theorem RdAll.cons_inv {vs d ds} (r : RdAll bad h vs (d :: ds)) : ∃ v vs', vs = v :: vs' ∧ Rd bad h v d ∧ RdAll bad h vs' ds := by
  obtain ⟨as, x, p⟩ := r
  cases x with
  | cons a b => exact ⟨_, _, rfl, ⟨_, a, fun k hk => p k (List.mem_append_left _ hk)⟩, ⟨_, b, fun k hk => p k (List.mem_append_right _ hk)⟩⟩
theorem Rd.int_inv {v i} (r : Rd bad h v (.int i)) : ∃ t, v = .int i t := by obtain ⟨_, x, _⟩ := r; cases x; exact ⟨_, rfl⟩
theorem Rd.bool_inv {v b} (r : Rd bad h v (.bool b)) : v = .bool b := by obtain ⟨_, x, _⟩ := r; cases x; rfl
theorem Rd.none_inv {v} (r : Rd bad h v .none) : v = .none := by obtain ⟨_, x, _⟩ := r; cases x; rfl
theorem Rd.str_inv {v i} (r : Rd bad h v (.str i)) : ∃ t, v = .str i t := by obtain ⟨_, x, _⟩ := r; cases x; exact ⟨_, rfl⟩
theorem Rd.list_inv {v ds} (r : Rd bad h v (.list ds)) : ∃ a vs, v = .ref a ∧ h.IsList a vs.toArray ∧ ¬ bad a ∧ RdAll bad h vs ds := by
  obtain ⟨_, x, p⟩ := r
  cases x with
  | list h1 h2 h3 r => exact ⟨_, _, rfl, ⟨_, h1, h2, _, h3⟩, p _ (.head _), ⟨_, r, fun k hk => p k (.tail _ hk)⟩⟩
theorem Rd.tuple_inv {v ds} (r : Rd bad h v (.tuple ds)) : ∃ a vs, v = .ref a ∧ IsTup h a vs.toArray ∧ RdAll bad h vs ds := by
  obtain ⟨_, x, p⟩ := r
  cases x with
  | tuple h1 h2 h3 r => exact ⟨_, _, rfl, ⟨_, h1, h2, _, h3⟩, ⟨_, r, p⟩⟩
theorem Rd.list {a vs ds} (hl : h.IsList a vs.toArray) (hb : ¬ bad a) (r : RdAll bad h vs ds) : Rd bad h (.ref a) (.list ds) := by
  obtain ⟨o, h1, h2, n, h3⟩ := hl
  obtain ⟨as, x, p⟩ := r
  exact ⟨a :: as, .list h1 h2 h3 x, fun k hk => (List.mem_cons.mp hk).elim (fun e => e ▸ hb) (p k)⟩
theorem Rd.tuple {a vs ds} (hl : IsTup h a vs.toArray) (r : RdAll bad h vs ds) : Rd bad h (.ref a) (.tuple ds) := by
  obtain ⟨o, h1, h2, n, h3⟩ := hl
  obtain ⟨as, x, p⟩ := r
  exact ⟨as, .tuple h1 h2 h3 x, p⟩
theorem RdAll.length {vs ds} (r : RdAll bad h vs ds) : vs.length = ds.length := by
  induction vs generalizing ds with
  | nil => obtain ⟨_, x, _⟩ := r; cases x; rfl
  | cons v vs ih =>
    cases ds with
    | nil => obtain ⟨_, x, _⟩ := r; cases x
    | cons d ds => rw [List.length_cons, List.length_cons, ih r.inv.2]
theorem RdAll.get {vs ds} (r : RdAll bad h vs ds) : ∀ {i : Nat} {d : PyData}, ds[i]? = some d → ∃ v, vs[i]? = some v ∧ Rd bad h v d := by
  induction vs generalizing ds with
  | nil =>
    intro i d e
    have := r.length
    cases ds with
    | nil => simp at e
    | cons => simp at this
  | cons v vs ih =>
    intro i d e
    cases ds with
    | nil => simp at e
    | cons d0 ds =>
      have q := r.inv
      cases i with
      | zero => simp at e; subst e; exact ⟨v, rfl, q.1⟩
      | succ i => exact ih q.2 (by simpa using e)
theorem RdAll.append {vs ds vs' ds'} (r : RdAll bad h vs ds) (r' : RdAll bad h vs' ds') : RdAll bad h (vs ++ vs') (ds ++ ds') := by
  induction vs generalizing ds with
  | nil => have := r.length; cases ds with | nil => exact r' | cons => simp at this
  | cons v vs ih =>
    cases ds with
    | nil => have := r.length; simp at this
    | cons d ds => exact .cons r.inv.1 (ih r.inv.2)
end

/-- what the frames know of the world -/
structure Ok (A : Around) (s : Shared) : Prop where
  g : TopOk G
  top : G.hT.StaysIn s.heap
  tab : TabI G s.heap
  frames : ∃ l, A.frames = some l ∧ s.heap.FunFrames G.hT l

theorem Ok.keeps {G} {A : Around} {s s' : Shared} (x : Ok G A s) (k : Kp G s s') : Ok G A s' := by
  refine ⟨x.g, k.top x.top, k.tab x.tab, ?_⟩
  obtain ⟨l, e, f⟩ := x.frames
  refine ⟨l, e, ?_⟩
  clear e
  induction l with
  | nil => trivial
  | cons env r ih =>
    obtain ⟨h1, ⟨L, o, h2, h3, h4, h5⟩, h6⟩ := f
    refine ⟨h1, ⟨L, ?_⟩, ih h6⟩
    obtain ⟨o', e', s'⟩ := k.heap L o (.of_data h5) h4
    exact ⟨o', h2, h3, e', fun vs q => h5 vs (s'.2.2.1 ▸ q)⟩
end
section

/-- what a name holds: data, or a value told outright -/
inductive VV where
  | d (d : PyData)
  | v (v : Value)

inductive VarIx : List Str → List (Option VV) → Str → VV → Prop
  | head {x N o V} : VarIx (x :: N) (some o :: V) x o
  | tail {y N o V x d} : VarIx N V x d → VarIx (y :: N) (o :: V) x d
inductive SetIx : List Str → List (Option VV) → Str → VV → List (Option VV) → Prop
  | head {x N o V d} : SetIx (x :: N) (o :: V) x d (some d :: V)
  | tail {y N o V x d V'} : SetIx N V x d V' → SetIx (y :: N) (o :: V) x d (o :: V')
theorem VarIx.mem {N V x d} (h : VarIx N V x d) : x ∈ N := by
  induction h with
  | head => exact .head _
  | tail _ ih => exact .tail _ ih
theorem SetIx.mem {N V x d V'} (h : SetIx N V x d V') : x ∈ N := by
  induction h with
  | head => exact .head _
  | tail _ ih => exact .tail _ ih
theorem VarIx.uniq {N V x d d'} (hn : N.Nodup) (h : VarIx N V x d) (h' : VarIx N V x d') : d = d' := by
  induction h with
  | head =>
    cases h' with
    | head => rfl
    | tail h' => exact absurd h'.mem (List.nodup_cons.mp hn).1
  | tail h ih =>
    cases h' with
    | head => exact absurd h.mem (List.nodup_cons.mp hn).1
    | tail h' => exact ih (List.nodup_cons.mp hn).2 h'
theorem SetIx.here {N V x d V'} (h : SetIx N V x d V') : VarIx N V' x d := by
  induction h with
  | head => exact .head
  | tail _ ih => exact .tail ih
theorem SetIx.old {N V x d V' y d'} (hn : N.Nodup) (h : SetIx N V x d V') (h' : VarIx N V' y d') : (y = x ∧ d' = d) ∨ (y ≠ x ∧ VarIx N V y d') := by
  induction h with
  | head =>
    cases h' with
    | head => exact .inl ⟨rfl, rfl⟩
    | tail h' => exact .inr ⟨fun e => absurd (e ▸ h'.mem) (List.nodup_cons.mp hn).1, .tail h'⟩
  | tail h ih =>
    cases h' with
    | head => exact .inr ⟨fun e => absurd (e ▸ h.mem) (List.nodup_cons.mp hn).1, .head⟩
    | tail h' => exact (ih (List.nodup_cons.mp hn).2 h').imp id fun q => ⟨q.1, .tail q.2⟩

/-- a frame's static part -/
structure Cx where
  A : Around
  env : Env
  N : List Str
  bad : Addr → Prop
  n : Nat
  own : List (Str × Addr)

noncomputable def AOk (n : Nat) (A : Around) : Prop := A.handled = none ∧ A.depth + n < recursionLimit ∧ A.units + 4 * n + 100 < cLine

structure CxOk (C : Cx) : Prop where
  kind : C.env.scope.kind = .function
  glob : C.env.globals = mainGlobals
  blt : C.env.builtins = builtinsNs
  nodup : C.N.Nodup
  dbg : ∀ x ∈ C.N, (x == ("__debug__" : Str)) = false
  kinds : ∀ x ∈ C.N, C.env.kindOf x = some .local ∨ (C.env.kindOf x = some .cell ∧ ∃ c, C.env.cells.lookup x = some c)

noncomputable def Stored (env : Env) (h : Heap) (x : Str) (v : Value) : Prop :=
  (env.kindOf x = some .local ∧ ∃ m, h.Ns env.locals m ∧ m x = some v) ∨ (env.kindOf x = some .cell ∧ ∃ c, env.cells.lookup x = some c ∧ h.IsCell c (some v))
noncomputable def Holds (bad : Addr → Prop) (h : Heap) (v : Value) : VV → Prop
  | .d d => Rd bad h v d
  | .v u => v = u
noncomputable def VarAt (C : Cx) (h : Heap) (x : Str) (o : VV) : Prop := ∃ v, Stored C.env h x v ∧ Holds C.bad h v o

variable (G : TopC)

structure St (C : Cx) (V : List (Option VV)) (s : Shared) : Prop where
  cx : CxOk C
  a : AOk C.n C.A
  ok : Ok G C.A s
  vars : ∀ x o, VarIx C.N V x o → VarAt C s.heap x o
  bad : ∀ b, C.bad b → ∃ o, Plain o ∧ s.heap.get? b = some o

theorem ns_sim {h h' : Heap} (k : KpH h h') {a : Addr} {m : Str → Option Value} (n : h.Ns a m) : h'.Ns a m := by
  obtain ⟨o, es, ep, ho, hd, r⟩ := n
  obtain ⟨o', e, s⟩ := k a o (.of_data fun vs q => by rw [hd] at q; cases q) ho
  exact ⟨o', es, ep, e, s.2.2.1.trans hd, r⟩
theorem cell_sim {h h' : Heap} (k : KpH h h') {c : Addr} {v : Option Value} (n : h.IsCell c v) : h'.IsCell c v := by
  obtain ⟨o, ho, hd⟩ := n
  obtain ⟨o', e, s⟩ := k c o (.of_data fun vs q => by rw [hd] at q; cases q) ho
  exact ⟨o', e, s.2.2.1.trans hd⟩
theorem Stored.sim {env : Env} {h h' : Heap} {x : Str} {v : Value} (x' : Stored env h x v) (k : KpH h h') : Stored env h' x v :=
  x'.imp (fun ⟨a, m, b, c⟩ => ⟨a, m, ns_sim k b, c⟩) fun ⟨a, c, b, d⟩ => ⟨a, c, b, cell_sim k d⟩
theorem Holds.sim {bad : Addr → Prop} {h h' : Heap} {v : Value} {o : VV} (x : Holds bad h v o) (k : KpH h h') : Holds bad h' v o := by
  cases o with
  | d d => exact Rd.sim x k
  | v u => exact x
theorem St.keeps {G C V s s'} (x : St G C V s) (k : Kp G s s') : St G C V s' :=
  ⟨x.cx, x.a, x.ok.keeps k, fun n o h => let ⟨v, a, b⟩ := x.vars n o h; ⟨v, a.sim k.heap, b.sim k.heap⟩,
   fun b hb => let ⟨o, p, e⟩ := x.bad b hb; let ⟨o', e', s'⟩ := k.heap b o p e; ⟨o', p.sim s', e'⟩⟩
/-- a thing that was not there is none of the bad ones -/
theorem St.new {G C V s} (x : St G C V s) {D : Addr} (h : s.heap.get? D = none) : ¬ C.bad D := fun hb => by
  obtain ⟨o, _, e⟩ := x.bad D hb
  rw [h] at e; cases e
theorem get_size (h : Heap) : h.get? h.objs.size = none := by
  cases q : h.get? h.objs.size with
  | none => rfl
  | some o => exact absurd (Heap.lt_size q) (Nat.lt_irrefl _)

/-- the expression e yields d, whatever else the state is; what stands is kept -/
noncomputable def Ev (C : Cx) (V : List (Option VV)) (e : Expr) (d : PyData) : Prop :=
  ∀ (s : Shared) (Q E : Value → Shared → Prop), St G C V s → (∀ v s', Kp G s s' → Rd C.bad s'.heap v d → Q v s') → wpAny (model G.prog G.w) C.A (eval e C.env) Q E s
/-- it yields the very value u -/
noncomputable def EvV (C : Cx) (V : List (Option VV)) (e : Expr) (u : Value) : Prop :=
  ∀ (s : Shared) (Q E : Value → Shared → Prop), St G C V s → (∀ s', Kp G s s' → Q u s') → wpAny (model G.prog G.w) C.A (eval e C.env) Q E s
/-- as a test it is b -/
noncomputable def Tr (C : Cx) (V : List (Option VV)) (e : Expr) (b : Bool) : Prop :=
  ∀ (s : Shared) (Q : Bool → Shared → Prop) (E : Value → Shared → Prop), St G C V s → (∀ s', Kp G s s' → Q b s') → wpAny (model G.prog G.w) C.A (isTrue e C.env (eval e C.env)) Q E s
/-- a list of expressions -/
noncomputable def EvL (C : Cx) (V : List (Option VV)) (es : List Expr) (ds : List PyData) : Prop :=
  ∀ (cpos : Pos) (s : Shared) (Q : List Value → Shared → Prop) (E : Value → Shared → Prop), St G C V s → (∀ vs s', Kp G s s' → RdAll C.bad s'.heap vs ds → Q vs s') →
    wpAny (model G.prog G.w) C.A (spliced (backTo cpos (starEach es C.env))) Q E s

section
variable {G} {C : Cx} {V : List (Option VV)}

theorem loadVar {s : Shared} (S : St G C V s) {x : Str} {o : VV} (hx : VarIx C.N V x o) {Q : Value → Shared → Prop} {E : Value → Shared → Prop}
    (h : ∀ v, Holds C.bad s.heap v o → Q v s) : wpAny (model G.prog G.w) C.A (loadName C.env x) Q E s := by
  obtain ⟨v, st, hd⟩ := S.vars x o hx
  rcases st with ⟨hk, m, hn, hv⟩ | ⟨hk, c, hc, hv⟩
  · exact wpAny_loadName_local S.cx.kind hk hn hv (h v hd)
  · exact wpAny_loadName_cell S.cx.kind hk hc hv (h v hd)
theorem ev_name {x : Str} {pos : Pos} {d : PyData} (hx : VarIx C.N V x (.d d)) : Ev G C V (.Name x pos) d := fun s Q E S h =>
  wpAny_Name (loadVar S hx fun v hv => h v s (.refl ..) hv) (S.cx.dbg x hx.mem)
theorem evV_name {x : Str} {pos : Pos} {u : Value} (hx : VarIx C.N V x (.v u)) : EvV G C V (.Name x pos) u := fun s Q E S h =>
  wpAny_Name (loadVar S hx fun v hv => by cases hv; exact h s (.refl ..)) (S.cx.dbg x hx.mem)
theorem ev_int {i : Int} {k : Nat} {pos : Pos} : Ev G C V (.Constant (.int i) k pos) (.int i) := fun s Q E S h => wpAny_Constant_int (h _ _ (Kp.of_toks G _) (.int _ _))
theorem ev_str {x : Str} {k : Nat} {pos : Pos} : Ev G C V (.Constant (.str x) k pos) (.str x) := fun s Q E S h => wpAny_Constant_str (h _ _ (Kp.of_toks G _) (.str _ _))
theorem ev_bool {b : Bool} {k : Nat} {pos : Pos} : Ev G C V (.Constant (.bool b) k pos) (.bool b) := fun s Q E S h => wpAny_Constant_bool (h _ _ (.refl ..) (.bool _))
theorem ev_none {k : Nat} {pos : Pos} : Ev G C V (.Constant .none k pos) .none := fun s Q E S h => wpAny_Constant_none (h _ _ (.refl ..) .none)

theorem evL_nil : EvL G C V [] [] := fun _ s Q E S h => spliced_nil (h _ _ (.refl ..) .nil)
theorem evL_cons {e : Expr} {es : List Expr} {d : PyData} {ds : List PyData} (x : Ev G C V e d) (y : EvL G C V es ds) (hs : ∀ env, starEach (e :: es) env = (false, eval e env) :: starEach es env := by intro _; rfl) :
    EvL G C V (e :: es) (d :: ds) := fun cpos s Q E S h => by
  have hb : backTo cpos (starEach (e :: es) C.env) = (false, eval e C.env) :: backTo cpos (starEach es C.env) := by
    rw [hs]; rfl
  rw [hb]
  exact spliced_cons (x s _ E S fun v s1 k1 r1 => y cpos s1 _ E (S.keeps k1) fun vs s2 k2 r2 => h _ _ (k1.trans k2) (.cons (r1.sim k2.heap) r2))

theorem push_tup (h : Heap) (vs : List Value) : IsTup (h.push { cls := .type "tuple", data := .seq vs.toArray }) h.objs.size vs.toArray := ⟨_, Heap.get?_push_size _ rfl, rfl, _, rfl⟩
theorem push_lst (h : Heap) (vs : List Value) : (h.push { cls := .type "list", data := .seq vs.toArray }).IsList h.objs.size vs.toArray := ⟨_, Heap.get?_push_size _ rfl, rfl, _, rfl⟩

theorem ev_tuple {es : List Expr} {ds : List PyData} {k : Nat} {pos : Pos} (x : EvL G C V es ds) (hz : ds.length ≤ sizeLine) : Ev G C V (.Tuple es k pos) (.tuple ds) := fun s Q E S h =>
  wpAny_Tuple_spliced (x pos s _ E S fun vs s1 k1 r => ⟨by rw [r.length]; exact hz,
    h _ _ (k1.trans (Kp.of_push G _ _)) (.tuple (push_tup _ _) (r.sim (.of_keeps fun _ _ e => Heap.get?_push_of_some _ e)))⟩)
theorem ev_list {es : List Expr} {ds : List PyData} {pos : Pos} (x : EvL G C V es ds) (hz : ds.length ≤ sizeLine) : Ev G C V (.List es pos) (.list ds) := fun s Q E S h =>
  wpAny_List_spliced (x pos s _ E S fun vs s1 k1 r => ⟨by rw [r.length]; exact hz,
    h _ _ (k1.trans (Kp.of_push G _ _)) (.list (push_lst _ _) ((S.keeps k1).new (get_size _)) (r.sim (.of_keeps fun _ _ e => Heap.get?_push_of_some _ e)))⟩)

/-- two operands, then an operation on their values -/
theorem ev_bin {l r : Expr} {op : Operator} {pos : Pos} {a b d : PyData} (x : Ev G C V l a) (y : Ev G C V r b)
    (h : ∀ (s : Shared) (Q E : Value → Shared → Prop) u v, St G C V s → Rd C.bad s.heap u a → Rd C.bad s.heap v b → (∀ r s', Kp G s s' → Rd C.bad s'.heap r d → Q r s') →
      wpAny (model G.prog G.w) C.A (binaryOp op u v) Q E s) : Ev G C V (.BinOp l op r pos) d := fun s Q E S q =>
  wpAny_BinOp (x s _ E S fun u s1 k1 r1 => y s1 _ E (S.keeps k1) fun v s2 k2 r2 => h s2 Q E u v ((S.keeps k1).keeps k2) (r1.sim k2.heap) r2 fun r s' k3 r3 => q r s' ((k1.trans k2).trans k3) r3)
theorem ev_addI {l r : Expr} {pos : Pos} {a b : Int} (x : Ev G C V l (.int a)) (y : Ev G C V r (.int b)) : Ev G C V (.BinOp l .Add r pos) (.int (a + b)) := ev_bin x y fun s Q E u v S ru rv h => by
  obtain ⟨t, rfl⟩ := ru.int_inv; obtain ⟨t', rfl⟩ := rv.int_inv
  exact wpAny_add_int (h _ _ (Kp.of_toks G _) (.int _ _))
theorem ev_subI {l r : Expr} {pos : Pos} {a b : Int} (x : Ev G C V l (.int a)) (y : Ev G C V r (.int b)) : Ev G C V (.BinOp l .Sub r pos) (.int (a - b)) := ev_bin x y fun s Q E u v S ru rv h => by
  obtain ⟨t, rfl⟩ := ru.int_inv; obtain ⟨t', rfl⟩ := rv.int_inv
  exact PyProof.Rows.sub_int (h _ _ (Kp.of_toks G _) (.int _ _))
theorem ev_modI {l r : Expr} {pos : Pos} {a b : Int} (x : Ev G C V l (.int a)) (y : Ev G C V r (.int b)) (hb : b ≠ 0) : Ev G C V (.BinOp l .Mod r pos) (.int (a.fmod b)) := ev_bin x y fun s Q E u v S ru rv h => by
  obtain ⟨t, rfl⟩ := ru.int_inv; obtain ⟨t', rfl⟩ := rv.int_inv
  exact PyProof.Rows.mod_int hb (h _ _ (Kp.of_toks G _) (.int _ _))
theorem ev_fdivI {l r : Expr} {pos : Pos} {a b : Int} (x : Ev G C V l (.int a)) (y : Ev G C V r (.int b)) (hb : b ≠ 0) (hs : b.natAbs < 1000) : Ev G C V (.BinOp l .FloorDiv r pos) (.int (a.fdiv b)) := ev_bin x y fun s Q E u v S ru rv h => by
  obtain ⟨t, rfl⟩ := ru.int_inv; obtain ⟨t', rfl⟩ := rv.int_inv
  exact PyProof.Rows.floordiv_int hb (h _ _ (Kp.of_toks G _) (.int _ _)) (.inl (PyProof.noPylong_small (Nat.lt_trans hs (by decide))))
theorem ev_addS {l r : Expr} {pos : Pos} {a b : Str} (x : Ev G C V l (.str a)) (y : Ev G C V r (.str b)) (hz : a.length + b.length ≤ sizeLine) : Ev G C V (.BinOp l .Add r pos) (.str (a ++ b)) := ev_bin x y fun s Q E u v S ru rv h => by
  obtain ⟨t, rfl⟩ := ru.str_inv; obtain ⟨t', rfl⟩ := rv.str_inv
  exact PyProof.Rows.add_str (fun t' tk => h _ _ (Kp.of_toks G _) (.str _ _)) hz
theorem ev_subB {l r : Expr} {pos : Pos} {a b : Bool} (x : Ev G C V l (.bool a)) (y : Ev G C V r (.bool b)) : Ev G C V (.BinOp l .Sub r pos) (.int ((if a then 1 else 0) - (if b then 1 else 0))) := ev_bin x y fun s Q E u v S ru rv h => by
  cases ru.bool_inv; cases rv.bool_inv
  exact sub_bool (h _ _ (Kp.of_toks G _) (.int _ _))
end
end
section

/-- a text by its codes -/
noncomputable abbrev S (l : List Nat) : Str := ⟨l.toArray⟩
theorem S_len (l : List Nat) : (S l).length = l.length := by simp [S, Str.length]
theorem S_app (a b : List Nat) : S a ++ S b = S (a ++ b) := by
  show Str.append (S a) (S b) = S (a ++ b)
  simp [Str.append, S]
theorem S_eta (x : Str) : x = S x.cps.toList := by cases x; simp [S]
theorem S_inj {a b : List Nat} (h : S a = S b) : a = b := by
  have := congrArg (fun x : Str => x.cps.toList) h
  simpa [S] using this

variable (G : TopC)
noncomputable def Cmp (C : Cx) (op : CmpOp) (a b : PyData) (r : Bool) : Prop :=
  ∀ (V : List (Option VV)) (s : Shared) (Q E : Value → Shared → Prop) (u v : Value), St G C V s → Rd C.bad s.heap u a → Rd C.bad s.heap v b → (∀ s', Kp G s s' → Q (.bool r) s') →
    wpAny (model G.prog G.w) C.A (compareOp op u v) Q E s
section
variable {G} {C : Cx} {V : List (Option VV)}
theorem ev_cmp {l r : Expr} {op : CmpOp} {pos : Pos} {a b : PyData} {c : Bool} (x : Ev G C V l a) (y : Ev G C V r b) (k : Cmp G C op a b c) (hm : behindInMarks op r = false := by with_unfolding_all rfl) :
    Ev G C V (.Compare l [op] [r] pos) (.bool c) := fun s Q E q h =>
  wpAny_Compare1 (x s _ E q fun u s1 k1 r1 => y s1 _ E (q.keeps k1) fun v s2 k2 r2 => k V s2 _ E u v ((q.keeps k1).keeps k2) (r1.sim k2.heap) r2 fun s' k3 => h _ _ ((k1.trans k2).trans k3) (.bool _)) hm
theorem tr_cmp {l r : Expr} {op : CmpOp} {pos : Pos} {a b : PyData} {c : Bool} (x : Ev G C V l a) (y : Ev G C V r b) (k : Cmp G C op a b c) (hm : behindInMarks op r = false := by with_unfolding_all rfl) :
    Tr G C V (.Compare l [op] [r] pos) c := fun s Q E q h =>
  wpAny_isTrue_Compare1 (x s _ E q fun u s1 k1 r1 => y s1 _ E (q.keeps k1) fun v s2 k2 r2 => k V s2 _ E u v ((q.keeps k1).keeps k2) (r1.sim k2.heap) r2 fun s' k3 => wpAny_truthy_bool (h _ ((k1.trans k2).trans k3))) hm

theorem St.units (x : St G C V s) : C.A.units + 64 < cLine := by have := x.a.2.2; omega
theorem St.units1 (x : St G C V s) : C.A.in1.units + 64 < cLine := by have := x.a.2.2; simp only [Around.in1_units]; omega
theorem cmp_eq {a b : PyData} (ha : SeqAt.shaped a = true) (hb : SeqAt.shaped b = true) : Cmp G C .Eq a b (PyData.eqv a b) := fun V s Q E u v q ru rv h => by
  obtain ⟨_, ra, _⟩ := ru; obtain ⟨_, rb, _⟩ := rv
  exact SeqAt.compareEq_shaped ra rb ha hb q.units (h _ (.refl ..))
theorem cmp_ne {a b : PyData} (ha : SeqAt.shaped a = true) (hb : SeqAt.shaped b = true) : Cmp G C .NotEq a b (!PyData.eqv a b) := fun V s Q E u v q ru rv h => by
  obtain ⟨_, ra, _⟩ := ru; obtain ⟨_, rb, _⟩ := rv
  exact SeqAt.compareNe_shaped ra rb ha hb q.units (h _ (.refl ..))
theorem cmp_eqI {a b : Int} : Cmp G C .Eq (.int a) (.int b) (a == b) := by
  have := cmp_eq (G := G) (C := C) (a := .int a) (b := .int b) rfl rfl
  simpa only [PyData.eqv] using this
theorem cmp_neI {a b : Int} : Cmp G C .NotEq (.int a) (.int b) (!(a == b)) := by
  have := cmp_ne (G := G) (C := C) (a := .int a) (b := .int b) rfl rfl
  simpa only [PyData.eqv] using this
theorem cmp_eqB {a b : Bool} : Cmp G C .Eq (.bool a) (.bool b) (a == b) := by
  have := cmp_eq (G := G) (C := C) (a := .bool a) (b := .bool b) rfl rfl
  simpa only [PyData.eqv] using this
theorem cmp_eqS {a b : Str} : Cmp G C .Eq (.str a) (.str b) (a.cps.toList == b.cps.toList) := fun V s Q E u v q ru rv h => by
  obtain ⟨t, rfl⟩ := ru.str_inv; obtain ⟨t', rfl⟩ := rv.str_inv
  exact P.eq_str (h _ (.refl ..))
theorem cmp_neS {a b : Str} : Cmp G C .NotEq (.str a) (.str b) (a.cps.toList != b.cps.toList) := fun V s Q E u v q ru rv h => by
  obtain ⟨t, rfl⟩ := ru.str_inv; obtain ⟨t', rfl⟩ := rv.str_inv
  exact P.ne_str (h _ (.refl ..))
theorem cmp_eqT {a b : List Nat} : Cmp G C .Eq (.str (S a)) (.str (S b)) (a == b) := cmp_eqS (a := S a) (b := S b)
theorem cmp_neT {a b : List Nat} : Cmp G C .NotEq (.str (S a)) (.str (S b)) (a != b) := cmp_neS (a := S a) (b := S b)
theorem cmp_ltT {a b : List Nat} : Cmp G C .Lt (.str (S a)) (.str (S b)) (decide (a < b)) := fun V s Q E u v q ru rv h => by
  obtain ⟨t, rfl⟩ := ru.str_inv; obtain ⟨t', rfl⟩ := rv.str_inv
  exact P.lt_str (h _ (.refl ..))
theorem cmp_gtT {a b : List Nat} : Cmp G C .Gt (.str (S a)) (.str (S b)) (decide (b < a)) := fun V s Q E u v q ru rv h => by
  obtain ⟨t, rfl⟩ := ru.str_inv; obtain ⟨t', rfl⟩ := rv.str_inv
  exact P.gt_str (h _ (.refl ..))
theorem cmp_ltI {a b : Int} : Cmp G C .Lt (.int a) (.int b) (decide (a < b)) := fun V s Q E u v q ru rv h => by
  obtain ⟨t, rfl⟩ := ru.int_inv; obtain ⟨t', rfl⟩ := rv.int_inv
  exact P.lt_int (h _ (.refl ..))
theorem cmp_gtI {a b : Int} : Cmp G C .Gt (.int a) (.int b) (decide (b < a)) := fun V s Q E u v q ru rv h => by
  obtain ⟨t, rfl⟩ := ru.int_inv; obtain ⟨t', rfl⟩ := rv.int_inv
  exact P.gt_int (h _ (.refl ..))

noncomputable def isNoneD : PyData → Bool
  | .none => true
  | _ => false
/-- e is None, where e is told -/
theorem isNone_plain {bad : Addr → Prop} {h : Heap} {u : Value} {d : PyData} (r : Rd bad h u d) : plainIs u .none = true ∧ ((u == Value.none) = isNoneD d) := by
  obtain ⟨_, r, _⟩ := r
  cases r <;> exact ⟨rfl, rfl⟩
theorem cmp_isNone {a : PyData} : Cmp G C .Is a .none (isNoneD a) := fun V s Q E u v q ru rv h => by
  cases rv.none_inv
  obtain ⟨hp, he⟩ := isNone_plain ru
  exact wpAny_is_plain hp (he ▸ h _ (.refl ..))
theorem cmp_isNotNone {a : PyData} : Cmp G C .IsNot a .none (!isNoneD a) := fun V s Q E u v q ru rv h => by
  cases rv.none_inv
  obtain ⟨hp, he⟩ := isNone_plain ru
  exact wpAny_isNot_plain hp (he ▸ h _ (.refl ..))

/-- x in a list or a tuple -/
theorem eqs_of {bad : Addr → Prop} {A : Around} {s : Shared} {vs : List Value} {ds : List PyData} {x : Value} {dx : PyData} (hu : A.units + 64 < cLine) (r : RdAll bad s.heap vs ds) (rx : Rd bad s.heap x dx)
    (hs : ∀ d ∈ ds, SeqAt.shaped d = true) (hx : SeqAt.shaped dx = true) :
    ∃ e : Value → Bool, (∀ y, y ∈ vs.toArray → SeqAt.EqAt A s y x (e y)) ∧ vs.any e = ds.any (fun d => PyData.eqv d dx) := by
  classical
  obtain ⟨_, rx, _⟩ := rx
  refine ⟨fun y => decide (∃ d, d ∈ ds ∧ (∃ as, Reads s.heap y d as) ∧ PyData.eqv d dx = true), fun y hy => ?_, ?_⟩
  · obtain ⟨i, hi⟩ := List.mem_iff_getElem?.mp (by simpa using hy)
    have hl := r.length
    have hi' : i < ds.length := by rw [← hl]; exact (List.getElem?_eq_some_iff.mp hi).1
    obtain ⟨v, hv, ⟨as, rv, _⟩⟩ := r.get (List.getElem?_eq_getElem hi')
    have : v = y := by rw [hi] at hv; exact (Option.some.inj hv).symm
    subst this
    have hm : ds[i] ∈ ds := List.getElem_mem hi'
    have key := SeqAt.eqAt_reads ds[i] dx A s v x as _ rv rx (SeqAt.canLay_of_shaped (hs _ hm)) (SeqAt.canLay_of_shaped hx) (SeqAt.room_of_shaped (hs _ hm) hu)
    have e : decide (∃ d, d ∈ ds ∧ (∃ as, Reads s.heap v d as) ∧ PyData.eqv d dx = true) = PyData.eqv ds[i] dx := by
      by_cases q : PyData.eqv ds[i] dx = true
      · rw [q]; exact decide_eq_true ⟨_, hm, ⟨as, rv⟩, q⟩
      · have q' : PyData.eqv ds[i] dx = false := by simpa using q
        rw [q']
        refine decide_eq_false ?_
        rintro ⟨d, hd, ⟨as', rd⟩, qd⟩
        have := (Reads.unique rv d as' rd).1
        rw [← this] at qd; exact q qd
    rw [← e] at key; exact key
  · induction vs generalizing ds with
    | nil => have := r.length; cases ds with | nil => rfl | cons => simp at this
    | cons v vs ih =>
      cases ds with
      | nil => have := r.length; simp at this
      | cons d ds =>
        have r1 := r.inv.1
        obtain ⟨as, rv, _⟩ := r1
        rw [Bool.eq_iff_iff]
        simp only [List.any_eq_true, decide_eq_true_eq]
        constructor
        · rintro ⟨y, hy, d', hd', ⟨as', rd⟩, q⟩
          exact ⟨d', hd', q⟩
        · rintro ⟨d', hd', q⟩
          obtain ⟨i, hi⟩ := List.mem_iff_getElem?.mp hd'
          obtain ⟨v', hv', ⟨as', rv', _⟩⟩ := r.get hi
          exact ⟨v', List.mem_iff_getElem?.mpr ⟨i, hv'⟩, d', hd', ⟨as', rv'⟩, q⟩
theorem cmp_inL {x : PyData} {ds : List PyData} (hs : ∀ d ∈ ds, SeqAt.shaped d = true) (hx : SeqAt.shaped x = true) : Cmp G C .In x (.list ds) (ds.any fun d => PyData.eqv d x) := fun V s Q E u v q ru rv h => by
  obtain ⟨a, vs, rfl, hl, _, r⟩ := rv.list_inv
  obtain ⟨e, h1, h2⟩ := eqs_of q.units1 r ru hs hx
  refine SeqAt.in_listAt e hl h1 ?_
  rw [List.any_toArray, h2]; exact h _ (.refl ..)
theorem cmp_notInL {x : PyData} {ds : List PyData} (hs : ∀ d ∈ ds, SeqAt.shaped d = true) (hx : SeqAt.shaped x = true) : Cmp G C .NotIn x (.list ds) (!ds.any fun d => PyData.eqv d x) := fun V s Q E u v q ru rv h => by
  obtain ⟨a, vs, rfl, hl, _, r⟩ := rv.list_inv
  obtain ⟨e, h1, h2⟩ := eqs_of q.units1 r ru hs hx
  refine SeqAt.notIn_listAt e hl h1 ?_
  rw [List.any_toArray, h2]; exact h _ (.refl ..)
theorem cmp_inT {x : PyData} {ds : List PyData} (hs : ∀ d ∈ ds, SeqAt.shaped d = true) (hx : SeqAt.shaped x = true) : Cmp G C .In x (.tuple ds) (ds.any fun d => PyData.eqv d x) := fun V s Q E u v q ru rv h => by
  obtain ⟨a, vs, rfl, hl, r⟩ := rv.tuple_inv
  obtain ⟨e, h1, h2⟩ := eqs_of q.units1 r ru hs hx
  refine SeqAt.in_tupleAt e hl h1 ?_
  rw [List.any_toArray, h2]; exact h _ (.refl ..)
theorem cmp_inS {x y : Str} : Cmp G C .In (.str y) (.str x) (!(Builtin.Str.occurrences x y 0 x.length 1).isEmpty) := fun V s Q E u v q ru rv h => by
  obtain ⟨t, rfl⟩ := ru.str_inv; obtain ⟨t', rfl⟩ := rv.str_inv
  exact PyProof.Rows.in_str (h _ (.refl ..))
theorem cmp_notInS {x y : Str} : Cmp G C .NotIn (.str y) (.str x) (!(!(Builtin.Str.occurrences x y 0 x.length 1).isEmpty)) := fun V s Q E u v q ru rv h => by
  obtain ⟨t, rfl⟩ := ru.str_inv; obtain ⟨t', rfl⟩ := rv.str_inv
  exact PyProof.Rows.notIn_str (h _ (.refl ..))

/-- tests -/
theorem tr_not {e : Expr} {pos : Pos} {b : Bool} (x : Tr G C V e b) : Tr G C V (.UnaryOp .Not e pos) (!b) := fun s Q E q h => wpAny_isTrue_Not (x s _ E q fun s' k => h s' k)
noncomputable def TrL (G : TopC) (C : Cx) (V : List (Option VV)) (op : BoolOp) (es : List Expr) (b : Bool) : Prop :=
  ∀ (s : Shared) (Q : Bool → Shared → Prop) (E : Value → Shared → Prop), St G C V s → (∀ s', Kp G s s' → Q b s') → wpAny (model G.prog G.w) C.A (allTrue op es C.env) Q E s
theorem tr_bool {op : BoolOp} {es : List Expr} {pos : Pos} {b : Bool} (x : TrL G C V op es b) : Tr G C V (.BoolOp op es pos) b := fun s Q E q h => wpAny_isTrue_BoolOp (x s Q E q h)
theorem trL_andNil : TrL G C V .And [] true := fun s Q E q h => wpAny_allTrue_And_nil (h _ (.refl ..))
theorem trL_orNil : TrL G C V .Or [] false := fun s Q E q h => wpAny_allTrue_Or_nil (h _ (.refl ..))
theorem trL_and {e : Expr} {es : List Expr} {a b : Bool} (x : Tr G C V e a) (y : a = true → TrL G C V .And es b) : TrL G C V .And (e :: es) (a && b) := fun s Q E q h =>
  wpAny_allTrue_And_cons (x s _ E q fun s' k => by
    cases a with
    | true => exact y rfl s' Q E (q.keeps k) fun s'' k' => h _ (k.trans k')
    | false => exact h _ k)
theorem trL_or {e : Expr} {es : List Expr} {a b : Bool} (x : Tr G C V e a) (y : a = false → TrL G C V .Or es b) : TrL G C V .Or (e :: es) (a || b) := fun s Q E q h =>
  wpAny_allTrue_Or_cons (x s _ E q fun s' k => by
    cases a with
    | true => exact h _ k
    | false => exact y rfl s' Q E (q.keeps k) fun s'' k' => h _ (k.trans k'))
/-- a value that is a bool, as a test -/
theorem tr_ev {e : Expr} {b : Bool} (x : Ev G C V e (.bool b)) (he : ∀ env whole, isTrue e env whole = (do let v ← whole; standAt e.pos; holding [v] (truthy v)) := by intro _ _; rfl) : Tr G C V e b := fun s Q E q h =>
  wpAny_isTrue_value (x s _ E q fun v s' k r => by cases r.bool_inv; exact wpAny_truthy_bool (h s' k)) (he _ _)
theorem tr_str {e : Expr} {l : List Nat} (x : Ev G C V e (.str (S l))) (hl : l.length < 1000000) (he : ∀ env whole, isTrue e env whole = (do let v ← whole; standAt e.pos; holding [v] (truthy v)) := by intro _ _; rfl) : Tr G C V e (!l.isEmpty) := fun s Q E q h =>
  wpAny_isTrue_value (x s _ E q fun v s' k r => by
    obtain ⟨t, rfl⟩ := r.str_inv
    refine P.truthy_str (by rw [S_len]; omega) ?_
    have e : (((S l).length : Int) != 0) = !l.isEmpty := by rw [S_len]; cases l <;> simp; omega
    rw [e]
    exact h _ (k.trans (Kp.of_toks G _))) (he _ _)
theorem ev_ifexp {t b o : Expr} {pos : Pos} {c : Bool} {d : PyData} (x : Tr G C V t c) (y : c = true → Ev G C V b d) (z : c = false → Ev G C V o d) : Ev G C V (.IfExp t b o pos) d := fun s Q E q h =>
  wpAny_IfExp (x s _ E q fun s' k => by
    cases c with
    | true => exact y rfl s' Q E (q.keeps k) fun v s'' k' r => h _ _ (k.trans k') r
    | false => exact z rfl s' Q E (q.keeps k) fun v s'' k' r => h _ _ (k.trans k') r)
theorem ev_neg {e : Expr} {pos : Pos} {i : Int} (x : Ev G C V e (.int i)) : Ev G C V (.UnaryOp .USub e pos) (.int (-i)) := fun s Q E q h =>
  wpAny_UnaryOp (x s _ E q fun v s' k r => by
    obtain ⟨t, rfl⟩ := r.int_inv
    exact P.neg_int (h _ _ (k.trans (Kp.of_toks G _)) (.int _ _)))
theorem ev_notB {e : Expr} {pos : Pos} {b : Bool} (x : Ev G C V e (.bool b)) : Ev G C V (.UnaryOp .Not e pos) (.bool (!b)) := fun s Q E q h =>
  wpAny_UnaryOp (x s _ E q fun v s' k r => by
    cases r.bool_inv
    exact wpAny_bind (wpAny_truthy_bool (wpAny_pure (h _ _ k (.bool _)))))
/-- and | or of bools, as values -/
noncomputable def EvB (G : TopC) (C : Cx) (V : List (Option VV)) (pos : Pos) (op : BoolOp) (es : List Expr) (b : Bool) : Prop :=
  ∀ (s : Shared) (Q E : Value → Shared → Prop), St G C V s → (∀ s', Kp G s s' → Q (.bool b) s') → wpAny (model G.prog G.w) C.A (boolOp pos op (evalEach es C.env)) Q E s
theorem ev_boolop {op : BoolOp} {es : List Expr} {pos : Pos} {b : Bool} (x : EvB G C V pos op es b) : Ev G C V (.BoolOp op es pos) (.bool b) := fun s Q E q h =>
  x s Q E q fun s' k => h _ _ k (.bool _)
theorem evB_one {op : BoolOp} {e : Expr} {pos : Pos} {b : Bool} (x : Ev G C V e (.bool b)) : EvB G C V pos op [e] b := fun s Q E q h =>
  x s Q E q fun v s' k r => by cases r.bool_inv; exact h _ k
theorem evB_and {e e' : Expr} {es : List Expr} {pos : Pos} {a b : Bool} (x : Ev G C V e (.bool a)) (y : a = true → EvB G C V pos .And (e' :: es) b) : EvB G C V pos .And (e :: e' :: es) (a && b) := fun s Q E q h => by
  show wpAny _ _ (eval e C.env >>= fun v => standAt pos >>= fun _ => holding [v] (truthy v) >>= fun t => match BoolOp.And, t with | .And, false | .Or, true => pure v | _, _ => boolOp pos .And (evalEach (e' :: es) C.env)) _ _ _
  refine wpAny_bind (x s _ E q fun v s' k r => ?_)
  cases r.bool_inv
  refine wpAny_bind (wpAny_standAt (wpAny_bind (wpAny_holding (wpAny_truthy_bool ?_))))
  cases a with
  | true => exact y rfl s' Q E (q.keeps k) fun s'' k' => h _ (k.trans k')
  | false => exact wpAny_pure (h _ k)
theorem evB_or {e e' : Expr} {es : List Expr} {pos : Pos} {a b : Bool} (x : Ev G C V e (.bool a)) (y : a = false → EvB G C V pos .Or (e' :: es) b) : EvB G C V pos .Or (e :: e' :: es) (a || b) := fun s Q E q h => by
  show wpAny _ _ (eval e C.env >>= fun v => standAt pos >>= fun _ => holding [v] (truthy v) >>= fun t => match BoolOp.Or, t with | .And, false | .Or, true => pure v | _, _ => boolOp pos .Or (evalEach (e' :: es) C.env)) _ _ _
  refine wpAny_bind (x s _ E q fun v s' k r => ?_)
  cases r.bool_inv
  refine wpAny_bind (wpAny_standAt (wpAny_bind (wpAny_holding (wpAny_truthy_bool ?_))))
  cases a with
  | false => exact y rfl s' Q E (q.keeps k) fun s'' k' => h _ (k.trans k')
  | true => exact wpAny_pure (h _ k)
end
end
section

variable {G : TopC} {C : Cx} {V : List (Option VV)}

/-- a subscript whose place is no slice -/
theorem ev_sub {v i : Expr} {pos : Pos} {a b d : PyData} (x : Ev G C V v a) (y : Ev G C V i b)
    (h : ∀ (s : Shared) (Q E : Value → Shared → Prop) u k, St G C V s → Rd C.bad s.heap u a → Rd C.bad s.heap k b → (∀ r s', Kp G s s' → Rd C.bad s'.heap r d → Q r s') →
      wpAny (model G.prog G.w) C.A (subscriptTail v i u k) Q E s) : Ev G C V (.Subscript v i pos) d := fun s Q E q k =>
  Subscript_ (x s _ E q fun u s1 k1 r1 => y s1 _ E (q.keeps k1) fun w s2 k2 r2 => h s2 Q E u w ((q.keeps k1).keeps k2) (r1.sim k2.heap) r2 fun r s' k3 r3 => k r s' ((k1.trans k2).trans k3) r3)

theorem seqIndex_nat {k : Int} {n : Nat} (h0 : 0 ≤ k) (h1 : k.toNat < n) : seqIndex? k n = some k.toNat := by
  unfold seqIndex?
  have e : ¬ k < 0 := by omega
  simp only [e, if_false]
  rw [if_pos]
  simp only [Bool.and_eq_true, decide_eq_true_eq]
  omega

theorem ev_idxS {v i : Expr} {pos : Pos} {l : List Nat} {k : Int} {c : Nat} (x : Ev G C V v (.str (S l))) (y : Ev G C V i (.int k)) (h0 : 0 ≤ k) (hk : k < 1000000) (hc : l[k.toNat]? = some c)
    (hs : ∀ o j, subscripted i false o j = operate [o, j] (getItem o j) := by intro _ _; rfl) : Ev G C V (.Subscript v i pos) (.str (S [c])) := ev_sub x y fun s Q E u w q ru rw' h => by
  obtain ⟨t, rfl⟩ := ru.str_inv; obtain ⟨t', rfl⟩ := rw'.int_inv
  have hlt : k.toNat < l.length := (List.getElem?_eq_some_iff.mp hc).1
  refine tail_any (typeIs_str _ _ _) slot_str_getitem.lookup (PyProof.Rows.getItem_str (c := c) ?_ ?_ (h _ _ (Kp.of_toks G _) (.str _ _))) (hs _ _)
  · simp only [Bool.or_eq_false_iff, decide_eq_false_iff_not]; omega
  · rw [S_len, seqIndex_nat h0 hlt]
    simp [S, hc]
theorem ev_idxL {v i : Expr} {pos : Pos} {l : List PyData} {k : Int} {d : PyData} (x : Ev G C V v (.list l)) (y : Ev G C V i (.int k)) (h0 : 0 ≤ k) (hk : k < 1000000) (hc : l[k.toNat]? = some d)
    (hs : ∀ o j, subscripted i false o j = operate [o, j] (getItem o j) := by intro _ _; rfl) : Ev G C V (.Subscript v i pos) d := ev_sub x y fun s Q E u w q ru rw' h => by
  obtain ⟨a, vs, rfl, hl, _, r⟩ := ru.list_inv; obtain ⟨t', rfl⟩ := rw'.int_inv
  obtain ⟨v', hv, rv⟩ := r.get hc
  exact tail_any hl.typeIs slot_list_getitem.lookup (wpAny_getItem_list hl h0 (by omega) (by simpa using hv) (h _ _ (.refl ..) rv)) (hs _ _)
theorem ev_idxT {v i : Expr} {pos : Pos} {l : List PyData} {k : Int} {d : PyData} (x : Ev G C V v (.tuple l)) (y : Ev G C V i (.int k)) (h0 : 0 ≤ k) (hk : k < 1000000) (hc : l[k.toNat]? = some d)
    (hs : ∀ o j, subscripted i false o j = operate [o, j] (getItem o j) := by intro _ _; rfl) : Ev G C V (.Subscript v i pos) d := ev_sub x y fun s Q E u w q ru rw' h => by
  obtain ⟨a, vs, rfl, hl, r⟩ := ru.tuple_inv; obtain ⟨t', rfl⟩ := rw'.int_inv
  obtain ⟨v', hv, rv⟩ := r.get hc
  have hlt : k.toNat < vs.length := by rw [r.length]; exact (List.getElem?_eq_some_iff.mp hc).1
  exact item_tupleT hl (by omega) (by omega) (seqIndex_nat h0 hlt) hv (h _ _ (.refl ..) rv) (hs _ _)

/-- a slice's bound -/
noncomputable def EvP (G : TopC) (C : Cx) (V : List (Option VV)) : Option Expr → Option Int → Prop
  | none, none => True
  | some e, some i => Ev G C V e (.int i)
  | _, _ => False
theorem evP_wp {oe : Option Expr} {oi : Option Int} (x : EvP G C V oe oi) {s : Shared} {Q E : Value → Shared → Prop} (q : St G C V s) (h : ∀ v s', Kp G s s' → IsPart v oi → Q v s') :
    wpAny (model G.prog G.w) C.A (evalPart oe C.env) Q E s := by
  cases oe with
  | none => cases oi with
    | none => exact wpAny_pure (h _ _ (.refl ..) .none)
    | some i => exact x.elim
  | some e => cases oi with
    | none => exact x.elim
    | some i => exact x s _ E q fun v s' k r => by obtain ⟨t, rfl⟩ := r.int_inv; exact h _ _ k (.int _ _)
theorem part_val {v : Value} {o : Option Int} (h : IsPart v o) : ∃ l : Option (Int × Tok), v = partValue l ∧ l.map (·.1) = o := by
  cases h with
  | none => exact ⟨none, rfl, rfl⟩
  | int i t => exact ⟨some (i, t), rfl, rfl⟩
noncomputable def pick {α : Type} (l : List α) (lo hi : Option Int) : List α := (l.drop (PySem.W.kms_lo lo l.length)).take (PySem.W.kms_hi hi l.length - PySem.W.kms_lo lo l.length)
theorem strPick (l : List Nat) (lo hi : Option Int) : (Builtin.Str.strSliceIndices lo hi 1 (S l).length).filterMap ((S l).cps[·]?) = pick l lo hi := by
  have e : Builtin.Str.strSliceIndices lo hi 1 (S l).length = sliceRange (sliceBounds lo hi none (S l).length).1 (sliceBounds lo hi none (S l).length).2.1 1 := rfl
  rw [e, PySem.W.kms_bounds]
  dsimp only
  rw [sliceRange_one, pick_run, S_len]
  simp [pick]
theorem pick_length_le {α : Type} (l : List α) (lo hi : Option Int) : (pick l lo hi).length ≤ l.length := by
  unfold pick
  simp only [List.length_take, List.length_drop]
  omega
theorem ev_sliceS {v : Expr} {lo hi : Option Expr} {p pos : Pos} {l : List Nat} {a b : Option Int} (x : Ev G C V v (.str (S l))) (y : EvP G C V lo a) (z : EvP G C V hi b) (hz : l.length ≤ sizeLine) :
    Ev G C V (.Subscript v (.Slice lo hi none p) pos) (.str (S (pick l a b))) := fun s Q E q h =>
  Subscript_ (x s _ E q fun u s1 k1 r1 => wpAny_Slice (evP_wp y (q.keeps k1) fun vl s2 k2 p2 => evP_wp z ((q.keeps k1).keeps k2) fun vu s3 k3 p3 => wpAny_pure (by
    obtain ⟨t, rfl⟩ := r1.str_inv
    obtain ⟨pl, rfl, el⟩ := part_val p2
    obtain ⟨pu, rfl, eu⟩ := part_val p3
    have kk := ((k1.trans k2).trans k3).trans (Kp.of_push G s3.toks { cls := .type "slice", data := .fields #[partValue pl, partValue pu, .none] })
    refine tail_any (typeIs_str _ _ _) slot_str_getitem.lookup (wpAny_getItem_str_slice (l := pl) (u := pu) (st := none) ⟨_, Heap.get?_push_size _ rfl, rfl, rfl⟩ rfl ?_) (ops := [.ref s3.heap.objs.size, .str (S l) t]) rfl
    have e : (slicePicked (S l) pl pu none).filterMap ((S l).cps[·]?) = pick l a b := by
      show (Builtin.Str.strSliceIndices (pl.map (·.1)) (pu.map (·.1)) 1 (S l).length).filterMap ((S l).cps[·]?) = _
      rw [el, eu]; exact strPick l a b
    unfold sliceMade
    split
    · rename_i hc
      simp only [Bool.and_eq_true, beq_iff_eq] at hc
      have hlen : (Builtin.Str.strSliceIndices a b 1 (S l).length).length = l.length := by
        have := hc.2
        rw [S_len] at this
        rw [← el, ← eu]; exact this
      have e' : Builtin.Str.strSliceIndices a b 1 (S l).length = sliceRange (sliceBounds a b none (S l).length).1 (sliceBounds a b none (S l).length).2.1 1 := rfl
      rw [e', PySem.W.kms_bounds] at hlen
      dsimp only at hlen
      rw [sliceRange_one, S_len] at hlen
      simp only [List.length_map, List.length_range] at hlen
      have this : pick l a b = l := by
        have hle : PySem.W.kms_hi b l.length ≤ l.length := by unfold PySem.W.kms_hi; split <;> (try split) <;> omega
        unfold pick
        rw [hlen]
        by_cases hn : l.length = 0
        · have : l = [] := List.eq_nil_of_length_eq_zero hn
          subst this; simp
        · have : PySem.W.kms_lo a l.length = 0 := by omega
          rw [this]; simp
      show Q (.str (S l) t) _
      have rr := h (.str (S l) t) _ kk (this.symm ▸ Rd.str (bad := C.bad) (S l) t)
      exact rr
    · rw [e]
      show (S (pick l a b)).length ≤ sizeLine ∧ _
      exact ⟨by rw [S_len]; exact Nat.le_trans (pick_length_le l a b) hz, h _ _ (kk.trans (Kp.of_toks G _)) (.str _ _)⟩)))

theorem pick_map {α β : Type} (f : α → β) (l : List α) (lo hi : Option Int) : (pick l lo hi).map f = pick (l.map f) lo hi := by simp [pick, List.map_take, List.map_drop]
theorem rdAll_drop {bad : Addr → Prop} {h : Heap} : ∀ {vs : List Value} {ds : List PyData} (n : Nat), RdAll bad h vs ds → RdAll bad h (vs.drop n) (ds.drop n)
  | [], ds, n, r => by have := r.length; cases ds with | nil => simpa using r | cons => simp at this
  | v :: vs, ds, 0, r => r
  | v :: vs, [], n + 1, r => by have := r.length; simp at this
  | v :: vs, d :: ds, n + 1, r => rdAll_drop n r.inv.2
theorem rdAll_take {bad : Addr → Prop} {h : Heap} : ∀ {vs : List Value} {ds : List PyData} (n : Nat), RdAll bad h vs ds → RdAll bad h (vs.take n) (ds.take n)
  | [], ds, n, r => by have := r.length; cases ds with | nil => simpa using r | cons => simp at this
  | v :: vs, ds, 0, r => by simp only [List.take_zero]; exact .nil
  | v :: vs, [], n + 1, r => by have := r.length; simp at this
  | v :: vs, d :: ds, n + 1, r => .cons r.inv.1 (rdAll_take n r.inv.2)
theorem rdAll_pick {bad : Addr → Prop} {h : Heap} {vs : List Value} {ds : List PyData} (lo hi : Option Int) (r : RdAll bad h vs ds) : RdAll bad h (pick vs lo hi) (pick ds lo hi) := by
  unfold pick
  rw [r.length]
  exact rdAll_take _ (rdAll_drop _ r)
theorem ev_sliceL {v : Expr} {lo hi : Option Expr} {p pos : Pos} {l : List PyData} {a b : Option Int} (x : Ev G C V v (.list l)) (y : EvP G C V lo a) (z : EvP G C V hi b) (hz : l.length ≤ sizeLine) :
    Ev G C V (.Subscript v (.Slice lo hi none p) pos) (.list (pick l a b)) := fun s Q E q h =>
  Subscript_ (x s _ E q fun u s1 k1 r1 => wpAny_Slice (evP_wp y (q.keeps k1) fun vl s2 k2 p2 => evP_wp z ((q.keeps k1).keeps k2) fun vu s3 k3 p3 => wpAny_pure (by
    have kk := ((k1.trans k2).trans k3).trans (Kp.of_push G s3.toks { cls := .type "slice", data := .fields #[vl, vu, .none] })
    have r2 := r1.sim (((k2.trans k3).trans (Kp.of_push G s3.toks { cls := .type "slice", data := .fields #[vl, vu, .none] })).heap)
    obtain ⟨D, vs, rfl, hl, hb, r⟩ := r2.list_inv
    have q' := q.keeps kk
    refine tail_any hl.typeIs slot_list_getitem.lookup (wpAny_getItem_list_slice hl (lo := a) (hi := b) (st := none) ⟨_, Heap.get?_push_size _ rfl, rfl, rfl⟩ p2 p3 .none (by simp) ?_ (by rw [List.size_toArray, r.length]; exact hz)) (ops := [.ref s3.heap.objs.size, .ref D]) rfl
    refine h _ _ (kk.trans (Kp.of_push G _ _)) ?_
    rw [PySem.W.kms_pick_eq]
    have e : PySem.W.kms_pick vs.toArray.toList a b = pick vs a b := rfl
    rw [e]
    exact .list (push_lst _ _) (q'.new (get_size _)) ((rdAll_pick a b r).sim (.of_keeps fun _ _ e => Heap.get?_push_of_some _ e)))))
/-- the whole, from behind -/
theorem ev_rev {v st : Expr} {p pos : Pos} {l : List PyData} (x : Ev G C V v (.list l)) (y : Ev G C V st (.int (-1))) (hz : l.length ≤ sizeLine) :
    Ev G C V (.Subscript v (.Slice none none (some st) p) pos) (.list l.reverse) := fun s Q E q h =>
  Subscript_ (x s _ E q fun u s1 k1 r1 => wpAny_Slice (wpAny_pure (wpAny_pure (y s1 _ E (q.keeps k1) fun vs3 s3 k3 r3 => (by
    obtain ⟨tt, rfl⟩ := r3.int_inv
    have kk := (k1.trans k3).trans (Kp.of_push G s3.toks { cls := .type "slice", data := .fields #[.none, .none, .int (-1) tt] })
    have r2 := r1.sim ((k3.trans (Kp.of_push G s3.toks { cls := .type "slice", data := .fields #[.none, .none, .int (-1) tt] })).heap)
    obtain ⟨D, vs, rfl, hl, hb, r⟩ := r2.list_inv
    have q' := q.keeps kk
    refine tail_any hl.typeIs slot_list_getitem.lookup (wpAny_getItem_list_slice hl (lo := none) (hi := none) (st := some (-1)) ⟨_, Heap.get?_push_size _ rfl, rfl, rfl⟩ .none .none (.int _ _) (by simp) ?_ (by rw [List.size_toArray, r.length]; exact hz)) (ops := [.ref D, .ref s3.heap.objs.size]) (by rfl)
    refine h _ _ (kk.trans (Kp.of_push G _ _)) ?_
    rw [PySem.W.krv_pick]
    refine .list (push_lst _ _) (q'.new (get_size _)) ((?_ : RdAll C.bad _ vs.reverse l.reverse).sim (.of_keeps fun _ _ e => Heap.get?_push_of_some _ e))
    have key : ∀ {vs : List Value} {ds : List PyData}, RdAll C.bad (s3.heap.push { cls := .type "slice", data := .fields #[.none, .none, .int (-1) tt] }) vs ds → RdAll C.bad (s3.heap.push { cls := .type "slice", data := .fields #[.none, .none, .int (-1) tt] }) vs.reverse ds.reverse := by
      intro vs ds r
      induction vs generalizing ds with
      | nil => have := r.length; cases ds with | nil => exact .nil | cons => simp at this
      | cons v vs ih =>
        cases ds with
        | nil => have := r.length; simp at this
        | cons d ds => rw [List.reverse_cons, List.reverse_cons]; exact (ih r.inv.2).append (.cons r.inv.1 .nil)
    exact key r)))))

/-- list arithmetic -/
theorem ev_addL {l r : Expr} {pos : Pos} {a b : List PyData} (x : Ev G C V l (.list a)) (y : Ev G C V r (.list b)) (hz : a.length + b.length ≤ sizeLine) : Ev G C V (.BinOp l .Add r pos) (.list (a ++ b)) := ev_bin x y fun s Q E u v q ru rv h => by
  obtain ⟨A1, vs, rfl, hl, _, ra⟩ := ru.list_inv
  obtain ⟨A2, ws, rfl, hl2, _, rb⟩ := rv.list_inv
  obtain ⟨⟨c1, d1, t1, sl1⟩, ho1, e1, n1, f1⟩ := hl
  obtain ⟨⟨c2, d2, t2, sl2⟩, ho2, e2, n2, f2⟩ := hl2
  dsimp only at e1 f1 e2 f2
  subst e1 f1 e2 f2
  have hzz : vs.toArray.size + ws.toArray.size ≤ sizeLine := by simpa [ra.length, rb.length] using hz
  refine concat_meets ⟨_, ho1, rfl⟩ ⟨_, ho2, rfl⟩ noFill_list_add seq_list_add PySem.F.slot_list_add PySem.F.entry_list_add (PySem.F.args_list_add_2 _ _) (list_addW A1 A2 vs.toArray ws.toArray n1 n2 d1 d2 sl1 sl2 hzz) ⟨ho1, ho2, ?_⟩
  rw [show vs.toArray ++ ws.toArray = (vs ++ ws).toArray by simp]
  exact h _ _ (Kp.of_push G _ _) (.list (push_lst _ _) (q.new (get_size _)) ((ra.append rb).sim (.of_keeps fun _ _ e => Heap.get?_push_of_some _ e)))
theorem rdAll_rep {bad : Addr → Prop} {h : Heap} {vs : List Value} {ds : List PyData} (r : RdAll bad h vs ds) : ∀ n : Nat, RdAll bad h (List.replicate n vs).flatten (List.replicate n ds).flatten
  | 0 => .nil
  | n + 1 => by rw [List.replicate_succ, List.replicate_succ, List.flatten_cons, List.flatten_cons]; exact r.append (rdAll_rep r n)
theorem ev_mulL {l r : Expr} {pos : Pos} {a : List PyData} {n : Int} (x : Ev G C V l (.list a)) (y : Ev G C V r (.int n)) (h0 : 0 ≤ n) (hn : n < 100000) (ha : a.length ≤ 100) :
    Ev G C V (.BinOp l .Mult r pos) (.list (List.replicate n.toNat a).flatten) := ev_bin x y fun s Q E u v q ru rv h => by
  obtain ⟨A1, vs, rfl, hl, _, ra⟩ := ru.list_inv
  obtain ⟨tn, rfl⟩ := rv.int_inv
  obtain ⟨⟨c1, d1, t1, sl1⟩, ho1, e1, n1, f1⟩ := hl
  dsimp only at e1 f1
  subst e1 f1
  have hvl : vs.length ≤ 100 := by rw [ra.length]; exact ha
  have hsz : vs.length * n.toNat ≤ 10000000 := Nat.le_trans (Nat.mul_le_mul hvl (show n.toNat ≤ 100000 by omega)) (by decide)
  have hsz' : vs.toArray.size * n.toNat ≤ 10000000 := by simpa using hsz
  refine wpAny_binaryOp_repeat_ref (T := "list") (U := "int") (by decide) ⟨_, ho1, rfl⟩ (fun s' => typeIs_int s' n tn) noFill_list_mul PySem.F.fills_int_mul PySem.F.slot_int_rmul repeat_list PySem.F.slot_int_index.lookup
    (call_meets PySem.F.slot_int_rmul (typeIs_int s n tn) PySem.F.entry_int_rmul (PySem.F.args_int_rmul_2 _ _) (lm_int_rmul_list_any n tn A1 vs.toArray n1 d1 sl1)
      ⟨ho1, rfl, ⟨_, ho1, rfl⟩, call_meets PySem.F.slot_list_mul ⟨_, ho1, rfl⟩ PySem.F.entry_list_mul (PySem.F.args_list_mul_2 _ _)
        (lm_list_mul_any A1 vs.toArray n1 d1 sl1 n tn ?_ ?_ ?_) ⟨ho1, ?_⟩⟩)
  · simp only [Builtin.List.listFitsIndex, Bool.not_eq_true', Bool.not_eq_false]
    simp; omega
  · omega
  · simp only [Builtin.List.listTooLong, sizeLine, decide_eq_true_eq, gt_iff_lt, Nat.not_lt]; exact Nat.le_trans hsz' (by decide)
  · rw [listMul_foldl_if]
    exact h _ _ (Kp.of_push G _ _) (.list (push_lst _ _) (q.new (get_size _)) ((rdAll_rep ra n.toNat).sim (.of_keeps fun _ _ e => Heap.get?_push_of_some _ e)))
end
section

/-! calls -/
variable (G : TopC)
/-- the def at fa, called with what reads as args, yields what reads as d; all else is kept -/
noncomputable def Fn (fa : Addr) (n : Nat) (args : List PyData) (d : PyData) : Prop :=
  ∀ (A : Around) (bad : Addr → Prop) (s : Shared) (vs : List Value) (Q E : Value → Shared → Prop), AOk n A → Ok G A s → (∀ b, bad b → ∃ o, Plain o ∧ s.heap.get? b = some o) → RdAll bad s.heap vs args →
    (∀ v s', Kp G s s' → Rd bad s'.heap v d → Q v s') → wpAny (model G.prog G.w) A (call (.ref fa) vs) Q E s
/-- the name f is the def fd at fa -/
noncomputable def FnIs (f : Str) (fa : Addr) (fd : FuncData) : Prop := G.mg f = some (.ref fa) ∧ (∃ o, G.hT.get? fa = some o ∧ o.data = .func fd) ∧ G.hT.CodeRec fd.code fd.qualname

theorem AOk.mono {n m : Nat} {A : Around} (h : AOk n A) (l : m ≤ n) : AOk m A := ⟨h.1, by have := h.2.1; omega, by have := h.2.2; omega⟩
variable {G} {C : Cx} {V : List (Option VV)}

theorem St.glob {s : Shared} (q : St G C V s) : s.heap.Ns C.env.globals G.mg := by rw [q.cx.glob]; exact q.ok.g.ns.keeps fun b o e => q.ok.top b o e
theorem St.blt {s : Shared} (q : St G C V s) : s.heap.Ns C.env.builtins G.mb := by rw [q.cx.blt]; exact q.ok.g.bns.keeps fun b o e => q.ok.top b o e
theorem globName {s : Shared} (q : St G C V s) {x : Str} {pos : Pos} {v : Value} {Q E : Value → Shared → Prop} (hk : C.env.kindOf x = some .globalImplicit) (hd : (x == ("__debug__" : Str)) = false) (hm : G.mg x = some v) (h : Q v s) :
    wpAny (model G.prog G.w) C.A (eval (.Name x pos) C.env) Q E s := Name_function_global q.cx.kind hk (loadGlobal_global q.glob hm h) hd
theorem bltName {s : Shared} (q : St G C V s) {x : Str} {pos : Pos} {v : Value} {Q E : Value → Shared → Prop} (hk : C.env.kindOf x = some .globalImplicit) (hd : (x == ("__debug__" : Str)) = false) (hm : G.mg x = none) (hb : G.mb x = some v) (h : Q v s) :
    wpAny (model G.prog G.w) C.A (eval (.Name x pos) C.env) Q E s := Name_function_global q.cx.kind hk (loadGlobal_builtin q.glob hm q.blt hb h) hd

/-- f(e, ..) -/
theorem ev_call {f : Str} {fp pos : Pos} {e : Expr} {es : List Expr} {fa : Addr} {fd : FuncData} {ds : List PyData} {d : PyData} {n : Nat} (hf : FnIs G f fa fd) (hk : C.env.kindOf f = some .globalImplicit) (x : EvL G C V (e :: es) ds)
    (F : Fn G fa n ds d) (hn : n ≤ C.n) (hd : (f == ("__debug__" : Str)) = false := by decide) (hs : ∀ env, starEach (e :: es) env = (false, eval e env) :: starEach es env := by intro _; rfl) : Ev G C V (.Call (.Name f fp) (e :: es) [] pos) d := fun s Q E q h => by
  obtain ⟨hm, ⟨o, ho, hdat⟩, _⟩ := hf
  have hb : backTo pos (starEach (e :: es) C.env) = (false, eval e C.env) :: backTo pos (starEach es C.env) := by rw [hs]; rfl
  refine Call_ (globName q hk hd hm ?_)
  rw [hb]
  refine callWith_function (o := o) (fd := fd) (evalArgs_plain ?_)
  rw [← hb]
  exact x pos s _ E q fun vs s1 k1 r => ⟨⟨(q.keeps k1).ok.top _ _ ho, hdat⟩, F C.A C.bad s1 vs Q E (q.a.mono hn) (q.keeps k1).ok (q.keeps k1).bad r fun v s' k2 r2 => h v s' (k1.trans k2) r2⟩
/-- f() -/
theorem ev_call0 {f : Str} {fp pos : Pos} {fa : Addr} {fd : FuncData} {d : PyData} {n : Nat} (hf : FnIs G f fa fd) (hk : C.env.kindOf f = some .globalImplicit) (F : Fn G fa n [] d) (hn : n ≤ C.n) (hd : (f == ("__debug__" : Str)) = false := by decide) :
    Ev G C V (.Call (.Name f fp) [] [] pos) d := fun s Q E q h => by
  obtain ⟨hm, ⟨o, ho, hdat⟩, _⟩ := hf
  refine Call_ (globName q hk hd hm ?_)
  refine callWith_function (o := o) (fd := fd) ?_
  show wpAny _ _ (evalArgs (.ref fa) true [] []) _ _ _
  refine evalArgs_kw_nil rfl (wpAny_evalAll_nil ?_)
  exact ⟨⟨q.ok.top _ _ ho, hdat⟩, F C.A C.bad s [] Q E (q.a.mono hn) q.ok q.bad .nil h⟩

/-- a built-in function of one argument -/
theorem ev_blt1 {f : Str} {fp pos : Pos} {e : Expr} {id : Value} {a d : PyData} (hk : C.env.kindOf f = some .globalImplicit) (hm : G.mg f = none) (hb : G.mb f = some id) (x : Ev G C V e a)
    (hc : ∀ (s : Shared) (Q E : Value → Shared → Prop), wpAny (model G.prog G.w) C.A (evalArgs id true [(false, eval e C.env)] []) (fun a s₁ => wpAny (model G.prog G.w) C.A (call id a.pos a.kw) Q E s₁) E s → wpAny (model G.prog G.w) C.A (callWith pos id [] [(false, eval e C.env)] []) Q E s)
    (h : ∀ (s : Shared) (Q E : Value → Shared → Prop) (u : Value), St G C V s → Rd C.bad s.heap u a → (∀ r s', Kp G s s' → Rd C.bad s'.heap r d → Q r s') → wpAny (model G.prog G.w) C.A (call id [u]) Q E s)
    (hd : (f == ("__debug__" : Str)) = false := by decide) (hs : ∀ env, starEach [e] env = [(false, eval e env)] := by intro _; rfl) : Ev G C V (.Call (.Name f fp) [e] [] pos) d := fun s Q E q k => by
  refine Call_ (bltName q hk hd hm hb ?_)
  have e' : backTo pos (starEach [e] C.env) = [(false, eval e C.env)] := by rw [hs]; rfl
  rw [e']
  exact hc _ _ _ (evalArgs_plain (spliced_cons (x s _ E q fun u s1 k1 r1 => spliced_nil (h s1 Q E u (q.keeps k1) r1 fun r s' k2 r2 => k r s' (k1.trans k2) r2))))
theorem ev_lenS {fp pos : Pos} {e : Expr} {l : List Nat} (hk : C.env.kindOf (Str.ofString "len") = some .globalImplicit) (hm : G.mg (Str.ofString "len") = none) (hb : G.mb (Str.ofString "len") = some (.builtin "len")) (x : Ev G C V e (.str (S l))) (hz : l.length < 1000000)
    (hs : ∀ env, starEach [e] env = [(false, eval e env)] := by intro _; rfl) : Ev G C V (.Call (.Name (Str.ofString "len") fp) [e] [] pos) (.int l.length) :=
  ev_blt1 hk hm hb x (fun _ _ _ h => callWith_builtin rfl h) (fun s Q E u q r h => by
    obtain ⟨t, rfl⟩ := r.str_inv
    refine PyProof.Rows.len_str (by rw [S_len]; omega) ?_
    rw [S_len]
    exact h _ _ (Kp.of_toks G _) (.int _ _)) (by decide) hs
theorem ev_lenL {fp pos : Pos} {e : Expr} {l : List PyData} (hk : C.env.kindOf (Str.ofString "len") = some .globalImplicit) (hm : G.mg (Str.ofString "len") = none) (hb : G.mb (Str.ofString "len") = some (.builtin "len")) (x : Ev G C V e (.list l)) (hz : l.length < 1000000)
    (hs : ∀ env, starEach [e] env = [(false, eval e env)] := by intro _; rfl) : Ev G C V (.Call (.Name (Str.ofString "len") fp) [e] [] pos) (.int l.length) :=
  ev_blt1 hk hm hb x (fun _ _ _ h => callWith_builtin rfl h) (fun s Q E u q r h => by
    obtain ⟨a, vs, rfl, hl, _, r⟩ := r.list_inv
    have e : vs.toArray.size = l.length := by simp [r.length]
    refine PySem.Calls.call_len_list hl (by omega) ?_
    rw [e]
    exact h _ _ (Kp.of_toks G _) (.int _ _)) (by decide) hs
end
section

/-- what a frame may not touch -/
structure Base where
  h : Heap
  gens : Array GenState
  os : OsState
  bad : Addr → Prop

noncomputable abbrev Acc := List (Addr × List PyData)
/-- the frame, with its own growing list among the bad ones -/
@[reducible] noncomputable def Cx.wa (C : Cx) (acc : Acc) : Cx := { C with bad := fun b => C.bad b ∨ b ∈ acc.map (·.1) }
@[simp] theorem wa_env (C : Cx) (acc : Acc) : (C.wa acc).env = C.env := rfl
@[simp] theorem wa_A (C : Cx) (acc : Acc) : (C.wa acc).A = C.A := rfl
@[simp] theorem wa_N (C : Cx) (acc : Acc) : (C.wa acc).N = C.N := rfl
@[simp] theorem wa_n (C : Cx) (acc : Acc) : (C.wa acc).n = C.n := rfl

/-- the frame's own places among the bad ones -/
structure OwnBad (C : Cx) : Prop where
  L : C.bad C.env.locals
  c : ∀ x c, (x, c) ∈ C.own → C.bad c

variable (G : TopC)

structure FS (B : Base) (C : Cx) (V : List (Option VV)) (acc : Acc) (s : Shared) : Prop where
  st : St G (C.wa acc) V s
  base : KpH B.h s.heap
  ownL : B.h.get? C.env.locals = none
  ownC : ∀ x c, (x, c) ∈ C.own → B.h.get? c = none
  ns : ∃ m, s.heap.Ns C.env.locals m
  cs : ∀ x c, (x, c) ∈ C.own → ∃ v, s.heap.IsCell c v
  apart : C.own.Pairwise fun x y => x.2 ≠ y.2
  gens : ∃ gs : Array GenState, s.gens = B.gens ++ gs ∧ ∀ g ∈ gs, g.bare = true
  os : s.os = B.os
  accN : (acc.map (·.1)).Nodup
  accB : ∀ a ds, (a, ds) ∈ acc → ¬ C.bad a
  acc : ∀ a ds, (a, ds) ∈ acc → (∀ o, Plain o → B.h.get? a ≠ some o) ∧ ∃ vs, PlainL s.heap a vs.toArray ∧ RdAll (C.wa acc).bad s.heap vs ds
  obad : ∀ b, B.bad b → C.bad b ∧ ∃ o, Plain o ∧ B.h.get? b = some o
  own : OwnBad C
  hT : G.hT.StaysIn B.h

inductive Out where
  | next | brk
  | ret (d : PyData)
noncomputable def OutIs (bad : Addr → Prop) (h : Heap) : Out → Flow → Prop
  | .next, f => f = .next
  | .brk, f => f = .brk
  | .ret d, f => ∃ v, f = .ret v ∧ Rd bad h v d

noncomputable abbrev Post := Out → List (Option VV) → Acc → Prop
noncomputable def Ex (C : Cx) (V : List (Option VV)) (acc : Acc) (b : List Stmt) (P : Post) : Prop :=
  ∀ (B : Base) (s : Shared) (Q : Flow → Shared → Prop) (E : Value → Shared → Prop), FS G B C V acc s → (∀ o f V' acc' s', P o V' acc' → FS G B C V' acc' s' → OutIs B.bad s'.heap o f → Q f s') →
    wpAny (model G.prog G.w) C.A (execs b C.env) Q E s
noncomputable def Ex1 (C : Cx) (V : List (Option VV)) (acc : Acc) (b : Stmt) (P : Post) : Prop :=
  ∀ (B : Base) (s : Shared) (Q : Flow → Shared → Prop) (E : Value → Shared → Prop), FS G B C V acc s → (∀ o f V' acc' s', P o V' acc' → FS G B C V' acc' s' → OutIs B.bad s'.heap o f → Q f s') →
    wpAny (model G.prog G.w) C.A (exec b C.env) Q E s
/-- behind a statement, the rest -/
noncomputable def Then (C : Cx) (rest : List Stmt) (P : Post) : Post
  | .next, V, acc => Ex G C V acc rest P
  | o, V, acc => P o V acc

section
variable {G} {C : Cx} {V : List (Option VV)} {acc : Acc}
theorem ex_nil {P : Post} (h : P .next V acc) : Ex G C V acc [] P := fun B s Q E q k => wpAny_execs_nil (k .next .next _ _ _ h q rfl)
theorem ex_cons {b : Stmt} {rest : List Stmt} {P : Post} (h : Ex1 G C V acc b (Then G C rest P)) : Ex G C V acc (b :: rest) P := fun B s Q E q k =>
  wpAny_execs_cons (h B s _ E q fun o f V' acc' s' p q' hf => by
    cases o with
    | next => cases hf; exact p B s' Q E q' k
    | brk => cases hf; exact k .brk .brk _ _ _ p q' rfl
    | ret d => obtain ⟨v, rfl, r⟩ := hf; exact k (.ret d) _ _ _ _ p q' ⟨v, rfl, r⟩)
theorem ex_weaken {b : List Stmt} {P P' : Post} (h : Ex G C V acc b P) (hp : ∀ o V' acc', P o V' acc' → P' o V' acc') : Ex G C V acc b P' := fun B s Q E q k =>
  h B s Q E q fun o f V' acc' s' p => k o f V' acc' s' (hp _ _ _ p)
theorem ex1_weaken {b : Stmt} {P P' : Post} (h : Ex1 G C V acc b P) (hp : ∀ o V' acc', P o V' acc' → P' o V' acc') : Ex1 G C V acc b P' := fun B s Q E q k =>
  h B s Q E q fun o f V' acc' s' p => k o f V' acc' s' (hp _ _ _ p)

/-- a frame goes on where all is kept -/
theorem FS.keeps {B : Base} {s s' : Shared} (q : FS G B C V acc s) (k : Kp G s s') : FS G B C V acc s' where
  st := q.st.keeps k
  base := q.base.trans k.heap
  ownL := q.ownL
  ownC := q.ownC
  ns := let ⟨m, h⟩ := q.ns; ⟨m, ns_sim k.heap h⟩
  cs := fun x c hc => let ⟨v, h⟩ := q.cs x c hc; ⟨v, cell_sim k.heap h⟩
  apart := q.apart
  gens := by
    obtain ⟨g1, e1, b1⟩ := q.gens
    obtain ⟨g2, e2, b2⟩ := k.gens
    refine ⟨g1 ++ g2, by rw [e2, e1, Array.append_assoc], fun g hg => ?_⟩
    rcases Array.mem_append.mp hg with h | h
    · exact b1 g h
    · exact b2 g h
  os := k.os.trans q.os
  acc := fun a ds hm => by
    obtain ⟨h1, vs, ⟨o, n, ho, hc, hd, hdt⟩, r⟩ := q.acc a ds hm
    obtain ⟨o', e', s1⟩ := k.heap a o (.of_cls (by rw [hc]; intro q; cases q)) ho
    exact ⟨h1, vs, ⟨o', n, e', s1.1.trans hc, s1.2.1.trans hd, s1.2.2.1.trans hdt⟩, r.sim k.heap⟩
  accN := q.accN
  accB := q.accB
  obad := q.obad
  own := q.own
  hT := q.hT

/-- a heap that is another at one place only, which the base does not hold -/
theorem base_but {B : Base} {h h' : Heap} {a : Addr} (b : KpH B.h h) (ha : B.h.get? a = none) (hs : Heap.SameBut a h h') : KpH B.h h' := fun k o p e => by
  have ne : k ≠ a := fun q => by rw [q, ha] at e; cases e
  obtain ⟨o', e', s'⟩ := b k o p e
  exact ⟨o', (hs.2 k ne).trans e', s'⟩
/-- what reads, reads on where one place alone turns that is no part of it -/
noncomputable def NoTup (o : Obj) : Prop := ¬ (o.cls = .type "tuple" ∧ ∃ vs n, o.data = .seq vs n)
theorem rk_but {h h' : Heap} {a : Addr} {oa : Obj} (ha : h.get? a = some oa) (h1 : NoTup oa) (hs : Heap.SameBut a h h') : RK h h' fun b => b = a := fun b o e n q => by
  refine ⟨o, (hs.2 b fun z => ?_).trans e, rfl, rfl⟩
  subst z
  rw [ha] at e; cases e
  by_cases hc : oa.cls = .type "tuple"
  · rcases q.2 with q | q
    · exact h1 ⟨hc, q⟩
    · exact q.1 hc
  · exact n hc rfl
theorem reads_but {h h' : Heap} {a : Addr} {oa : Obj} (ha : h.get? a = some oa) (h1 : NoTup oa) (hs : Heap.SameBut a h h') {v : Value} {d : PyData} {as : List Addr} (r : Reads h v d as) (n : a ∉ as) : Reads h' v d as := reads_gen (rk_but ha h1 hs) r fun b hb z => n (z ▸ hb)
theorem readsAll_but {h h' : Heap} {a : Addr} {oa : Obj} (ha : h.get? a = some oa) (h1 : NoTup oa) (hs : Heap.SameBut a h h') {v : List Value} {d : List PyData} {as : List Addr} (r : ReadsAll h v d as) (n : a ∉ as) : ReadsAll h' v d as := readsAll_gen (rk_but ha h1 hs) r fun b hb z => n (z ▸ hb)
theorem Rd.but {bad : Addr → Prop} {h h' : Heap} {a : Addr} {oa : Obj} {v d} (r : Rd bad h v d) (hb : bad a) (ha : h.get? a = some oa) (h1 : NoTup oa) (hs : Heap.SameBut a h h') : Rd bad h' v d :=
  let ⟨as, x, p⟩ := r; ⟨as, reads_but ha h1 hs x fun q => p a q hb, p⟩
theorem RdAll.but {bad : Addr → Prop} {h h' : Heap} {a : Addr} {oa : Obj} {v d} (r : RdAll bad h v d) (hb : bad a) (ha : h.get? a = some oa) (h1 : NoTup oa) (hs : Heap.SameBut a h h') : RdAll bad h' v d :=
  let ⟨as, x, p⟩ := r; ⟨as, readsAll_but ha h1 hs x fun q => p a q hb, p⟩
theorem Holds.but {bad : Addr → Prop} {h h' : Heap} {a : Addr} {oa : Obj} {v o} (r : Holds bad h v o) (hb : bad a) (ha : h.get? a = some oa) (h1 : NoTup oa) (hs : Heap.SameBut a h h') : Holds bad h' v o := by
  cases o with
  | d d => exact Rd.but r hb ha h1 hs
  | v u => exact r

theorem ok_but {A : Around} {s : Shared} {h' : Heap} {tk : Nat} {a : Addr} (x : Ok G A s) (hT : G.hT.get? a = none) (hP : a ≠ G.P) (hs : Heap.SameBut a s.heap h') (hc : ∀ o, s.heap.get? a = some o → Plain o)
    (hk : ∀ o, s.heap.get? a = some o → (∀ vs, o.data ≠ .fields vs) → ∃ o', h'.get? a = some o' ∧ (∀ vs, o'.data ≠ .fields vs)) (hcr : ∀ o, s.heap.get? a = some o → ∀ vs, o.data ≠ .fields vs) : Ok G A { s with heap := h', toks := tk } := by
  refine ⟨x.g, fun b o e => (hs.2 b fun q => by rw [q, hT] at e; cases e).trans (x.top b o e), ?_, ?_⟩
  · obtain ⟨ps, e, r⟩ := x.tab
    refine ⟨ps, (hs.2 _ (Ne.symm hP)).trans e, r.imp id ?_⟩
    rintro ⟨c', e', c₂, o, vs, t, e2, e3, e4, e5⟩
    refine ⟨c', e', c₂, o, vs, t, e2, (hs.2 _ fun q => ?_).trans e3, e4, e5⟩
    exact hcr o (q ▸ e3) vs e4
  · obtain ⟨l, e, f⟩ := x.frames
    refine ⟨l, e, ?_⟩
    clear e
    induction l with
    | nil => trivial
    | cons env r ih =>
      obtain ⟨h1, ⟨L, o, h2, h3, h4, h5⟩, h6⟩ := f
      refine ⟨h1, ⟨L, ?_⟩, ih h6⟩
      by_cases q : L = a
      · subst q
        obtain ⟨o', e1, e2⟩ := hk o h4 h5
        exact ⟨o', h2, h3, e1, e2⟩
      · exact ⟨o, h2, h3, (hs.2 L q).trans h4, h5⟩
end
end
section
variable {G : TopC} {C : Cx} {V : List (Option VV)} {acc : Acc}

/-- one place of the frame's own turns; the rest stands -/
theorem FS.turn {B : Base} {s : Shared} {h' : Heap} {tk : Nat} {a : Addr} {oa : Obj} {V' : List (Option VV)} (q : FS G B C V acc s) (ha : s.heap.get? a = some oa) (hd : (∃ es ep, oa.data = .dict es ep) ∨ ∃ v, oa.data = .cell v)
    (hb : C.bad a) (hB : B.h.get? a = none) (hs : Heap.SameBut a s.heap h') {oa' : Obj} (ha' : h'.get? a = some oa') (hd' : (∃ es ep, oa'.data = .dict es ep) ∨ ∃ v, oa'.data = .cell v)
    (vars : ∀ x o, VarIx C.N V' x o → VarAt (C.wa acc) h' x o) (ns : ∃ m, h'.Ns C.env.locals m) (cs : ∀ x c, (x, c) ∈ C.own → ∃ v, h'.IsCell c v) : FS G B C V' acc { s with heap := h', toks := tk } := by
  have nf : ∀ o : Obj, ((∃ es ep, o.data = .dict es ep) ∨ ∃ v, o.data = .cell v) → ∀ vs, o.data ≠ .fields vs := fun o h vs e => by
    rcases h with ⟨_, _, h⟩ | ⟨_, h⟩ <;> rw [h] at e <;> cases e
  have nt : ∀ o : Obj, ((∃ es ep, o.data = .dict es ep) ∨ ∃ v, o.data = .cell v) → NoTup o := fun o h ⟨_, vs, n, e⟩ => by
    rcases h with ⟨_, _, h⟩ | ⟨_, h⟩ <;> rw [h] at e <;> cases e
  have hP : a ≠ G.P := fun e => by
    obtain ⟨ps, e1, _⟩ := q.st.ok.tab
    rw [← e, ha] at e1; cases e1
    exact nf _ hd _ rfl
  have hT : G.hT.get? a = none := by
    cases e : G.hT.get? a with
    | none => rfl
    | some o => have := q.hT a o e; rw [hB] at this; cases this
  refine ⟨⟨q.st.cx, q.st.a, ok_but q.st.ok hT hP hs (fun o e => ?_) (fun o e _ => ⟨oa', ha', nf _ hd'⟩) (fun o e => ?_), vars, fun b hb' => ?_⟩, base_but q.base hB hs, q.ownL, q.ownC, ns, cs, q.apart, q.gens, q.os, q.accN, q.accB, fun c ds hm => ?_, q.obad, q.own, q.hT⟩
  · rw [ha] at e; cases e; exact .of_data (nf _ hd)
  · rw [ha] at e; cases e; exact nf _ hd
  · obtain ⟨o, p, e⟩ := q.st.bad b hb'
    by_cases qq : b = a
    · subst qq; exact ⟨oa', .of_data (nf _ hd'), ha'⟩
    · exact ⟨o, p, (hs.2 b qq).trans e⟩
  · obtain ⟨h1, vs, ⟨o, n, ho, hc, hdn, hdt⟩, r⟩ := q.acc c ds hm
    have ne : c ≠ a := fun e => by
      subst e; rw [ha] at ho; cases ho
      rcases hd with ⟨_, _, h⟩ | ⟨_, h⟩ <;> rw [h] at hdt <;> cases hdt
    exact ⟨h1, vs, ⟨o, n, (hs.2 c ne).trans ho, hc, hdn, hdt⟩, r.but (.inl hb) ha (nt _ hd) hs⟩

theorem mem_lookup {α : Type} : ∀ {l : List (Str × α)} {n : Str} {c : α}, l.lookup n = some c → (n, c) ∈ l := fun h => PySem.mem_of_lookup h

theorem storeVarA {A' : Around} {B : Base} {s : Shared} (q : FS G B C V acc s) {x : Str} (hown : C.own = C.env.cells ∨ C.env.kindOf x = some .local) {o : VV} {V' : List (Option VV)} (hx : SetIx C.N V x o V') {v : Value} (hv : Holds (C.wa acc).bad s.heap v o) {Q : Unit → Shared → Prop} {E : Value → Shared → Prop}
    (h : ∀ s', FS G B C V' acc s' → (∃ a, (a = C.env.locals ∨ ∃ y, (y, a) ∈ C.own) ∧ Heap.SameBut a s.heap s'.heap) → s'.gens = s.gens → Q () s') : wpAny (model G.prog G.w) A' (storeName C.env x v) Q E s := by
  have hN := q.st.cx.nodup
  have nt : ∀ o : Obj, ((∃ es ep, o.data = .dict es ep) ∨ ∃ v, o.data = .cell v) → NoTup o := fun o h ⟨_, vs, n, e⟩ => by
    rcases h with ⟨_, _, h⟩ | ⟨_, h⟩ <;> rw [h] at e <;> cases e
  rcases q.st.cx.kinds x hx.mem with hk | ⟨hk, c, hc⟩
  · -- a plain local
    obtain ⟨m, hn⟩ := q.ns
    have hn₀ : s.heap.Ns C.env.locals m := hn
    obtain ⟨oa, es, ep, ha, hd, _⟩ := id hn
    refine wpAny_storeName_local hk hn (fun h' hn' hs => ?_) (by rw [show C.env.scope.kind = _ from q.st.cx.kind]; rfl)
    obtain ⟨oa', es', ep', ha', hd', _⟩ := id hn'
    refine h _ (q.turn ha (.inl ⟨_, _, hd⟩) q.own.L q.ownL hs ha' (.inl ⟨_, _, hd'⟩) (fun y o' hy => ?_) ⟨_, hn'⟩ fun y c hc => ?_) ⟨_, .inl rfl, hs⟩ rfl
    · rcases hx.old hN hy with ⟨rfl, rfl⟩ | ⟨ne, hy'⟩
      · exact ⟨v, .inl ⟨hk, _, hn', by simp⟩, hv.but (.inl q.own.L) ha (nt _ (.inl ⟨_, _, hd⟩)) hs⟩
      · obtain ⟨u, su, hu⟩ := q.st.vars y o' hy'
        refine ⟨u, ?_, hu.but (.inl q.own.L) ha (nt _ (.inl ⟨_, _, hd⟩)) hs⟩
        rcases su with ⟨ky, my, hny, hvy⟩ | ⟨ky, cy, hcy, hvy⟩
        · refine .inl ⟨ky, _, hn', ?_⟩
          have e : my = m := by
            funext z
            obtain ⟨o1, es1, ep1, h1, d1, _, f1⟩ := hny
            obtain ⟨o2, es2, ep2, h2, d2, _, f2⟩ := hn₀
            rw [show s.heap.get? (C.wa acc).env.locals = s.heap.get? C.env.locals from rfl, h2] at h1
            cases h1
            rw [d1] at d2; cases d2
            rw [← f1, ← f2]
          rw [if_neg ne, ← e]; exact hvy
        · refine .inr ⟨ky, cy, hcy, ?_⟩
          obtain ⟨oc, ho, hdc⟩ := hvy
          exact ⟨oc, (hs.2 cy fun z => by rw [z, ha] at ho; cases ho; rw [hd] at hdc; cases hdc).trans ho, hdc⟩
    · obtain ⟨u, oc, ho, hdc⟩ := q.cs y c hc
      exact ⟨u, oc, (hs.2 c fun z => by rw [z, ha] at ho; cases ho; rw [hd] at hdc; cases hdc).trans ho, hdc⟩
  · -- a cell
    have ho : C.own = C.env.cells := hown.resolve_right fun z => by rw [hk] at z; cases z
    have hmo : (x, c) ∈ C.own := ho ▸ mem_lookup hc
    obtain ⟨v₀, hcell⟩ := q.cs x c hmo
    obtain ⟨oa, ha, hd⟩ := id hcell
    have hcb : C.bad c := q.own.c x c hmo
    refine wpAny_storeName_cell q.st.cx.kind hk hc hcell fun h' hc' hs => ?_
    obtain ⟨oa', ha', hd'⟩ := id hc'
    have h2 := (q.turn (tk := s.toks) (V' := V') ha (.inr ⟨_, hd⟩) hcb (q.ownC x c hmo) hs ha' (.inr ⟨_, hd'⟩) (fun y o' hy => ?_) ?_ fun y c' hcy => ?_)
    · exact h _ h2 ⟨_, .inr ⟨x, hmo⟩, hs⟩ rfl
    · rcases hx.old hN hy with ⟨rfl, rfl⟩ | ⟨ne, hy'⟩
      · exact ⟨v, .inr ⟨hk, c, hc, hc'⟩, hv.but (.inl hcb) ha (nt _ (.inr ⟨_, hd⟩)) hs⟩
      · obtain ⟨u, su, hu⟩ := q.st.vars y o' hy'
        refine ⟨u, ?_, hu.but (.inl hcb) ha (nt _ (.inr ⟨_, hd⟩)) hs⟩
        rcases su with ⟨ky, my, hny, hvy⟩ | ⟨ky, cy, hcy, hvy⟩
        · exact .inl ⟨ky, my, hny.sameBut hs (fun z => by obtain ⟨o1, es1, ep1, e1, d1, _⟩ := hny; rw [z, ha] at e1; cases e1; rw [hd] at d1; cases d1), hvy⟩
        · refine .inr ⟨ky, cy, hcy, hvy.sameBut hs fun z => ?_⟩
          have : y = x := PySem.name_of_addr q.apart (ho ▸ mem_lookup hcy) (z ▸ hmo)
          exact ne this
    · obtain ⟨m, hn⟩ := q.ns
      exact ⟨m, hn.sameBut hs fun z => by obtain ⟨o1, es1, ep1, e1, d1, _⟩ := hn; rw [z, ha] at e1; cases e1; rw [hd] at d1; cases d1⟩
    · by_cases z : c' = c
      · subst z; exact ⟨_, hc'⟩
      · obtain ⟨u, hu⟩ := q.cs y c' hcy
        exact ⟨u, hu.sameBut hs z⟩

theorem storeVar {B : Base} {s : Shared} (q : FS G B C V acc s) {x : Str} (hown : C.own = C.env.cells ∨ C.env.kindOf x = some .local) {o : VV} {V' : List (Option VV)} (hx : SetIx C.N V x o V') {v : Value} (hv : Holds (C.wa acc).bad s.heap v o) {Q : Unit → Shared → Prop} {E : Value → Shared → Prop}
    (h : ∀ s', FS G B C V' acc s' → (∃ a, (a = C.env.locals ∨ ∃ y, (y, a) ∈ C.own) ∧ Heap.SameBut a s.heap s'.heap) → s'.gens = s.gens → Q () s') : wpAny (model G.prog G.w) C.A (storeName C.env x v) Q E s := storeVarA q hown hx hv h

/-! statements -/
theorem ex1_assign {x : Str} {e : Expr} {px pos : Pos} {d : PyData} {V' : List (Option VV)} {P : Post} (he : Ev G (C.wa acc) V e d) (hx : SetIx C.N V x (.d d) V') (h : P .next V' acc) (ho : C.own = C.env.cells := by rfl)
    (hs : ∀ env, swapsWith e (some (.Name x px)) pos.line env = pure false := by intro _; rfl) : Ex1 G C V acc (.Assign [.Name x px] e pos) P := fun B s Q E q k =>
  wpAny_Assign_Name (he s _ E q.st fun v s1 k1 r => storeVar (q.keeps k1) (.inl ho) hx (o := .d d) r fun s' q' _ _ => k .next .next _ _ _ h q' rfl) (hs _)
theorem ex1_assignV {x : Str} {e : Expr} {px pos : Pos} {u : Value} {V' : List (Option VV)} {P : Post} (he : EvV G (C.wa acc) V e u) (hx : SetIx C.N V x (.v u) V') (h : P .next V' acc) (ho : C.own = C.env.cells := by rfl)
    (hs : ∀ env, swapsWith e (some (.Name x px)) pos.line env = pure false := by intro _; rfl) : Ex1 G C V acc (.Assign [.Name x px] e pos) P := fun B s Q E q k =>
  wpAny_Assign_Name (he s _ E q.st fun s1 k1 => storeVar (q.keeps k1) (.inl ho) hx (o := .v u) rfl fun s' q' _ _ => k .next .next _ _ _ h q' rfl) (hs _)
theorem Rd.weaken {b b' : Addr → Prop} {h : Heap} {v d} (r : Rd b h v d) (w : ∀ a, b' a → b a) : Rd b' h v d := let ⟨as, x, p⟩ := r; ⟨as, x, fun a ha hb => p a ha (w a hb)⟩
theorem RdAll.weaken {b b' : Addr → Prop} {h : Heap} {v d} (r : RdAll b h v d) (w : ∀ a, b' a → b a) : RdAll b' h v d := let ⟨as, x, p⟩ := r; ⟨as, x, fun a ha hb => p a ha (w a hb)⟩
theorem ex1_ret {e : Expr} {pos : Pos} {d : PyData} {P : Post} (he : Ev G (C.wa acc) V e d) (h : P (.ret d) V acc) : Ex1 G C V acc (.Return (some e) pos) P := fun B s Q E q k =>
  wpAny_Return_some (he s _ E q.st fun v s1 k1 r => k (.ret d) _ _ _ _ h (q.keeps k1) ⟨v, rfl, r.weaken fun a ha => .inl (q.obad a ha).1⟩)
theorem ex1_retAcc {x : Str} {px pos : Pos} {a : Addr} {ds : List PyData} {P : Post} (hx : VarIx C.N V x (.v (.ref a))) (hm : (a, ds) ∈ acc) (h : P (.ret (.list ds)) V acc) : Ex1 G C V acc (.Return (some (.Name x px)) pos) P := fun B s Q E q k =>
  wpAny_Return_some (evV_name (G := G) (C := C.wa acc) hx s _ E q.st fun s1 k1 => by
    have q1 := q.keeps k1
    obtain ⟨h1, vs, hl, r⟩ := q1.acc a ds hm
    refine k (.ret (.list ds)) _ _ _ _ h q1 ⟨_, rfl, .list hl.isList (fun hb => ?_) (r.weaken fun b hb => .inl (q.obad b hb).1)⟩
    obtain ⟨_, o, p, e⟩ := q.obad a hb
    exact h1 o p e)
theorem ex1_if {t : Expr} {b o : List Stmt} {pos : Pos} {c : Bool} {P : Post} (ht : Tr G (C.wa acc) V t c) (h1 : c = true → Ex G C V acc b P) (h2 : c = false → Ex G C V acc o P) : Ex1 G C V acc (.If t b o pos) P := fun B s Q E q k =>
  wpAny_If (ht s _ E q.st fun s' k1 => by
    cases c with
    | true => exact h1 rfl B s' Q E (q.keeps k1) k
    | false => exact h2 rfl B s' Q E (q.keeps k1) k)
theorem ex1_break {pos : Pos} {P : Post} (h : P .brk V acc) : Ex1 G C V acc (.Break pos) P := fun B s Q E q k => wpAny_Break (k .brk .brk _ _ _ h q rfl)
end
section
variable {G : TopC} {C : Cx} {V : List (Option VV)} {acc : Acc}

/-- an iterator's own record -/
noncomputable def IterObj (o : Obj) : Prop := o.cls ≠ Value.none ∧ ∃ vs, o.data = .fields vs ∧ ∀ q t, vs[1]? ≠ some (.str q t)

theorem rk_ext {h h' : Heap} {a : Addr} {oa : Obj} (ha : h.get? a = some oa) (h1 : IterObj oa) (hs : Heap.ExtBut a h h') : RK h h' fun _ => False := fun b o e _ q => by
  refine ⟨o, hs b _ (fun z => ?_) e, rfl, rfl⟩
  subst z
  rw [ha] at e; cases e
  obtain ⟨_, vs, e, _⟩ := h1
  rcases q.2 with ⟨_, _, q⟩ | ⟨_, _, _, q⟩ <;> rw [e] at q <;> cases q
theorem reads_ext {h h' : Heap} {a : Addr} {oa : Obj} (ha : h.get? a = some oa) (h1 : IterObj oa) (hs : Heap.ExtBut a h h') {v : Value} {d : PyData} {as : List Addr} (r : Reads h v d as) : Reads h' v d as := reads_gen (rk_ext ha h1 hs) r fun _ _ z => z
theorem readsAll_ext {h h' : Heap} {a : Addr} {oa : Obj} (ha : h.get? a = some oa) (h1 : IterObj oa) (hs : Heap.ExtBut a h h') {v : List Value} {d : List PyData} {as : List Addr} (r : ReadsAll h v d as) : ReadsAll h' v d as := readsAll_gen (rk_ext ha h1 hs) r fun _ _ z => z

/-- an iterator stepped: the frame stands -/
theorem FS.step {B : Base} {s : Shared} {h' : Heap} {tk : Nat} {I : Addr} {oi : Obj} (q : FS G B C V acc s) (hi : s.heap.get? I = some oi) (h1 : IterObj oi) (hB : ∀ o, Plain o → B.h.get? I ≠ some o) (hT : G.hT.get? I = none) (hb : ¬ (C.wa acc).bad I) (hs : Heap.ExtBut I s.heap h') :
    FS G B C V acc { s with heap := h', toks := tk } := by
  obtain ⟨hcl, ivs, hiv, hstr⟩ := id h1
  have nd : ∀ b o, s.heap.get? b = some o → (∀ vs, o.data ≠ .fields vs) → h'.get? b = some o := fun b o e n => hs b o (fun z => by rw [z, hi] at e; cases e; exact n _ hiv) e
  have nsK : ∀ {L : Addr} {m : Str → Option Value}, s.heap.Ns L m → h'.Ns L m := fun ⟨o, es, ep, e, d, r⟩ => ⟨o, es, ep, nd _ _ e (fun vs z => by rw [d] at z; cases z), d, r⟩
  have clK : ∀ {c : Addr} {v : Option Value}, s.heap.IsCell c v → h'.IsCell c v := fun ⟨o, e, d⟩ => ⟨o, nd _ _ e (fun vs z => by rw [d] at z; cases z), d⟩
  have rdK : ∀ {bad : Addr → Prop} {v d}, Rd bad s.heap v d → Rd bad h' v d := fun ⟨as, x, p⟩ => ⟨as, reads_ext hi h1 hs x, p⟩
  refine ⟨⟨q.st.cx, q.st.a, ⟨q.st.ok.g, fun b o e => hs b o (fun z => by rw [z, hT] at e; cases e) (q.st.ok.top b o e), ?_, ?_⟩, fun x o hx => ?_, fun b hb' => ?_⟩, fun b o p e => ?_, q.ownL, q.ownC, ?_, fun x c hc => ?_, q.apart, q.gens, q.os, q.accN, q.accB, fun c ds hm => ?_, q.obad, q.own, q.hT⟩
  · obtain ⟨ps, e, r⟩ := q.st.ok.tab
    refine ⟨ps, hs _ _ (fun z => by rw [z, hi] at e; cases e; exact hcl rfl) e, r.imp id ?_⟩
    rintro ⟨c', e', c₂, o, vs, t, e2, e3, e4, e5⟩
    exact ⟨c', e', c₂, o, vs, t, e2, hs _ _ (fun z => by rw [z, hi] at e3; cases e3; rw [hiv] at e4; cases e4; exact hstr _ _ e5) e3, e4, e5⟩
  · obtain ⟨l, e, f⟩ := q.st.ok.frames
    refine ⟨l, e, ?_⟩
    clear e
    induction l with
    | nil => trivial
    | cons env r ih =>
      obtain ⟨g1, ⟨L, o, g2, g3, g4, g5⟩, g6⟩ := f
      exact ⟨g1, ⟨L, o, g2, g3, nd _ _ g4 g5, g5⟩, ih g6⟩
  · obtain ⟨v, st, hd⟩ := q.st.vars x o hx
    refine ⟨v, st.imp (fun ⟨a, m, b, c⟩ => ⟨a, m, nsK b, c⟩) (fun ⟨a, c, b, d⟩ => ⟨a, c, b, clK d⟩), ?_⟩
    cases o with
    | d d => exact rdK hd
    | v u => exact hd
  · obtain ⟨o, p, e⟩ := q.st.bad b hb'
    exact ⟨o, p, hs b o (fun z => hb (z ▸ hb')) e⟩
  · obtain ⟨o', e', s'⟩ := q.base b o p e
    exact ⟨o', hs b o' (fun z => hB o p (z ▸ e)) e', s'⟩
  · obtain ⟨m, hn⟩ := q.ns; exact ⟨m, nsK hn⟩
  · obtain ⟨v, hc'⟩ := q.cs x c hc; exact ⟨v, clK hc'⟩
  · obtain ⟨g1, vs, ⟨o, n, ho, hc, hdn, hdt⟩, r⟩ := q.acc c ds hm
    refine ⟨g1, vs, ⟨o, n, nd _ _ ho (fun vs z => by rw [hdt] at z; cases z), hc, hdn, hdt⟩, ?_⟩
    obtain ⟨as, x, p⟩ := r
    exact ⟨as, readsAll_ext hi h1 hs x, p⟩

/-- the frame's own places -/
noncomputable def ownList (C : Cx) (acc : Acc) : List Addr := C.env.locals :: (C.own.map (·.2) ++ acc.map (·.1))
theorem own_notB {B : Base} {s : Shared} (q : FS G B C V acc s) : ∀ a ∈ ownList C acc, ∀ o, Plain o → B.h.get? a ≠ some o := fun a ha o hp e => by
  rcases List.mem_cons.mp ha with rfl | ha
  · rw [q.ownL] at e; cases e
  rcases List.mem_append.mp ha with ha | ha
  · obtain ⟨⟨x, c⟩, hc, rfl⟩ := List.mem_map.mp ha
    rw [q.ownC x c hc] at e; cases e
  · obtain ⟨⟨c, ds⟩, hm, rfl⟩ := List.mem_map.mp ha
    exact (q.acc c ds hm).1 o hp e
theorem own_bad {B : Base} {s : Shared} (q : FS G B C V acc s) : ∀ a ∈ ownList C acc, (C.wa acc).bad a := fun a ha => by
  rcases List.mem_cons.mp ha with rfl | ha
  · exact .inl q.own.L
  rcases List.mem_append.mp ha with ha | ha
  · obtain ⟨⟨x, c⟩, hc, rfl⟩ := List.mem_map.mp ha
    exact .inl (q.own.c x c hc)
  · exact .inr ha
theorem lookup_of_mem {α : Type} : ∀ {l : List (Str × α)} {x : Str} {c : α}, (x, c) ∈ l → ∃ c', l.lookup x = some c'
  | (k, v) :: r, x, c, h => by
    rw [List.lookup_cons]
    cases hb : x == k with
    | true => exact ⟨v, rfl⟩
    | false =>
      rcases List.mem_cons.mp h with e | h
      · cases e; simp at hb
      · exact lookup_of_mem h
/-- the loop's base: the heap as it is, the frame's own places away -/
noncomputable def Base.loop (B : Base) (C : Cx) (acc : Acc) (s : Shared) : Base := { h := PySem.W.hideAll s.heap (ownList C acc), gens := s.gens, os := s.os, bad := B.bad }
theorem FS.loop {B : Base} {s : Shared} (q : FS G B C V acc s) : FS G (B.loop C acc s) C V acc s where
  st := q.st
  base := fun a o _ e => ⟨o, PySem.W.of_hideAll _ e, .refl o⟩
  ownL := PySem.W.hideAll_none _ (.head _)
  ownC := fun x c hc => PySem.W.hideAll_none _ (.tail _ (List.mem_append_left _ (List.mem_map_of_mem (f := (·.2)) hc)))
  ns := q.ns
  cs := q.cs
  apart := q.apart
  gens := ⟨#[], by simp [Base.loop], by simp⟩
  os := rfl
  accN := q.accN
  accB := q.accB
  acc := fun c ds hm => ⟨(fun o _ e => by
    have := PySem.W.hideAll_none (ownList C acc) (h := s.heap) (b := c) (.tail _ (List.mem_append_right _ (List.mem_map_of_mem (f := (·.1)) hm)))
    rw [show (B.loop C acc s).h = PySem.W.hideAll s.heap (ownList C acc) from rfl, this] at e
    cases e), (q.acc c ds hm).2⟩
  obad := fun b hb => by
    obtain ⟨h1, o, p, e⟩ := q.obad b hb
    obtain ⟨o', e', s'⟩ := q.base b o p e
    exact ⟨h1, o', p.sim s', PySem.W.hideAll_get _ e' fun hm => own_notB q b hm o p e⟩
  own := q.own
  hT := fun b o e => PySem.W.hideAll_get _ (q.st.ok.top b o e) fun hm => by
    have h2 := q.st.ok.top b o e
    have h3 := q.hT b o e
    refine own_notB q b hm o ?_ h3
    rcases List.mem_cons.mp hm with rfl | hm
    · obtain ⟨m, o', es, ep, e', d, _⟩ := q.ns
      rw [h2] at e'; cases e'
      exact .of_data fun vs z => by rw [d] at z; cases z
    rcases List.mem_append.mp hm with hm | hm
    · obtain ⟨⟨x, c⟩, hc, rfl⟩ := List.mem_map.mp hm
      have := q.ownC x c hc
      rw [h3] at this; cases this
    · obtain ⟨⟨c, ds⟩, hm2, rfl⟩ := List.mem_map.mp hm
      obtain ⟨_, vs, ⟨o', n, e', hc, _⟩, _⟩ := q.acc c ds hm2
      rw [h2] at e'; cases e'
      exact .of_cls (by rw [hc]; intro z; cases z)
theorem FS.back {B : Base} {s s' : Shared} {V' : List (Option VV)} {acc' : Acc} (q : FS G B C V acc s) (q' : FS G (B.loop C acc s) C V' acc' s') : FS G B C V' acc' s' where
  st := q'.st
  base := fun a o p e => by
    obtain ⟨o1, e1, s1⟩ := q.base a o p e
    obtain ⟨o2, e2, s2⟩ := q'.base a o1 (p.sim s1) (PySem.W.hideAll_get _ e1 fun hm => own_notB q a hm o p e)
    exact ⟨o2, e2, s1.trans s2⟩
  ownL := q.ownL
  ownC := q.ownC
  ns := q'.ns
  cs := q'.cs
  apart := q'.apart
  gens := by
    obtain ⟨g1, e1, b1⟩ := q.gens
    obtain ⟨g2, e2, b2⟩ := q'.gens
    refine ⟨g1 ++ g2, by rw [e2]; show s.gens ++ g2 = _; rw [e1, Array.append_assoc], fun g hg => ?_⟩
    rcases Array.mem_append.mp hg with h | h
    · exact b1 g h
    · exact b2 g h
  os := q'.os.trans q.os
  accN := q'.accN
  accB := q'.accB
  acc := fun c ds hm => ⟨(fun o hp e => by
    obtain ⟨o1, e1, s1⟩ := q.base c o hp e
    exact (q'.acc c ds hm).1 o1 (hp.sim s1) (PySem.W.hideAll_get _ e1 fun hm => own_notB q c hm o hp e)), (q'.acc c ds hm).2⟩
  obad := q.obad
  own := q.own
  hT := q.hT
end
section
variable {G : TopC} {C : Cx} {V : List (Option VV)} {acc : Acc}

structure Iter (G : TopC) (A : Around) (bad : Addr → Prop) (items : List PyData) (I : Addr) where
  St : Nat → Heap → Prop
  self : ∀ i (s : Shared) (Q : Value → Shared → Prop) (E : Value → Shared → Prop), St i s.heap → Q (.ref I) s → wpAny (model G.prog G.w) A (pyIter (.ref I)) Q E s
  obj : ∀ i h, St i h → ∃ o, h.get? I = some o ∧ IterObj o
  item : ∀ i d (s : Shared) (Q : Option Value → Shared → Prop) (E : Value → Shared → Prop), items[i]? = some d → St i s.heap →
    (∀ v h' tk, Rd bad h' v d → St (i + 1) h' → Heap.ExtBut I s.heap h' → Q (some v) { s with heap := h', toks := tk }) → wpAny (model G.prog G.w) A (pyNext (.ref I)) Q E s
  done : ∀ (s : Shared) (Q : Option Value → Shared → Prop) (E : Value → Shared → Prop), A.handled = none → St items.length s.heap →
    (∀ h' tk, Heap.ExtBut I s.heap h' → Q none { s with heap := h', toks := tk }) → wpAny (model G.prog G.w) A (pyNext (.ref I)) Q E s
  sim : ∀ i h h', KpH h h' → St i h → St i h'
  hide : ∀ i h own, (∀ a ∈ own, bad a ∧ ∀ o, h.get? a = some o → NoTup o ∧ ∀ vs, o.data ≠ .fields vs) → St i h → St i (PySem.W.hideAll h own)

theorem isList_sim {h h' : Heap} (k : KpH h h') {a vs} (l : h.IsList a vs) : h'.IsList a vs := by
  obtain ⟨o, e, c, n, d⟩ := l
  obtain ⟨o', e', s⟩ := k a o (.of_cls (by rw [c]; intro q; cases q)) e
  exact ⟨o', e', s.1.trans c, n, s.2.2.1.trans d⟩
theorem rec_sim {h h' : Heap} (k : KpH h h') {a o} (hc : o.cls ≠ Value.none) (hf : ∃ vs, o.data = .fields vs) (e : h.get? a = some o) : h'.get? a = some o := by
  obtain ⟨o', e', s⟩ := k a o (.of_cls hc) e
  rw [s.2.2.2 hf] at e'; exact e'

theorem rk_hide {h : Heap} {own : List Addr} {bad : Addr → Prop} (ho : ∀ a ∈ own, bad a ∧ ∀ o, h.get? a = some o → NoTup o ∧ ∀ vs, o.data ≠ .fields vs) : RK h (PySem.W.hideAll h own) bad := fun a o e n q =>
  ⟨o, PySem.W.hideAll_get own e fun z => by
    by_cases hc : o.cls = .type "tuple"
    · exact q.2.elim (fun q => ((ho a z).2 _ e).1 ⟨hc, q⟩) fun q => q.1 hc
    · exact n hc (ho a z).1, rfl, rfl⟩
theorem reads_hide {h : Heap} {own : List Addr} {bad : Addr → Prop} (ho : ∀ a ∈ own, bad a ∧ ∀ o, h.get? a = some o → NoTup o ∧ ∀ vs, o.data ≠ .fields vs) {v : Value} {d : PyData} {as : List Addr} (r : Reads h v d as) (n : ∀ a ∈ as, ¬ bad a) : Reads (PySem.W.hideAll h own) v d as := reads_gen (rk_hide ho) r n
theorem readsAll_hide {h : Heap} {own : List Addr} {bad : Addr → Prop} (ho : ∀ a ∈ own, bad a ∧ ∀ o, h.get? a = some o → NoTup o ∧ ∀ vs, o.data ≠ .fields vs) {v : List Value} {d : List PyData} {as : List Addr} (r : ReadsAll h v d as) (n : ∀ a ∈ as, ¬ bad a) : ReadsAll (PySem.W.hideAll h own) v d as := readsAll_gen (rk_hide ho) r n

/-- over a list -/
noncomputable def Iter.list (G : TopC) (A : Around) (bad : Addr → Prop) (items : List PyData) (I l : Addr) (vs : List Value) : Iter G A bad items I where
  St i h := h.IsListIter I l i ∧ h.IsList l vs.toArray ∧ ¬ bad l ∧ RdAll bad h vs items
  self i s Q E st k := wpAny_pyIter_listiter st.1 k
  obj i h x := by
    obtain ⟨⟨o, e, c, d⟩, _⟩ := x
    exact ⟨o, e, ⟨(by rw [c]; intro q; cases q), _, d, fun q t z => by simp at z⟩⟩
  item i d s Q E hi x k := by
    obtain ⟨x1, x2, x3, x4⟩ := x
    obtain ⟨v, hv, r⟩ := x4.get hi
    obtain ⟨o, e, c, dd⟩ := id x1
    have io : IterObj o := ⟨(by rw [c]; intro q; cases q), _, dd, fun q t z => by simp at z⟩
    refine wpAny_pyNext_list_item x1 x2 (by simpa using hv) fun h' y1 y2 => ?_
    have ext := y2.extBut
    refine k v h' s.toks ?_ ⟨y1, x2.extBut ext fun q => ?_, x3, ?_⟩ ext
    · obtain ⟨as, r, p⟩ := r; exact ⟨as, reads_ext e io ext r, p⟩
    · obtain ⟨o2, e2, _, n2, d2⟩ := x2
      rw [q, e] at e2; cases e2; rw [dd] at d2; cases d2
    · obtain ⟨as, r, p⟩ := x4; exact ⟨as, readsAll_ext e io ext r, p⟩
  done s Q E hh x k := by
    obtain ⟨x1, x2, x3, x4⟩ := x
    exact wpAny_pyNext_list_end hh x1 x2 (by simp [x4.length]) fun h' y => k h' s.toks y
  sim i h h' kp x := by
    obtain ⟨⟨o, e, c, d⟩, x2, x3, x4⟩ := x
    exact ⟨⟨o, rec_sim kp (by rw [c]; intro q; cases q) ⟨_, d⟩ e, c, d⟩, isList_sim kp x2, x3, x4.sim kp⟩
  hide i h own ho x := by
    obtain ⟨⟨o, e, c, d⟩, ⟨o2, e2, c2, n2, d2⟩, x3, as, x4, p⟩ := x
    exact ⟨⟨o, PySem.W.hideAll_get own e fun q => ((ho _ q).2 _ e).2 _ d, c, d⟩, ⟨o2, PySem.W.hideAll_get own e2 fun q => x3 (ho _ q).1, c2, n2, d2⟩, x3, as, readsAll_hide ho x4 p, p⟩

/-- over a range by ones -/
noncomputable def rangeData (a : Int) (n : Nat) : List PyData := (List.range n).map fun (i : Nat) => PyData.int (a + (i : Int))
noncomputable def Iter.range (G : TopC) (A : Around) (bad : Addr → Prop) (a : Int) (n : Nat) (I : Addr) : Iter G A bad (rangeData a n) I where
  St i h := IsRangeIter h I (a + i) ((n : Int) - i) 1
  self i s Q E st k := wpAny_pyIter_rangeiter st k
  obj i h x := ⟨_, x, ⟨by simp, _, rfl, fun q t z => by simp [rawInt] at z⟩⟩
  item i d s Q E hi x k := by
    have hin : i < n := by
      have := (List.getElem?_eq_some_iff.mp hi).1
      simpa [rangeData] using this
    have hd : d = .int (a + i) := by
      have := hi
      simp [rangeData, hin] at this
      exact this.symm
    subst hd
    refine wpAny_pyNext_range_item x (by omega) fun h' y1 y2 => ?_
    refine k _ h' _ (.int _ _) ?_ y2.extBut
    have e1 : a + ((i : Nat) : Int) + 1 = a + ((i + 1 : Nat) : Int) := by omega
    have e2 : (n : Int) - (i : Nat) - 1 = (n : Int) - ((i + 1 : Nat) : Int) := by omega
    rw [e1, e2] at y1
    exact y1
  done s Q E hh x k := by
    have : (rangeData a n).length = n := by simp [rangeData]
    rw [this] at x
    exact wpAny_pyNext_range_end hh x (by omega) fun h' y => k h' s.toks y
  sim i h h' kp x := rec_sim kp (by simp) ⟨_, rfl⟩ x
  hide i h own ho x := PySem.W.hideAll_get own x fun q => ((ho _ q).2 _ x).2 _ rfl

/-- over a text of ASCII signs -/
noncomputable def strData (l : List Nat) : List PyData := l.map fun c => .str (S [c])
noncomputable def Iter.str (G : TopC) (A : Around) (bad : Addr → Prop) (l : List Nat) (t : Tok) (I : Addr) : Iter G A bad (strData l) I where
  St i h := h.IsStrIter I "str_ascii_iterator" (S l) t i
  self i s Q E st k := wpAny_pyIter_striter_ascii st k
  obj i h x := by
    obtain ⟨o, e, c, d⟩ := x
    exact ⟨o, e, ⟨(by rw [c]; intro q; cases q), _, d, fun q t z => by simp at z⟩⟩
  item i d s Q E hi x k := by
    obtain ⟨c, hc, rfl⟩ : ∃ c, l[i]? = some c ∧ d = .str (S [c]) := by
      simp only [strData, List.getElem?_map, Option.map_eq_some_iff] at hi
      obtain ⟨c, h1, h2⟩ := hi
      exact ⟨c, h1, h2.symm⟩
    exact wpAny_pyNext_ascii_item x (by simpa [S] using hc) fun h' y1 y2 => k _ h' _ (.str _ _) y1 y2.extBut
  done s Q E hh x k := by
    have : (strData l).length = l.length := by simp [strData]
    rw [this] at x
    exact wpAny_pyNext_ascii_end hh x (by simp [S]) fun h' y => k h' s.toks y
  sim i h h' kp x := by
    obtain ⟨o, e, c, d⟩ := x
    exact ⟨o, rec_sim kp (by rw [c]; intro q; cases q) ⟨_, d⟩ e, c, d⟩
  hide i h own ho x := by
    obtain ⟨o, e, c, d⟩ := x
    exact ⟨o, PySem.W.hideAll_get own e fun q => ((ho _ q).2 _ e).2 _ d, c, d⟩

/-- an expression, and the iterator over what it yields -/
noncomputable def ItEv (G : TopC) (C : Cx) (V : List (Option VV)) (e : Expr) (items : List PyData) : Prop :=
  ∀ (s : Shared) (Q E : Value → Shared → Prop), St G C V s → (∀ (I : Addr) s', (∀ bad : Addr → Prop, (∀ b, bad b → C.bad b ∨ s'.heap.get? b = none) → ∃ it : Iter G C.A bad items I, it.St 0 s'.heap) → Kp G s s' → (∀ o, Plain o → s.heap.get? I ≠ some o) → G.hT.get? I = none → ¬ C.bad I → Q (.ref I) s') →
    wpAny (model G.prog G.w) C.A (eval e C.env) (fun x s1 => wpAny (model G.prog G.w) C.A (pyIter x) Q E s1) E s
theorem fresh_of {s s1 : Shared} (q : St G C V s) (k : Kp G s s1) {I : Addr} (e : s1.heap.get? I = none) : (∀ o, Plain o → s.heap.get? I ≠ some o) ∧ G.hT.get? I = none ∧ ¬ C.bad I := by
  have q1 := q.keeps k
  refine ⟨fun o p h => ?_, ?_, q1.new e⟩
  · obtain ⟨o', e', _⟩ := k.heap I o p h
    rw [e] at e'; cases e'
  · cases h : G.hT.get? I with
    | none => rfl
    | some o => have := q1.ok.top I o h; rw [e] at this; cases this
theorem reads_some {h : Heap} {v : Value} {d : PyData} {as : List Addr} (r : Reads h v d as) : ∀ a ∈ as, ∃ o, h.get? a = some o := reads_all (fun _ o e _ => ⟨o, e⟩) r
theorem readsAll_some {h : Heap} {v : List Value} {d : List PyData} {as : List Addr} (r : ReadsAll h v d as) : ∀ a ∈ as, ∃ o, h.get? a = some o := readsAll_all (fun _ o e _ => ⟨o, e⟩) r
theorem itEv_list {e : Expr} {items : List PyData} (x : Ev G C V e (.list items)) : ItEv G C V e items := fun s Q E q k =>
  x s _ E q fun v s1 k1 r => by
    obtain ⟨l, vs, rfl, hl, hb, r⟩ := r.list_inv
    refine wpAny_pyIter_list hl ?_
    obtain ⟨f1, f2, f3⟩ := fresh_of q k1 (get_size s1.heap)
    have up : ∀ b o, s1.heap.get? b = some o → (s1.heap.push { cls := .type "list_iterator", data := .fields #[.ref l, .int 0 0] }).get? b = some o := fun b o e => Heap.get?_push_of_some _ e
    refine k s1.heap.objs.size _ (fun bad hbad => ⟨Iter.list G C.A bad items _ l vs, ⟨⟨_, Heap.get?_push_size _ rfl, rfl, rfl⟩, hl.push _, fun z => ?_, ?_⟩⟩) (k1.trans (Kp.of_push G s1.toks { cls := .type "list_iterator", data := .fields #[.ref l, .int 0 0] })) f1 f2 f3
    · rcases hbad l z with h | h
      · exact hb h
      · obtain ⟨o, e, _⟩ := hl
        rw [show ({ s1 with heap := s1.heap.push { cls := .type "list_iterator", data := .fields #[.ref l, .int 0 0] } } : Shared).heap.get? l = some o from up l o e] at h; cases h
    · obtain ⟨as, x, p⟩ := r
      refine ⟨as, readsAll_sim (.of_keeps up) x, fun a ha z => ?_⟩
      rcases hbad a z with h | h
      · exact p a ha h
      · obtain ⟨o, e⟩ := readsAll_some x a ha
        rw [show ({ s1 with heap := s1.heap.push { cls := .type "list_iterator", data := .fields #[.ref l, .int 0 0] } } : Shared).heap.get? a = some o from up a o e] at h; cases h
theorem rangeNames {s : Shared} (q : St G C V s) {rp rpos : Pos} {args : List Expr} {Q E : Value → Shared → Prop} (hk : C.env.kindOf (Str.ofString "range") = some .globalImplicit) (hm : G.mg (Str.ofString "range") = none) (hb : G.mb (Str.ofString "range") = some (.type "range"))
    (h : wpAny (model G.prog G.w) C.A (callWith rpos (.type "range") [] (backTo rpos (starEach args C.env)) []) Q E s) : wpAny (model G.prog G.w) C.A (eval (.Call (.Name (Str.ofString "range") rp) args [] rpos) C.env) Q E s :=
  wpAny_Call_NameR (bltName q hk (by decide) hm hb h)
theorem itEv_range1 {e : Expr} {rp rpos : Pos} {n : Int} (hk : C.env.kindOf (Str.ofString "range") = some .globalImplicit) (hm : G.mg (Str.ofString "range") = none) (hb : G.mb (Str.ofString "range") = some (.type "range")) (x : Ev G C V e (.int n)) (h0 : 0 ≤ n) (h1 : n < 1000000)
    (hs : ∀ env, starEach [e] env = [(false, eval e env)] := by intro _; rfl) : ItEv G C V (.Call (.Name (Str.ofString "range") rp) [e] [] rpos) (rangeData 0 n.toNat) := fun s Q E q k => by
  refine rangeNames q hk hm hb ?_
  have e' : backTo rpos (starEach [e] C.env) = [(false, eval e C.env)] := by rw [hs]; rfl
  rw [e']
  refine PyProof.Rows.callWith_type rfl (evalArgs_plain (spliced_cons (x s _ E q fun v s1 k1 r => spliced_nil ?_)))
  obtain ⟨t, rfl⟩ := r.int_inv
  refine call_range_1 ?_
  refine wpAny_pyIter_range (IsRange.new ..) (small_one (by decide) (by decide) (by omega) (by omega)) ?_
  have hsz : Builtin.Range.rangeSize 0 n 1 = (n.toNat : Int) := by rw [rangeSize_one]; split <;> omega
  have k2 := k1.trans (Kp.of_push G (s1.toks + 1 + 1) { cls := .type "range", data := .fields #[.int 0 s1.toks, .int n t, .int 1 (s1.toks + 1)] })
  obtain ⟨f1, f2, f3⟩ := fresh_of q k2 (get_size _)
  refine k _ _ (fun bad _ => ⟨Iter.range G C.A bad 0 n.toNat _, ?_⟩) (k2.trans (Kp.of_push G _ _)) f1 f2 f3
  show IsRangeIter _ _ (0 + ((0 : Nat) : Int)) ((n.toNat : Int) - ((0 : Nat) : Int)) 1
  have e2 : ((n.toNat : Int) - ((0 : Nat) : Int)) = Builtin.Range.rangeSize 0 n 1 := by rw [hsz]; simp
  rw [e2]
  exact Heap.get?_push_size _ rfl
theorem itEv_range2 {e e2 : Expr} {rp rpos : Pos} {a n : Int} (hk : C.env.kindOf (Str.ofString "range") = some .globalImplicit) (hm : G.mg (Str.ofString "range") = none) (hb : G.mb (Str.ofString "range") = some (.type "range")) (x : Ev G C V e (.int a)) (y : Ev G C V e2 (.int n)) (h0 : 0 ≤ a) (h1 : a ≤ n) (h2 : n < 1000000)
    (hs : ∀ env, starEach [e, e2] env = [(false, eval e env), (false, eval e2 env)] := by intro _; rfl) : ItEv G C V (.Call (.Name (Str.ofString "range") rp) [e, e2] [] rpos) (rangeData a (n - a).toNat) := fun s Q E q k => by
  refine rangeNames q hk hm hb ?_
  have e' : backTo rpos (starEach [e, e2] C.env) = [(false, eval e C.env), (false, eval e2 C.env)] := by rw [hs]; rfl
  rw [e']
  refine PyProof.Rows.callWith_type rfl (evalArgs_plain (spliced_cons (x s _ E q fun v s1 k1 r => spliced_cons (y s1 _ E (q.keeps k1) fun v2 s2 k2 r2 => spliced_nil ?_))))
  obtain ⟨t, rfl⟩ := r.int_inv
  obtain ⟨t2, rfl⟩ := r2.int_inv
  refine call_range_2 ?_
  refine wpAny_pyIter_range (IsRange.new ..) (small_one (by omega) (by omega) (by omega) (by omega)) ?_
  have hsz : Builtin.Range.rangeSize a n 1 = ((n - a).toNat : Int) := by rw [rangeSize_one]; split <;> omega
  have k3 := (k1.trans k2).trans (Kp.of_push G (s2.toks + 1) { cls := .type "range", data := .fields #[.int a t, .int n t2, .int 1 s2.toks] })
  obtain ⟨f1, f2, f3⟩ := fresh_of q k3 (get_size _)
  refine k _ _ (fun bad _ => ⟨Iter.range G C.A bad a (n - a).toNat _, ?_⟩) (k3.trans (Kp.of_push G _ _)) f1 f2 f3
  show IsRangeIter _ _ (a + ((0 : Nat) : Int)) (((n - a).toNat : Int) - ((0 : Nat) : Int)) 1
  have e2 : (((n - a).toNat : Int) - ((0 : Nat) : Int)) = Builtin.Range.rangeSize a n 1 := by rw [hsz]; simp
  have e3 : a + ((0 : Nat) : Int) = a := by simp
  rw [e2, e3]
  exact Heap.get?_push_size _ rfl
theorem itEv_str {e : Expr} {l : List Nat} (x : Ev G C V e (.str (S l))) (ha : ∀ c ∈ l, c < 128) : ItEv G C V e (strData l) := fun s Q E q k =>
  x s _ E q fun v s1 k1 r => by
    obtain ⟨t, rfl⟩ := r.str_inv
    refine wpAny_pyIter_ascii (by simp [S]; exact ha) ?_
    obtain ⟨f1, f2, f3⟩ := fresh_of q k1 (get_size s1.heap)
    exact k s1.heap.objs.size _ (fun bad _ => ⟨Iter.str G C.A bad l t _, ⟨_, Heap.get?_push_size _ rfl, rfl, rfl⟩⟩) (k1.trans (Kp.of_push G s1.toks { cls := .type "str_ascii_iterator", data := .fields #[.str (S l) t, .int 0 0] })) f1 f2 f3

theorem own_obj {B : Base} {s : Shared} (q : FS G B C V acc s) : ∀ a ∈ ownList C acc, ∀ o, s.heap.get? a = some o → NoTup o ∧ ∀ vs, o.data ≠ .fields vs := fun a ha o e => by
  rcases List.mem_cons.mp ha with rfl | ha
  · obtain ⟨m, o', es, ep, e', d, _⟩ := q.ns
    rw [e] at e'; cases e'
    exact ⟨fun ⟨_, vs, n, z⟩ => (by rw [d] at z; cases z), fun vs z => by rw [d] at z; cases z⟩
  rcases List.mem_append.mp ha with ha | ha
  · obtain ⟨⟨x, c⟩, hc, rfl⟩ := List.mem_map.mp ha
    obtain ⟨v, o', e', d⟩ := q.cs x c hc
    rw [e] at e'; cases e'
    exact ⟨fun ⟨_, vs, n, z⟩ => (by rw [d] at z; cases z), fun vs z => by rw [d] at z; cases z⟩
  · obtain ⟨⟨c, ds⟩, hm, rfl⟩ := List.mem_map.mp ha
    · obtain ⟨_, vs, ⟨o', n, e', hc, _, d⟩, _⟩ := q.acc c ds hm
      rw [e] at e'; cases e'
      exact ⟨fun ⟨z, _⟩ => (by rw [hc] at z; simp at z), fun vs z => by rw [d] at z; cases z⟩
/-- for x in e: the state between the turns is told by J -/
theorem ex1_for {x : Str} {px pos : Pos} {e : Expr} {items : List PyData} {body : List Stmt} {P : Post} (it : ItEv G (C.wa acc) V e items) (J : Nat → List (Option VV) → Acc → Prop) (h0 : J 0 V acc)
    (hacc : ∀ i V1 acc1, J i V1 acc1 → acc1.map (·.1) = acc.map (·.1))
    (turn : ∀ i d V1 acc1, items[i]? = some d → J i V1 acc1 → ∃ V2, SetIx C.N V1 x (.d d) V2 ∧
      Ex G C V2 acc1 body (fun o V' acc' => match o with | .next => J (i + 1) V' acc' | .brk => P .next V' acc' | .ret r => P (.ret r) V' acc'))
    (done : ∀ V' acc', J items.length V' acc' → P .next V' acc') (ho : C.own = C.env.cells := by rfl)
    (hs : ∀ env y, foldedSetIterable e env y = pure y := by intro _ _; rfl) : Ex1 G C V acc (.For (.Name x px) e body [] pos) P := fun B s Q E q k => by
  refine wpAny_For (it s _ E q.st fun I s1 mk k1 f1 f2 f3 => ?_) (hs C.env)
  obtain ⟨it, hst⟩ := mk (C.wa acc).bad fun b hb => .inl hb
  have q1 := q.keeps k1
  have wa : ∀ acc1 : Acc, acc1.map (·.1) = acc.map (·.1) → C.wa acc1 = C.wa acc := fun acc1 h => by unfold Cx.wa; rw [h]
  have hBI : ∀ o, Plain o → B.h.get? I ≠ some o := fun o p e => by
    obtain ⟨o', e', s'⟩ := q.base I o p e
    exact f1 o' (p.sim s') e'
  refine codeAny_forLoop (fun n s => ∃ i V1 acc1, i ≤ items.length ∧ n = items.length - i ∧ J i V1 acc1 ∧ FS G B C V1 acc1 s ∧ it.St i s.heap) ?_ (items.length - 0) ⟨0, V, acc, Nat.zero_le _, rfl, h0, q1, hst⟩
  rintro n s2 ⟨i, V1, acc1, hi, rfl, hJ, q2, hst2⟩
  have hw := wa acc1 (hacc i V1 acc1 hJ)
  obtain ⟨oi, ei, io⟩ := it.obj i _ hst2
  have hbI : ¬ (C.wa acc1).bad I := by rw [hw]; exact f3
  have hh : C.A.handled = none := q2.st.a.1
  cases hd : items[i]? with
  | none =>
    have : i = items.length := by
      have := List.getElem?_eq_none_iff.mp hd
      omega
    subst this
    refine it.done s2 _ _ hh hst2 fun h' tk ext => ?_
    have q3 := q2.step (tk := tk) ei io hBI f2 hbI ext
    exact wpAny_execs_nil (k .next .next _ _ _ (done V1 acc1 hJ) q3 rfl)
  | some d =>
    have hlt : i < items.length := (List.getElem?_eq_some_iff.mp hd).1
    refine it.item i d s2 _ _ hd hst2 fun v h' tk r hst3 ext => ?_
    have q3 := q2.step (tk := tk) ei io hBI f2 hbI ext
    obtain ⟨V2, hset, hex⟩ := turn i d V1 acc1 hd hJ
    have r' : Rd (C.wa acc1).bad h' v d := by rw [hw]; exact r
    refine wpAny_assign_Name (storeVar q3 (.inl ho) hset (o := .d d) r' fun s4 q4 keep4 _ => ?_)
    have hst4 : it.St (i + 1) s4.heap := by
      obtain ⟨a, ha, hsb⟩ := keep4
      have hid := it.hide (i + 1) h' (ownList C acc1) (fun a ha => ⟨by have := own_bad q3 a ha; rw [hw] at this; exact this, own_obj q3 a ha⟩) hst3
      refine it.sim (i + 1) _ _ (fun b o _ e => ⟨o, ?_, .refl o⟩) hid
      have hm : a ∈ ownList C acc1 := by
        rcases ha with rfl | ⟨y, hy⟩
        · exact .head _
        · exact .tail _ (List.mem_append_left _ (List.mem_map_of_mem (f := (·.2)) hy))
      refine (hsb.2 b fun z => ?_).trans (PySem.W.of_hideAll _ e)
      rw [z, PySem.W.hideAll_none _ hm] at e; cases e
    refine hex (B.loop C acc1 s4) s4 _ _ q4.loop fun o f V' acc' s5 p q5 hf => ?_
    have q6 := q4.back q5
    cases o with
    | next =>
      cases hf
      refine ⟨items.length - (i + 1), by omega, i + 1, V', acc', hlt, rfl, p, q6, ?_⟩
      have hid := it.hide (i + 1) s4.heap (ownList C acc1) (fun a ha => ⟨by have := own_bad q4 a ha; rw [hw] at this; exact this, own_obj q4 a ha⟩) hst4
      exact it.sim (i + 1) _ _ q5.base hid
    | brk => cases hf; exact k .next .next _ _ _ p q6 rfl
    | ret d => obtain ⟨v, rfl, r⟩ := hf; exact k (.ret d) _ _ _ _ p q6 ⟨v, rfl, r⟩
end
section
variable {G : TopC} {C : Cx} {V : List (Option VV)} {acc : Acc}

/-- while: J by a measure -/
theorem ex1_while {t : Expr} {pos : Pos} {body : List Stmt} {P : Post} (J : Nat → List (Option VV) → Acc → Prop) (n0 : Nat) (h0 : J n0 V acc)
    (turn : ∀ n V1 acc1, J n V1 acc1 → ∃ b, Tr G (C.wa acc1) V1 t b ∧
      (b = true → Ex G C V1 acc1 body (fun o V' acc' => match o with | .next => ∃ m, m < n ∧ J m V' acc' | .brk => P .next V' acc' | .ret r => P (.ret r) V' acc')) ∧ (b = false → P .next V1 acc1)) :
    Ex1 G C V acc (.While t body [] pos) P := fun B s Q E q k => by
  refine wpAny_While (codeAny_whileLoop (fun n s => ∃ V1 acc1, J n V1 acc1 ∧ FS G B C V1 acc1 s) ?_ n0 ⟨V, acc, h0, q⟩)
  rintro n s1 ⟨V1, acc1, hJ, q1⟩
  obtain ⟨b, ht, h1, h2⟩ := turn n V1 acc1 hJ
  refine ht s1 _ _ q1.st fun s2 k2 => ?_
  have q2 := q1.keeps k2
  cases b with
  | false => exact wpAny_execs_nil (k .next .next _ _ _ (h2 rfl) q2 rfl)
  | true =>
    refine h1 rfl B s2 _ _ q2 fun o f V' acc' s' p q' hf => ?_
    cases o with
    | next => cases hf; obtain ⟨m, hm, hJ'⟩ := p; exact ⟨m, hm, V', acc', hJ', q'⟩
    | brk => cases hf; exact k .next .next _ _ _ p q' rfl
    | ret d => obtain ⟨v, rfl, r⟩ := hf; exact k (.ret d) _ _ _ _ p q' ⟨v, rfl, r⟩

/-- a, b = e, where e is no display -/
theorem ex1_unpack2 {x y : Str} {e : Expr} {px py tp pos : Pos} {k0 : Nat} {d1 d2 : PyData} {V1 V2 : List (Option VV)} {P : Post} (he : Ev G (C.wa acc) V e (.tuple [d1, d2])) (hx : SetIx C.N V x (.d d1) V1) (hy : SetIx C.N V1 y (.d d2) V2) (h : P .next V2 acc) (ho : C.own = C.env.cells := by rfl)
    (hs : ∀ env, swapsWithSole [.Tuple [.Name x px, .Name y py] k0 tp] e pos.line env = pure false := by intro _; rfl) (hw : ∀ env, swappedStores [.Tuple [.Name x px, .Name y py] k0 tp] e env = pure none := by intro _; rfl) :
    Ex1 G C V acc (.Assign [.Tuple [.Name x px, .Name y py] k0 tp] e pos) P := fun B s Q E q k =>
  Assign_Tuple (he s _ E q.st fun v s1 k1 r => by
    obtain ⟨a, vs, rfl, ht, r⟩ := r.tuple_inv
    obtain ⟨v1, vs, rfl, r1, r⟩ := r.cons_inv
    obtain ⟨v2, vs, rfl, r2, r⟩ := r.cons_inv
    cases r.nil_inv
    refine wpAny_assign_Tuple q.st.a.1 ht rfl rfl fun h' ext => ?_
    have up : ∀ b o, s1.heap.get? b = some o → h'.get? b = some o := fun b o e => ext b o (Nat.ne_of_lt (Heap.lt_size e)) e
    have k2 : Kp G s1 { s1 with heap := h' } := Kp.of_keeps G s1.toks up
    show wpAny _ _ (holding [v2] (assign (.Name x px) C.env v1) >>= fun _ => assignInOrder [assign (.Name y py) C.env] [v2]) _ _ _
    refine wpAny_bind (wpAny_holding (wpAny_assign_Name (storeVar ((q.keeps k1).keeps k2) (.inl ho) hx (o := .d d1) (r1.sim k2.heap) fun s3 q3 keep3 _ => ?_)))
    show wpAny _ _ (holding [] (assign (.Name y py) C.env v2) >>= fun _ => assignInOrder [] []) _ _ _
    have r2' : Rd (C.wa acc).bad s3.heap v2 d2 := by
      have r2a := r2.sim k2.heap
      obtain ⟨a, ha, hsb⟩ := keep3
      have qq := (q.keeps k1).keeps k2
      rcases ha with rfl | ⟨z, hz⟩
      · obtain ⟨m, oa, es, ep, e1, dd, _⟩ := qq.ns
        exact r2a.but (.inl qq.own.L) e1 (fun ⟨_, vs, n, z⟩ => by rw [dd] at z; cases z) hsb
      · obtain ⟨u, oa, e1, dd⟩ := qq.cs z a hz
        exact r2a.but (.inl (qq.own.c z a hz)) e1 (fun ⟨_, vs, n, z⟩ => by rw [dd] at z; cases z) hsb
    refine wpAny_bind (wpAny_holding (wpAny_assign_Name (storeVar q3 (.inl ho) hy (o := .d d2) r2' fun s4 q4 _ _ => ?_)))
    exact wpAny_pure (k .next .next _ _ _ h q4 rfl)) (hs _) (hw _)

/-- x += e -/
theorem ex1_addI {x : Str} {e : Expr} {px pos : Pos} {a b : Int} {V' : List (Option VV)} {P : Post} (hx : VarIx C.N V x (.d (.int a))) (he : Ev G (C.wa acc) V e (.int b)) (hs : SetIx C.N V x (.d (.int (a + b))) V') (h : P .next V' acc) (ho : C.own = C.env.cells := by rfl) :
    Ex1 G C V acc (.AugAssign (.Name x px) .Add e pos) P := fun B s Q E q k =>
  wpAny_AugAssign_Name (loadVar q.st hx fun v hv => he s _ E q.st fun u s1 k1 r => by
    obtain ⟨t, rfl⟩ := Rd.int_inv hv
    obtain ⟨t', rfl⟩ := r.int_inv
    exact wpAny_iadd_int (storeVar ((q.keeps k1).keeps (Kp.of_toks G _)) (.inl ho) hs (o := .d (.int (a + b))) (.int _ _) fun s' q' _ _ => k .next .next _ _ _ h q' rfl))
theorem ex1_subI {x : Str} {e : Expr} {px pos : Pos} {a b : Int} {V' : List (Option VV)} {P : Post} (hx : VarIx C.N V x (.d (.int a))) (he : Ev G (C.wa acc) V e (.int b)) (hs : SetIx C.N V x (.d (.int (a - b))) V') (h : P .next V' acc) (ho : C.own = C.env.cells := by rfl) :
    Ex1 G C V acc (.AugAssign (.Name x px) .Sub e pos) P := fun B s Q E q k =>
  wpAny_AugAssign_Name (loadVar q.st hx fun v hv => he s _ E q.st fun u s1 k1 r => by
    obtain ⟨t, rfl⟩ := Rd.int_inv hv
    obtain ⟨t', rfl⟩ := r.int_inv
    exact PyProof.Rows.isub_int (storeVar ((q.keeps k1).keeps (Kp.of_toks G _)) (.inl ho) hs (o := .d (.int (a - b))) (.int _ _) fun s' q' _ _ => k .next .next _ _ _ h q' rfl))
theorem ex1_addS {x : Str} {e : Expr} {px pos : Pos} {a b : List Nat} {V' : List (Option VV)} {P : Post} (hx : VarIx C.N V x (.d (.str (S a)))) (he : Ev G (C.wa acc) V e (.str (S b))) (hz : a.length + b.length ≤ 1000000) (hs : SetIx C.N V x (.d (.str (S (a ++ b)))) V') (h : P .next V' acc) (ho : C.own = C.env.cells := by rfl) :
    Ex1 G C V acc (.AugAssign (.Name x px) .Add e pos) P := fun B s Q E q k =>
  wpAny_AugAssign_Name (loadVar q.st hx fun v hv => he s _ E q.st fun u s1 k1 r => by
    obtain ⟨t, rfl⟩ := Rd.str_inv hv
    obtain ⟨t', rfl⟩ := r.str_inv
    refine iadd_str (fun t2 tk => ?_) (by rw [S_len, S_len]; exact Nat.le_trans hz (by decide))
    rw [S_app]
    exact storeVar ((q.keeps k1).keeps (Kp.of_toks G tk)) (.inl ho) hs (o := .d (.str (S (a ++ b)))) (.str _ _) fun s' q' _ _ => k .next .next _ _ _ h q' rfl)
theorem ex1_assert {t : Expr} {msg : Option Expr} {pos : Pos} {P : Post} (ht : Tr G (C.wa acc) V t true) (h : P .next V acc) : Ex1 G C V acc (.Assert t msg pos) P := fun B s Q E q k =>
  wpAny_Assert_holds (ht s _ E q.st fun s' k1 => ⟨rfl, k .next .next _ _ _ h (q.keeps k1) rfl⟩)

theorem reads_lt {h : Heap} {v : Value} {d : PyData} {as : List Addr} (r : Reads h v d as) : ∀ a ∈ as, a < h.objs.size := reads_all (fun _ _ e _ => Heap.lt_size e) r
theorem readsAll_lt {h : Heap} {v : List Value} {d : List PyData} {as : List Addr} (r : ReadsAll h v d as) : ∀ a ∈ as, a < h.objs.size := readsAll_all (fun _ _ e _ => Heap.lt_size e) r
/-- x = [], a list that is to grow -/
theorem ex1_acc {x : Str} {px pos lp : Pos} {P : Post} (hset : ∀ a, ∃ V', SetIx C.N V x (.v (.ref a)) V' ∧ P .next V' ((a, []) :: acc)) (ho : C.own = C.env.cells := by rfl)
    (hs : ∀ env, swapsWith (.List [] lp) (some (.Name x px)) pos.line env = pure false := by intro _; rfl) : Ex1 G C V acc (.Assign [.Name x px] (.List [] lp) pos) P := fun B s Q E q k => by
  refine wpAny_Assign_Name (wpAny_List_spliced (spliced_nil ⟨Nat.zero_le _, ?_⟩)) (hs _)
  obtain ⟨V', hv, h⟩ := hset s.heap.objs.size
  have k1 : Kp G s { s with heap := s.heap.push { cls := .type "list", data := .seq ([] : List Value).toArray } } := Kp.of_push G s.toks { cls := .type "list", data := .seq ([] : List Value).toArray }
  have q1 := q.keeps k1
  have fr := fresh_of q.st (.refl G s) (get_size s.heap)
  have hBa : ∀ o, Plain o → B.h.get? s.heap.objs.size ≠ some o := fun o p e => by
    obtain ⟨o', e', s'⟩ := q.base _ o p e
    exact fr.1 o' (p.sim s') e'
  have q2 : FS G B C V ((s.heap.objs.size, []) :: acc) { s with heap := s.heap.push { cls := .type "list", data := .seq ([] : List Value).toArray } } := by
    have wk : ∀ b, (C.wa ((s.heap.objs.size, []) :: acc)).bad b → (C.wa acc).bad b ∨ b = s.heap.objs.size := fun b hb => by
      rcases hb with hb | hb
      · exact .inl (.inl hb)
      · rcases List.mem_cons.mp hb with hb | hb
        · exact .inr hb
        · exact .inl (.inr hb)
    refine { st := ?_, base := q1.base, ownL := q1.ownL, ownC := q1.ownC, ns := q1.ns, cs := q1.cs, apart := q1.apart, gens := q1.gens, os := q1.os, accN := ?_, accB := fun c ds hm => ?_, acc := fun c ds hm => ?_, obad := q1.obad, own := q1.own, hT := q1.hT }
    · refine ⟨⟨q1.st.cx.kind, q1.st.cx.glob, q1.st.cx.blt, q1.st.cx.nodup, q1.st.cx.dbg, q1.st.cx.kinds⟩, q1.st.a, q1.st.ok, fun y o hy => ?_, fun b hb => ?_⟩
      · obtain ⟨v, st, hd⟩ := q.st.vars y o hy
        refine ⟨v, st.sim k1.heap, ?_⟩
        cases o with
        | v u => exact hd
        | d d =>
          obtain ⟨as, r, p⟩ := hd
          refine ⟨as, reads_sim k1.heap r, fun a ha hb => ?_⟩
          rcases wk a hb with hb | rfl
          · exact p a ha hb
          · exact absurd (reads_lt r _ ha) (Nat.lt_irrefl _)
      · rcases wk b hb with hb | rfl
        · exact q1.st.bad b hb
        · exact ⟨_, .of_cls (by simp), Heap.get?_push_size _ rfl⟩
    · refine List.nodup_cons.mpr ⟨fun hm => ?_, q.accN⟩
      obtain ⟨⟨c, ds⟩, hm, e⟩ := List.mem_map.mp hm
      obtain ⟨_, vs, ⟨o, n, e1, _⟩, _⟩ := q.acc c ds hm
      rw [show c = s.heap.objs.size from e, get_size] at e1; cases e1
    · rcases List.mem_cons.mp hm with e | hm
      · cases e; exact fun hb => fr.2.2 (.inl hb)
      · exact q.accB c ds hm
    · rcases List.mem_cons.mp hm with e | hm
      · cases e
        exact ⟨hBa, [], ⟨_, 0, Heap.get?_push_size _ rfl, rfl, rfl, rfl⟩, .nil⟩
      · obtain ⟨h1, vs, hl, _⟩ := q1.acc c ds hm
        obtain ⟨_, vs2, hl2, as, r, p⟩ := q.acc c ds hm
        have : vs2 = vs := by
          obtain ⟨o1, n1, e1, _, _, d1⟩ := hl
          obtain ⟨o2, n2, e2, _, _, d2⟩ := hl2
          have e3 := Heap.get?_push_of_some { cls := .type "list", data := .seq ([] : List Value).toArray } e2
          rw [show (s.heap.push { cls := .type "list", data := .seq ([] : List Value).toArray }).get? c = some o1 from e1] at e3
          cases e3
          rw [d1] at d2; injection d2 with d3 _; exact (congrArg Array.toList d3).symm
        subst this
        refine ⟨h1, vs2, hl, as, readsAll_sim k1.heap r, fun a ha hb => ?_⟩
        rcases wk a hb with hb | rfl
        · exact p a ha hb
        · exact absurd (readsAll_lt r _ ha) (Nat.lt_irrefl _)
  exact storeVar q2 (.inl ho) hv (o := .v (.ref s.heap.objs.size)) rfl fun s' q' _ _ => k .next .next _ _ _ h q' rfl

/-- one of the growing lists turned -/
inductive AccSet : Acc → Addr → List PyData → List PyData → Acc → Prop
  | head {a ds ds' r} : AccSet ((a, ds) :: r) a ds ds' ((a, ds') :: r)
  | tail {p r a ds ds' r'} : AccSet r a ds ds' r' → AccSet (p :: r) a ds ds' (p :: r')
theorem AccSet.mem {r a ds ds' r'} (h : AccSet r a ds ds' r') : (a, ds) ∈ r := by
  induction h with
  | head => exact .head _
  | tail _ ih => exact .tail _ ih
theorem AccSet.map {r a ds ds' r'} (h : AccSet r a ds ds' r') : r'.map (·.1) = r.map (·.1) := by
  induction h with
  | head => rfl
  | tail _ ih => simp only [List.map_cons, ih]
theorem AccSet.old {r a ds ds' r'} (h : AccSet r a ds ds' r') (hn : (r.map (·.1)).Nodup) {c e} (hm : (c, e) ∈ r') : (c = a ∧ e = ds') ∨ (c ≠ a ∧ (c, e) ∈ r) := by
  induction h with
  | head =>
    obtain ⟨h1, h2⟩ := List.nodup_cons.mp hn
    rcases List.mem_cons.mp hm with q | hm
    · cases q; exact .inl ⟨rfl, rfl⟩
    · exact .inr ⟨fun z => h1 (z ▸ List.mem_map_of_mem (f := (·.1)) hm), .tail _ hm⟩
  | tail h ih =>
    obtain ⟨h1, h2⟩ := List.nodup_cons.mp hn
    rcases List.mem_cons.mp hm with q | hm
    · subst q
      exact .inr ⟨fun z => h1 (by show c ∈ _; rw [z]; exact List.mem_map_of_mem (f := (·.1)) h.mem), .head _⟩
    · exact (ih h2 hm).imp id fun q => ⟨q.1, .tail _ q.2⟩
/-- the growing list turned: the frame stands -/
theorem FS.grow {B : Base} {s : Shared} {h' : Heap} {tk : Nat} {a : Addr} {ds ds' : List PyData} {acc' : Acc} {vs' : List Value} (q : FS G B C V acc s) (hg : AccSet acc a ds ds' acc') (hs : Heap.SameBut a s.heap h') (hl : PlainL h' a vs'.toArray) (hr : RdAll (C.wa acc).bad s.heap vs' ds') :
    FS G B C V acc' { s with heap := h', toks := tk } := by
  obtain ⟨g1, vs, ⟨oa, n, ha, hc, hdn, hdt⟩, r⟩ := q.acc a ds hg.mem
  have hba : (C.wa acc).bad a := .inr (List.mem_map_of_mem (f := (·.1)) hg.mem)
  have nt : NoTup oa := fun ⟨z, _⟩ => by rw [hc] at z; simp at z
  have nf : ∀ vs, oa.data ≠ .fields vs := fun vs z => by rw [hdt] at z; cases z
  have hP : a ≠ G.P := fun e => by
    obtain ⟨ps, e1, _⟩ := q.st.ok.tab
    rw [← e, ha] at e1; cases e1; exact nf _ rfl
  have hT : G.hT.get? a = none := by
    cases e : G.hT.get? a with
    | none => rfl
    | some o =>
      have := q.hT a o e
      have e2 := q.st.ok.top a o e
      rw [ha] at e2; cases e2
      exact absurd this (g1 _ (.of_data nf))
  obtain ⟨oa', n', ha', hc', hdn', hdt'⟩ := id hl
  have nf' : ∀ vs, oa'.data ≠ .fields vs := fun vs z => by rw [hdt'] at z; cases z
  have hw : C.wa acc' = C.wa acc := by unfold Cx.wa; rw [hg.map]
  have clK : ∀ {c : Addr} {v : Option Value}, s.heap.IsCell c v → h'.IsCell c v := fun {c v} x => x.sameBut hs fun z => by obtain ⟨o, e, d⟩ := x; rw [z, ha] at e; cases e; rw [hdt] at d; cases d
  have nsK : ∀ {L : Addr} {m : Str → Option Value}, s.heap.Ns L m → h'.Ns L m := fun {L m} x => x.sameBut hs fun z => by obtain ⟨o, es, ep, e, d, _⟩ := x; rw [z, ha] at e; cases e; rw [hdt] at d; cases d
  refine ⟨hw ▸ ⟨q.st.cx, q.st.a, ok_but q.st.ok hT hP hs (fun o e => ?_) (fun o e _ => ⟨oa', ha', nf'⟩) (fun o e => ?_), fun x o hx => ?_, fun b hb => ?_⟩, fun b o p e => ?_, q.ownL, q.ownC, ?_, fun x c hc => ?_, q.apart, q.gens, q.os, hg.map ▸ q.accN, fun c e hm => ?_, fun c e hm => ?_, q.obad, q.own, q.hT⟩
  · rw [ha] at e; cases e; exact .of_data nf
  · rw [ha] at e; cases e; exact nf
  · obtain ⟨v, st, hd⟩ := q.st.vars x o hx
    exact ⟨v, st.imp (fun ⟨a, m, b, c⟩ => ⟨a, m, nsK b, c⟩) (fun ⟨a, c, b, d⟩ => ⟨a, c, b, clK d⟩), hd.but hba ha nt hs⟩
  · obtain ⟨o, p, e⟩ := q.st.bad b hb
    by_cases z : b = a
    · subst z; exact ⟨oa', .of_data nf', ha'⟩
    · exact ⟨o, p, (hs.2 b z).trans e⟩
  · obtain ⟨o', e', s'⟩ := q.base b o p e
    exact ⟨o', (hs.2 b fun z => g1 o p (z ▸ e)).trans e', s'⟩
  · obtain ⟨m, hn⟩ := q.ns; exact ⟨m, nsK hn⟩
  · obtain ⟨v, h⟩ := q.cs x c hc; exact ⟨v, clK h⟩
  · rcases hg.old q.accN hm with ⟨rfl, rfl⟩ | ⟨ne, hm⟩
    · exact q.accB _ _ hg.mem
    · exact q.accB _ _ hm
  · rw [hw]
    rcases hg.old q.accN hm with ⟨rfl, rfl⟩ | ⟨ne, hm⟩
    · exact ⟨g1, vs', hl, hr.but hba ha nt hs⟩
    · obtain ⟨h1, vs2, ⟨o2, n2, e2, c2, dn2, dt2⟩, r2⟩ := q.acc c e hm
      exact ⟨h1, vs2, ⟨o2, n2, (hs.2 c ne).trans e2, c2, dn2, dt2⟩, r2.but hba ha nt hs⟩
/-- x.append(e) -/
theorem ex1_append {x : Str} {e : Expr} {px ap cp pos : Pos} {a : Addr} {ds : List PyData} {d : PyData} {acc' : Acc} {P : Post} (hx : VarIx C.N V x (.v (.ref a))) (hg : AccSet acc a ds (ds ++ [d]) acc') (he : Ev G (C.wa acc) V e d) (hz : ds.length ≤ 1000000) (h : P .next V acc')
    (hline : (ap.endLine == cp.line) = true := by rfl) (hs : ∀ env, starEach [e] env = [(false, eval e env)] := by intro _; rfl) (hi : ∀ env : Env, env.scope.kind = .function → interactive env = false := by intro env h; simp [interactive, h]; intro z; cases z) :
    Ex1 G C V acc (.Expr (.Call (.Attribute (.Name x px) (Str.ofString "append") ap) [e] [] cp) pos) P := fun B s Q E q k => by
  refine wpAny_Expr_any ?_ (hi C.env q.st.cx.kind) rfl
  have ht : backTo cp (starEach [e] C.env) = [(false, eval e C.env)] := by rw [hs]; rfl
  refine wpAny_Call_append rfl (by rw [ht]; rfl) hline ht ?_
  refine evV_name (G := G) (C := C.wa acc) hx s _ E q.st fun s1 k1 => ?_
  have q1 := q.keeps k1
  obtain ⟨_, vs, hl, _⟩ := q1.acc a ds hg.mem
  refine ⟨a, _, rfl, hl, ?_⟩
  refine he s1 _ E q1.st fun v s2 k2 r => ?_
  have q2 := q1.keeps k2
  obtain ⟨_, vs2, hl2, r2⟩ := q2.acc a ds hg.mem
  refine list_append_plainL hl2 (fun h' hl' hsb => ?_) (by rw [List.size_toArray, r2.length]; exact Nat.le_trans hz (by decide))
  rw [show vs2.toArray.push v = (vs2 ++ [v]).toArray by simp] at hl'
  exact k .next .next _ _ _ h (q2.grow (tk := s2.toks) hg hsb hl' (r2.append (.cons r .nil))) rfl

/-- a growing list is done: it is data now -/
theorem ex_freeze {x : Str} {a : Addr} {ds : List PyData} {V' : List (Option VV)} {b : List Stmt} {P : Post} (hx : VarIx C.N V x (.v (.ref a))) (hs : SetIx C.N V x (.d (.list ds)) V') (h : Ex G C V' acc b P) : Ex G C V ((a, ds) :: acc) b P := fun B s Q E q k => by
  obtain ⟨h1, vs, hl, r⟩ := q.acc a ds (.head _)
  obtain ⟨n1, n2⟩ := List.nodup_cons.mp q.accN
  have wk : ∀ b, (C.wa acc).bad b → (C.wa ((a, ds) :: acc)).bad b := fun b hb => hb.imp id fun h => .tail _ h
  refine h B s Q E ?_ k
  refine { st := ⟨⟨q.st.cx.kind, q.st.cx.glob, q.st.cx.blt, q.st.cx.nodup, q.st.cx.dbg, q.st.cx.kinds⟩, q.st.a, q.st.ok, fun y o hy => ?_, fun b hb => q.st.bad b (wk b hb)⟩, base := q.base, ownL := q.ownL, ownC := q.ownC, ns := q.ns, cs := q.cs, apart := q.apart, gens := q.gens, os := q.os, accN := n2, accB := fun c e hm => q.accB c e (.tail _ hm), acc := fun c e hm => ?_, obad := q.obad, own := q.own, hT := q.hT }
  · rcases hs.old q.st.cx.nodup hy with ⟨rfl, rfl⟩ | ⟨ne, hy'⟩
    · obtain ⟨v, st, hd⟩ := q.st.vars _ _ hx
      refine ⟨v, st, ?_⟩
      have : v = .ref a := hd
      subst this
      exact .list hl.isList (fun hb => hb.elim (fun h => q.accB a ds (.head _) h) n1) (r.weaken wk)
    · obtain ⟨v, st, hd⟩ := q.st.vars y o hy'
      refine ⟨v, st, ?_⟩
      cases o with
      | v u => exact hd
      | d d => exact Rd.weaken hd wk
  · obtain ⟨g1, vs2, l2, r2⟩ := q.acc c e (.tail _ hm)
    exact ⟨g1, vs2, l2, r2.weaken wk⟩

/-! a def, from its body -/
theorem bindL_get (k : Str → Option NameKind) : ∀ (bs : List (Str × Value)) (m : Str → Option Value) (x : Str) (v : Value), (bs.map (·.1)).Nodup → k x = some .local → (x, v) ∈ bs → bindL k bs m x = some v
  | (y, u) :: r, m, x, v, hn, hk, hm => by
    unfold bindL
    obtain ⟨h1, h2⟩ := List.nodup_cons.mp hn
    rcases List.mem_cons.mp hm with e | hm
    · cases e
      rw [if_pos hk]
      have keep : ∀ (bs : List (Str × Value)) (m : Str → Option Value), y ∉ bs.map (·.1) → bindL k bs m y = m y := by
        intro bs
        induction bs with
        | nil => intro m _; rfl
        | cons p r ih =>
          intro m hx
          obtain ⟨z, w⟩ := p
          unfold bindL
          rw [ih _ fun q => hx (List.mem_cons_of_mem _ q)]
          split
          · exact if_neg fun q => hx (by rw [q]; exact List.mem_cons_self)
          · rfl
      rw [keep r _ h1]; simp
    · exact bindL_get k r _ x v h2 hk hm
theorem bindC_get (k : Str → Option NameKind) : ∀ (bs : List (Str × Value)) (m : Str → Option Value) (x : Str) (v : Value), (bs.map (·.1)).Nodup → k x ≠ some .local → (x, v) ∈ bs → bindC k bs m x = some v
  | (y, u) :: r, m, x, v, hn, hk, hm => by
    unfold bindC
    obtain ⟨h1, h2⟩ := List.nodup_cons.mp hn
    rcases List.mem_cons.mp hm with e | hm
    · cases e
      rw [if_neg hk]
      have keep : ∀ (bs : List (Str × Value)) (m : Str → Option Value), y ∉ bs.map (·.1) → bindC k bs m y = m y := by
        intro bs
        induction bs with
        | nil => intro m _; rfl
        | cons p r ih =>
          intro m hx
          obtain ⟨z, w⟩ := p
          unfold bindC
          rw [ih _ fun q => hx (List.mem_cons_of_mem _ q)]
          split
          · rfl
          · exact if_neg fun q => hx (by rw [q]; exact List.mem_cons_self)
      rw [keep r _ h1]; simp
    · exact bindC_get k r _ x v h2 hk hm

/-- what is looked at in a def's own text -/
structure DefOk (sc : Scope) (N xs : List Str) : Prop where
  kind : sc.kind = .function
  co : sc.isCoroutine = false
  gen : sc.isGenerator = false
  nodup : N.Nodup
  dbg : ∀ x ∈ N, (x == ("__debug__" : Str)) = false
  kinds : ∀ x ∈ N, sc.names.lookup x = some .local ∨ sc.names.lookup x = some .cell
  params : xs.Nodup
  inN : ∀ x ∈ xs, x ∈ N
  cells : ((cellsFrom 0 sc.names []).map (·.1)).Nodup

theorem fn_of_body {fa : Addr} {fd : FuncData} {body : List Stmt} {n : Nat} {N xs : List Str} {args : List PyData} {d : PyData} {V0 : List (Option VV)} {f : Str} (hf : FnIs G f fa fd) (hb : fd.body = .stmts body) (hcl : fd.closure = []) (hg : fd.globals = mainGlobals) (hbl : fd.builtins = builtinsNs)
    (D : DefOk fd.scope N xs) (hlen : xs.length = args.length) (hbind : ∀ vs : List Value, vs.length = xs.length → bindArgs fd ⟨vs, []⟩ = pure (xs.zip vs))
    (hV : ∀ x o, VarIx N V0 x o → ∃ d, o = .d d ∧ (x, d) ∈ xs.zip args)
    (ex : ∀ C : Cx, (∀ x, C.env.kindOf x = fd.scope.names.lookup x) → C.env.scope = fd.scope → C.N = N → C.n = n → C.A.handled = none → C.own = C.env.cells → Ex G C V0 [] body (fun o _ _ => o = .ret d)) : Fn G fa (n + 1) args d := by
  intro A bad s vs Q E hA hok hbad hr hQ
  obtain ⟨hm, ⟨o, ho, hdat⟩, hcr⟩ := hf
  have hvl : vs.length = xs.length := by rw [hr.length, hlen]
  have ho' := hok.top _ _ ho
  refine wpAny_call (codeAny_call_function (by have := hA.2.1; omega) ho' hdat D.co D.gen hb (hcr.keeps fun b o e => hok.top b o e) ?_)
  rw [hbind vs hvl]
  refine wpAny_pure ?_
  rw [hcl]
  refine wpAny_newFunctionEnv_cells D.kind (fun x hx => ?_) fun env he s' x => ?_
  · have hxm : x.1 ∈ xs := (List.of_mem_zip hx).1
    rcases D.kinds _ (D.inN _ hxm) with h | h
    · exact .inl h
    · exact .inr ⟨h, PySem.W.cellsFrom_some _ _ _ (.inl h)⟩
  have hnd : ((xs.zip vs).map (·.1)).Nodup := by
    rw [List.map_fst_zip (by omega)]; exact D.params
  have hcn : (env.cells.map (·.1)).Nodup := by
    have : env.cells = cellsFrom (s.heap.objs.size + 1) fd.scope.names [] := by rw [he]; rfl
    rw [this, cellsFrom_names fd.scope.names _ 0 [] [] rfl]; exact D.cells
  have hsc : env.scope = fd.scope := by rw [he]; rfl
  obtain ⟨h', tk, hs', hkeep⟩ := x.done
  have hko : ∀ y, env.kindOf y = fd.scope.names.lookup y := fun y => by unfold Env.kindOf; rw [hsc]
  have look : ∀ {l : List (Str × Addr)}, (l.map (·.1)).Nodup → ∀ {y c}, (y, c) ∈ l → l.lookup y = some c := by
    intro l
    induction l with
    | nil => intro _ y c h; cases h
    | cons p r ih =>
      intro hn y c h
      obtain ⟨z, w⟩ := p
      obtain ⟨h1, h2⟩ := List.nodup_cons.mp hn
      rw [List.lookup_cons]
      rcases List.mem_cons.mp h with e | h
      · cases e; simp
      · have : (y == z) = false := by
          rw [beq_eq_false_iff_ne]
          intro e
          exact h1 (List.mem_map.mpr ⟨_, h, e⟩)
        rw [this]; exact ih h2 h
  refine ⟨(hok.g.nolimit.keeps fun b o e => hok.top b o e).keeps (by rw [hs']; exact hkeep), codeAny_func ?_⟩
  have hfr : env.frame = some env.locals := by rw [he]; rfl
  have hLsz : s.heap.objs.size ≤ env.locals := x.toInCall.fresh
  have hLn : ∀ h : Heap, (∀ b o, h.get? b = some o → s.heap.get? b = some o) → h.get? env.locals = none := fun h up => by
    cases e : h.get? env.locals with
    | none => rfl
    | some o => exact absurd (Heap.lt_size (up _ _ e)) (Nat.not_lt.mpr hLsz)
  have hcN : ∀ y c, (y, c) ∈ env.cells → s.heap.get? c = none := fun y c hc => by
    cases e : s.heap.get? c with
    | none => rfl
    | some o => exact absurd (Heap.lt_size e) (Nat.not_lt.mpr (Nat.le_of_lt (Nat.lt_of_le_of_lt hLsz (x.above y c hc))))
  let C : Cx := { A := A.deeper env, env := env, N := N, bad := fun b => bad b ∨ b = env.locals ∨ ∃ y, (y, b) ∈ env.cells, n := n, own := env.cells }
  have kpx : Kp G s s' := by rw [hs']; exact Kp.of_keeps G tk hkeep
  have okx := hok.keeps kpx
  have cellAt : ∀ y c, (y, c) ∈ env.cells → s'.heap.IsCell c (bindC env.kindOf (xs.zip vs) (fun _ => none) y) := fun y c hc => x.cell y c (look hcn hc)
  have F : FS G { h := s.heap, gens := s.gens, os := s.os, bad := bad } C V0 [] s' := by
    refine { st := ⟨⟨by show env.scope.kind = _; rw [hsc]; exact D.kind, by show env.globals = _; rw [he]; exact hg, by show env.builtins = _; rw [he]; exact hbl, D.nodup, D.dbg, fun y hy => ?_⟩, ⟨hA.1, ?_, ?_⟩, ⟨okx.g, okx.top, okx.tab, ?_⟩, fun y o hy => ?_, fun b hb => ?_⟩,
             base := .of_keeps (by rw [hs']; exact hkeep), ownL := hLn s.heap fun _ _ e => e, ownC := hcN, ns := ⟨_, x.toInCall.ns⟩, cs := fun y c hc => ⟨_, cellAt y c hc⟩, apart := x.apart, gens := ⟨#[], by rw [hs']; simp, by simp⟩, os := by rw [hs'],
             accN := .nil, accB := fun _ _ h => (nomatch h), acc := fun _ _ h => (nomatch h), obad := fun b hb => ⟨.inl hb, hbad b hb⟩, own := ⟨.inr (.inl rfl), fun y c hc => .inr (.inr ⟨y, hc⟩)⟩, hT := hok.top }
    · show env.kindOf y = _ ∨ (env.kindOf y = _ ∧ _)
      rw [hko]
      rcases D.kinds y hy with h | h
      · exact .inl h
      · refine .inr ⟨h, ?_⟩
        have : env.cells = cellsFrom (s.heap.objs.size + 1) fd.scope.names [] := by rw [he]; rfl
        have hh := PySem.W.cellsFrom_some fd.scope.names (s.heap.objs.size + 1) [] (x := y) (.inl h)
        exact ⟨_, by show env.cells.lookup y = _; rw [this]; exact (Option.some_get hh).symm⟩
    · show A.depth + 1 + n < recursionLimit; have := hA.2.1; omega
    · show A.units + 3 + 4 * n + 100 < cLine; have := hA.2.2; omega
    · obtain ⟨l, e, f⟩ := okx.frames
      refine ⟨env :: l, Around.frames_deeper e, ?_⟩
      exact .cons (by rw [hsc, D.kind]; intro z; cases z) hfr x.toInCall.ns (hLn G.hT hok.top) f
    · obtain ⟨d, rfl, hm⟩ := hV y o hy
      have hym : y ∈ xs := (List.of_mem_zip hm).1
      obtain ⟨i, hi⟩ := List.mem_iff_getElem?.mp hm
      have hi1 : xs[i]? = some y ∧ args[i]? = some d := by
        have := List.getElem?_zip_eq_some.mp hi
        exact this
      obtain ⟨v, hv, r⟩ := hr.get hi1.2
      have hzm : (y, v) ∈ xs.zip vs := List.mem_iff_getElem?.mpr ⟨i, List.getElem?_zip_eq_some.mpr ⟨hi1.1, hv⟩⟩
      refine ⟨v, ?_, ?_⟩
      · rcases D.kinds y (D.inN y hym) with h | h
        · refine .inl ⟨by rw [show ((C.wa []).env) = env from rfl, hko]; exact h, _, x.toInCall.ns, bindL_get _ _ _ _ _ hnd (by rw [hko]; exact h) hzm⟩
        · have : env.cells = cellsFrom (s.heap.objs.size + 1) fd.scope.names [] := by rw [he]; rfl
          have hh := PySem.W.cellsFrom_some fd.scope.names (s.heap.objs.size + 1) [] (x := y) (.inl h)
          have hl : env.cells.lookup y = some ((cellsFrom (s.heap.objs.size + 1) fd.scope.names []).lookup y |>.get hh) := by rw [this]; exact (Option.some_get hh).symm
          refine .inr ⟨by rw [show ((C.wa []).env) = env from rfl, hko]; exact h, _, hl, ?_⟩
          have hc := x.cell y _ hl
          rw [bindC_get _ _ _ _ _ hnd (by rw [hko, h]; intro z; cases z) hzm] at hc
          exact hc
      · obtain ⟨as, rr, p⟩ := r
        refine ⟨as, reads_sim kpx.heap rr, fun a ha hb => ?_⟩
        have lt := reads_lt rr a ha
        rcases hb with (hb | rfl | ⟨z, hz⟩) | hb
        · exact p a ha hb
        · exact absurd lt (Nat.not_lt.mpr hLsz)
        · exact absurd lt (Nat.not_lt.mpr (Nat.le_of_lt (Nat.lt_of_le_of_lt hLsz (x.above z a hz))))
        · cases hb
    · rcases hb with (hb | rfl | ⟨z, hz⟩) | hb
      · obtain ⟨o, p, e⟩ := hbad b hb
        obtain ⟨o', e', s1⟩ := kpx.heap b o p e
        exact ⟨o', p.sim s1, e'⟩
      · obtain ⟨o, es, ep, e, d, _⟩ := x.toInCall.ns
        exact ⟨o, Plain.of_data (fun vs q => by rw [d] at q; cases q), e⟩
      · obtain ⟨o, e, d⟩ := cellAt z b hz
        exact ⟨o, Plain.of_data (fun vs q => by rw [d] at q; cases q), e⟩
      · cases hb
  refine ex C hko hsc rfl rfl hA.1 rfl _ s' _ _ F fun o f V' acc' s2 p q hf => ?_
  subst p
  obtain ⟨v, rfl, r⟩ := hf
  exact hQ v s2 ⟨q.base, fun _ => q.st.ok.top, fun _ => q.st.ok.tab, q.gens, q.os⟩ r
end
section

theorem tn0 (i : Nat) : ((i : Nat) : Int).toNat = i + 0 := rfl
theorem tn1 (i : Nat) : (((i : Nat) : Int) + 1).toNat = i + 1 := rfl
theorem tn2 (i : Nat) : (((i : Nat) : Int) + 1 + 1).toNat = i + 2 := rfl
theorem tn3 (i : Nat) : (((i : Nat) : Int) + 1 + 1 + 1).toNat = i + 3 := rfl
theorem zn0 (i : Nat) : (0 : Int) ≤ (i : Int) := Int.natCast_nonneg i
theorem zn1 (i : Nat) : (0 : Int) ≤ (i : Int) + 1 := Int.natCast_nonneg (i + 1)
theorem zn2 (i : Nat) : (0 : Int) ≤ (i : Int) + 1 + 1 := Int.natCast_nonneg (i + 2)
theorem zn3 (i : Nat) : (0 : Int) ≤ (i : Int) + 1 + 1 + 1 := Int.natCast_nonneg (i + 3)
theorem dec_lt {i n : Nat} (h : i < n) : n - (i + 1) < n - i := Nat.sub_lt_sub_left h (Nat.lt_succ_self i)
/-- a list of so many -/
theorem len1 {vs : List Value} (h : vs.length = 1) : ∃ a, vs = [a] := by
  match vs, h with
  | [a], _ => exact ⟨a, rfl⟩
theorem len2 {vs : List Value} (h : vs.length = 2) : ∃ a b, vs = [a, b] := by
  match vs, h with
  | [a, b], _ => exact ⟨a, b, rfl⟩
theorem len3 {vs : List Value} (h : vs.length = 3) : ∃ a b c, vs = [a, b, c] := by
  match vs, h with
  | [a, b, c], _ => exact ⟨a, b, c, rfl⟩
theorem len4 {vs : List Value} (h : vs.length = 4) : ∃ a b c d, vs = [a, b, c, d] := by
  match vs, h with
  | [a, b, c, d], _ => exact ⟨a, b, c, d, rfl⟩
theorem len5 {vs : List Value} (h : vs.length = 5) : ∃ a b c d e, vs = [a, b, c, d, e] := by
  match vs, h with
  | [a, b, c, d, e], _ => exact ⟨a, b, c, d, e, rfl⟩

/-! the program's parts, by their places -/
noncomputable def pStmt (i : Nat) : Stmt := PySem.Challenge.pw_kt0034_01.main.body.getD i (.Break ⟨0, 0, 0, 0⟩)
noncomputable def pBody (i : Nat) : List Stmt := match pStmt i with | .FunctionDef _ _ b _ _ _ _ _ _ _ => b | _ => []
noncomputable def pArgs (i : Nat) : Arguments := match pStmt i with | .FunctionDef _ a _ _ _ _ _ _ _ _ => a | _ => { posonlyargs := [], args := [], vararg := none, kwonlyargs := [], kw_defaults := [], kwarg := none, defaults := [] }
noncomputable def pScope (i : Nat) : Scope := match pStmt i with | .FunctionDef _ _ _ _ _ _ sc _ _ _ => sc | _ => { kind := .module, names := [], isGenerator := false, isCoroutine := false, more := [] }

noncomputable def DefAt (G : TopC) (f : Str) (i : Nat) (fa : Addr) : Prop := ∃ pm code doc, FnIs G f fa (docDef f (pArgs i) (pBody i) (pScope i) pm code doc)

variable {G : TopC} {C : Cx} {V : List (Option VV)} {acc : Acc}

theorem varIx_none {ys : List Str} {x o} : ¬ VarIx ys (ys.map fun _ => none) x o := by
  induction ys with
  | nil => intro h; cases h
  | cons y ys ih => intro h; cases h with | tail h => exact ih h
theorem varIx_init {ys : List Str} : ∀ {xs : List Str} {args : List PyData} {x o}, xs.length = args.length → VarIx (xs ++ ys) (args.map (fun d => some (.d d)) ++ ys.map fun _ => none) x o → ∃ d, o = .d d ∧ (x, d) ∈ xs.zip args := by
  intro xs
  induction xs with
  | nil => intro args x o hl h; cases args with
    | nil => exact absurd h varIx_none
    | cons => cases hl
  | cons y xs ih => intro args x o hl h; cases args with
    | nil => cases hl
    | cons d args => cases h with
      | head => exact ⟨d, rfl, .head _⟩
      | tail h =>
        obtain ⟨d', e, m⟩ := ih (Nat.succ.inj hl) h
        exact ⟨d', e, .tail _ m⟩
theorem fn_at {f : Str} {i : Nat} {fa : Addr} {n : Nat} {N xs : List Str} {args : List PyData} {d : PyData} {V0 : List (Option VV)} {ys : List Str} (H : DefAt G f i fa)
    (D : DefOk (pScope i) N xs) (hlen : xs.length = args.length) (hbind : ∀ pm code doc, ∀ vs : List Value, vs.length = xs.length → bindArgs (docDef f (pArgs i) (pBody i) (pScope i) pm code doc) ⟨vs, []⟩ = pure (xs.zip vs))
    (hN : N = xs ++ ys) (hV : V0 = args.map (fun d => some (.d d)) ++ ys.map fun _ => none)
    (ex : ∀ (A : Around) (env : Env) (bad : Addr → Prop), (∀ x, env.kindOf x = (pScope i).names.lookup x) → Ex G ⟨A, env, N, bad, n, env.cells⟩ V0 [] (pBody i) (fun o _ _ => o = .ret d)) : Fn G fa (n + 1) args d := by
  obtain ⟨pm, code, doc, hf⟩ := H
  exact fn_of_body (V0 := V0) hf rfl rfl rfl rfl D hlen (hbind pm code doc) (fun x o h => by rw [hN, hV] at h; exact varIx_init hlen h) fun C h1 _ h2 h3 _ h4 => by
    obtain ⟨A, env, N', bad, n', own⟩ := C
    dsimp only at h2 h3 h4
    subst h2 h3 h4
    exact ex A env bad h1

/-! rules by the operands' kinds -/
noncomputable def Bin (G : TopC) (C : Cx) (op : Operator) (a b d : PyData) : Prop :=
  ∀ (V : List (Option VV)) (l r : Expr) (pos : Pos), Ev G C V l a → Ev G C V r b → Ev G C V (.BinOp l op r pos) d
theorem ev_binop {l r : Expr} {op : Operator} {pos : Pos} {a b d : PyData} (x : Ev G C V l a) (y : Ev G C V r b) (k : Bin G C op a b d) : Ev G C V (.BinOp l op r pos) d := k V l r pos x y
theorem bin_addI {a b : Int} : Bin G C .Add (.int a) (.int b) (.int (a + b)) := fun _ _ _ _ x y => ev_addI x y
theorem bin_subI {a b : Int} : Bin G C .Sub (.int a) (.int b) (.int (a - b)) := fun _ _ _ _ x y => ev_subI x y
theorem bin_modI {a b : Int} (h : b ≠ 0) : Bin G C .Mod (.int a) (.int b) (.int (a.fmod b)) := fun _ _ _ _ x y => ev_modI x y h
theorem bin_fdivI {a b : Int} (h : b ≠ 0) (hs : b.natAbs < 1000) : Bin G C .FloorDiv (.int a) (.int b) (.int (a.fdiv b)) := fun _ _ _ _ x y => ev_fdivI x y h hs
theorem bin_addT {a b : List Nat} (h : a.length + b.length ≤ 1000000) : Bin G C .Add (.str (S a)) (.str (S b)) (.str (S (a ++ b))) := fun V l r pos x y => by
  rw [← S_app]; exact ev_addS x y (by rw [S_len, S_len]; exact Nat.le_trans h (by decide))
theorem bin_subB {a b : Bool} : Bin G C .Sub (.bool a) (.bool b) (.int ((if a then 1 else 0) - (if b then 1 else 0))) := fun _ _ _ _ x y => ev_subB x y
theorem bin_addL {a b : List PyData} (h : a.length + b.length ≤ 1000000) : Bin G C .Add (.list a) (.list b) (.list (a ++ b)) := fun _ _ _ _ x y => ev_addL x y (Nat.le_trans h (by decide))
theorem bin_mulL {a : List PyData} {n : Int} (h0 : 0 ≤ n) (hn : n < 100000) (ha : a.length ≤ 100) : Bin G C .Mult (.list a) (.int n) (.list (List.replicate n.toNat a).flatten) := fun _ _ _ _ x y => ev_mulL x y h0 hn ha

noncomputable def Idx (G : TopC) (C : Cx) (a : PyData) (k : Int) (d : PyData) : Prop :=
  ∀ (V : List (Option VV)) (v i : Expr) (pos : Pos), (∀ o j, subscripted i false o j = operate [o, j] (getItem o j)) → Ev G C V v a → Ev G C V i (.int k) → Ev G C V (.Subscript v i pos) d
theorem ev_idx {v i : Expr} {pos : Pos} {a : PyData} {k : Int} {d : PyData} (x : Ev G C V v a) (y : Ev G C V i (.int k)) (h : Idx G C a k d) (hs : ∀ o j, subscripted i false o j = operate [o, j] (getItem o j) := by intro _ _; rfl) : Ev G C V (.Subscript v i pos) d := h V v i pos hs x y
theorem idx_S {l : List Nat} {k : Int} {c : Nat} (h0 : 0 ≤ k) (hk : k < 1000000) (hc : l[k.toNat]? = some c) : Idx G C (.str (S l)) k (.str (S [c])) := fun _ _ _ _ hs x y => ev_idxS x y h0 hk hc hs
theorem idx_L {l : List PyData} {k : Int} {d : PyData} (h0 : 0 ≤ k) (hk : k < 1000000) (hc : l[k.toNat]? = some d) : Idx G C (.list l) k d := fun _ _ _ _ hs x y => ev_idxL x y h0 hk hc hs
theorem idx_T {l : List PyData} {k : Int} {d : PyData} (h0 : 0 ≤ k) (hk : k < 1000000) (hc : l[k.toNat]? = some d) : Idx G C (.tuple l) k d := fun _ _ _ _ hs x y => ev_idxT x y h0 hk hc hs

noncomputable def Slc (G : TopC) (C : Cx) (a : PyData) (lo hi : Option Int) (d : PyData) : Prop :=
  ∀ (V : List (Option VV)) (v : Expr) (l h : Option Expr) (p pos : Pos), Ev G C V v a → EvP G C V l lo → EvP G C V h hi → Ev G C V (.Subscript v (.Slice l h none p) pos) d
theorem ev_slc {v : Expr} {l h : Option Expr} {p pos : Pos} {a : PyData} {lo hi : Option Int} {d : PyData} (x : Ev G C V v a) (y : EvP G C V l lo) (z : EvP G C V h hi) (k : Slc G C a lo hi d) : Ev G C V (.Subscript v (.Slice l h none p) pos) d := k V v l h p pos x y z
theorem evP_none : EvP G C V none none := trivial
theorem evP_some {e : Expr} {i : Int} (x : Ev G C V e (.int i)) : EvP G C V (some e) (some i) := x
theorem slc_S {l : List Nat} {lo hi : Option Int} (h : l.length ≤ 1000000) : Slc G C (.str (S l)) lo hi (.str (S (pick l lo hi))) := fun _ _ _ _ _ _ x y z => ev_sliceS x y z (Nat.le_trans h (by decide))
theorem slc_L {l : List PyData} {lo hi : Option Int} (h : l.length ≤ 1000000) : Slc G C (.list l) lo hi (.list (pick l lo hi)) := fun _ _ _ _ _ _ x y z => ev_sliceL x y z (Nat.le_trans h (by decide))

theorem evc {x : Str} {l : List Nat} {k : Nat} {pos : Pos} (h : x = S l) : Ev G C V (.Constant (.str x) k pos) (.str (S l)) := h ▸ ev_str
theorem c41 : Str.ofString ")" = S [41] := rfl
theorem c40 : Str.ofString "(" = S [40] := rfl
theorem c91 : Str.ofString "[" = S [91] := rfl
theorem c93 : Str.ofString "]" = S [93] := rfl
theorem c9133 : Str.ofString "[!" = S [91, 33] := rfl
theorem cE : Str.ofString "" = S [] := rfl
theorem c63 : Str.ofString "?" = S [63] := rfl
theorem c92 : Str.ofString "\\" = S [92] := rfl
theorem c46 : Str.ofString "." = S [46] := rfl
theorem c94 : Str.ofString "^" = S [94] := rfl
theorem c4041 : Str.ofString "()" = S [40, 41] := rfl
theorem c34 : Str.ofString "\"" = S [34] := rfl
theorem cBad : Str.ofString "('', '')" = S [40, 39, 39, 44, 32, 39, 39, 41] := rfl
theorem cHead : Str.ofString "(?s:" = S [40, 63, 115, 58] := rfl
theorem c33 : Str.ofString "!" = S [33] := rfl
theorem c45 : Str.ofString "-" = S [45] := rfl
theorem c42 : Str.ofString "*" = S [42] := rfl
theorem cTail : Str.ofString ")\\Z" = S [41, 92, 90] := rfl

end
section
variable {G : TopC} {C : Cx} {V : List (Option VV)} {acc : Acc}

/-! comprehensions -/
noncomputable def clGo (env : Env) : List (Str × NameKind) → List (Str × Addr) → List (Str × Addr)
  | [], cs => cs
  | (n, k) :: r, cs => clGo env r (if k == .free then (n, (env.cells.lookup n).getD 0) :: cs else cs)
theorem closureFor_go {env : Env} : ∀ (l : List (Str × NameKind)) (cs : List (Str × Addr)), (∀ y ∈ l, y.2 = .free → ∃ c, env.cells.lookup y.1 = some c) →
    (forIn l cs fun (x : Str × NameKind) (r : List (Str × Addr)) => (match x with
      | (name, kind) => if (kind == .free) = true then do let a ← cellOf env name; pure PUnit.unit; pure (ForInStep.yield ((name, a) :: r)) else do pure PUnit.unit; pure (ForInStep.yield r) : Sem _)) = pure (clGo env l cs)
  | [], cs, _ => rfl
  | (n, k) :: r, cs, h => by
    rw [List.forIn_cons]
    unfold clGo
    cases hk : (k == NameKind.free) with
    | false =>
      simp only [hk, Bool.false_eq_true, if_false, pure_bind]
      exact closureFor_go r _ fun y hy => h y (.tail _ hy)
    | true =>
      obtain ⟨c, hc⟩ := h (n, k) (.head _) (by simpa using hk)
      simp only [hk, if_true, cellOf]
      rw [show env.cells.lookup n = some c from hc]
      simp only [pure_bind, Option.getD_some]
      exact closureFor_go r _ fun y hy => h y (.tail _ hy)
theorem closureFor_eq {scope : Scope} {env : Env} (h : ∀ y ∈ scope.names, y.2 = .free → ∃ c, env.cells.lookup y.1 = some c) : closureFor scope env = pure (clGo env scope.names []) := by
  unfold closureFor
  have := closureFor_go (env := env) scope.names [] h
  simp only [bind_pure] at this ⊢
  exact this

theorem clGo_val {env : Env} : ∀ (l : List (Str × NameKind)) (cs : List (Str × Addr)) {x : Str} {c : Addr}, (x, c) ∈ clGo env l cs → (x, c) ∈ cs ∨ c = (env.cells.lookup x).getD 0
  | [], cs, x, c, h => .inl h
  | (n, k) :: r, cs, x, c, h => by
    unfold clGo at h
    rcases clGo_val r _ h with h | h
    · split at h
      · rcases List.mem_cons.mp h with e | h
        · cases e; exact .inr rfl
        · exact .inl h
      · exact .inl h
    · exact .inr h
theorem clGo_keep {env : Env} : ∀ (l : List (Str × NameKind)) (cs : List (Str × Addr)) {p : Str × Addr}, p ∈ cs → p ∈ clGo env l cs
  | [], cs, p, h => h
  | (n, k) :: r, cs, p, h => by
    unfold clGo
    refine clGo_keep r _ ?_
    split
    · exact .tail _ h
    · exact h
theorem clGo_mem {env : Env} : ∀ (l : List (Str × NameKind)) (cs : List (Str × Addr)) {x : Str}, (x, NameKind.free) ∈ l → (x, (env.cells.lookup x).getD 0) ∈ clGo env l cs
  | (n, k) :: r, cs, x, h => by
    unfold clGo
    rcases List.mem_cons.mp h with e | h
    · cases e
      exact clGo_keep r _ (.head _)
    · exact clGo_mem r _ h
theorem clGo_lookup {env : Env} {l : List (Str × NameKind)} {x : Str} {c : Addr} (hx : l.lookup x = some .free) (hc : env.cells.lookup x = some c) : (clGo env l []).lookup x = some c := by
  have hm := clGo_mem (env := env) l [] (PySem.mem_of_lookup hx)
  obtain ⟨c', h⟩ := lookup_of_mem hm
  rcases clGo_val l [] (PySem.mem_of_lookup h) with h2 | h2
  · cases h2
  · rw [h, h2, hc]; rfl

theorem lookup_relabel {env : Env} : ∀ {names : List (Str × NameKind)} {x : Str} {k : NameKind}, names.lookup x = some k →
    (names.map fun (n, k) => if (k == .free && env.scope.kind == .function && env.kindOf n == some .cell) then (n, NameKind.cell) else (n, k)).lookup x =
      some (if (k == .free && env.scope.kind == .function && env.kindOf x == some .cell) then .cell else k)
  | [], _, _, h => by simp at h
  | (n, k0) :: r, x, k, h => by
    rw [List.map_cons]
    dsimp only
    cases hx : x == n with
    | true =>
      simp only [List.lookup_cons, hx] at h
      cases h
      have : x = n := by simpa using hx
      subst this
      split <;> simp [List.lookup_cons]
    | false =>
      simp only [List.lookup_cons, hx] at h
      have ih := lookup_relabel (env := env) h
      split <;> simp only [List.lookup_cons, hx] <;> exact ih

/-- what is looked at in a comprehension's own scope -/
structure CompOk (N : List Str) (kinds : Str → Option NameKind) (sc : Scope) (x : Str) (fr : List Str) : Prop where
  kind : sc.kind = .function
  nocell : ∀ y ∈ sc.names, y.2 ≠ .cell
  names : ∀ y ∈ sc.names, y.2 = .local → sc.names.lookup y.1 = some .local
  xl : sc.names.lookup x = some .local
  free : ∀ y ∈ sc.names, y.2 = .free → kinds y.1 = some .cell ∧ y.1 ∈ N
  frl : ∀ y ∈ fr, sc.names.lookup y = some .free
  nodup : (x :: fr).Nodup
  dbg : ∀ y ∈ x :: fr, (y == ("__debug__" : Str)) = false

noncomputable def TrIfs (G : TopC) (C : Cx) (V : List (Option VV)) : List Expr → Bool → Prop
  | [], b => b = true
  | [t], b => Tr G C V t b
  | _, _ => False
noncomputable def Kinds (sc : Scope) (env' : Env) : Prop := ∀ y k, sc.names.lookup y = some k → k ≠ .free → env'.kindOf y = some k

/-- the comprehension's loop: from the iterator to the list -/
theorem comp_go {α : Type} {elt iter : Expr} {x : Str} {px : Pos} {ifs : List Expr} {sc : Scope} {pos : Pos} {src : List α} {inj : α → PyData} {p : α → Bool} {f : α → PyData} {fr : List Str} {Vf : List (Option VV)} {kinds : Str → Option NameKind}
    (hkn : ∀ y, C.env.kindOf y = kinds y) (D : CompOk C.N kinds sc x fr) (hVf : ∀ y o, VarIx fr Vf y o → VarIx C.N V y o) (hsz : src.length ≤ 1000000)
    (turn : ∀ (env' : Env) (bad' : Addr → Prop), Kinds sc env' → ∀ a ∈ src, TrIfs G ⟨C.A, env', x :: fr, bad', C.n, []⟩ (some (.d (inj a)) :: Vf) ifs (p a) ∧ (p a = true → Ev G ⟨C.A, env', x :: fr, bad', C.n, []⟩ (some (.d (inj a)) :: Vf) elt (f a)))
    {s : Shared} (q : St G C V s) {I : Addr} {s1 : Shared} (mk : ∀ bad : Addr → Prop, (∀ b, bad b → C.bad b ∨ s1.heap.get? b = none) → ∃ it : Iter G C.A bad (src.map inj) I, it.St 0 s1.heap) (k1 : Kp G s s1) (f1 : ∀ o, Plain o → s.heap.get? I ≠ some o) (f2 : G.hT.get? I = none) (f3 : ¬ C.bad I)
    {E : Value → Shared → Prop} {RR : Value → Addr → Result → Shared → Prop}
    (hRR : ∀ D c s', Kp G s s' → (∀ o, Plain o → s.heap.get? c ≠ some o) → G.hT.get? c = none → (∃ m, s'.heap.Ns c m) → Rd (fun b => C.bad b ∨ b = c) s'.heap (.ref D) (.list ((src.filter p).map f)) → RR (.ref D) c (.ok .next) s') :
    wpAny (model G.prog G.w) C.A (newList []) (fun acc s₃ => wpAny (model G.prog G.w) C.A (newFunctionEnv sc C.env.globals (clGo C.env sc.names []) [] C.env.qual none .none (some C.env)) (fun cenv s₄ =>
      codeAny (model G.prog G.w) C.A (.compStart (.ListComp elt [⟨.Name x px, iter, ifs, 0⟩] sc pos) 0 (.ref I) acc { cenv with scope := relabel sc C.env }) (RR acc cenv.locals) s₄) E s₃) E s1 := by
  refine wpAny_newObj_type (wpAny_newFunctionEnv D.nocell (by intro y hy; simp at hy) (fun h₁ hns₁ hsb₁ => ?_) D.kind)
  dsimp only at hns₁ hsb₁ ⊢
  generalize hH2 : s1.heap.push { cls := .type "list", dict := none, data := .seq ([] : List Value).toArray } = H2 at hns₁ hsb₁ ⊢
  have hC : H2.objs.size = s1.heap.objs.size + 1 := by rw [← hH2, Heap.size_push]
  have hDC : s1.heap.objs.size ≠ H2.objs.size := by rw [hC]; exact Nat.ne_of_lt (Nat.lt_succ_self _)
  have below : ∀ b, b < s1.heap.objs.size → b ≠ H2.objs.size ∧ b ≠ s1.heap.objs.size := fun b hb => ⟨by rw [hC]; exact Nat.ne_of_lt (Nat.lt_succ_of_lt hb), Nat.ne_of_lt hb⟩
  have old : ∀ b o, s1.heap.get? b = some o → h₁.get? b = some o := fun b o e => hsb₁.extBut b o (below b (Heap.lt_size e)).1 (Heap.get?_push_of_some _ (hH2 ▸ Heap.get?_push_of_some _ e))
  have hacc : h₁.get? s1.heap.objs.size = some { cls := .type "list", dict := none, data := .seq ([] : List Value).toArray } := hsb₁.extBut _ _ hDC (Heap.get?_push_of_some _ (hH2 ▸ Heap.get?_push_size _ rfl))
  have fresh1 : ∀ a, s1.heap.objs.size ≤ a → s1.heap.get? a = none := fun a ha => by
    cases e : s1.heap.get? a with
    | none => rfl
    | some o' => exact absurd (Heap.lt_size e) (Nat.not_lt.mpr ha)
  have fresh : ∀ a, s1.heap.objs.size ≤ a → ∀ o, Plain o → s.heap.get? a ≠ some o := fun a ha o hp e => by
    obtain ⟨o', e', _⟩ := k1.heap a o hp e
    rw [fresh1 a ha] at e'; cases e'
  have hCle : s1.heap.objs.size ≤ H2.objs.size := by rw [hC]; exact Nat.le_succ _
  let C' : Cx := ⟨C.A, compEnvC sc (clGo C.env sc.names []) H2.objs.size C.env, x :: fr, fun b => C.bad b ∨ b = H2.objs.size, C.n, []⟩
  have q1 : St G C V s1 := q.keeps k1
  have hbad1 : ∀ b, C.bad b → ∃ o, Plain o ∧ s1.heap.get? b = some o := q1.bad
  have hTo : G.hT.StaysIn s1.heap := q1.ok.top
  let B' : Base := { h := PySem.W.hideAll s1.heap [I], gens := s1.gens, os := s1.os, bad := C.bad }
  have hkx : C'.env.kindOf x = some .local := lookup_relabel_local D.xl
  have hsk : C.env.scope.kind = .function := q.cx.kind
  have cellN : ∀ y, y ∈ fr → C.env.kindOf y = some .cell ∧ ∃ c, C.env.cells.lookup y = some c := fun y hy => by
    have h1 := D.free (y, .free) (PySem.mem_of_lookup (D.frl y hy)) rfl
    refine ⟨(hkn y).trans h1.1, ?_⟩
    rcases q.cx.kinds y h1.2 with h | h
    · rw [hkn, h1.1] at h; cases h
    · exact h.2
  have hkf : ∀ y ∈ fr, C'.env.kindOf y = some .cell ∧ ∃ c, C'.env.cells.lookup y = some c ∧ C.env.cells.lookup y = some c := fun y hy => by
    obtain ⟨h1, c, h2⟩ := cellN y hy
    refine ⟨?_, c, clGo_lookup (D.frl y hy) h2, h2⟩
    show (relabel sc C.env).names.lookup y = _
    rw [relabel, lookup_relabel (D.frl y hy), h1, hsk]; rfl
  have hKinds : Kinds sc C'.env := fun y k hy hne => by
    show (relabel sc C.env).names.lookup y = _
    rw [relabel, lookup_relabel hy]
    have : (k == NameKind.free) = false := by simpa using hne
    rw [this]; rfl
  have F0 : FS G B' C' (none :: Vf) [(s1.heap.objs.size, [])] { s1 with heap := h₁, toks := s1.toks + ([] : List (Str × Value)).length } := by
    have kp0 : Kp G s1 { s1 with heap := h₁, toks := s1.toks + ([] : List (Str × Value)).length } := Kp.of_keeps G _ old
    have ok0 := q1.ok.keeps kp0
    obtain ⟨oc, es, ep, hoc, hdc, _⟩ := id hns₁
    refine { st := ⟨⟨?_, q.cx.glob, q.cx.blt, D.nodup, D.dbg, fun y hy => ?_⟩, q.a, ok0, fun y o hy => ?_, fun b hb => ?_⟩, base := fun a o hp e => ⟨o, old a o (PySem.W.of_hideAll _ e), .refl o⟩, ownL := ?_, ownC := fun _ _ h => (nomatch h), ns := ⟨_, hns₁⟩, cs := fun _ _ h => (nomatch h), apart := .nil, gens := ⟨#[], by simp [B'], by simp⟩, os := rfl, accN := by simp, accB := fun a ds hm => ?_, acc := fun a ds hm => ?_, obad := fun b hb => ⟨.inl hb, ?_⟩, own := ⟨.inr rfl, fun _ _ h => (nomatch h)⟩, hT := fun b o e => PySem.W.hideAll_get _ (hTo b o e) fun hm => ?_ }
    · show (relabel sc C.env).kind = _; exact D.kind
    · rcases List.mem_cons.mp hy with rfl | hy
      · exact .inl hkx
      · obtain ⟨h1, c, h2, _⟩ := hkf y hy
        exact .inr ⟨h1, c, h2⟩
    · cases hy with
      | tail hy =>
        have hyf := hy.mem
        obtain ⟨h1, c, h2, h3⟩ := hkf y hyf
        obtain ⟨v, st, hd⟩ := q.vars y o (hVf y o hy)
        have st1 := (st.sim k1.heap).sim kp0.heap
        refine ⟨v, .inr ⟨h1, c, h2, ?_⟩, ?_⟩
        · rcases st1 with ⟨hk, _⟩ | ⟨_, c', hc', hcell⟩
          · rw [(cellN y hyf).1] at hk; cases hk
          · rw [h3] at hc'; cases hc'; exact hcell
        · cases o with
          | v u => exact hd
          | d d =>
            obtain ⟨as, r, p⟩ := Rd.sim hd k1.heap
            refine ⟨as, reads_sim kp0.heap r, fun a ha hb => ?_⟩
            obtain ⟨oa, hoa⟩ := reads_some r a ha
            rcases hb with (hb | hb) | hb
            · exact p a ha hb
            · rw [hb, fresh1 _ hCle] at hoa; cases hoa
            · have : a = s1.heap.objs.size := by simpa using hb
              rw [this, fresh1 _ (Nat.le_refl _)] at hoa; cases hoa
    · rcases hb with (hb | hb) | hb
      · obtain ⟨o, p, e⟩ := hbad1 b hb; exact ⟨o, p, old b o e⟩
      · subst hb; exact ⟨oc, .of_data (fun vs z => by rw [hdc] at z; cases z), hoc⟩
      · have : b = s1.heap.objs.size := by simpa using hb
        subst this; exact ⟨_, .of_data (fun vs z => by cases z), hacc⟩
    · show (PySem.W.hideAll s1.heap [I]).get? H2.objs.size = none
      cases e : (PySem.W.hideAll s1.heap [I]).get? H2.objs.size with
      | none => rfl
      | some o => have := PySem.W.of_hideAll _ e; rw [fresh1 _ hCle] at this; cases this
    · have e : (a, ds) = (s1.heap.objs.size, []) := by simpa using hm
      cases e
      rintro (hb | hb)
      · obtain ⟨o, _, e⟩ := hbad1 _ hb
        rw [fresh1 _ (Nat.le_refl _)] at e; cases e
      · exact hDC hb
    · have e : (a, ds) = (s1.heap.objs.size, []) := by simpa using hm
      cases e
      refine ⟨fun o _ e => ?_, [], ⟨_, 0, hacc, rfl, rfl, rfl⟩, .nil⟩
      have := PySem.W.of_hideAll _ e; rw [fresh1 _ (Nat.le_refl _)] at this; cases this
    · obtain ⟨o, p, e⟩ := hbad1 b hb
      exact ⟨o, p, PySem.W.hideAll_get _ e fun hm => f3 (by have : b = I := by simpa using hm
                                                            exact this ▸ hb)⟩
    · have : b = I := by simpa using hm
      rw [this, f2] at e; cases e
  obtain ⟨it, hst⟩ := mk (C'.wa [(s1.heap.objs.size, [])]).bad fun b hb => by
    rcases hb with (hb | hb) | hb
    · exact .inl hb
    · exact .inr (hb ▸ fresh1 _ hCle)
    · have : b = s1.heap.objs.size := by simpa using hb
      exact .inr (this ▸ fresh1 _ (Nat.le_refl _))
  have hst0 : it.St 0 h₁ := it.sim 0 _ _ (.of_keeps old) hst
  have hBI : ∀ o, Plain o → B'.h.get? I ≠ some o := fun o p e => by
    have : (PySem.W.hideAll s1.heap [I]).get? I = none := PySem.W.hideAll_none _ (.head _)
    rw [show B'.h.get? I = _ from this] at e; cases e
  have hbI : ∀ outs, ¬ (C'.wa [(s1.heap.objs.size, outs)]).bad I := fun outs hb => by
    obtain ⟨oi, ei, _⟩ := it.obj 0 _ hst
    rcases hb with (hb | hb) | hb
    · exact f3 hb
    · rw [hb, fresh1 _ hCle] at ei; cases ei
    · have : I = s1.heap.objs.size := by simpa using hb
      rw [this, fresh1 _ (Nat.le_refl _)] at ei; cases ei
  have hCl : s.heap.objs.size ≤ s.heap.objs.size := Nat.le_refl _
  have loop : ∀ s₃ : Shared, FS G B' C' (none :: Vf) [(s1.heap.objs.size, [])] s₃ → it.St 0 s₃.heap →
      codeAny (model G.prog G.w) C.A (.compLoop (.ListComp elt [⟨.Name x px, iter, ifs, 0⟩] sc pos) 0 (.ref I) (.ref s1.heap.objs.size) (compEnvC sc (clGo C.env sc.names []) H2.objs.size C.env)) (RR (.ref s1.heap.objs.size) H2.objs.size) s₃ := by
    intro s₃ F3 hst3
    refine codeAny_compLoop_tests (fun k s' => ∃ i o, i ≤ src.length ∧ k = src.length - i ∧ FS G B' C' (o :: Vf) [(s1.heap.objs.size, ((src.take i).filter p).map f)] s' ∧ it.St i s'.heap) ?_ (src.length - 0) ⟨0, none, Nat.zero_le _, rfl, by simpa using F3, hst3⟩
    rintro n s2 ⟨i, o, hi, rfl, q2, hst2⟩
    obtain ⟨oi, ei, io⟩ := it.obj i _ hst2
    have hh : C.A.handled = none := q.a.1
    cases hd : src[i]? with
    | none =>
      have : i = src.length := by
        have := List.getElem?_eq_none_iff.mp hd
        omega
      subst this
      refine it.done s2 _ _ hh (by simpa using hst2) fun h' tk ext => ?_
      have q3 := q2.step (tk := tk) ei io hBI f2 (hbI _) ext
      dsimp only
      rw [List.take_length] at q3
      obtain ⟨_, vs, hl, r⟩ := q3.acc _ _ (.head _)
      have kB : KpH s.heap h' := fun a o hp e => by
        obtain ⟨o1, e1, s1'⟩ := k1.heap a o hp e
        obtain ⟨o2, e2, s2'⟩ := q3.base a o1 (hp.sim s1') (PySem.W.hideAll_get _ e1 fun hm => f1 o hp (by
          have : a = I := by simpa using hm
          exact this ▸ e))
        exact ⟨o2, e2, s1'.trans s2'⟩
      refine hRR s1.heap.objs.size H2.objs.size { s2 with heap := h', toks := tk } ⟨kB, fun _ => q3.st.ok.top, fun _ => q3.st.ok.tab, ?_, q3.os.trans k1.os⟩ (fresh _ hCle) ?_ q3.ns (.list hl.isList ?_ (r.weaken fun b hb => .inl hb))
      · obtain ⟨g1, e1, b1⟩ := k1.gens
        obtain ⟨g2, e2, b2⟩ := q3.gens
        refine ⟨g1 ++ g2, by rw [e2]; show s1.gens ++ g2 = _; rw [e1, Array.append_assoc], fun g hg => ?_⟩
        rcases Array.mem_append.mp hg with h | h
        · exact b1 g h
        · exact b2 g h
      · cases e : G.hT.get? H2.objs.size with
        | none => rfl
        | some o => have := hTo _ _ e; rw [fresh1 _ hCle] at this; cases this
      · rintro (hb | hb)
        · obtain ⟨o, _, e⟩ := hbad1 _ hb
          rw [fresh1 _ (Nat.le_refl _)] at e; cases e
        · exact hDC hb
    | some a =>
      have hlt : i < src.length := (List.getElem?_eq_some_iff.mp hd).1
      have hmem : a ∈ src := List.mem_of_getElem? hd
      have hd' : (src.map inj)[i]? = some (inj a) := by rw [List.getElem?_map, hd]; rfl
      have htake : src.take (i + 1) = src.take i ++ [a] := by rw [List.take_add_one, hd]; rfl
      refine it.item i (inj a) s2 _ _ hd' hst2 fun v h' tk r hst3 ext => ?_
      have q3 := q2.step (tk := tk) ei io hBI f2 (hbI _) ext
      have hideS : ∀ {s' : Shared} {V' acc'} (q' : FS G B' C' V' acc' s') (hm : acc'.map (·.1) = [s1.heap.objs.size]) {h'' : Heap} {b : Addr} {j : Nat}, b ∈ ownList C' acc' → Heap.SameBut b s'.heap h'' → it.St j s'.heap → it.St j h'' := by
        intro s' V' acc' q' hm h'' b j hb hsb hs'
        have hid := it.hide j s'.heap (ownList C' acc') (fun a ha => ⟨by have := own_bad q' a ha; rw [show C'.wa acc' = C'.wa [(s1.heap.objs.size, [])] by unfold Cx.wa; rw [hm]; rfl] at this; exact this, own_obj q' a ha⟩) hs'
        refine it.sim j _ _ (fun b' o _ e => ⟨o, ?_, .refl o⟩) hid
        refine (hsb.2 b' fun z => ?_).trans (PySem.W.of_hideAll _ e)
        rw [z, PySem.W.hideAll_none _ hb] at e; cases e
      refine wpAny_assign_Name (storeVar q3 (.inr hkx) (V' := some (.d (inj a)) :: Vf) .head (o := .d (inj a)) r fun s4 q4 keep4 _ => ?_)
      have hst4 : it.St (i + 1) s4.heap := by
        obtain ⟨b, hb, hsb⟩ := keep4
        refine hideS q3 rfl (b := b) ?_ hsb hst3
        rcases hb with rfl | ⟨y, hy⟩
        · exact .head _
        · cases hy
      obtain ⟨ht, he⟩ := turn C'.env (C'.wa [(s1.heap.objs.size, [])]).bad hKinds a hmem
      have done : ∀ s5, FS G B' C' (some (.d (inj a)) :: Vf) [(s1.heap.objs.size, ((src.take i).filter p).map f)] s5 → it.St (i + 1) s5.heap →
          (if p a = true then wpAny (model G.prog G.w) C.A (eval elt C'.env) (fun x s₄ =>
              wpAny (model G.prog G.w) C.A (call (.builtin "list.append") [.ref s1.heap.objs.size, x]) (fun _ s₅ => ∃ m, m < src.length - i ∧ ∃ i o, i ≤ src.length ∧ m = src.length - i ∧ FS G B' C' (o :: Vf) [(s1.heap.objs.size, ((src.take i).filter p).map f)] s₅ ∧ it.St i s₅.heap) (notedBy (model G.prog G.w) C.A C'.env fun e s' => RR (.ref s1.heap.objs.size) H2.objs.size (.error e) s') s₄) (notedBy (model G.prog G.w) C.A C'.env fun e s' => RR (.ref s1.heap.objs.size) H2.objs.size (.error e) s') s5
            else ∃ m, m < src.length - i ∧ ∃ i o, i ≤ src.length ∧ m = src.length - i ∧ FS G B' C' (o :: Vf) [(s1.heap.objs.size, ((src.take i).filter p).map f)] s5 ∧ it.St i s5.heap) := by
        intro s5 q5 hst5
        cases hp : p a with
        | false =>
          rw [if_neg (by decide)]
          refine ⟨src.length - (i + 1), by omega, i + 1, some (.d (inj a)), hlt, rfl, ?_, hst5⟩
          rw [htake, List.filter_append, show [a].filter p = [] by simp [hp], List.append_nil]
          exact q5
        | true =>
          rw [if_pos rfl]
          refine he hp s5 _ _ q5.st fun v s6 k6 r6 => ?_
          have q6 := q5.keeps k6
          have hst6 := it.sim (i + 1) _ _ k6.heap hst5
          obtain ⟨_, vs2, hl2, r2⟩ := q6.acc _ _ (.head _)
          have hlen : (((src.take i).filter p).map f).length ≤ 1000000 := by
            rw [List.length_map]
            exact Nat.le_trans (List.length_filter_le _ _) (Nat.le_trans (List.length_take_le _ _) (by omega))
          refine list_append_plainL hl2 (fun h' hl' hsb => ?_) (by rw [List.size_toArray, r2.length]; exact Nat.le_trans hlen (by decide))
          rw [show vs2.toArray.push v = (vs2 ++ [v]).toArray by simp] at hl'
          refine ⟨src.length - (i + 1), by omega, i + 1, some (.d (inj a)), hlt, rfl, ?_, hideS q6 rfl (.tail _ (.head _)) hsb hst6⟩
          rw [htake, List.filter_append, show [a].filter p = [a] by simp [hp], List.map_append]
          exact q6.grow (tk := s6.toks) .head hsb hl' (r2.append (.cons r6 .nil))
      match ifs, ht with
      | [], ht =>
        have hp : p a = true := ht
        refine wpAny_pure ?_
        have := done s4 q4 hst4
        rw [hp] at this
        exact this
      | [t], ht =>
        refine wpAny_bind (wpAny_bind (ht s4 _ _ q4.st fun s5 k5 => wpAny_pure ?_))
        exact wpAny_pure (done s5 (q4.keeps k5) (it.sim (i + 1) _ _ k5.heap hst4))
  exact codeAny_compStart_list (loop _ F0 hst0) (it.self 0 _ _ _ hst0 (loop _ F0 hst0))

theorem kp_but {s s' : Shared} {h' : Heap} {c : Addr} {m : Str → Option Value} (q : Ok G C.A s) (k : Kp G s s') (hf : ∀ o, Plain o → s.heap.get? c ≠ some o) (hT : G.hT.get? c = none) (hn : s'.heap.Ns c m) (hs : Heap.SameBut c s'.heap h') : Kp G s { s' with heap := h' } := by
  obtain ⟨oc, es, ep, hoc, hdc, _⟩ := hn
  refine ⟨fun a o p e => ?_, fun _ b o e => ?_, fun _ => ?_, k.gens, k.os⟩
  · obtain ⟨o', e', s1⟩ := k.heap a o p e
    exact ⟨o', (hs.2 a fun z => hf o p (z ▸ e)).trans e', s1⟩
  · exact (hs.2 b fun z => by rw [z, hT] at e; cases e).trans (k.top q.top b o e)
  · obtain ⟨ps, e, r⟩ := k.tab q.tab
    refine ⟨ps, (hs.2 _ fun z => by rw [z, hoc] at e; cases e; cases hdc).trans e, r.imp id ?_⟩
    rintro ⟨c', e', c₂, o, vs, t, e2, e3, e4, e5⟩
    exact ⟨c', e', c₂, o, vs, t, e2, (hs.2 _ fun z => by rw [z, hoc] at e3; cases e3; rw [hdc] at e4; cases e4).trans e3, e4, e5⟩
theorem rd_but {bad : Addr → Prop} {h h' : Heap} {c : Addr} {m : Str → Option Value} {v d} (r : Rd (fun b => bad b ∨ b = c) h v d) (hn : h.Ns c m) (hs : Heap.SameBut c h h') : Rd bad h' v d := by
  obtain ⟨oc, es, ep, hoc, hdc, _⟩ := hn
  exact (r.but (a := c) (.inr rfl) hoc (fun ⟨_, vs, n, z⟩ => by rw [hdc] at z; cases z) hs).weaken fun a ha => .inl ha

section
variable {α : Type} {elt iter : Expr} {x : Str} {px : Pos} {ifs : List Expr} {sc : Scope} {pos : Pos} {src : List α} {inj : α → PyData} {p : α → Bool} {f : α → PyData} {fr : List Str} {Vf : List (Option VV)} {kinds : Str → Option NameKind}
theorem clos_ok (hkn : ∀ y, C.env.kindOf y = kinds y) (D : CompOk C.N kinds sc x fr) (q : CxOk C) : closureFor sc C.env = pure (clGo C.env sc.names []) := closureFor_eq fun y hy hf => by
  have h1 := D.free y hy hf
  rcases q.kinds y.1 h1.2 with h | h
  · rw [hkn, h1.1] at h; cases h
  · exact h.2
theorem ev_comp (it : ItEv G C V iter (src.map inj)) (hkn : ∀ y, C.env.kindOf y = kinds y) (D : CompOk C.N kinds sc x fr) (hVf : ∀ y o, VarIx fr Vf y o → VarIx C.N V y o) (hsz : src.length ≤ 1000000)
    (turn : ∀ (env' : Env) (bad' : Addr → Prop), Kinds sc env' → ∀ a ∈ src, TrIfs G ⟨C.A, env', x :: fr, bad', C.n, []⟩ (some (.d (inj a)) :: Vf) ifs (p a) ∧ (p a = true → Ev G ⟨C.A, env', x :: fr, bad', C.n, []⟩ (some (.d (inj a)) :: Vf) elt (f a)))
    (hs : ∀ env x, foldedSetIterable iter env x = pure x := by intro _ _; rfl) : Ev G C V (.ListComp elt [⟨.Name x px, iter, ifs, 0⟩] sc pos) (.list ((src.filter p).map f)) := fun s Q E q k => by
  rw [eval_ListComp]
  refine wpAny_comprehension_free (use := none) rfl (hs _) (clos_ok hkn D q.cx) D.kind D.names (it s _ E q fun I s1 mk k1 f1 f2 f3 => ?_)
  refine comp_go (RR := fun acc c => compPost (model G.prog G.w) C.A E none Q acc c) hkn D hVf hsz turn q mk k1 f1 f2 f3 ?_
  rintro D' c s' kp hf hT ⟨m, hn⟩ rd
  exact ⟨m, hn, fun h' hs' => k _ _ (kp_but q.ok kp hf hT hn hs') (rd_but rd hn hs')⟩

theorem reads_plain {h : Heap} {v : Value} {d : PyData} {as : List Addr} (r : Reads h v d as) : ∀ a ∈ as, ∃ o, Plain o ∧ h.get? a = some o := reads_all (fun _ o e n => ⟨o, .of_cls n, e⟩) r
theorem readsAll_plain {h : Heap} {v : List Value} {d : List PyData} {as : List Addr} (r : ReadsAll h v d as) : ∀ a ∈ as, ∃ o, Plain o ∧ h.get? a = some o := readsAll_all (fun _ o e n => ⟨o, .of_cls n, e⟩) r
/-- a foreign dict gone: the frame stands -/
theorem FS.away {B : Base} {s0 s : Shared} {h' : Heap} {c : Addr} {m : Str → Option Value} {V' : List (Option VV)} (q0 : FS G B C V acc s0) (q : FS G B { C with bad := fun b => C.bad b ∨ b = c } V' acc s) (hf : ∀ o, Plain o → s0.heap.get? c ≠ some o) (hT : G.hT.get? c = none) (hn : s.heap.Ns c m)
    (hs : Heap.SameBut c s.heap h') : FS G B C V' acc { s with heap := h' } := by
  obtain ⟨oc, es, ep, hoc, hdc, hr⟩ := id hn
  have nt : NoTup oc := fun ⟨_, vs, n, z⟩ => by rw [hdc] at z; cases z
  have pc : Plain oc := .of_data fun vs z => by rw [hdc] at z; cases z
  have neL : C.env.locals ≠ c := fun z => by
    obtain ⟨m, o, es, ep, e, d, _⟩ := q0.ns
    exact hf o (.of_data fun vs y => by rw [d] at y; cases y) (z ▸ e)
  have neO : ∀ x a, (x, a) ∈ C.own → a ≠ c := fun x a hx z => by
    obtain ⟨v, o, e, d⟩ := q0.cs x a hx
    exact hf o (.of_data fun vs y => by rw [d] at y; cases y) (z ▸ e)
  have hb : ({ C with bad := fun b => C.bad b ∨ b = c } : Cx).bad c := .inr rfl
  have wk : ∀ b, (C.wa acc).bad b → (Cx.wa { C with bad := fun b => C.bad b ∨ b = c } acc).bad b := fun b hb => hb.imp (fun h => .inl h) id
  have neB : ∀ b, C.bad b → b ≠ c := fun b hb z => by
    obtain ⟨o, p, e⟩ := q0.st.bad b (.inl hb)
    exact hf o p (z ▸ e)
  have hP : G.P ≠ c := fun z => by
    obtain ⟨ps, e, _⟩ := q.st.ok.tab
    rw [z, hoc] at e; cases e; cases hdc
  refine ⟨⟨⟨q.st.cx.kind, q.st.cx.glob, q.st.cx.blt, q.st.cx.nodup, q.st.cx.dbg, q.st.cx.kinds⟩, q.st.a, ⟨q.st.ok.g, fun b o e => ?_, ?_, ?_⟩, fun x o hx => ?_, fun b hb => ?_⟩, fun b o p e => ?_, q.ownL, q.ownC, ?_, fun x a hx => ?_, q.apart, q.gens, q.os, q.accN, q0.accB, fun a ds hm => ?_, fun b hb => ?_, q0.own, q.hT⟩
  · exact (hs.2 b fun z => by rw [z, hT] at e; cases e).trans (q.st.ok.top b o e)
  · obtain ⟨ps, e, r⟩ := q.st.ok.tab
    refine ⟨ps, (hs.2 _ hP).trans e, r.imp id ?_⟩
    rintro ⟨c', e', c₂, o, vs, t, e2, e3, e4, e5⟩
    exact ⟨c', e', c₂, o, vs, t, e2, (hs.2 _ fun z => by rw [z, hoc] at e3; cases e3; rw [hdc] at e4; cases e4).trans e3, e4, e5⟩
  · obtain ⟨l, e, g⟩ := q.st.ok.frames
    obtain ⟨l0, e0, g0⟩ := q0.st.ok.frames
    rw [show (C.wa acc).A.frames = some l from e] at e0; cases e0
    refine ⟨l, e, ?_⟩
    clear e
    induction l with
    | nil => trivial
    | cons env r ih =>
      obtain ⟨h1, ⟨L, o, h2, h3, h4, h5⟩, h6⟩ := g
      obtain ⟨_, ⟨L', o', h2', _, h4', h5'⟩, h6'⟩ := g0
      rw [h2] at h2'; cases h2'
      exact ⟨h1, ⟨L, o, h2, h3, (hs.2 L fun z => hf o' (.of_data h5') (z ▸ h4')).trans h4, h5⟩, ih h6 h6'⟩
  · obtain ⟨v, st, hd⟩ := q.st.vars x o hx
    refine ⟨v, ?_, ?_⟩
    · rcases st with ⟨a, m', b, e⟩ | ⟨a, a', b, e⟩
      · exact .inl ⟨a, m', b.sameBut hs neL, e⟩
      · refine .inr ⟨a, a', b, e.sameBut hs fun z => ?_⟩
        obtain ⟨o2, e2, d2⟩ := e
        rw [z, hoc] at e2; cases e2; rw [hdc] at d2; cases d2
    · cases o with
      | v u => exact hd
      | d d => exact (Rd.but (a := c) hd (.inl (.inr rfl)) hoc nt hs).weaken wk
  · have hb2 : b ≠ c := fun z => by
      obtain ⟨o, p, e⟩ := q0.st.bad b hb
      exact hf o p (z ▸ e)
    obtain ⟨o, p, e⟩ := q.st.bad b (wk b hb)
    exact ⟨o, p, (hs.2 b hb2).trans e⟩
  · have hbc : b ≠ c := by
      rintro rfl
      obtain ⟨o', e', s'⟩ := q0.base b o p e
      exact hf o' (p.sim s') e'
    obtain ⟨o', e', s'⟩ := q.base b o p e
    exact ⟨o', (hs.2 b hbc).trans e', s'⟩
  · obtain ⟨m', h⟩ := q.ns; exact ⟨m', h.sameBut hs neL⟩
  · obtain ⟨v, h⟩ := q.cs x a hx; exact ⟨v, h.sameBut hs (neO x a hx)⟩
  · obtain ⟨h1, vs, ⟨o2, n2, e2, c2, dn2, dt2⟩, r2⟩ := q.acc a ds hm
    exact ⟨h1, vs, ⟨o2, n2, (hs.2 a fun z => by rw [z, hoc] at e2; cases e2; rw [hdc] at dt2; cases dt2).trans e2, c2, dn2, dt2⟩, (RdAll.but (a := c) r2 (.inl (.inr rfl)) hoc nt hs).weaken wk⟩
  · exact q0.obad b hb
theorem FS.more {B : Base} {s s' : Shared} {c : Addr} {m : Str → Option Value} (q : FS G B C V acc s) (k : Kp G s s') (hf : ∀ o, Plain o → s.heap.get? c ≠ some o) (hn : s'.heap.Ns c m) : FS G B { C with bad := fun b => C.bad b ∨ b = c } V acc s' := by
  obtain ⟨oc, es, ep, hoc, hdc, hr⟩ := id hn
  have q' := q.keeps k
  have nr : ∀ {v d as}, Reads s.heap v d as → c ∉ as := fun r hm => by
    obtain ⟨o, p, e⟩ := reads_plain r c hm
    exact hf o p e
  have wk : ∀ b, (Cx.wa { C with bad := fun b => C.bad b ∨ b = c } acc).bad b → (C.wa acc).bad b ∨ b = c := fun b hb => by
    rcases hb with (h | h) | h
    · exact .inl (.inl h)
    · exact .inr h
    · exact .inl (.inr h)
  refine ⟨⟨⟨q.st.cx.kind, q.st.cx.glob, q.st.cx.blt, q.st.cx.nodup, q.st.cx.dbg, q.st.cx.kinds⟩, q.st.a, q'.st.ok, fun x o hx => ?_, fun b hb => ?_⟩, q'.base, q.ownL, q.ownC, q'.ns, q'.cs, q.apart, q'.gens, q'.os, q.accN, fun a ds hm => ?_, fun a ds hm => ?_, fun b hb => ⟨.inl (q.obad b hb).1, (q.obad b hb).2⟩, ⟨.inl q.own.L, fun x a h => .inl (q.own.c x a h)⟩, q.hT⟩
  · obtain ⟨v, st, hd⟩ := q.st.vars x o hx
    refine ⟨v, st.sim k.heap, ?_⟩
    cases o with
    | v u => exact hd
    | d d =>
      obtain ⟨as, r, p⟩ := hd
      refine ⟨as, reads_sim k.heap r, fun a ha hb => ?_⟩
      rcases wk a hb with hb | rfl
      · exact p a ha hb
      · exact nr r ha
  · rcases wk b hb with hb | rfl
    · exact q'.st.bad b hb
    · exact ⟨oc, Plain.of_data (fun vs z => by rw [hdc] at z; cases z), hoc⟩
  · rintro (hb | rfl)
    · exact q.accB a ds hm hb
    · obtain ⟨_, vs0, ⟨o2, n2, e2, c2, _⟩, _⟩ := q.acc a ds hm
      exact hf o2 (.of_cls (by rw [c2]; intro z; cases z)) e2
  · obtain ⟨h1, vs, hl, r⟩ := q'.acc a ds hm
    obtain ⟨_, vs0, hl0, as, r0, p0⟩ := q.acc a ds hm
    have : vs = vs0 := by
      obtain ⟨o1, n1, e1, c1, _, d1⟩ := hl
      obtain ⟨o2, n2, e2, c2, _, d2⟩ := hl0
      obtain ⟨o3, e3, s3⟩ := k.heap a o2 (.of_cls (by rw [c2]; intro z; cases z)) e2
      rw [e1] at e3; cases e3
      have := s3.2.2.1
      rw [d1, d2] at this; injection this with d3 _; exact congrArg Array.toList d3
    subst this
    refine ⟨h1, vs, hl, as, readsAll_sim k.heap r0, fun b hb hbb => ?_⟩
    rcases wk b hbb with hbb | rfl
    · exact p0 b hb hbb
    · obtain ⟨o, p, e⟩ := readsAll_plain r0 b hb
      exact hf o p e

/-- y = [..] where the two stores are exchanged -/
theorem ex1_assignComp {y : Str} {py spos : Pos} {V' : List (Option VV)} {P : Post} (it : ItEv G (C.wa acc) V iter (src.map inj)) (hkn : ∀ y, C.env.kindOf y = kinds y) (D : CompOk C.N kinds sc x fr) (hVf : ∀ y o, VarIx fr Vf y o → VarIx C.N V y o) (hsz : src.length ≤ 1000000)
    (turn : ∀ (env' : Env) (bad' : Addr → Prop), Kinds sc env' → ∀ a ∈ src, TrIfs G ⟨C.A, env', x :: fr, bad', C.n, []⟩ (some (.d (inj a)) :: Vf) ifs (p a) ∧ (p a = true → Ev G ⟨C.A, env', x :: fr, bad', C.n, []⟩ (some (.d (inj a)) :: Vf) elt (f a)))
    (hx : SetIx C.N V y (.d (.list ((src.filter p).map f))) V') (h : P .next V' acc)
    (hky : kinds y = some .local) (hline : (py.line == pos.line) = true) (hny : (sc.names.any fun (n, k) => n == y && (k == .local || k == .cell)) = false) (ho : C.own = C.env.cells := by rfl)
    (hs : ∀ env x, foldedSetIterable iter env x = pure x := by intro _ _; rfl) : Ex1 G C V acc (.Assign [.Name y py] (.ListComp elt [⟨.Name x px, iter, ifs, 0⟩] sc pos) spos) P := fun B s Q E q k => by
  have hsw : swapsWith (.ListComp elt [⟨.Name x px, iter, ifs, 0⟩] sc pos) (some (.Name y py)) spos.line C.env = pure true := by
    show pure (C.env.blockKind == .function && C.env.kindOf y == some .local && py.line == pos.line && !(sc.names.any fun (n, k) => n == y && (k == .local || k == .cell))) = _
    rw [hny, hkn, hky, hline]
    have : C.env.blockKind = .function := by
      unfold Env.blockKind
      rw [show C.env.scope.kind = _ from q.st.cx.kind]; rfl
    rw [this]; rfl
  rw [exec_Assign_Name_used _ _ _ _ hsw]
  refine wpAny_bind (wpAny_standAt (wpAny_bind ?_))
  show wpAny _ C.A (do let _ ← comprehension (.ListComp elt [⟨.Name x px, iter, ifs, 0⟩] sc pos) sc C.env _ (newList []) false (eval iter C.env) (some (assign (.Name y py) C.env))) _ _ s
  refine wpAny_bind (wpAny_mono (wpAny_comprehension_free (use := some (assign (.Name y py) C.env)) (Q := fun _ s' => Q .next s') rfl (hs _) (clos_ok (C := C.wa acc) hkn D q.st.cx) D.kind D.names
    (it s _ E q.st fun I s1 mk k1 f1 f2 f3 => ?_)) (fun _ s' hq => wpAny_pure (wpAny_pure hq)) fun _ _ e => e)
  refine comp_go (C := C.wa acc) (RR := fun acc c => compPost (model G.prog G.w) C.A E (some (assign (.Name y py) C.env)) (fun _ s' => Q .next s') acc c) hkn D hVf hsz turn q.st mk k1 f1 f2 f3 ?_
  rintro D' c s' kp hf hT ⟨m, hn⟩ rd
  show wpAny _ C.A (assign (.Name y py) C.env (.ref D')) _ _ _
  have q2 := q.more kp hf hn
  have rd2 : Rd (Cx.wa { C with bad := fun b => C.bad b ∨ b = c } acc).bad s'.heap (.ref D') (.list ((src.filter p).map f)) := rd.weaken fun b hb => by
    rcases hb with (h | h) | h
    · exact .inl (.inl h)
    · exact .inr h
    · exact .inl (.inr h)
  refine wpAny_assign_Name (storeVar q2 (.inl ho) hx (o := .d _) rd2 fun s'' q3 keep _ => ?_)
  have hn3 : s''.heap.Ns c m := by
    obtain ⟨a, ha, hsb⟩ := keep
    refine hn.sameBut hsb fun z => ?_
    rcases ha with rfl | ⟨x, hx⟩
    · obtain ⟨m, o, es, ep, e, d, _⟩ := q.ns
      exact hf o (.of_data fun vs y => by rw [d] at y; cases y) (z ▸ e)
    · obtain ⟨v, o, e, d⟩ := q.cs x a hx
      exact hf o (.of_data fun vs y => by rw [d] at y; cases y) (z ▸ e)
  exact ⟨m, hn3, fun h' hs' => k .next .next _ _ _ h (q.away q3 hf hT hn3 hs') rfl⟩
end
end
section
open AutoSeq1 (wpAny_loadPart')
open MeetsSeq MeetsSeq2 MeetsSeq3 SeqAt

/-! the order of two lists of numbers that part at once, or that are both empty -/
noncomputable def lexLt : List Int → List Int → Bool
  | [], b => decide (0 < b.length)
  | _ :: _, [] => false
  | x :: a, y :: b => if x = y then lexLt a b else decide (x < y)

theorem list_lt_heads (l b : Addr) (x y : Int) (t u : Tok) (items items2 : Array Value) (n n2 : Nat) (dd dd2 : Option Addr) (sl sl2 : Array (Option Value)) (hne : (x == y) = false) (h1 : items[((0 : Nat) : Int).toNat]? = some (.int x t)) (h2 : items2[((0 : Nat) : Int).toNat]? = some (.int y u)) :
    Meets (Builtin.«list.__lt__» ⟨[.ref l, .ref b], []⟩)
      (fun A R s => s.heap.get? l = some { cls := .type "list", dict := dd, data := .seq items n, slots := sl } ∧ s.heap.get? b = some { cls := .type "list", dict := dd2, data := .seq items2 n2, slots := sl2 } ∧
        R (.ok (.ret (.bool (decide (x < y))))) s) := by
  have loop : Meets (Builtin.«list.__eq__.loop» ⟨[.ref l, .ref b, rawInt ((0 : Nat) : Int), rawInt 0], []⟩)
      (fun A R s => s.heap.get? l = some { cls := .type "list", dict := dd, data := .seq items n, slots := sl } ∧ s.heap.get? b = some { cls := .type "list", dict := dd2, data := .seq items2 n2, slots := sl2 } ∧
        R (.ok (.ret (.bool (decide (x < y))))) s) := by
    intro prog w A R s h
    obtain ⟨hp, g, d, tk, os⟩ := s; obtain ⟨hl, hb, h⟩ := h
    wp_walk using wpAny_loadPart' hl, wpAny_loadPart' hb
    rw [h1, h2]
    refine wpAny_bind (wpAny_eqBool_int ?_)
    rw [hne]
    wp_walk using wpAny_loadPart' hl, wpAny_loadPart' hb
    rw [h1, h2]
    refine wpAny_bind ?_
    show wpAny _ _ (compareOp .Lt _ _) _ _ _
    exact P.lt_int (wpAny_pure h)
  intro prog w A R s h
  obtain ⟨hp, g, d, tk, os⟩ := s; obtain ⟨hl, hb, h⟩ := h
  have f3 := AutoSeq1.sub_list_list
  wp_walk using wpAny_loadPart' hl, wpAny_loadPart' hb
  exact ⟨plainId_quiet plain_eq_loop _, codeAny_builtin entry_eq_loop (by
    rw [Around.under_plainId plain_eq_loop _]
    exact loop prog w A R _ ⟨hl, hb, h⟩)⟩
theorem list_lt_empty (l b : Addr) (n n2 : Nat) (dd dd2 : Option Addr) (sl sl2 : Array (Option Value)) (items items2 : Array Value) (h1 : items[((0 : Nat) : Int).toNat]? = none) (h2 : items2[((0 : Nat) : Int).toNat]? = none) (z1 : items.size = 0) (z2 : items2.size = 0) :
    Meets (Builtin.«list.__lt__» ⟨[.ref l, .ref b], []⟩)
      (fun A R s => s.heap.get? l = some { cls := .type "list", dict := dd, data := .seq items n, slots := sl } ∧ s.heap.get? b = some { cls := .type "list", dict := dd2, data := .seq items2 n2, slots := sl2 } ∧
        R (.ok (.ret (.bool false))) s) := by
  have loop : Meets (Builtin.«list.__eq__.loop» ⟨[.ref l, .ref b, rawInt ((0 : Nat) : Int), rawInt 0], []⟩)
      (fun A R s => s.heap.get? l = some { cls := .type "list", dict := dd, data := .seq items n, slots := sl } ∧ s.heap.get? b = some { cls := .type "list", dict := dd2, data := .seq items2 n2, slots := sl2 } ∧
        R (.ok (.ret (.bool false))) s) := by
    intro prog w A R s h
    obtain ⟨hp, g, d, tk, os⟩ := s; obtain ⟨hl, hb, h⟩ := h
    wp_walk using wpAny_loadPart' hl, wpAny_loadPart' hb
    rw [h1, h2]
    wp_walk using wpAny_loadPart' hl, wpAny_loadPart' hb
    show R (.ok (.ret (.bool (decide (items.size < items2.size))))) _
    rw [z1, z2]
    simpa using h
  intro prog w A R s h
  obtain ⟨hp, g, d, tk, os⟩ := s; obtain ⟨hl, hb, h⟩ := h
  have f3 := AutoSeq1.sub_list_list
  wp_walk using wpAny_loadPart' hl, wpAny_loadPart' hb
  exact ⟨plainId_quiet plain_eq_loop _, codeAny_builtin entry_eq_loop (by
    rw [Around.under_plainId plain_eq_loop _]
    exact loop prog w A R _ ⟨hl, hb, h⟩)⟩
theorem list_gt_heads (l b : Addr) (x y : Int) (t u : Tok) (items items2 : Array Value) (n n2 : Nat) (dd dd2 : Option Addr) (sl sl2 : Array (Option Value)) (hne : (x == y) = false) (h1 : items[((0 : Nat) : Int).toNat]? = some (.int x t)) (h2 : items2[((0 : Nat) : Int).toNat]? = some (.int y u)) :
    Meets (Builtin.«list.__gt__» ⟨[.ref l, .ref b], []⟩)
      (fun A R s => s.heap.get? l = some { cls := .type "list", dict := dd, data := .seq items n, slots := sl } ∧ s.heap.get? b = some { cls := .type "list", dict := dd2, data := .seq items2 n2, slots := sl2 } ∧
        R (.ok (.ret (.bool (decide (y < x))))) s) := by
  have loop : Meets (Builtin.«list.__eq__.loop» ⟨[.ref l, .ref b, rawInt ((0 : Nat) : Int), rawInt 4], []⟩)
      (fun A R s => s.heap.get? l = some { cls := .type "list", dict := dd, data := .seq items n, slots := sl } ∧ s.heap.get? b = some { cls := .type "list", dict := dd2, data := .seq items2 n2, slots := sl2 } ∧
        R (.ok (.ret (.bool (decide (y < x))))) s) := by
    intro prog w A R s h
    obtain ⟨hp, g, d, tk, os⟩ := s; obtain ⟨hl, hb, h⟩ := h
    wp_walk using wpAny_loadPart' hl, wpAny_loadPart' hb
    rw [h1, h2]
    refine wpAny_bind (wpAny_eqBool_int ?_)
    rw [hne]
    wp_walk using wpAny_loadPart' hl, wpAny_loadPart' hb
    rw [h1, h2]
    refine wpAny_bind ?_
    show wpAny _ _ (compareOp .Gt _ _) _ _ _
    exact P.gt_int (wpAny_pure h)
  intro prog w A R s h
  obtain ⟨hp, g, d, tk, os⟩ := s; obtain ⟨hl, hb, h⟩ := h
  have f3 := AutoSeq1.sub_list_list
  wp_walk using wpAny_loadPart' hl, wpAny_loadPart' hb
  exact ⟨plainId_quiet plain_eq_loop _, codeAny_builtin entry_eq_loop (by
    rw [Around.under_plainId plain_eq_loop _]
    exact loop prog w A R _ ⟨hl, hb, h⟩)⟩
theorem list_gt_empty (l b : Addr) (n n2 : Nat) (dd dd2 : Option Addr) (sl sl2 : Array (Option Value)) (items items2 : Array Value) (h1 : items[((0 : Nat) : Int).toNat]? = none) (h2 : items2[((0 : Nat) : Int).toNat]? = none) (z1 : items.size = 0) (z2 : items2.size = 0) :
    Meets (Builtin.«list.__gt__» ⟨[.ref l, .ref b], []⟩)
      (fun A R s => s.heap.get? l = some { cls := .type "list", dict := dd, data := .seq items n, slots := sl } ∧ s.heap.get? b = some { cls := .type "list", dict := dd2, data := .seq items2 n2, slots := sl2 } ∧
        R (.ok (.ret (.bool false))) s) := by
  have loop : Meets (Builtin.«list.__eq__.loop» ⟨[.ref l, .ref b, rawInt ((0 : Nat) : Int), rawInt 4], []⟩)
      (fun A R s => s.heap.get? l = some { cls := .type "list", dict := dd, data := .seq items n, slots := sl } ∧ s.heap.get? b = some { cls := .type "list", dict := dd2, data := .seq items2 n2, slots := sl2 } ∧
        R (.ok (.ret (.bool false))) s) := by
    intro prog w A R s h
    obtain ⟨hp, g, d, tk, os⟩ := s; obtain ⟨hl, hb, h⟩ := h
    wp_walk using wpAny_loadPart' hl, wpAny_loadPart' hb
    rw [h1, h2]
    wp_walk using wpAny_loadPart' hl, wpAny_loadPart' hb
    show R (.ok (.ret (.bool (decide (items.size > items2.size))))) _
    rw [z1, z2]
    simpa using h
  intro prog w A R s h
  obtain ⟨hp, g, d, tk, os⟩ := s; obtain ⟨hl, hb, h⟩ := h
  have f3 := AutoSeq1.sub_list_list
  wp_walk using wpAny_loadPart' hl, wpAny_loadPart' hb
  exact ⟨plainId_quiet plain_eq_loop _, codeAny_builtin entry_eq_loop (by
    rw [Around.under_plainId plain_eq_loop _]
    exact loop prog w A R _ ⟨hl, hb, h⟩)⟩
end
section
variable {G : TopC} {C : Cx} {V : List (Option VV)} {acc : Acc}

/-! lists of numbers, of texts, of truths -/
noncomputable def iL (l : List Int) : List PyData := l.map PyData.int
noncomputable def sL (l : List (List Nat)) : List PyData := l.map fun x => PyData.str (S x)
noncomputable def bL (l : List Bool) : List PyData := l.map PyData.bool
noncomputable def Asc (l : List Nat) : Prop := ∀ c ∈ l, c < 128
theorem can_str {l : List Nat} (h : Asc l) : (PyData.str (S l)).canLay0 = true := by
  show (S l).cps.all _ = true
  rw [Array.all_eq_true]
  intro i hi
  have : l[i]'(by simpa using hi) ∈ l := List.getElem_mem _
  have := h _ this
  simp only [List.getElem_toArray, decide_eq_true_eq]; omega
theorem can_strs {l : List (List Nat)} (h : ∀ x ∈ l, Asc x) : PyData.canLayAll0 (sL l) = true := by
  induction l with
  | nil => rfl
  | cons x l ih =>
    show (PyData.canLay0 _ && PyData.canLayAll0 (sL l)) = true
    rw [can_str (h x (.head _)), ih fun y hy => h y (.tail _ hy)]; rfl
theorem can_ints {l : List Int} : PyData.canLayAll0 (iL l) = true := by
  induction l with
  | nil => rfl
  | cons x l ih => show (true && PyData.canLayAll0 (iL l)) = true; rw [ih]; rfl
theorem can_bools {l : List Bool} : PyData.canLayAll0 (bL l) = true := by
  induction l with
  | nil => rfl
  | cons x l ih => show (true && PyData.canLayAll0 (bL l)) = true; rw [ih]; rfl
theorem dep_strs {l : List (List Nat)} : PyData.depthAll (sL l) = 0 := by
  induction l with
  | nil => rfl
  | cons x l ih => show max 0 (PyData.depthAll (sL l)) = 0; rw [ih]; rfl
theorem dep_ints {l : List Int} : PyData.depthAll (iL l) = 0 := by
  induction l with
  | nil => rfl
  | cons x l ih => show max 0 (PyData.depthAll (iL l)) = 0; rw [ih]; rfl
theorem shaped_str {l : List Nat} (h : Asc l) : SeqAt.shaped (.str (S l)) = true := by
  unfold SeqAt.shaped; rw [can_str h]; rfl
theorem shaped_strs {l : List (List Nat)} (h : ∀ x ∈ l, Asc x) : SeqAt.shaped (.list (sL l)) = true := by
  unfold SeqAt.shaped
  rw [show (PyData.list (sL l)).canLay0 = true from can_strs h, show (PyData.list (sL l)).depth = 1 by show PyData.depthAll (sL l) + 1 = 1; rw [dep_strs]]; rfl
theorem shaped_ints {l : List Int} : SeqAt.shaped (.list (iL l)) = true := by
  unfold SeqAt.shaped
  rw [show (PyData.list (iL l)).canLay0 = true from can_ints, show (PyData.list (iL l)).depth = 1 by show PyData.depthAll (iL l) + 1 = 1; rw [dep_ints]]; rfl
theorem shaped_ints2 {l m : List Int} : SeqAt.shaped (.tuple [.list (iL l), .list (iL m)]) = true := by
  unfold SeqAt.shaped
  rw [show (PyData.tuple [.list (iL l), .list (iL m)]).canLay0 = true by show (PyData.canLayAll0 (iL l) && (PyData.canLayAll0 (iL m) && true)) = true; rw [can_ints, can_ints]; rfl,
    show (PyData.tuple [.list (iL l), .list (iL m)]).depth = 2 by show max (PyData.depthAll (iL l) + 1) (max (PyData.depthAll (iL m) + 1) 0) + 1 = 2; rw [dep_ints, dep_ints]; rfl]; rfl
theorem shaped_strs2 {l m : List (List Nat)} (hl : ∀ x ∈ l, Asc x) (hm : ∀ x ∈ m, Asc x) : SeqAt.shaped (.tuple [.list (sL l), .list (sL m)]) = true := by
  unfold SeqAt.shaped
  rw [show (PyData.tuple [.list (sL l), .list (sL m)]).canLay0 = true by show (PyData.canLayAll0 (sL l) && (PyData.canLayAll0 (sL m) && true)) = true; rw [can_strs hl, can_strs hm]; rfl,
    show (PyData.tuple [.list (sL l), .list (sL m)]).depth = 2 by show max (PyData.depthAll (sL l) + 1) (max (PyData.depthAll (sL m) + 1) 0) + 1 = 2; rw [dep_strs, dep_strs]; rfl]; rfl
theorem eqv_self {d : PyData} (h : SeqAt.shaped d = true) : PyData.eqv d d = true := SeqAt.eqv_refl d (SeqAt.canLay_of_shaped h)
theorem cmp_eqSelf {d : PyData} (h : SeqAt.shaped d = true) : Cmp G C .Eq d d true := eqv_self h ▸ cmp_eq h h
theorem cmp_neSelf {d : PyData} (h : SeqAt.shaped d = true) : Cmp G C .NotEq d d false := by
  have := cmp_ne (G := G) (C := C) h h
  rw [eqv_self h] at this; exact this

theorem ints_any {l : List Int} {x : Int} : ((iL l).any fun d => PyData.eqv d (.int x)) = l.contains x := by
  induction l with
  | nil => rfl
  | cons y l ih =>
    show (PyData.eqv (.int y) (.int x) || (iL l).any fun d => PyData.eqv d (.int x)) = _
    rw [ih, List.contains_cons, PyData.eqv]
    congr 1
    rw [Bool.eq_iff_iff, beq_iff_eq, beq_iff_eq]; exact eq_comm
theorem cmp_inI {l : List Int} {x : Int} : Cmp G C .In (.int x) (.list (iL l)) (l.contains x) := by
  rw [← ints_any]
  exact cmp_inL (fun d hd => by obtain ⟨i, _, rfl⟩ := List.mem_map.mp hd; rfl) rfl
theorem cmp_notInI {l : List Int} {x : Int} : Cmp G C .NotIn (.int x) (.list (iL l)) (!l.contains x) := by
  rw [← ints_any]
  exact cmp_notInL (fun d hd => by obtain ⟨i, _, rfl⟩ := List.mem_map.mp hd; rfl) rfl
theorem str_beq {x y : List Nat} : ((S x) == (S y)) = (x == y) := by
  rw [Bool.eq_iff_iff, beq_iff_eq, beq_iff_eq]
  exact ⟨S_inj, fun h => h ▸ rfl⟩
theorem strs_any {l : List (List Nat)} {x : List Nat} : ((sL l).any fun d => PyData.eqv d (.str (S x))) = l.contains x := by
  induction l with
  | nil => rfl
  | cons y l ih =>
    show (PyData.eqv (.str (S y)) (.str (S x)) || (sL l).any fun d => PyData.eqv d (.str (S x))) = _
    rw [ih, List.contains_cons, PyData.eqv, str_beq]
    congr 1
    rw [Bool.eq_iff_iff, beq_iff_eq, beq_iff_eq]; exact eq_comm
theorem cmp_inT_strs {l : List (List Nat)} {x : List Nat} (hl : ∀ y ∈ l, Asc y) (hx : Asc x) : Cmp G C .In (.str (S x)) (.tuple (sL l)) (l.contains x) := by
  rw [← strs_any]
  exact cmp_inT (fun d hd => by obtain ⟨i, hi, rfl⟩ := List.mem_map.mp hd; exact shaped_str (hl i hi)) (shaped_str hx)

theorem ints_get {bad : Addr → Prop} {h : Heap} {vs : List Value} {l : List Int} (r : RdAll bad h vs (iL l)) : ∀ (i : Nat) (v : Value), vs[i]? = some v → ∃ t, v = .int (l.getD i 0) t := fun i v hv => by
  have hl := r.length
  have hlt : i < vs.length := (List.getElem?_eq_some_iff.mp hv).1
  have hlt2 : i < l.length := by rw [hl] at hlt; simpa [iL] using hlt
  obtain ⟨v', hv', rv⟩ := r.get (i := i) (d := .int (l.getD i 0)) (by simp [iL, hlt2, List.getD])
  rw [hv] at hv'; cases hv'
  exact rv.int_inv
theorem preSum_eq (l : List Int) : ∀ n, preSum (fun i => l.getD i 0) n = (l.take n).sum
  | 0 => rfl
  | n + 1 => by
    show preSum _ n + l.getD n 0 = _
    rw [preSum_eq l n, List.take_add_one]
    cases h : l[n]? with
    | none => simp [List.getD, h]
    | some x => simp [List.getD, h]

theorem iterOf {bad : Addr → Prop} {A : Around} {s : Shared} {l : Addr} {vs : List Value} (hl : s.heap.IsList l vs.toArray) {Q : Value → Shared → Prop} {E : Value → Shared → Prop}
    (h : ∀ s₂ : Shared, s₂ = { s with heap := s.heap.push { cls := .type "list_iterator", data := .fields #[.ref l, .int 0 0] } } →
      (s₂.heap.IsListIter s.heap.objs.size l 0 ∧ s₂.heap.IsList l vs.toArray) → (∀ b ∈ [s.heap.objs.size, l], b < s₂.heap.objs.size) → l ≠ s.heap.objs.size → Q (.ref s.heap.objs.size) s₂) :
    wpAny (model G.prog G.w) A (pyIter (.ref l)) Q E s := by
  have hlt : l < s.heap.objs.size := by obtain ⟨_, e, _⟩ := hl; exact Heap.lt_size e
  refine wpAny_pyIter_list hl (h _ rfl ⟨⟨_, Heap.get?_push_size _ rfl, rfl, rfl⟩, hl.push _⟩ (fun b hb => ?_) (Nat.ne_of_lt hlt))
  show b < (s.heap.push _).objs.size
  rw [Heap.size_push]
  rcases List.mem_cons.mp hb with rfl | hb
  · exact Nat.lt_succ_self _
  · rcases List.mem_cons.mp hb with rfl | hb
    · exact Nat.lt_succ_of_lt hlt
    · cases hb
theorem kp_iter {s : Shared} {o : Obj} {h' : Heap} {tk : Nat} (hk : ∀ b o', b ∉ [s.heap.objs.size] → (s.heap.push o).get? b = some o' → h'.get? b = some o') : Kp G s { s with heap := h', toks := tk } :=
  Kp.of_keeps G tk fun b o' e => hk b o' (fun h => by
    have : b = s.heap.objs.size := by simpa using h
    subst this; exact absurd (Heap.lt_size e) (Nat.lt_irrefl _)) (Heap.get?_push_of_some _ e)
theorem call_sumI {A : Around} {bad : Addr → Prop} {s : Shared} {u : Value} {l : List Int} {Q E : Value → Shared → Prop} (hh : A.handled = none) (r : Rd bad s.heap u (.list (iL l))) (h : ∀ t s', Kp G s s' → Q (.int l.sum t) s') : wpAny (model G.prog G.w) A (call (.builtin "sum") [u]) Q E s := by
  obtain ⟨a, vs, rfl, hl, hb, r⟩ := r.list_inv
  refine call_sum_walkG (iterOf (bad := bad) hl fun s₂ e st hfp hne => ?_)
  subst e
  refine ⟨_, _, _, _, _, _, fun i => l.getD i 0, rfl, Walks.list (A := A.in1) hh _ a hne vs.toArray, st, hfp, (fun i v hv => ints_get r i v (by simpa using hv)), fun h' tk t' hk => ?_⟩
  have hn : vs.toArray.size = l.length := by have := r.length; simpa [iL] using this
  rw [hn, preSum_eq, List.take_length]
  exact h t' _ (kp_iter (G := G) hk)
theorem ev_sum {fp pos : Pos} {e : Expr} {l : List Int} (hk : C.env.kindOf (Str.ofString "sum") = some .globalImplicit) (hm : G.mg (Str.ofString "sum") = none) (hb : G.mb (Str.ofString "sum") = some (.builtin "sum")) (x : Ev G C V e (.list (iL l)))
    (hs : ∀ env, starEach [e] env = [(false, eval e env)] := by intro _; rfl) : Ev G C V (.Call (.Name (Str.ofString "sum") fp) [e] [] pos) (.int l.sum) :=
  ev_blt1 hk hm hb x (fun _ _ _ h => callWith_builtin rfl h) (fun s Q E u q r h => call_sumI q.a.1 r fun t s' k => h _ _ k (.int _ _)) (by decide) hs
theorem bools_get {bad : Addr → Prop} {h : Heap} {vs : List Value} {l : List Bool} (r : RdAll bad h vs (bL l)) : ∀ (i : Nat) (v : Value), vs[i]? = some v → v = .bool (l.getD i true) := fun i v hv => by
  have hl := r.length
  have hlt : i < vs.length := (List.getElem?_eq_some_iff.mp hv).1
  have hlt2 : i < l.length := by rw [hl] at hlt; simpa [bL] using hlt
  obtain ⟨v', hv', rv⟩ := r.get (i := i) (d := .bool (l.getD i true)) (by simp [bL, hlt2, List.getD])
  rw [hv] at hv'; cases hv'
  exact rv.bool_inv
theorem all_range (l : List Bool) : (List.range l.length).all (fun i => l.getD i true) = l.all id := by
  induction l with
  | nil => rfl
  | cons x l ih => rw [List.length_cons, List.range_succ_eq_map, List.all_cons, List.all_map, List.all_cons, ← ih]; rfl
theorem ev_all {fp pos : Pos} {e : Expr} {l : List Bool} (hk : C.env.kindOf (Str.ofString "all") = some .globalImplicit) (hm : G.mg (Str.ofString "all") = none) (hb : G.mb (Str.ofString "all") = some (.builtin "all")) (x : Ev G C V e (.list (bL l)))
    (hs : ∀ env, starEach [e] env = [(false, eval e env)] := by intro _; rfl) : Ev G C V (.Call (.Name (Str.ofString "all") fp) [e] [] pos) (.bool (l.all id)) :=
  ev_blt1 hk hm hb x (fun _ _ _ h => callWith_builtin rfl h) (fun s Q E u q r h => by
    obtain ⟨a, vs, rfl, hl, hb, r⟩ := r.list_inv
    refine call_all_walk (iterOf (bad := C.bad) hl fun s₂ e st hfp hne => ?_)
    subst e
    refine ⟨_, _, _, _, _, _, fun i => l.getD i true, rfl, Walks.list (A := C.A.in1) q.a.1 _ a hne vs.toArray, st, ?_, fun h' tk hk => ?_⟩
    · intro i v s' Q' E' hv hq
      have := bools_get r i v (by simpa using hv)
      subst this
      exact wpAny_truthy_bool hq
    · have hn : vs.toArray.size = l.length := by have := r.length; simpa [bL] using this
      rw [hn, all_range]
      exact h _ _ (kp_iter (G := G) hk) (.bool _)) (by decide) hs

/-- a built-in class called with one argument -/
theorem ev_cls1 {f : Str} {fp pos : Pos} {e : Expr} {T : String} {a d : PyData} (hk : C.env.kindOf f = some .globalImplicit) (hm : G.mg f = none) (hb : G.mb f = some (.type T)) (x : Ev G C V e a)
    (h : ∀ (s : Shared) (Q E : Value → Shared → Prop) (u : Value), St G C V s → Rd C.bad s.heap u a → (∀ r s', Kp G s s' → Rd C.bad s'.heap r d → Q r s') → wpAny (model G.prog G.w) C.A (call (.type T) [u]) Q E s)
    (hd : (f == ("__debug__" : Str)) = false := by decide) (hs : ∀ env, starEach [e] env = [(false, eval e env)] := by intro _; rfl) : Ev G C V (.Call (.Name f fp) [e] [] pos) d :=
  ev_blt1 hk hm hb x (fun _ _ _ h => PyProof.Rows.callWith_type rfl h) h hd hs
theorem ev_listOf {fp pos : Pos} {e : Expr} {ds : List PyData} (hk : C.env.kindOf (Str.ofString "list") = some .globalImplicit) (hm : G.mg (Str.ofString "list") = none) (hb : G.mb (Str.ofString "list") = some (.type "list")) (x : Ev G C V e (.list ds)) (hz : ds.length ≤ 1000000)
    (hs : ∀ env, starEach [e] env = [(false, eval e env)] := by intro _; rfl) : Ev G C V (.Call (.Name (Str.ofString "list") fp) [e] [] pos) (.list ds) :=
  ev_cls1 hk hm hb x (fun s Q E u q r h => by
    obtain ⟨a, vs, rfl, hl, hb, r⟩ := r.list_inv
    obtain ⟨o, ho, hc, n, hd⟩ := hl
    have hsz : vs.toArray.size ≤ sizeLine := by rw [List.size_toArray, r.length]; exact Nat.le_trans hz (by decide)
    refine call_list_seq (hsz := hsz) a (.inl rfl) ho hc hd fun h' c' hk hS => ?_
    exact h _ _ (Kp.of_keeps G s.toks hk) (.list ⟨_, hS, rfl, _, rfl⟩ (q.new (get_size _)) (r.sim (.of_keeps hk)))) (by decide) hs

/-! values told outright -/
theorem evV_blt {f : Str} {pos : Pos} {v : Value} (hk : C.env.kindOf f = some .globalImplicit) (hm : G.mg f = none) (hb : G.mb f = some v) (hd : (f == ("__debug__" : Str)) = false := by decide) : EvV G C V (.Name f pos) v := fun s Q E q h =>
  bltName q hk hd hm hb (h s (.refl ..))
theorem evV_typeInt {fp pos : Pos} {e : Expr} {i : Int} (hk : C.env.kindOf (Str.ofString "type") = some .globalImplicit) (hm : G.mg (Str.ofString "type") = none) (hb : G.mb (Str.ofString "type") = some (.type "type")) (x : Ev G C V e (.int i))
    (hs : ∀ env, starEach [e] env = [(false, eval e env)] := by intro _; rfl) : EvV G C V (.Call (.Name (Str.ofString "type") fp) [e] [] pos) (.type "int") := fun s Q E q k => by
  refine Call_ (bltName q hk (by decide) hm hb ?_)
  have e' : backTo pos (starEach [e] C.env) = [(false, eval e C.env)] := by rw [hs]; rfl
  rw [e']
  refine PyProof.Rows.callWith_type rfl (evalArgs_plain (spliced_cons (x s _ E q fun u s1 k1 r1 => spliced_nil ?_)))
  obtain ⟨t, rfl⟩ := r1.int_inv
  exact call_type_of (Tx := "int") rfl (by decide +kernel) (k _ k1)
theorem ev_isV {l r : Expr} {pos : Pos} {u v : Value} {b : Bool} (x : EvV G C V l u) (y : EvV G C V r v) (hp : plainIs u v = true) (hb : (u == v) = b) (hm : behindInMarks .Is r = false := by with_unfolding_all rfl) : Ev G C V (.Compare l [.Is] [r] pos) (.bool b) := fun s Q E q h =>
  wpAny_Compare1 (x s _ E q fun s1 k1 => y s1 _ E (q.keeps k1) fun s2 k2 => wpAny_is_plain hp (hb ▸ h _ _ (k1.trans k2) (.bool _))) hm

/-- ''.join(e) -/
theorem strsAre {bad : Addr → Prop} {h : Heap} {vs : List Value} {l : List (List Nat)} (r : RdAll bad h vs (sL l)) : StrsAre vs (l.map S) := by
  induction l generalizing vs with
  | nil => cases r.nil_inv; exact .nil
  | cons x l ih =>
    obtain ⟨v, vs', rfl, r1, r2⟩ := r.cons_inv
    obtain ⟨t, rfl⟩ := r1.str_inv
    exact .cons _ t (ih r2)
theorem str_join_flat (l : List (List Nat)) : Str.join (S []) (l.map S) = S l.flatten := by
  induction l with
  | nil => rfl
  | cons x l ih =>
    cases l with
    | nil => show S x = _; simp
    | cons y l =>
      show S x ++ S [] ++ Str.join (S []) ((y :: l).map S) = _
      rw [ih, S_app, S_app]; simp
theorem join_flat (l : List (List Nat)) : Txt.join (S []) (l.map S) = S l.flatten := by
  unfold Txt.join
  rw [StrLaws.glued_eq_join, str_join_flat]
theorem sum_flat (l : List (List Nat)) : ((l.map S).map (·.length)).sum = l.flatten.length := by
  induction l with
  | nil => rfl
  | cons x l ih => simp only [List.map_cons, List.sum_cons, List.flatten_cons, List.length_append, ih, S_len]
theorem ev_join {e : Expr} {l : List (List Nat)} {k : Nat} {cp ap pos : Pos} (x : Ev G C V e (.list (sL l))) (hz : l.flatten.length ≤ 1000000)
    (hbase : ∀ env, attributeBase (.Constant (.str (S [])) k cp) (Str.ofString "join") env (eval (.Constant (.str (S [])) k cp) env) = eval (.Constant (.str (S [])) k cp) env := by intro _; rfl) (hline : (ap.endLine == pos.line) = true := by rfl)
    (hs : ∀ env, starEach [e] env = [(false, eval e env)] := by intro _; rfl) : Ev G C V (.Call (.Attribute (.Constant (.str (S [])) k cp) (Str.ofString "join") ap) [e] [] pos) (.str (S l.flatten)) := fun s Q E q h => by
  refine Call_method1 (hbase _) (hs _) hline (ev_str (G := G) (C := C) (V := V) s _ E q fun v s1 k1 r1 => ?_)
  obtain ⟨t, rfl⟩ := r1.str_inv
  refine ⟨"str", "str.join", F.plainAttrs_str, F.slot_str_join, F.type_str_join, typeIs_str _ _ _, (fun a h => nomatch h), ?_⟩
  refine Calls.callWith_builtin rfl (evalArgs_plain (spliced_cons (x s1 _ E (q.keeps k1) fun u s2 k2 r2 => spliced_nil ?_)))
  obtain ⟨a, vs, rfl, hl, hb, r⟩ := r2.list_inv
  refine join_list hl (strsAre r) ?_ fun t' k3 => ?_
  · rw [sum_flat, show (S []).length = 0 from rfl]; omega
  · rw [join_flat]
    exact h _ _ ((k1.trans k2).trans (Kp.of_toks G k3)) (.str _ _)
end
section
variable {G : TopC} {C : Cx} {V : List (Option VV)} {acc : Acc}

/-- both empty, or parting at once -/
noncomputable def Parts (a b : List Int) : Prop := (a = [] ∧ b = []) ∨ ∃ x y a' b', a = x :: a' ∧ b = y :: b' ∧ x ≠ y
theorem cmp_ltL {a b : List Int} (h : Parts a b) : Cmp G C .Lt (.list (iL a)) (.list (iL b)) (lexLt a b) := fun V s Q E u v q ru rv k => by
  obtain ⟨l, vs, rfl, hl, _, r⟩ := ru.list_inv
  obtain ⟨m, ws, rfl, hm, _, r'⟩ := rv.list_inv
  obtain ⟨⟨cls, dd, data, sl⟩, ho, hc, n, hd⟩ := id hl
  obtain ⟨⟨cls2, dd2, data2, sl2⟩, ho2, hc2, n2, hd2⟩ := id hm
  simp only at hc hd hc2 hd2
  subst hc hd hc2 hd2
  have hu : C.A.units < cLine := by have := q.units; omega
  rcases h with ⟨rfl, rfl⟩ | ⟨x, y, a', b', rfl, rfl, hne⟩
  · cases r.nil_inv; cases r'.nil_inv
    refine richCompare_meets_room (op := .Lt) ⟨_, ho, rfl⟩ ⟨_, ho2, rfl⟩ F.slot_list_lt F.entry_list_lt (F.args_list_lt_2 _ _) (list_lt_empty l m n n2 dd dd2 sl sl2 _ _ rfl rfl rfl rfl) ⟨ho, ho2, ?_⟩ hu
    exact ⟨fun z => (nomatch z), k _ (.refl ..)⟩
  · obtain ⟨v1, vs', rfl, r1, _⟩ := r.cons_inv
    obtain ⟨w1, ws', rfl, r2, _⟩ := r'.cons_inv
    obtain ⟨t, rfl⟩ := r1.int_inv
    obtain ⟨t2, rfl⟩ := r2.int_inv
    refine richCompare_meets_room (op := .Lt) ⟨_, ho, rfl⟩ ⟨_, ho2, rfl⟩ F.slot_list_lt F.entry_list_lt (F.args_list_lt_2 _ _) (list_lt_heads l m x y t t2 _ _ n n2 dd dd2 sl sl2 (by simpa using hne) rfl rfl) ⟨ho, ho2, ?_⟩ hu
    refine ⟨fun z => (nomatch z), ?_⟩
    have : lexLt (x :: a') (y :: b') = decide (x < y) := by show (if x = y then _ else _) = _; rw [if_neg hne]
    rw [← this]
    exact k _ (.refl ..)
theorem cmp_gtL {a b : List Int} (h : Parts a b) : Cmp G C .Gt (.list (iL a)) (.list (iL b)) (lexLt b a) := fun V s Q E u v q ru rv k => by
  obtain ⟨l, vs, rfl, hl, _, r⟩ := ru.list_inv
  obtain ⟨m, ws, rfl, hm, _, r'⟩ := rv.list_inv
  obtain ⟨⟨cls, dd, data, sl⟩, ho, hc, n, hd⟩ := id hl
  obtain ⟨⟨cls2, dd2, data2, sl2⟩, ho2, hc2, n2, hd2⟩ := id hm
  simp only at hc hd hc2 hd2
  subst hc hd hc2 hd2
  have hu : C.A.units < cLine := by have := q.units; omega
  rcases h with ⟨rfl, rfl⟩ | ⟨x, y, a', b', rfl, rfl, hne⟩
  · cases r.nil_inv; cases r'.nil_inv
    refine richCompare_meets_room (op := .Gt) ⟨_, ho, rfl⟩ ⟨_, ho2, rfl⟩ F.slot_list_gt F.entry_list_gt (F.args_list_gt_2 _ _) (list_gt_empty l m n n2 dd dd2 sl sl2 _ _ rfl rfl rfl rfl) ⟨ho, ho2, ?_⟩ hu
    exact ⟨fun z => (nomatch z), k _ (.refl ..)⟩
  · obtain ⟨v1, vs', rfl, r1, _⟩ := r.cons_inv
    obtain ⟨w1, ws', rfl, r2, _⟩ := r'.cons_inv
    obtain ⟨t, rfl⟩ := r1.int_inv
    obtain ⟨t2, rfl⟩ := r2.int_inv
    refine richCompare_meets_room (op := .Gt) ⟨_, ho, rfl⟩ ⟨_, ho2, rfl⟩ F.slot_list_gt F.entry_list_gt (F.args_list_gt_2 _ _) (list_gt_heads l m x y t t2 _ _ n n2 dd dd2 sl sl2 (by simpa using hne) rfl rfl) ⟨ho, ho2, ?_⟩ hu
    refine ⟨fun z => (nomatch z), ?_⟩
    have : lexLt (y :: b') (x :: a') = decide (y < x) := by show (if y = x then _ else _) = _; rw [if_neg (Ne.symm hne)]
    rw [← this]
    exact k _ (.refl ..)
end
section
variable {G : TopC} {C : Cx} {V : List (Option VV)} {acc : Acc}

/-- the built-in names that the text reads -/
structure BltOk (G : TopC) : Prop where
  len : G.mg (Str.ofString "len") = none ∧ G.mb (Str.ofString "len") = some (.builtin "len")
  range : G.mg (Str.ofString "range") = none ∧ G.mb (Str.ofString "range") = some (.type "range")
  sum : G.mg (Str.ofString "sum") = none ∧ G.mb (Str.ofString "sum") = some (.builtin "sum")
  all : G.mg (Str.ofString "all") = none ∧ G.mb (Str.ofString "all") = some (.builtin "all")
  list : G.mg (Str.ofString "list") = none ∧ G.mb (Str.ofString "list") = some (.type "list")
  type : G.mg (Str.ofString "type") = none ∧ G.mb (Str.ofString "type") = some (.type "type")
  int : G.mg (Str.ofString "int") = none ∧ G.mb (Str.ofString "int") = some (.type "int")
  object : G.mg (Str.ofString "object") = none ∧ G.mb (Str.ofString "object") = some (.type "object")
  str : G.mg (Str.ofString "str") = none ∧ G.mb (Str.ofString "str") = some (.type "str")
  isinstance : G.mg (Str.ofString "isinstance") = none ∧ G.mb (Str.ofString "isinstance") = some (.builtin "isinstance")
  enumerate : G.mg (Str.ofString "enumerate") = none ∧ G.mb (Str.ofString "enumerate") = some (.type "enumerate")
  IndexError : G.mg (Str.ofString "IndexError") = none ∧ G.mb (Str.ofString "IndexError") = some (.type "IndexError")
  ValueError : G.mg (Str.ofString "ValueError") = none ∧ G.mb (Str.ofString "ValueError") = some (.type "ValueError")

theorem ev_callD {f : Str} {i : Nat} {fp pos : Pos} {e : Expr} {es : List Expr} {fa : Addr} {ds : List PyData} {d : PyData} {n : Nat} (hf : DefAt G f i fa) (hk : C.env.kindOf f = some .globalImplicit) (x : EvL G C V (e :: es) ds)
    (F : Fn G fa n ds d) (hn : n ≤ C.n) (hd : (f == ("__debug__" : Str)) = false := by decide) (hs : ∀ env, starEach (e :: es) env = (false, eval e env) :: starEach es env := by intro _; rfl) : Ev G C V (.Call (.Name f fp) (e :: es) [] pos) d := by
  obtain ⟨pm, code, doc, h⟩ := hf
  exact ev_call h hk x F hn hd hs
theorem ev_callD0 {f : Str} {i : Nat} {fp pos : Pos} {fa : Addr} {d : PyData} {n : Nat} (hf : DefAt G f i fa) (hk : C.env.kindOf f = some .globalImplicit) (F : Fn G fa n [] d) (hn : n ≤ C.n) (hd : (f == ("__debug__" : Str)) = false := by decide) :
    Ev G C V (.Call (.Name f fp) [] [] pos) d := by
  obtain ⟨pm, code, doc, h⟩ := hf
  exact ev_call0 h hk F hn hd

theorem ev_ifT {t b o : Expr} {pos : Pos} {c : Bool} {d : PyData} (x : Tr G C V t c) (hc : c = true) (y : Ev G C V b d) : Ev G C V (.IfExp t b o pos) d := ev_ifexp x (fun _ => y) (fun h => by rw [hc] at h; cases h)
theorem ev_ifF {t b o : Expr} {pos : Pos} {c : Bool} {d : PyData} (x : Tr G C V t c) (hc : c = false) (y : Ev G C V o d) : Ev G C V (.IfExp t b o pos) d := ev_ifexp x (fun h => by rw [hc] at h; cases h) (fun _ => y)
theorem ex1_ifT {t : Expr} {b o : List Stmt} {pos : Pos} {c : Bool} {P : Post} (x : Tr G (C.wa acc) V t c) (hc : c = true) (h : Ex G C V acc b P) : Ex1 G C V acc (.If t b o pos) P := ex1_if x (fun _ => h) (fun e => by rw [hc] at e; cases e)
theorem ex1_ifF {t : Expr} {b o : List Stmt} {pos : Pos} {c : Bool} {P : Post} (x : Tr G (C.wa acc) V t c) (hc : c = false) (h : Ex G C V acc o P) : Ex1 G C V acc (.If t b o pos) P := ex1_if x (fun e => by rw [hc] at e; cases e) (fun _ => h)

theorem vf_nil {N V} : ∀ y o, VarIx [] [] y o → VarIx N V y o := fun _ _ h => nomatch h
theorem vf_cons {N V x d fr Vf} (h : VarIx N V x d) (r : ∀ y o, VarIx fr Vf y o → VarIx N V y o) : ∀ y o, VarIx (x :: fr) (some d :: Vf) y o → VarIx N V y o := fun y o q => by
  cases q with
  | head => exact h
  | tail q => exact r y o q
theorem itEv_rangeN {e : Expr} {rp rpos : Pos} {n : Nat} (hk : C.env.kindOf (Str.ofString "range") = some .globalImplicit) (B : BltOk G) (x : Ev G C V e (.int n)) (h1 : n < 1000000)
    (hs : ∀ env, starEach [e] env = [(false, eval e env)] := by intro _; rfl) : ItEv G C V (.Call (.Name (Str.ofString "range") rp) [e] [] rpos) ((List.range n).map fun (i : Nat) => .int (i : Int)) := by
  have := itEv_range1 (rp := rp) (rpos := rpos) hk B.range.1 B.range.2 x (by omega) (by omega) hs
  have e : rangeData 0 (n : Int).toNat = (List.range n).map fun (i : Nat) => PyData.int (i : Int) := by simp [rangeData]
  rw [e] at this; exact this
theorem itEv_rangeL {e e2 : Expr} {rp rpos : Pos} {a n : Nat} (hk : C.env.kindOf (Str.ofString "range") = some .globalImplicit) (B : BltOk G) (x : Ev G C V e (.int a)) (y : Ev G C V e2 (.int n)) (h1 : a ≤ n) (h2 : n < 1000000)
    (hs : ∀ env, starEach [e, e2] env = [(false, eval e env), (false, eval e2 env)] := by intro _; rfl) : ItEv G C V (.Call (.Name (Str.ofString "range") rp) [e, e2] [] rpos) ((List.range (n - a)).map fun (i : Nat) => .int ((a + i : Nat) : Int)) := by
  have := itEv_range2 (rp := rp) (rpos := rpos) hk B.range.1 B.range.2 x y (by omega) (by omega) (by omega) hs
  have e : rangeData a ((n : Int) - a).toNat = (List.range (n - a)).map fun (i : Nat) => PyData.int ((a + i : Nat) : Int) := by
    unfold rangeData
    rw [show ((n : Int) - a).toNat = n - a by omega]
    refine List.map_congr_left fun i _ => ?_
    congr 1
  rw [e] at this; exact this

end
local macro_rules | `(tactic| walk_at "vf") => `(tactic| first | exact vf_nil | (refine' vf_cons ?x ?y; (case x => walk_at "var"); (case y => walk_at "vf")))
local macro_rules | `(tactic| walk_at "comp") => `(tactic| exact ⟨by decide +kernel, by decide +kernel, by decide +kernel, by decide +kernel, by first | decide +kernel | (simp only [wa_N]; decide +kernel), by decide +kernel, by decide +kernel, by decide +kernel⟩)
local macro_rules | `(tactic| walk_at "var") => `(tactic| ((try dsimp only); with_reducible (repeat' (first | exact VarIx.head | refine VarIx.tail ?_)); done))
local macro_rules | `(tactic| walk_at "set") => `(tactic| ((try dsimp only); with_reducible (repeat (first | exact SetIx.head | apply SetIx.tail)); done))
local macro_rules | `(tactic| walk_at "side") => `(tactic| first | with_reducible assumption | with_reducible exact zn0 _ | with_reducible exact zn1 _ | (simp only [List.length_append, List.length_cons, List.length_nil]; omega) | omega | decide | rfl)
local macro_rules | `(tactic| walk_at "str") => `(tactic| with_reducible first | exact evc c41 | exact evc c40 | exact evc c91 | exact evc c93 | exact evc c9133 | exact evc cE | exact evc c63 | exact evc c92 | exact evc c46 | exact evc c94 | exact evc c4041 | exact evc c34 | exact evc cBad | exact evc cHead | exact evc cTail | exact evc c33 | exact evc c45 | exact evc c42)
local macro_rules | `(tactic| walk_at "kind") => `(tactic| first
  | exact Eq.trans (‹∀ x, Env.kindOf _ x = List.lookup x _› _) (by decide +kernel)
  | exact ‹Kinds _ _› _ _ (by decide +kernel) (by decide))
local macro_rules | `(tactic| walk_at "bin") => `(tactic| first
  | with_reducible exact bin_addI
  | ((with_reducible refine' bin_addT ?x); (case x => walk_at "side"))
  | with_reducible exact bin_subI
  | ((with_reducible refine' bin_modI ?x); (case x => walk_at "side"))
  | ((with_reducible refine' bin_fdivI ?x ?y); (case x => walk_at "side"); (case y => walk_at "side"))
  | with_reducible exact bin_subB
  | with_reducible assumption)
local macro_rules | `(tactic| walk_at "get") => `(tactic| first | with_reducible assumption | rfl)
local macro_rules | `(tactic| walk_at "idx") => `(tactic| first
  | ((with_reducible refine' idx_S ?x ?y ?z); (case z => walk_at "get"); (case x => walk_at "side"); (case y => walk_at "side"))
  | ((with_reducible refine' idx_L ?x ?y ?z); (case z => walk_at "get"); (case x => walk_at "side"); (case y => walk_at "side"))
  | ((with_reducible refine' idx_T ?x ?y ?z); (case z => walk_at "get"); (case x => walk_at "side"); (case y => walk_at "side"))
  | with_reducible assumption)
local macro_rules | `(tactic| walk_at "slc") => `(tactic| first | ((with_reducible refine' slc_S ?x); (case x => walk_at "side")) | ((with_reducible refine' slc_L ?x); (case x => walk_at "side")))
local macro_rules | `(tactic| walk_at "cmp") => `(tactic| with_reducible first | exact cmp_eqT | exact cmp_neT | exact cmp_eqI | exact cmp_neI | exact cmp_eqB | exact cmp_ltI | exact cmp_gtI | exact cmp_isNone | exact cmp_isNotNone | exact cmp_inI | exact cmp_notInI | assumption)
local macro_rules | `(tactic| walk_at "evP") => `(tactic| first | with_reducible exact evP_none | ((with_reducible refine' evP_some ?x); (case x => walk_at "ev")))
local macro_rules | `(tactic| walk_at "tr") => `(tactic| first
  | ((with_reducible refine' tr_cmp ?x ?y ?k ?h); (case h => with_unfolding_all rfl); (case x => walk_at "ev"); (case y => walk_at "ev"); (case k => walk_at "cmp"))
  | ((with_reducible refine' tr_not ?x); (case x => walk_at "tr"))
  | ((with_reducible refine' tr_bool ?x); (case x => walk_at "trL"))
  | ((with_reducible refine' tr_ev ?x ?h); (case h => (intro _ _; rfl)); (case x => walk_at "ev")))
local macro_rules | `(tactic| walk_at "trL") => `(tactic| first
  | with_reducible exact trL_andNil | with_reducible exact trL_orNil
  | ((with_reducible refine' trL_and ?x ?y); (case x => walk_at "tr"); (case y => (intro _; walk_at "trL")))
  | ((with_reducible refine' trL_or ?x ?y); (case x => walk_at "tr"); (case y => (intro _; walk_at "trL"))))
local macro_rules | `(tactic| walk_at "evL") => `(tactic| first
  | with_reducible exact evL_nil
  | ((with_reducible refine' evL_cons ?x ?y ?h); (case h => (intro _; rfl)); (case x => walk_at "ev"); (case y => walk_at "evL")))
local macro_rules | `(tactic| walk_at "call") => `(tactic| fail "no call rule")
local macro_rules | `(tactic| walk_at "ev") => `(tactic| first
  | ((with_reducible refine' ev_name ?x); (case x => walk_at "var"))
  | with_reducible exact ev_int
  | with_reducible exact ev_bool
  | with_reducible exact ev_none
  | walk_at "str"
  | ((with_reducible refine' ev_binop ?x ?y ?k); (case x => walk_at "ev"); (case y => walk_at "ev"); (case k => walk_at "bin"))
  | ((with_reducible refine' ev_slc ?x ?y ?z ?k); (case x => walk_at "ev"); (case y => walk_at "evP"); (case z => walk_at "evP"); (case k => walk_at "slc"))
  | ((with_reducible refine' ev_idx ?x ?y ?k ?h); (case h => (intro _ _; rfl)); (case x => walk_at "ev"); (case y => walk_at "ev"); (case k => walk_at "idx"))
  | ((with_reducible refine' ev_neg ?x); (case x => walk_at "ev"))
  | ((with_reducible refine' ev_cmp ?x ?y ?k ?h); (case h => with_unfolding_all rfl); (case x => walk_at "ev"); (case y => walk_at "ev"); (case k => walk_at "cmp"))
  | ((with_reducible refine' ev_lenS ?k1 ?m ?b ?x ?z ?h); (case h => (intro _; rfl)); (case k1 => walk_at "kind"); (case m => exact ‹BltOk _›.len.1); (case b => exact ‹BltOk _›.len.2); (case x => walk_at "ev"); (case z => walk_at "side"))
  | ((with_reducible refine' ev_lenL ?k1 ?m ?b ?x ?z ?h); (case h => (intro _; rfl)); (case k1 => walk_at "kind"); (case m => exact ‹BltOk _›.len.1); (case b => exact ‹BltOk _›.len.2); (case x => walk_at "ev"); (case z => walk_at "side"))
  | ((with_reducible refine' ev_ifT ?x ?c ?y); (case x => walk_at "tr"); (case c => walk_at "hc"); (case y => walk_at "ev"))
  | ((with_reducible refine' ev_ifF ?x ?c ?y); (case x => walk_at "tr"); (case c => walk_at "hc"); (case y => walk_at "ev"))
  | ((with_reducible refine' ev_tuple ?x ?z); (case x => walk_at "evL"); (case z => exact of_decide_eq_true rfl))
  | ((with_reducible refine' ev_list ?x ?z); (case x => walk_at "evL"); (case z => exact of_decide_eq_true rfl)))
local macro_rules | `(tactic| walk_at "assign") => `(tactic| (refine' ex_cons (ex1_assign ?e ?s ?n); (case e => walk_at "ev"); (case s => walk_at "set"); (try change Ex _ _ _ _ _ _)))
local macro_rules | `(tactic| walk_at "ret") => `(tactic| (refine' ex_cons (ex1_ret ?e ?n); (case e => walk_at "ev"); try change Out.ret _ = Out.ret _))
local macro_rules | `(tactic| walk_at "if") => `(tactic| (refine' ex_cons (ex1_if ?t ?a ?b); (case t => walk_at "tr")))
local macro_rules | `(tactic| walk_at "ifT") => `(tactic| (refine' ex_cons (ex1_ifT ?t ?c ?a); (case t => walk_at "tr"); (case c => walk_at "hc"); (try change Ex _ _ _ _ _ _)))
local macro_rules | `(tactic| walk_at "ifF") => `(tactic| (refine' ex_cons (ex1_ifF ?t ?c ?a); (case t => walk_at "tr"); (case c => walk_at "hc"); (try change Ex _ _ _ _ _ _)))
local macro_rules | `(tactic| walk_at "hc") => `(tactic| first | with_reducible assumption | rfl | decide | (simp only [Bool.not_true, Bool.not_false, beq_iff_eq, bne_iff_ne, decide_eq_true_eq, decide_eq_false_iff_not, beq_eq_false_iff_ne, ne_eq, bne_eq_false_iff_eq, Bool.not_eq_true']; omega) | (simp; done) | (simp; omega))
local macro_rules | `(tactic| walk_at "addI") => `(tactic| (refine' ex_cons (ex1_addI ?x ?e ?s ?n); (case x => walk_at "var"); (case e => walk_at "ev"); (case s => walk_at "set"); (try change Ex _ _ _ _ _ _)))
local macro_rules | `(tactic| walk_at "subI") => `(tactic| (refine' ex_cons (ex1_subI ?x ?e ?s ?n); (case x => walk_at "var"); (case e => walk_at "ev"); (case s => walk_at "set"); (try change Ex _ _ _ _ _ _)))
local macro_rules | `(tactic| walk_at "addS") => `(tactic| (refine' ex_cons (ex1_addS ?x ?e ?z ?s ?n); (case x => walk_at "var"); (case e => walk_at "ev"); (case z => walk_at "side"); (case s => walk_at "set"); (try change Ex _ _ _ _ _ _)))
local macro_rules | `(tactic| walk_at "evT") => `(tactic| (refine' ev_ifT ?x ?c ?y; (case x => walk_at "tr"); (case c => walk_at "hc")))
local macro_rules | `(tactic| walk_at "evF") => `(tactic| (refine' ev_ifF ?x ?c ?y; (case x => walk_at "tr"); (case c => walk_at "hc")))
local macro_rules | `(tactic| walk_at "done") => `(tactic| (refine' ex_nil ?_; try change Ex _ _ _ _ _ _))
local macro_rules | `(tactic| walk_at "def") => `(tactic| exact ⟨by decide +kernel, by decide +kernel, by decide +kernel, by decide +kernel, by decide +kernel, by decide +kernel, by decide +kernel, by decide +kernel, by decide +kernel⟩)
section
variable {G : TopC} {C : Cx} {V : List (Option VV)} {acc : Acc}

noncomputable def rClosed : List (List Nat) := [
  [40,40,40,40,41,41,41,41], [40,40,40,41,40,41,41,41], [40,40,40,41,41,40,41,41], [40,40,40,41,41,41,40,41],
  [40,40,41,40,40,41,41,41], [40,40,41,40,41,40,41,41], [40,40,41,40,41,41,40,41], [40,40,41,41,40,40,41,41],
  [40,40,41,41,40,41,40,41], [40,41,40,40,40,41,41,41], [40,41,40,40,41,40,41,41], [40,41,40,40,41,41,40,41],
  [40,41,40,41,40,40,41,41], [40,41,40,41,40,41,40,41]]

theorem cr0 : Str.ofString "(((())))" = S [40,40,40,40,41,41,41,41] := rfl
theorem cr1 : Str.ofString "((()()))" = S [40,40,40,41,40,41,41,41] := rfl
theorem cr2 : Str.ofString "((())())" = S [40,40,40,41,41,40,41,41] := rfl
theorem cr3 : Str.ofString "((()))()" = S [40,40,40,41,41,41,40,41] := rfl
theorem cr4 : Str.ofString "(()(()))" = S [40,40,41,40,40,41,41,41] := rfl
theorem cr5 : Str.ofString "(()()())" = S [40,40,41,40,41,40,41,41] := rfl
theorem cr6 : Str.ofString "(()())()" = S [40,40,41,40,41,41,40,41] := rfl
theorem cr7 : Str.ofString "(())(())" = S [40,40,41,41,40,40,41,41] := rfl
theorem cr8 : Str.ofString "(())()()" = S [40,40,41,41,40,41,40,41] := rfl
theorem cr9 : Str.ofString "()((()))" = S [40,41,40,40,40,41,41,41] := rfl
theorem cr10 : Str.ofString "()(()())" = S [40,41,40,40,41,40,41,41] := rfl
theorem cr11 : Str.ofString "()(())()" = S [40,41,40,40,41,41,40,41] := rfl
theorem cr12 : Str.ofString "()()(())" = S [40,41,40,41,40,40,41,41] := rfl
theorem cr13 : Str.ofString "()()()()" = S [40,41,40,41,40,41,40,41] := rfl
theorem law_closed_ok {fa : Addr} (H : DefAt G (Str.ofString "_law_closed") 20 fa) : Fn G fa 1 [] (.tuple (sL rClosed)) := by
  refine fn_at (N := []) (xs := []) (V0 := []) (ys := []) H ?_ rfl ?_ rfl rfl ?_
  · walk_at "def"
  · intro pm code doc vs h
    obtain rfl := List.eq_nil_of_length_eq_zero h
    rfl
  · intro A env bad hk
    have e0 : pBody 20 = [Stmt.Return (some (.Tuple _ _ _)) _] := rfl
    rw [e0]
    refine ex_cons ?_
    refine' ex1_ret ?e ?n
    case e =>
      refine' ev_tuple ?x ?z
      case x =>
        with_reducible refine' evL_cons ?x0 ?y0 ?h0
        case h0 => intro _; rfl
        case x0 => with_reducible exact evc cr0
        case y0 =>
          with_reducible refine' evL_cons ?x1 ?y1 ?h1
          case h1 => intro _; rfl
          case x1 => with_reducible exact evc cr1
          case y1 =>
            with_reducible refine' evL_cons ?x2 ?y2 ?h2
            case h2 => intro _; rfl
            case x2 => with_reducible exact evc cr2
            case y2 =>
              with_reducible refine' evL_cons ?x3 ?y3 ?h3
              case h3 => intro _; rfl
              case x3 => with_reducible exact evc cr3
              case y3 =>
                with_reducible refine' evL_cons ?x4 ?y4 ?h4
                case h4 => intro _; rfl
                case x4 => with_reducible exact evc cr4
                case y4 =>
                  with_reducible refine' evL_cons ?x5 ?y5 ?h5
                  case h5 => intro _; rfl
                  case x5 => with_reducible exact evc cr5
                  case y5 =>
                    with_reducible refine' evL_cons ?x6 ?y6 ?h6
                    case h6 => intro _; rfl
                    case x6 => with_reducible exact evc cr6
                    case y6 =>
                      with_reducible refine' evL_cons ?x7 ?y7 ?h7
                      case h7 => intro _; rfl
                      case x7 => with_reducible exact evc cr7
                      case y7 =>
                        with_reducible refine' evL_cons ?x8 ?y8 ?h8
                        case h8 => intro _; rfl
                        case x8 => with_reducible exact evc cr8
                        case y8 =>
                          with_reducible refine' evL_cons ?x9 ?y9 ?h9
                          case h9 => intro _; rfl
                          case x9 => with_reducible exact evc cr9
                          case y9 =>
                            with_reducible refine' evL_cons ?x10 ?y10 ?h10
                            case h10 => intro _; rfl
                            case x10 => with_reducible exact evc cr10
                            case y10 =>
                              with_reducible refine' evL_cons ?x11 ?y11 ?h11
                              case h11 => intro _; rfl
                              case x11 => with_reducible exact evc cr11
                              case y11 =>
                                with_reducible refine' evL_cons ?x12 ?y12 ?h12
                                case h12 => intro _; rfl
                                case x12 => with_reducible exact evc cr12
                                case y12 =>
                                  with_reducible refine' evL_cons ?x13 ?y13 ?h13
                                  case h13 => intro _; rfl
                                  case x13 => with_reducible exact evc cr13
                                  case y13 =>
                                    exact evL_nil
      case z => exact of_decide_eq_true rfl
    case n => exact rfl

noncomputable def rChanged (row : List Nat) (i j : Int) : List Nat :=
  let half := pick row none (some i) ++ [41] ++ pick row (some (i + 1)) none
  pick half none (some j) ++ [40] ++ pick half (some (j + 1)) none
theorem law_changed_ok {fa : Addr} (H : DefAt G (Str.ofString "_law_changed") 29 fa) (row : List Nat) (i j : Int) (hz : row.length ≤ 100) :
    Fn G fa 1 [.str (S row), .int i, .int j] (.str (S (rChanged row i j))) := by
  refine fn_at (N := [Str.ofString "row", Str.ofString "shut", Str.ofString "opened", Str.ofString "half"]) (xs := [Str.ofString "row", Str.ofString "shut", Str.ofString "opened"]) (V0 := [some (.d (.str (S row))), some (.d (.int i)), some (.d (.int j)), none]) (ys := [Str.ofString "half"]) H ?_ rfl ?_ rfl rfl ?_
  · walk_at "def"
  · intro pm code doc vs h
    obtain ⟨a, b, c, rfl⟩ := len3 h
    rfl
  · intro A env bad hk
    have h0 : (pick row none (some i)).length ≤ 100 := Nat.le_trans (pick_length_le _ _ _) hz
    have h1 : (pick row (some (i + 1)) none).length ≤ 100 := Nat.le_trans (pick_length_le _ _ _) hz
    have h2 : (pick (pick row none (some i) ++ [41] ++ pick row (some (i + 1)) none) none (some j)).length ≤ 300 := Nat.le_trans (pick_length_le _ _ _) (by walk_at "side")
    have h3 : (pick (pick row none (some i) ++ [41] ++ pick row (some (i + 1)) none) (some (j + 1)) none).length ≤ 300 := Nat.le_trans (pick_length_le _ _ _) (by walk_at "side")
    walk_at "assign"
    walk_at "ret"
    rfl

/-! three_way_cmp -/
theorem three_way_str {fa : Addr} (H : DefAt G (Str.ofString "three_way_cmp") 18 fa) (x y : List Nat) :
    Fn G fa 1 [.str (S x), .str (S y)] (.int ((if decide (y < x) then 1 else 0) - (if decide (x < y) then 1 else 0))) := by
  refine fn_at (N := [Str.ofString "x", Str.ofString "y"]) (xs := [Str.ofString "x", Str.ofString "y"]) (V0 := [some (.d (.str (S x))), some (.d (.str (S y)))]) (ys := []) H ?_ rfl ?_ rfl rfl ?_
  · walk_at "def"
  · intro pm code doc vs h
    obtain ⟨a, b, rfl⟩ := len2 h
    rfl
  · intro A env bad hk
    have k1 : Cmp G (Cx.wa ⟨A, env, [Str.ofString "x", Str.ofString "y"], bad, 0, env.cells⟩ []) .Gt (.str (S x)) (.str (S y)) (decide (y < x)) := cmp_gtT
    have k2 : Cmp G (Cx.wa ⟨A, env, [Str.ofString "x", Str.ofString "y"], bad, 0, env.cells⟩ []) .Lt (.str (S x)) (.str (S y)) (decide (x < y)) := cmp_ltT
    walk_at "ret"
    rfl
theorem three_way_list {fa : Addr} (H : DefAt G (Str.ofString "three_way_cmp") 18 fa) (x y : List Int) (h : Parts x y) (h' : Parts y x) :
    Fn G fa 1 [.list (iL x), .list (iL y)] (.int ((if lexLt y x then 1 else 0) - (if lexLt x y then 1 else 0))) := by
  refine fn_at (N := [Str.ofString "x", Str.ofString "y"]) (xs := [Str.ofString "x", Str.ofString "y"]) (V0 := [some (.d (.list (iL x))), some (.d (.list (iL y)))]) (ys := []) H ?_ rfl ?_ rfl rfl ?_
  · walk_at "def"
  · intro pm code doc vs h
    obtain ⟨a, b, rfl⟩ := len2 h
    rfl
  · intro A env bad hk
    have k1 : Cmp G (Cx.wa ⟨A, env, [Str.ofString "x", Str.ofString "y"], bad, 0, env.cells⟩ []) .Gt (.list (iL x)) (.list (iL y)) (lexLt y x) := cmp_gtL h
    have k2 : Cmp G (Cx.wa ⟨A, env, [Str.ofString "x", Str.ofString "y"], bad, 0, env.cells⟩ []) .Lt (.list (iL x)) (.list (iL y)) (lexLt x y) := cmp_ltL h
    walk_at "ret"
    rfl
end
section
variable {G : TopC} {C : Cx} {V : List (Option VV)} {acc : Acc}

noncomputable def turnC (c : Nat) : Nat := if c = 40 then 41 else 40
noncomputable def rCell (c : Nat) (kind : Int) : List Nat := if kind = 0 then [c] else if kind = 1 then [91, c, 93] else [91, 33, turnC c, 93]
theorem law_cell_ok {fa : Addr} (H : DefAt G (Str.ofString "_law_cell") 23 fa) (c : Nat) (kind : Int) (hc : c = 40 ∨ c = 41) (hk0 : kind = 0 ∨ kind = 1 ∨ kind = 2) :
    Fn G fa 1 [.str (S [c]), .int kind] (.str (S (rCell c kind))) := by
  refine fn_at (N := [Str.ofString "sign", Str.ofString "kind"]) (xs := [Str.ofString "sign", Str.ofString "kind"]) (V0 := [some (.d (.str (S [c]))), some (.d (.int kind))]) (ys := []) H ?_ rfl ?_ rfl rfl ?_
  · walk_at "def"
  · intro pm code doc vs h
    obtain ⟨a, b, rfl⟩ := len2 h
    rfl
  intro A env bad hk
  rcases hk0 with rfl | rfl | rfl
  · walk_at "ifT"
    walk_at "ret"
    rfl
  · walk_at "ifF"
    walk_at "done"
    walk_at "ifT"
    walk_at "ret"
    rfl
  · walk_at "ifF"
    walk_at "done"
    walk_at "ifF"
    walk_at "done"
    rcases hc with rfl | rfl
    · walk_at "ret"
      rfl
    · walk_at "ret"
      rfl

noncomputable def rPlaces (row : List Nat) : List Int := ((List.range 8).filter fun i => row.getD i 0 == 40).map fun (i : Nat) => (i : Int)
theorem get8 {row : List Nat} (h : row.length = 8) {i : Nat} (hi : i ∈ List.range 8) : row[((i : Int)).toNat]? = some (row.getD i 0) := by
  have : i < row.length := by rw [h]; exact List.mem_range.mp hi
  simp [List.getD, this]
theorem beq1 {a b : Nat} : ([a] == [b]) = (a == b) := by
  rw [Bool.eq_iff_iff, beq_iff_eq, beq_iff_eq]; simp
theorem law_places_ok {fa : Addr} (H : DefAt G (Str.ofString "_law_places") 28 fa) (B : BltOk G) (row : List Nat) (hr : row.length = 8) :
    Fn G fa 1 [.str (S row)] (.list (iL (rPlaces row))) := by
  refine fn_at (N := [Str.ofString "row"]) (xs := [Str.ofString "row"]) (V0 := [some (.d (.str (S row)))]) (ys := []) H ?_ rfl ?_ rfl rfl ?_
  · walk_at "def"
  · intro pm code doc vs h
    obtain ⟨a, rfl⟩ := len1 h
    rfl
  intro A env bad hk
  refine' ex_cons (ex1_ret ?e ?n)
  case e =>
    refine' ev_comp (src := List.range 8) (inj := fun (i : Nat) => .int (i : Int)) (p := fun i => row.getD i 0 == 40) (f := fun (i : Nat) => .int (i : Int)) (fr := [Str.ofString "row"]) (Vf := [some (.d (.str (S row)))]) (kinds := fun y => (pScope 28).names.lookup y) ?it hk ?D ?v ?z ?turn ?s
    case it => exact itEv_rangeN (n := 8) (by walk_at "kind") B ev_int (by decide)
    case D => walk_at "comp"
    case v => walk_at "vf"
    case z => decide
    case s => intro _ _; rfl
    case turn =>
      intro env' bad' hK i hi
      have hg := get8 hr hi
      have hi2 := List.mem_range.mp hi
      refine ⟨?_, fun hp => ?_⟩
      · show Tr _ _ _ _ _
        rw [← beq1]
        walk_at "tr"
      · walk_at "ev"
  case n =>
    show Out.ret _ = Out.ret _
    simp only [iL, rPlaces, List.map_map]
    rfl
end
section
variable {G : TopC} {C : Cx} {V : List (Option VV)} {acc : Acc}

/-- the comprehension's loop: from the iterator to the list -/
theorem comp_go2 {α β : Type} {elt iter iter2 : Expr} {x y : Str} {px py : Pos} {sc : Scope} {pos : Pos} {src : List α} {inj : α → PyData} {src2 : List β} {inj2 : β → PyData} {f : α → β → PyData} {fr : List Str} {Vf : List (Option VV)} {kinds : Str → Option NameKind}
    (hkn : ∀ y, C.env.kindOf y = kinds y) (D : CompOk C.N kinds sc x fr) (hVf : ∀ y o, VarIx fr Vf y o → VarIx C.N V y o) (hly : sc.names.lookup y = some .local) (hnd : (x :: y :: fr).Nodup) (hdy : (y == ("__debug__" : Str)) = false) (hsz : src.length * src2.length ≤ 1000000)
    (it2 : ∀ (env' : Env) (bad' : Addr → Prop), Kinds sc env' → ∀ a ∈ src, ∀ o2, ItEv G ⟨C.A, env', x :: y :: fr, bad', C.n, []⟩ (some (.d (inj a)) :: o2 :: Vf) iter2 (src2.map inj2))
    (turn : ∀ (env' : Env) (bad' : Addr → Prop), Kinds sc env' → ∀ a ∈ src, ∀ b ∈ src2, Ev G ⟨C.A, env', x :: y :: fr, bad', C.n, []⟩ (some (.d (inj a)) :: some (.d (inj2 b)) :: Vf) elt (f a b))
    (hs2 : ∀ env v, foldedSetIterable iter2 env v = pure v)
    {s : Shared} (q : St G C V s) {I : Addr} {s1 : Shared} (mk : ∀ bad : Addr → Prop, (∀ b, bad b → C.bad b ∨ s1.heap.get? b = none) → ∃ it : Iter G C.A bad (src.map inj) I, it.St 0 s1.heap) (k1 : Kp G s s1) (f1 : ∀ o, Plain o → s.heap.get? I ≠ some o) (f2 : G.hT.get? I = none) (f3 : ¬ C.bad I)
    {E : Value → Shared → Prop} {RR : Value → Addr → Result → Shared → Prop}
    (hRR : ∀ D c s', Kp G s s' → (∀ o, Plain o → s.heap.get? c ≠ some o) → G.hT.get? c = none → (∃ m, s'.heap.Ns c m) → Rd (fun b => C.bad b ∨ b = c) s'.heap (.ref D) (.list (src.flatMap fun a => src2.map (f a))) → RR (.ref D) c (.ok .next) s') :
    wpAny (model G.prog G.w) C.A (newList []) (fun acc s₃ => wpAny (model G.prog G.w) C.A (newFunctionEnv sc C.env.globals (clGo C.env sc.names []) [] C.env.qual none .none (some C.env)) (fun cenv s₄ =>
      codeAny (model G.prog G.w) C.A (.compStart (.ListComp elt [⟨.Name x px, iter, [], 0⟩, ⟨.Name y py, iter2, [], 0⟩] sc pos) 0 (.ref I) acc { cenv with scope := relabel sc C.env }) (RR acc cenv.locals) s₄) E s₃) E s1 := by
  refine wpAny_newObj_type (wpAny_newFunctionEnv D.nocell (by intro y hy; simp at hy) (fun h₁ hns₁ hsb₁ => ?_) D.kind)
  dsimp only at hns₁ hsb₁ ⊢
  generalize hH2 : s1.heap.push { cls := .type "list", dict := none, data := .seq ([] : List Value).toArray } = H2 at hns₁ hsb₁ ⊢
  have hC : H2.objs.size = s1.heap.objs.size + 1 := by rw [← hH2, Heap.size_push]
  have hDC : s1.heap.objs.size ≠ H2.objs.size := by rw [hC]; exact Nat.ne_of_lt (Nat.lt_succ_self _)
  have below : ∀ b, b < s1.heap.objs.size → b ≠ H2.objs.size ∧ b ≠ s1.heap.objs.size := fun b hb => ⟨by rw [hC]; exact Nat.ne_of_lt (Nat.lt_succ_of_lt hb), Nat.ne_of_lt hb⟩
  have old : ∀ b o, s1.heap.get? b = some o → h₁.get? b = some o := fun b o e => hsb₁.extBut b o (below b (Heap.lt_size e)).1 (Heap.get?_push_of_some _ (hH2 ▸ Heap.get?_push_of_some _ e))
  have hacc : h₁.get? s1.heap.objs.size = some { cls := .type "list", dict := none, data := .seq ([] : List Value).toArray } := hsb₁.extBut _ _ hDC (Heap.get?_push_of_some _ (hH2 ▸ Heap.get?_push_size _ rfl))
  have fresh1 : ∀ a, s1.heap.objs.size ≤ a → s1.heap.get? a = none := fun a ha => by
    cases e : s1.heap.get? a with
    | none => rfl
    | some o' => exact absurd (Heap.lt_size e) (Nat.not_lt.mpr ha)
  have fresh : ∀ a, s1.heap.objs.size ≤ a → ∀ o, Plain o → s.heap.get? a ≠ some o := fun a ha o hp e => by
    obtain ⟨o', e', _⟩ := k1.heap a o hp e
    rw [fresh1 a ha] at e'; cases e'
  have hCle : s1.heap.objs.size ≤ H2.objs.size := by rw [hC]; exact Nat.le_succ _
  let C' : Cx := ⟨C.A, compEnvC sc (clGo C.env sc.names []) H2.objs.size C.env, x :: y :: fr, fun b => C.bad b ∨ b = H2.objs.size, C.n, []⟩
  have q1 : St G C V s1 := q.keeps k1
  have hbad1 : ∀ b, C.bad b → ∃ o, Plain o ∧ s1.heap.get? b = some o := q1.bad
  have hTo : G.hT.StaysIn s1.heap := q1.ok.top
  let B' : Base := { h := PySem.W.hideAll s1.heap [I], gens := s1.gens, os := s1.os, bad := C.bad }
  have hkx : C'.env.kindOf x = some .local := lookup_relabel_local D.xl
  have hky : C'.env.kindOf y = some .local := lookup_relabel_local hly
  have hsk : C.env.scope.kind = .function := q.cx.kind
  have cellN : ∀ y, y ∈ fr → C.env.kindOf y = some .cell ∧ ∃ c, C.env.cells.lookup y = some c := fun y hy => by
    have h1 := D.free (y, .free) (PySem.mem_of_lookup (D.frl y hy)) rfl
    refine ⟨(hkn y).trans h1.1, ?_⟩
    rcases q.cx.kinds y h1.2 with h | h
    · rw [hkn, h1.1] at h; cases h
    · exact h.2
  have hkf : ∀ y ∈ fr, C'.env.kindOf y = some .cell ∧ ∃ c, C'.env.cells.lookup y = some c ∧ C.env.cells.lookup y = some c := fun y hy => by
    obtain ⟨h1, c, h2⟩ := cellN y hy
    refine ⟨?_, c, clGo_lookup (D.frl y hy) h2, h2⟩
    show (relabel sc C.env).names.lookup y = _
    rw [relabel, lookup_relabel (D.frl y hy), h1, hsk]; rfl
  have hKinds : Kinds sc C'.env := fun y k hy hne => by
    show (relabel sc C.env).names.lookup y = _
    rw [relabel, lookup_relabel hy]
    have : (k == NameKind.free) = false := by simpa using hne
    rw [this]; rfl
  have F0 : FS G B' C' (none :: none :: Vf) [(s1.heap.objs.size, [])] { s1 with heap := h₁, toks := s1.toks + ([] : List (Str × Value)).length } := by
    have kp0 : Kp G s1 { s1 with heap := h₁, toks := s1.toks + ([] : List (Str × Value)).length } := Kp.of_keeps G _ old
    have ok0 := q1.ok.keeps kp0
    obtain ⟨oc, es, ep, hoc, hdc, _⟩ := id hns₁
    refine { st := ⟨⟨?_, q.cx.glob, q.cx.blt, hnd, fun z hz => ?_, fun y hy => ?_⟩, q.a, ok0, fun y o hy => ?_, fun b hb => ?_⟩, base := fun a o hp e => ⟨o, old a o (PySem.W.of_hideAll _ e), .refl o⟩, ownL := ?_, ownC := fun _ _ h => (nomatch h), ns := ⟨_, hns₁⟩, cs := fun _ _ h => (nomatch h), apart := .nil, gens := ⟨#[], by simp [B'], by simp⟩, os := rfl, accN := by simp, accB := fun a ds hm => ?_, acc := fun a ds hm => ?_, obad := fun b hb => ⟨.inl hb, ?_⟩, own := ⟨.inr rfl, fun _ _ h => (nomatch h)⟩, hT := fun b o e => PySem.W.hideAll_get _ (hTo b o e) fun hm => ?_ }
    · show (relabel sc C.env).kind = _; exact D.kind
    · rcases List.mem_cons.mp hz with rfl | hz
      · exact D.dbg _ (.head _)
      · rcases List.mem_cons.mp hz with rfl | hz
        · exact hdy
        · exact D.dbg _ (.tail _ hz)
    · rcases List.mem_cons.mp hy with rfl | hy
      · exact .inl hkx
      rcases List.mem_cons.mp hy with rfl | hy
      · exact .inl hky
      · obtain ⟨h1, c, h2, _⟩ := hkf y hy
        exact .inr ⟨h1, c, h2⟩
    · cases hy with
      | tail hy =>
        cases hy with
        | tail hy =>
        have hyf := hy.mem
        obtain ⟨h1, c, h2, h3⟩ := hkf y hyf
        obtain ⟨v, st, hd⟩ := q.vars y o (hVf y o hy)
        have st1 := (st.sim k1.heap).sim kp0.heap
        refine ⟨v, .inr ⟨h1, c, h2, ?_⟩, ?_⟩
        · rcases st1 with ⟨hk, _⟩ | ⟨_, c', hc', hcell⟩
          · rw [(cellN y hyf).1] at hk; cases hk
          · rw [h3] at hc'; cases hc'; exact hcell
        · cases o with
          | v u => exact hd
          | d d =>
            obtain ⟨as, r, p⟩ := Rd.sim hd k1.heap
            refine ⟨as, reads_sim kp0.heap r, fun a ha hb => ?_⟩
            obtain ⟨oa, hoa⟩ := reads_some r a ha
            rcases hb with (hb | hb) | hb
            · exact p a ha hb
            · rw [hb, fresh1 _ hCle] at hoa; cases hoa
            · have : a = s1.heap.objs.size := by simpa using hb
              rw [this, fresh1 _ (Nat.le_refl _)] at hoa; cases hoa
    · rcases hb with (hb | hb) | hb
      · obtain ⟨o, p, e⟩ := hbad1 b hb; exact ⟨o, p, old b o e⟩
      · subst hb; exact ⟨oc, .of_data (fun vs z => by rw [hdc] at z; cases z), hoc⟩
      · have : b = s1.heap.objs.size := by simpa using hb
        subst this; exact ⟨_, .of_data (fun vs z => by cases z), hacc⟩
    · show (PySem.W.hideAll s1.heap [I]).get? H2.objs.size = none
      cases e : (PySem.W.hideAll s1.heap [I]).get? H2.objs.size with
      | none => rfl
      | some o => have := PySem.W.of_hideAll _ e; rw [fresh1 _ hCle] at this; cases this
    · have e : (a, ds) = (s1.heap.objs.size, []) := by simpa using hm
      cases e
      rintro (hb | hb)
      · obtain ⟨o, _, e⟩ := hbad1 _ hb
        rw [fresh1 _ (Nat.le_refl _)] at e; cases e
      · exact hDC hb
    · have e : (a, ds) = (s1.heap.objs.size, []) := by simpa using hm
      cases e
      refine ⟨fun o _ e => ?_, [], ⟨_, 0, hacc, rfl, rfl, rfl⟩, .nil⟩
      have := PySem.W.of_hideAll _ e; rw [fresh1 _ (Nat.le_refl _)] at this; cases this
    · obtain ⟨o, p, e⟩ := hbad1 b hb
      exact ⟨o, p, PySem.W.hideAll_get _ e fun hm => f3 (by have : b = I := by simpa using hm
                                                            exact this ▸ hb)⟩
    · have : b = I := by simpa using hm
      rw [this, f2] at e; cases e
  obtain ⟨it, hst⟩ := mk (C'.wa [(s1.heap.objs.size, [])]).bad fun b hb => by
    rcases hb with (hb | hb) | hb
    · exact .inl hb
    · exact .inr (hb ▸ fresh1 _ hCle)
    · have : b = s1.heap.objs.size := by simpa using hb
      exact .inr (this ▸ fresh1 _ (Nat.le_refl _))
  have hst0 : it.St 0 h₁ := it.sim 0 _ _ (.of_keeps old) hst
  have hBI : ∀ o, Plain o → B'.h.get? I ≠ some o := fun o p e => by
    have : (PySem.W.hideAll s1.heap [I]).get? I = none := PySem.W.hideAll_none _ (.head _)
    rw [show B'.h.get? I = _ from this] at e; cases e
  have hbI : ∀ outs, ¬ (C'.wa [(s1.heap.objs.size, outs)]).bad I := fun outs hb => by
    obtain ⟨oi, ei, _⟩ := it.obj 0 _ hst
    rcases hb with (hb | hb) | hb
    · exact f3 hb
    · rw [hb, fresh1 _ hCle] at ei; cases ei
    · have : I = s1.heap.objs.size := by simpa using hb
      rw [this, fresh1 _ (Nat.le_refl _)] at ei; cases ei
  have hh : C.A.handled = none := q.a.1
  have hideS : ∀ {its : List PyData} {J : Addr} (it : Iter G C.A (C'.wa [(s1.heap.objs.size, [])]).bad its J) {B2 : Base} {s' : Shared} {V' acc'} (q' : FS G B2 C' V' acc' s') (hm : acc'.map (·.1) = [s1.heap.objs.size]) {h'' : Heap} {b : Addr} {j : Nat}, b ∈ ownList C' acc' → Heap.SameBut b s'.heap h'' → it.St j s'.heap → it.St j h'' := by
    intro its J it B2 s' V' acc' q' hm h'' b j hb hsb hs'
    have hid := it.hide j s'.heap (ownList C' acc') (fun a ha => ⟨by have := own_bad q' a ha; rw [show C'.wa acc' = C'.wa [(s1.heap.objs.size, [])] by unfold Cx.wa; rw [hm]; rfl] at this; exact this, own_obj q' a ha⟩) hs'
    refine it.sim j _ _ (fun b' o _ e => ⟨o, ?_, .refl o⟩) hid
    refine (hsb.2 b' fun z => ?_).trans (PySem.W.of_hideAll _ e)
    rw [z, PySem.W.hideAll_none _ hb] at e; cases e
  let e := Expr.ListComp elt [⟨.Name x px, iter, [], 0⟩, ⟨.Name y py, iter2, [], 0⟩] sc pos
  -- the inner loop
  have inner : ∀ (a : α), a ∈ src → ∀ (outs : List PyData), outs.length + src2.length ≤ 1000000 → ∀ (B2 : Base) (I2 : Addr) (it2 : Iter G C.A (C'.wa [(s1.heap.objs.size, [])]).bad (src2.map inj2) I2) (s5 : Shared) (o2 : Option VV) (Q : Flow → Shared → Prop) (E : Value → Shared → Prop),
      FS G B2 C' (some (.d (inj a)) :: o2 :: Vf) [(s1.heap.objs.size, outs)] s5 → it2.St 0 s5.heap → (∀ o, Plain o → B2.h.get? I2 ≠ some o) → G.hT.get? I2 = none → ¬ (C'.wa [(s1.heap.objs.size, [])]).bad I2 →
      (∀ s6 o2', FS G B2 C' (some (.d (inj a)) :: o2' :: Vf) [(s1.heap.objs.size, outs ++ src2.map (f a))] s6 → Q .next s6) → wpAny (model G.prog G.w) C.A (runOwn (.compStart e 1 (.ref I2) (.ref s1.heap.objs.size) C'.env) C'.env) Q E s5 := by
    intro a ha outs hou B2 I2 itb s5 o2 Q E q5 hst5 g1 g2 g3 k
    have loop : ∀ s₃ : Shared, ∀ R : Result → Shared → Prop, FS G B2 C' (some (.d (inj a)) :: o2 :: Vf) [(s1.heap.objs.size, outs)] s₃ → itb.St 0 s₃.heap →
        (∀ s6 o2', FS G B2 C' (some (.d (inj a)) :: o2' :: Vf) [(s1.heap.objs.size, outs ++ src2.map (f a))] s6 → R (.ok .next) s6) →
        codeAny (model G.prog G.w) C.A (.compLoop e 1 (.ref I2) (.ref s1.heap.objs.size) C'.env) R s₃ := by
      intro s₃ R F3 hst3 hR
      refine codeAny_loop rfl (fun k s' => ∃ i o2, i ≤ src2.length ∧ k = src2.length - i ∧ FS G B2 C' (some (.d (inj a)) :: o2 :: Vf) [(s1.heap.objs.size, outs ++ (src2.take i).map (f a))] s' ∧ itb.St i s'.heap) ?_ (src2.length - 0) ⟨0, o2, Nat.zero_le _, rfl, by simpa using F3, hst3⟩
      rintro n s2 ⟨i, o2, hi, rfl, q2, hst2⟩
      obtain ⟨oi, ei, io⟩ := itb.obj i _ hst2
      show wpAny _ C.A ((compTurn e 1 (.ref I2) (.ref s1.heap.objs.size) C'.env).onRaise (fun x => do noteFrame x C'.env; theTreesLotGoes x)) _ _ s2
      refine wpAny_noted ?_
      show wpAny _ _ (standAt iter2.pos >>= fun _ => pyNext (.ref I2) >>= fun r => match r with
        | none => pure (.done .next)
        | some v => letOwnedTupleGo (.Name y py) (.ref I2) v >>= fun _ => assign (.Name y py) C'.env v >>= fun _ =>
          (eval elt C'.env >>= fun x => call (.builtin "list.append") [.ref s1.heap.objs.size, x] >>= fun _ => pure ()) >>= fun _ =>
            again (.compLoop e 1 (.ref I2) (.ref s1.heap.objs.size) C'.env)) _ _ _
      refine wpAny_bind (wpAny_standAt (wpAny_bind ?_))
      cases hd : src2[i]? with
      | none =>
        have : i = src2.length := by
          have := List.getElem?_eq_none_iff.mp hd
          omega
        subst this
        refine itb.done s2 _ _ hh (by simpa using hst2) fun h' tk ext => ?_
        have q3 := q2.step (tk := tk) ei io g1 g2 g3 ext
        rw [List.take_length] at q3
        exact wpAny_pure (hR _ _ q3)
      | some b =>
        have hlt : i < src2.length := (List.getElem?_eq_some_iff.mp hd).1
        have hmem : b ∈ src2 := List.mem_of_getElem? hd
        have hd' : (src2.map inj2)[i]? = some (inj2 b) := by rw [List.getElem?_map, hd]; rfl
        have htake : src2.take (i + 1) = src2.take i ++ [b] := by rw [List.take_add_one, hd]; rfl
        refine itb.item i (inj2 b) s2 _ _ hd' hst2 fun v h' tk r hst3 ext => ?_
        have q3 := q2.step (tk := tk) ei io g1 g2 g3 ext
        refine wpAny_bind (wpAny_of_eq (show letOwnedTupleGo (.Name y py) (.ref I2) v = pure () from rfl) ?_)
        refine wpAny_bind (wpAny_assign_Name (storeVar q3 (.inr hky) (V' := some (.d (inj a)) :: some (.d (inj2 b)) :: Vf) (.tail .head) (o := .d (inj2 b)) r fun s4 q4 keep4 _ => ?_))
        have hst4 : itb.St (i + 1) s4.heap := by
          obtain ⟨b, hb, hsb⟩ := keep4
          refine hideS itb q3 rfl (b := b) ?_ hsb hst3
          rcases hb with rfl | ⟨y, hy⟩
          · exact .head _
          · cases hy
        refine wpAny_bind (wpAny_bind (turn C'.env (C'.wa [(s1.heap.objs.size, [])]).bad hKinds a ha b hmem s4 _ _ q4.st fun v s6 k6 r6 => wpAny_bind ?_))
        have q6 := q4.keeps k6
        have hst6 := itb.sim (i + 1) _ _ k6.heap hst4
        obtain ⟨_, vs2, hl2, r2⟩ := q6.acc _ _ (.head _)
        have hlen : (outs ++ (src2.take i).map (f a)).length ≤ 1000000 := by
          rw [List.length_append, List.length_map, List.length_take]; omega
        refine list_append_plainL hl2 (fun h' hl' hsb => ?_) (by rw [List.size_toArray, r2.length]; exact Nat.le_trans hlen (by decide))
        rw [show vs2.toArray.push v = (vs2 ++ [v]).toArray by simp] at hl'
        refine wpAny_pure (wpAny_pure ⟨rfl, src2.length - (i + 1), by omega, i + 1, some (.d (inj2 b)), hlt, rfl, ?_, hideS itb q6 rfl (.tail _ (.head _)) hsb hst6⟩)
        rw [htake, List.map_append, ← List.append_assoc]
        exact q6.grow (tk := s6.toks) .head hsb hl' (r2.append (.cons r6 .nil))
    refine wpAny_runOwn ?_
    refine codeAny_of_tree ?_
    show wpAny _ C.A ((compStart e 1 (.ref I2) (.ref s1.heap.objs.size) C'.env).onRaise (fun x => do noteFrame x C'.env; standAt theWindowsPlace)) _ _ s5
    refine wpAny_notedAt ?_
    unfold compStart
    show wpAny _ _ (ask >>= _) _ _ _
    refine wpAny_bind (wpAny_askSetting (wpAny_ite ?_))
    split
    · exact wpAny_bind (wpAny_pure (wpAny_pure (And.intro rfl (loop s5 _ q5 hst5 fun s6 o2' q6 => k s6 o2' q6))))
    · refine wpAny_bind (wpAny_rule (wpAny_bind ?_))
      show wpAny _ _ (standAt iter2.pos) _ _ _
      refine wpAny_standAt (wpAny_bind (itb.self 0 _ _ _ hst5 (wpAny_pure (And.intro rfl (loop s5 _ q5 hst5 fun s6 o2' q6 => k s6 o2' q6)))))
  have loop : ∀ s₃ : Shared, FS G B' C' (none :: none :: Vf) [(s1.heap.objs.size, [])] s₃ → it.St 0 s₃.heap →
      codeAny (model G.prog G.w) C.A (.compLoop e 0 (.ref I) (.ref s1.heap.objs.size) C'.env) (RR (.ref s1.heap.objs.size) H2.objs.size) s₃ := by
    intro s₃ F3 hst3
    refine codeAny_loop rfl (fun k s' => ∃ i o o2, i ≤ src.length ∧ k = src.length - i ∧ FS G B' C' (o :: o2 :: Vf) [(s1.heap.objs.size, (src.take i).flatMap fun a => src2.map (f a))] s' ∧ it.St i s'.heap) ?_ (src.length - 0) ⟨0, none, none, Nat.zero_le _, rfl, by simpa using F3, hst3⟩
    rintro n s2 ⟨i, o, o2, hi, rfl, q2, hst2⟩
    obtain ⟨oi, ei, io⟩ := it.obj i _ hst2
    show wpAny _ C.A ((compTurn e 0 (.ref I) (.ref s1.heap.objs.size) C'.env).onRaise (fun x => do noteFrame x C'.env; theTreesLotGoes x)) _ _ s2
    refine wpAny_noted ?_
    show wpAny _ _ (standAt iter.pos >>= fun _ => pyNext (.ref I) >>= fun r => match r with
      | none => pure (.done .next)
      | some v => letOwnedTupleGo (.Name x px) (.ref I) v >>= fun _ => assign (.Name x px) C'.env v >>= fun _ =>
        eval iter2 C'.env >>= fun x => standAt iter2.pos >>= fun _ => foldedSetIterable iter2 C'.env x >>= fun x => holding [x] (pyIter x) >>= fun i2 =>
          runOwn (.compStart e 1 i2 (.ref s1.heap.objs.size) C'.env) C'.env >>= fun _ =>
          again (.compLoop e 0 (.ref I) (.ref s1.heap.objs.size) C'.env)) _ _ _
    refine wpAny_bind (wpAny_standAt (wpAny_bind ?_))
    cases hd : src[i]? with
    | none =>
      have : i = src.length := by
        have := List.getElem?_eq_none_iff.mp hd
        omega
      subst this
      refine it.done s2 _ _ hh (by simpa using hst2) fun h' tk ext => ?_
      have q3 := q2.step (tk := tk) ei io hBI f2 (hbI _) ext
      rw [List.take_length] at q3
      refine wpAny_pure ?_
      obtain ⟨_, vs, hl, r⟩ := q3.acc _ _ (.head _)
      have kB : KpH s.heap h' := fun a o hp e => by
        obtain ⟨o1, e1, s1'⟩ := k1.heap a o hp e
        obtain ⟨o2, e2, s2'⟩ := q3.base a o1 (hp.sim s1') (PySem.W.hideAll_get _ e1 fun hm => f1 o hp (by
          have : a = I := by simpa using hm
          exact this ▸ e))
        exact ⟨o2, e2, s1'.trans s2'⟩
      refine hRR s1.heap.objs.size H2.objs.size { s2 with heap := h', toks := tk } ⟨kB, fun _ => q3.st.ok.top, fun _ => q3.st.ok.tab, ?_, q3.os.trans k1.os⟩ (fresh _ hCle) ?_ q3.ns (.list hl.isList ?_ (r.weaken fun b hb => .inl hb))
      · obtain ⟨g1, e1, b1⟩ := k1.gens
        obtain ⟨g2, e2, b2⟩ := q3.gens
        refine ⟨g1 ++ g2, by rw [e2]; show s1.gens ++ g2 = _; rw [e1, Array.append_assoc], fun g hg => ?_⟩
        rcases Array.mem_append.mp hg with h | h
        · exact b1 g h
        · exact b2 g h
      · cases e : G.hT.get? H2.objs.size with
        | none => rfl
        | some o => have := hTo _ _ e; rw [fresh1 _ hCle] at this; cases this
      · rintro (hb | hb)
        · obtain ⟨o, _, e⟩ := hbad1 _ hb
          rw [fresh1 _ (Nat.le_refl _)] at e; cases e
        · exact hDC hb
    | some a =>
      have hlt : i < src.length := (List.getElem?_eq_some_iff.mp hd).1
      have hmem : a ∈ src := List.mem_of_getElem? hd
      have hd' : (src.map inj)[i]? = some (inj a) := by rw [List.getElem?_map, hd]; rfl
      have htake : src.take (i + 1) = src.take i ++ [a] := by rw [List.take_add_one, hd]; rfl
      refine it.item i (inj a) s2 _ _ hd' hst2 fun v h' tk r hst3 ext => ?_
      have q3 := q2.step (tk := tk) ei io hBI f2 (hbI _) ext
      refine wpAny_bind (wpAny_of_eq (show letOwnedTupleGo (.Name x px) (.ref I) v = pure () from rfl) ?_)
      refine wpAny_bind (wpAny_assign_Name (storeVar q3 (.inr hkx) (V' := some (.d (inj a)) :: o2 :: Vf) .head (o := .d (inj a)) r fun s4 q4 keep4 _ => ?_))
      have hst4 : it.St (i + 1) s4.heap := by
        obtain ⟨b, hb, hsb⟩ := keep4
        refine hideS it q3 rfl (b := b) ?_ hsb hst3
        rcases hb with rfl | ⟨y, hy⟩
        · exact .head _
        · cases hy
      refine wpAny_bind ?_
      refine wpAny_mono (it2 C'.env (C'.wa [(s1.heap.objs.size, [])]).bad hKinds a hmem o2 s4 (fun i2 s5 => wpAny (model G.prog G.w) C.A (runOwn (.compStart e 1 i2 (.ref s1.heap.objs.size) C'.env) C'.env) (fun _ s6 => ∃ m, m < src.length - i ∧ ∃ i o o2, i ≤ src.length ∧ m = src.length - i ∧ FS G B' C' (o :: o2 :: Vf) [(s1.heap.objs.size, (src.take i).flatMap fun a => src2.map (f a))] s6 ∧ it.St i s6.heap) (notedBy (model G.prog G.w) C.A C'.env fun e s' => RR (.ref s1.heap.objs.size) H2.objs.size (.error e) s') s5) _ q4.st fun I2 s5 mk2 k5 g1 g2 g3 => ?_) (fun xv s' hx => ?_) fun _ _ h => h
      · obtain ⟨itb, hstb⟩ := mk2 (C'.wa [(s1.heap.objs.size, [])]).bad fun b hb => .inl hb
        have q5 := q4.keeps k5
        have hst5 := it.sim (i + 1) _ _ k5.heap hst4
        have q5' := q4.loop.keeps k5
        have hlen : ((src.take i).flatMap fun a => src2.map (f a)).length = i * src2.length := by
          rw [List.length_flatMap]
          simp only [List.length_map, List.map_const', List.sum_replicate_nat, List.length_take, Nat.min_eq_left hi]
        refine inner a hmem _ ?_ _ I2 itb s5 o2 _ _ q5' hstb ?_ g2 g3 fun s6 o2' q6 => ?_
        · rw [hlen]
          have h1 : (i + 1) * src2.length ≤ src.length * src2.length := Nat.mul_le_mul_right _ hlt
          rw [Nat.add_mul, Nat.one_mul] at h1
          omega
        · exact fun o p e => g1 o p (PySem.W.of_hideAll _ e)
        · refine ⟨src.length - (i + 1), by omega, i + 1, some (.d (inj a)), o2', hlt, rfl, ?_, ?_⟩
          · have := q4.back q6
            rw [htake, List.flatMap_append]
            simpa using this
          · have hid := it.hide (i + 1) s4.heap (ownList C' [(s1.heap.objs.size, (src.take i).flatMap fun a => src2.map (f a))]) (fun a ha => ⟨own_bad q4 a ha, own_obj q4 a ha⟩) hst4
            exact it.sim (i + 1) _ _ q6.base hid
      · refine wpAny_bind (wpAny_standAt (wpAny_bind (wpAny_of_eq (hs2 _ _) (wpAny_bind (wpAny_holding (wpAny_mono hx (fun i2 s5 h5 => wpAny_bind (wpAny_mono h5 (fun _ s6 h6 => wpAny_pure ⟨rfl, h6⟩) fun _ _ h => h)) fun _ _ h => h))))))
  exact codeAny_compStart_list (loop _ F0 hst0) (it.self 0 _ _ _ hst0 (loop _ F0 hst0))
/-- y = [..] where the two stores are exchanged -/
theorem ex1_assignComp2 {α β : Type} {elt iter iter2 : Expr} {x x2 : Str} {px px2 : Pos} {sc : Scope} {pos : Pos} {src : List α} {inj : α → PyData} {src2 : List β} {inj2 : β → PyData} {f : α → β → PyData} {fr : List Str} {Vf : List (Option VV)} {kinds : Str → Option NameKind} {y : Str} {py spos : Pos} {V' : List (Option VV)} {P : Post} (it : ItEv G (C.wa acc) V iter (src.map inj)) (hkn : ∀ y, C.env.kindOf y = kinds y) (D : CompOk C.N kinds sc x fr) (hVf : ∀ y o, VarIx fr Vf y o → VarIx C.N V y o) (hly : sc.names.lookup x2 = some .local) (hnd : (x :: x2 :: fr).Nodup) (hdy : (x2 == ("__debug__" : Str)) = false) (hsz : src.length * src2.length ≤ 1000000)
    (it2 : ∀ (env' : Env) (bad' : Addr → Prop), Kinds sc env' → ∀ a ∈ src, ∀ o2, ItEv G ⟨C.A, env', x :: x2 :: fr, bad', C.n, []⟩ (some (.d (inj a)) :: o2 :: Vf) iter2 (src2.map inj2))
    (turn : ∀ (env' : Env) (bad' : Addr → Prop), Kinds sc env' → ∀ a ∈ src, ∀ b ∈ src2, Ev G ⟨C.A, env', x :: x2 :: fr, bad', C.n, []⟩ (some (.d (inj a)) :: some (.d (inj2 b)) :: Vf) elt (f a b))
    (hs2 : ∀ env v, foldedSetIterable iter2 env v = pure v)
    (hx : SetIx C.N V y (.d (.list (src.flatMap fun a => src2.map (f a)))) V') (h : P .next V' acc)
    (hky : kinds y = some .local) (hline : (py.line == pos.line) = true) (hny : (sc.names.any fun (n, k) => n == y && (k == .local || k == .cell)) = false) (ho : C.own = C.env.cells := by rfl)
    (hs : ∀ env x, foldedSetIterable iter env x = pure x := by intro _ _; rfl) : Ex1 G C V acc (.Assign [.Name y py] (.ListComp elt [⟨.Name x px, iter, [], 0⟩, ⟨.Name x2 px2, iter2, [], 0⟩] sc pos) spos) P := fun B s Q E q k => by
  have hsw : swapsWith (.ListComp elt [⟨.Name x px, iter, [], 0⟩, ⟨.Name x2 px2, iter2, [], 0⟩] sc pos) (some (.Name y py)) spos.line C.env = pure true := by
    show pure (C.env.blockKind == .function && C.env.kindOf y == some .local && py.line == pos.line && !(sc.names.any fun (n, k) => n == y && (k == .local || k == .cell))) = _
    rw [hny, hkn, hky, hline]
    have : C.env.blockKind = .function := by
      unfold Env.blockKind
      rw [show C.env.scope.kind = _ from q.st.cx.kind]; rfl
    rw [this]; rfl
  rw [exec_Assign_Name_used _ _ _ _ hsw]
  refine wpAny_bind (wpAny_standAt (wpAny_bind ?_))
  show wpAny _ C.A (do let _ ← comprehension (.ListComp elt [⟨.Name x px, iter, [], 0⟩, ⟨.Name x2 px2, iter2, [], 0⟩] sc pos) sc C.env _ (newList []) false (eval iter C.env) (some (assign (.Name y py) C.env))) _ _ s
  refine wpAny_bind (wpAny_mono (wpAny_comprehension_free (use := some (assign (.Name y py) C.env)) (Q := fun _ s' => Q .next s') rfl (hs _) (clos_ok (C := C.wa acc) hkn D q.st.cx) D.kind D.names
    (it s _ E q.st fun I s1 mk k1 f1 f2 f3 => ?_)) (fun _ s' hq => wpAny_pure (wpAny_pure hq)) fun _ _ e => e)
  refine comp_go2 (C := C.wa acc) (RR := fun acc c => compPost (model G.prog G.w) C.A E (some (assign (.Name y py) C.env)) (fun _ s' => Q .next s') acc c) hkn D hVf hly hnd hdy hsz it2 turn hs2 q.st mk k1 f1 f2 f3 ?_
  rintro D' c s' kp hf hT ⟨m, hn⟩ rd
  show wpAny _ C.A (assign (.Name y py) C.env (.ref D')) _ _ _
  have q2 := q.more kp hf hn
  have rd2 : Rd (Cx.wa { C with bad := fun b => C.bad b ∨ b = c } acc).bad s'.heap (.ref D') (.list (src.flatMap fun a => src2.map (f a))) := rd.weaken fun b hb => by
    rcases hb with (h | h) | h
    · exact .inl (.inl h)
    · exact .inr h
    · exact .inl (.inr h)
  refine wpAny_assign_Name (storeVar q2 (.inl ho) hx (o := .d _) rd2 fun s'' q3 keep _ => ?_)
  have hn3 : s''.heap.Ns c m := by
    obtain ⟨a, ha, hsb⟩ := keep
    refine hn.sameBut hsb fun z => ?_
    rcases ha with rfl | ⟨x, hx⟩
    · obtain ⟨m, o, es, ep, e, d, _⟩ := q.ns
      exact hf o (.of_data fun vs y => by rw [d] at y; cases y) (z ▸ e)
    · obtain ⟨v, o, e, d⟩ := q.cs x a hx
      exact hf o (.of_data fun vs y => by rw [d] at y; cases y) (z ▸ e)
  exact ⟨m, hn3, fun h' hs' => k .next .next _ _ _ h (q.away q3 hf hT hn3 hs') rfl⟩
end
section
variable {G : TopC} {C : Cx} {V : List (Option VV)} {acc : Acc}

theorem cmp_eqNilI {l : List Int} : Cmp G C .Eq (.list (iL l)) (.list []) l.isEmpty := by
  have := cmp_eq (G := G) (C := C) (a := .list (iL l)) (b := .list []) shaped_ints rfl
  cases l with
  | nil => exact this
  | cons x l => exact this
theorem cmp_neNilS {l : List (List Nat)} (h : ∀ x ∈ l, Asc x) : Cmp G C .NotEq (.list (sL l)) (.list []) (!l.isEmpty) := by
  have := cmp_ne (G := G) (C := C) (a := .list (sL l)) (b := .list []) (shaped_strs h) rfl
  cases l with
  | nil => exact this
  | cons x l => exact this
theorem cmp_inC {c : Nat} {l : List Nat} (hc : c = 40 ∨ c = 41) (hl : l = [] ∨ l = [40] ∨ l = [41]) : Cmp G C .In (.str (S [c])) (.str (S l)) (l.contains c) := by
  have := cmp_inS (G := G) (C := C) (x := S l) (y := S [c])
  have e : (!(Builtin.Str.occurrences (S l) (S [c]) 0 (S l).length 1).isEmpty) = l.contains c := by
    rcases hc with rfl | rfl <;> rcases hl with rfl | rfl | rfl <;> decide +kernel
  rw [e] at this; exact this

section
variable {α : Type} {elt iter : Expr} {x : Str} {px : Pos} {ifs : List Expr} {sc : Scope} {pos : Pos} {src : List α} {inj : α → PyData} {p : α → Bool} {fr : List Str} {Vf : List (Option VV)} {kinds : Str → Option NameKind}
theorem ev_compS {g : α → List Nat} (it : ItEv G C V iter (src.map inj)) (hkn : ∀ y, C.env.kindOf y = kinds y) (D : CompOk C.N kinds sc x fr) (hVf : ∀ y o, VarIx fr Vf y o → VarIx C.N V y o) (hsz : src.length ≤ 1000000)
    (turn : ∀ (env' : Env) (bad' : Addr → Prop), Kinds sc env' → ∀ a ∈ src, TrIfs G ⟨C.A, env', x :: fr, bad', C.n, []⟩ (some (.d (inj a)) :: Vf) ifs (p a) ∧ (p a = true → Ev G ⟨C.A, env', x :: fr, bad', C.n, []⟩ (some (.d (inj a)) :: Vf) elt (.str (S (g a)))))
    (hs : ∀ env x, foldedSetIterable iter env x = pure x := by intro _ _; rfl) : Ev G C V (.ListComp elt [⟨.Name x px, iter, ifs, 0⟩] sc pos) (.list (sL ((src.filter p).map g))) := by
  have := ev_comp (px := px) (pos := pos) (f := fun a => .str (S (g a))) it hkn D hVf hsz turn hs
  rw [show (src.filter p).map (fun a => PyData.str (S (g a))) = sL ((src.filter p).map g) by unfold sL; rw [List.map_map]; rfl] at this
  exact this
theorem ev_compI {g : α → Int} (it : ItEv G C V iter (src.map inj)) (hkn : ∀ y, C.env.kindOf y = kinds y) (D : CompOk C.N kinds sc x fr) (hVf : ∀ y o, VarIx fr Vf y o → VarIx C.N V y o) (hsz : src.length ≤ 1000000)
    (turn : ∀ (env' : Env) (bad' : Addr → Prop), Kinds sc env' → ∀ a ∈ src, TrIfs G ⟨C.A, env', x :: fr, bad', C.n, []⟩ (some (.d (inj a)) :: Vf) ifs (p a) ∧ (p a = true → Ev G ⟨C.A, env', x :: fr, bad', C.n, []⟩ (some (.d (inj a)) :: Vf) elt (.int (g a))))
    (hs : ∀ env x, foldedSetIterable iter env x = pure x := by intro _ _; rfl) : Ev G C V (.ListComp elt [⟨.Name x px, iter, ifs, 0⟩] sc pos) (.list (iL ((src.filter p).map g))) := by
  have := ev_comp (px := px) (pos := pos) (f := fun a => .int (g a)) it hkn D hVf hsz turn hs
  rw [show (src.filter p).map (fun a => PyData.int (g a)) = iL ((src.filter p).map g) by unfold iL; rw [List.map_map]; rfl] at this
  exact this
theorem ev_compB {g : α → Bool} (it : ItEv G C V iter (src.map inj)) (hkn : ∀ y, C.env.kindOf y = kinds y) (D : CompOk C.N kinds sc x fr) (hVf : ∀ y o, VarIx fr Vf y o → VarIx C.N V y o) (hsz : src.length ≤ 1000000)
    (turn : ∀ (env' : Env) (bad' : Addr → Prop), Kinds sc env' → ∀ a ∈ src, TrIfs G ⟨C.A, env', x :: fr, bad', C.n, []⟩ (some (.d (inj a)) :: Vf) ifs (p a) ∧ (p a = true → Ev G ⟨C.A, env', x :: fr, bad', C.n, []⟩ (some (.d (inj a)) :: Vf) elt (.bool (g a))))
    (hs : ∀ env x, foldedSetIterable iter env x = pure x := by intro _ _; rfl) : Ev G C V (.ListComp elt [⟨.Name x px, iter, ifs, 0⟩] sc pos) (.list (bL ((src.filter p).map g))) := by
  have := ev_comp (px := px) (pos := pos) (f := fun a => .bool (g a)) it hkn D hVf hsz turn hs
  rw [show (src.filter p).map (fun a => PyData.bool (g a)) = bL ((src.filter p).map g) by unfold bL; rw [List.map_map]; rfl] at this
  exact this
end

noncomputable def Row8 (r : List Nat) : Prop := r.length = 8 ∧ ∀ c ∈ r, c = 40 ∨ c = 41
theorem Row8.get {r : List Nat} (h : Row8 r) {i : Nat} (hi : i < 8) : r.getD i 0 = 40 ∨ r.getD i 0 = 41 := by
  have : i < r.length := by rw [h.1]; exact hi
  rw [List.getD_eq_getElem?_getD, List.getElem?_eq_getElem this]
  exact h.2 _ (List.getElem_mem _)

noncomputable def rUnlike (a b : List Nat) : List Int := ((List.range 8).filter fun i => a.getD i 0 != b.getD i 0).map fun (i : Nat) => (i : Int)
noncomputable def rFirst (a b : List Nat) : Int := match (List.range 8).filter fun i => a.getD i 0 != b.getD i 0 with | [] => 0 | k :: _ => if a.getD k 0 = 40 then -1 else 1
theorem bne1 {a b : Nat} : ([a] != [b]) = (a != b) := by unfold bne; rw [beq1]
theorem law_first_ok {fa : Addr} (H : DefAt G (Str.ofString "_law_first") 32 fa) (B : BltOk G) (a b : List Nat) (ha : Row8 a) (hb : Row8 b) :
    Fn G fa 1 [.str (S a), .str (S b)] (.int (rFirst a b)) := by
  refine fn_at (N := [Str.ofString "one", Str.ofString "other", Str.ofString "unlike"]) (xs := [Str.ofString "one", Str.ofString "other"]) (V0 := [some (.d (.str (S a))), some (.d (.str (S b))), none]) (ys := [Str.ofString "unlike"]) H ?_ rfl ?_ rfl rfl ?_
  · walk_at "def"
  · intro pm code doc vs h
    obtain ⟨a, b, rfl⟩ := len2 h
    rfl
  intro A env bad hk
  have comp : ∀ V', SetIx [Str.ofString "one", Str.ofString "other", Str.ofString "unlike"] [some (.d (.str (S a))), some (.d (.str (S b))), none] (Str.ofString "unlike") (.d (.list (iL (rUnlike a b)))) V' → True := fun _ _ => trivial
  refine' ex_cons (ex1_assignComp (src := List.range 8) (inj := fun (i : Nat) => .int (i : Int)) (p := fun i => a.getD i 0 != b.getD i 0) (f := fun (i : Nat) => .int (i : Int)) (fr := [Str.ofString "one", Str.ofString "other"]) (Vf := [some (.d (.str (S a))), some (.d (.str (S b)))]) (kinds := fun y => (pScope 32).names.lookup y) ?it hk ?D ?v ?z ?turn ?set ?h ?ky ?line ?ny rfl ?s)
  case it => exact itEv_rangeN (n := 8) (by walk_at "kind") B ev_int (by decide)
  case D => walk_at "comp"
  case v => walk_at "vf"
  case z => decide
  case s => intro _ _; rfl
  case ky => decide +kernel
  case line => rfl
  case ny => decide +kernel
  case turn =>
    intro env' bad' hK i hi
    have hg := get8 ha.1 hi
    have hg2 := get8 hb.1 hi
    have hi2 := List.mem_range.mp hi
    refine ⟨?_, fun hp => ?_⟩
    · show Tr _ _ _ _ _
      rw [← bne1]
      walk_at "tr"
    · walk_at "ev"
  case set => walk_at "set"
  change Ex _ _ _ _ _ _
  have e : ((List.range 8).filter fun i => a.getD i 0 != b.getD i 0).map (fun (i : Nat) => PyData.int (i : Int)) = iL (rUnlike a b) := by simp only [iL, rUnlike, List.map_map]; rfl
  rw [e]
  cases hf : (List.range 8).filter fun i => a.getD i 0 != b.getD i 0 with
  | nil =>
    have e1 : rUnlike a b = [] := by unfold rUnlike; rw [hf]; rfl
    have e2 : rFirst a b = 0 := by unfold rFirst; rw [hf]
    rw [e1, e2]
    have k1 : Cmp G (Cx.wa ⟨A, env, [Str.ofString "one", Str.ofString "other", Str.ofString "unlike"], bad, 0, env.cells⟩ []) .Eq (.list (iL [])) (.list []) true := cmp_eqNilI
    walk_at "ifT"
    walk_at "ret"
    rfl
  | cons k r =>
    have e1 : rUnlike a b = (k : Int) :: r.map (fun (i : Nat) => (i : Int)) := by unfold rUnlike; rw [hf]; rfl
    have hk8 : k < 8 := by
      have : k ∈ (List.range 8).filter fun i => a.getD i 0 != b.getD i 0 := by rw [hf]; exact .head _
      exact List.mem_range.mp (List.mem_filter.mp this).1
    have hg := get8 ha.1 (List.mem_range.mpr hk8)
    have e2 : rFirst a b = if a.getD k 0 = 40 then -1 else 1 := by unfold rFirst; rw [hf]
    rw [e1, e2]
    have k1 : Cmp G (Cx.wa ⟨A, env, [Str.ofString "one", Str.ofString "other", Str.ofString "unlike"], bad, 0, env.cells⟩ []) .Eq (.list (iL ((k : Int) :: r.map (fun (i : Nat) => (i : Int))))) (.list []) false := cmp_eqNilI
    have g0 : (iL ((k : Int) :: r.map (fun (i : Nat) => (i : Int))))[(0 : Int).toNat]? = some (.int (k : Int)) := rfl
    walk_at "ifF"
    walk_at "done"
    rcases ha.get hk8 with h | h
    · rw [h] at hg ⊢
      walk_at "ret"
      rfl
    · rw [h] at hg ⊢
      walk_at "ret"
      rfl

/-! the items -/
noncomputable abbrev itemD (x : Bool × List Nat) : PyData := .tuple [.bool x.1, .str (S x.2)]
noncomputable abbrev itemsD (l : List (Bool × List Nat)) : PyData := .list (l.map itemD)
noncomputable def ItemsOk (l : List (Bool × List Nat)) : Prop := ∀ x ∈ l, x.2 = [] ∨ x.2 = [40] ∨ x.2 = [41]
noncomputable def tk1 (l : List (Bool × List Nat)) (row : List Nat) (k : Nat) : Bool := !(((l.getD k (false, [])).2.contains (row.getD k 0)) == (l.getD k (false, [])).1)
noncomputable def rTakes (l : List (Bool × List Nat)) (row : List Nat) : Bool := (List.range 8).all (tk1 l row)
theorem law_takes_ok {fa : Addr} (H : DefAt G (Str.ofString "_law_takes") 27 fa) (B : BltOk G) (l : List (Bool × List Nat)) (row : List Nat) (hl : l.length = 8) (hi : ItemsOk l) (hr : Row8 row) :
    Fn G fa 1 [itemsD l, .str (S row)] (.bool (rTakes l row)) := by
  refine fn_at (N := [Str.ofString "items", Str.ofString "row", Str.ofString "k", Str.ofString "barred", Str.ofString "signs"]) (xs := [Str.ofString "items", Str.ofString "row"]) (V0 := [some (.d (itemsD l)), some (.d (.str (S row))), none, none, none]) (ys := [Str.ofString "k", Str.ofString "barred", Str.ofString "signs"]) H ?_ rfl ?_ rfl rfl ?_
  · walk_at "def"
  · intro pm code doc vs h
    obtain ⟨a, b, rfl⟩ := len2 h
    rfl
  intro A env bad hk
  have hz : (l.map itemD).length < 1000000 := by rw [List.length_map, hl]; decide
  have hz2 : row.length < 1000000 := by rw [hr.1]; decide
  refine' ex_cons (ex1_ifF ?t ?c ?a)
  case t => walk_at "tr"
  case c => rw [List.length_map, hl, hr.1]; rfl
  change Ex _ _ _ _ _ _
  walk_at "done"
  have itv : ItEv G (Cx.wa ⟨A, env, [Str.ofString "items", Str.ofString "row", Str.ofString "k", Str.ofString "barred", Str.ofString "signs"], bad, 0, env.cells⟩ []) [some (.d (itemsD l)), some (.d (.str (S row))), none, none, none]
      (.Call (.Name (Str.ofString "range") ⟨254, 13, 254, 18⟩) [.Call (.Name (Str.ofString "len") ⟨254, 19, 254, 22⟩) [.Name (Str.ofString "row") ⟨254, 23, 254, 26⟩] [] ⟨254, 19, 254, 27⟩] [] ⟨254, 13, 254, 28⟩) ((List.range 8).map fun (i : Nat) => .int (i : Int)) := by
    refine itEv_rangeN (by walk_at "kind") B ?_ (by decide)
    have : (8 : Nat) = row.length := hr.1.symm
    rw [this]
    walk_at "ev"
  refine ex_cons (ex1_for itv (fun i V1 acc1 => acc1 = [] ∧ (∀ k, k < i → tk1 l row k = true) ∧ ∃ a b c, V1 = [some (.d (itemsD l)), some (.d (.str (S row))), a, b, c]) ⟨rfl, fun k hk => absurd hk (Nat.not_lt_zero _), _, _, _, rfl⟩ ?_ ?_ ?_ rfl (by intro _ _; rfl))
  · rintro i V1 acc1 ⟨rfl, _⟩; rfl
  · rintro i d V1 acc1 hd ⟨rfl, hall, a, b, c, rfl⟩
    rw [List.getElem?_map, Option.map_eq_some_iff] at hd
    obtain ⟨i', hi', rfl⟩ := hd
    have hlt : i < 8 := by simpa using (List.getElem?_eq_some_iff.mp hi').1
    have : i' = i := by rw [List.getElem?_range hlt] at hi'; exact (Option.some.inj hi').symm
    subst this
    have hil : i' < l.length := by rw [hl]; exact hlt
    have hg : (l.map itemD)[((i' : Int)).toNat]? = some (itemD (l.getD i' (false, []))) := by simp [List.getD, hil]
    have hg2 := get8 hr.1 (List.mem_range.mpr hlt)
    have hc := hr.get hlt
    have hs : (l.getD i' (false, [])).2 = [] ∨ (l.getD i' (false, [])).2 = [40] ∨ (l.getD i' (false, [])).2 = [41] := by
      refine hi _ ?_
      rw [List.getD_eq_getElem?_getD, List.getElem?_eq_getElem hil]
      exact List.getElem_mem _
    refine ⟨_, .tail (.tail .head), ?_⟩
    have ht : tk1 l row i' = !((l.getD i' (false, [])).2.contains (row.getD i' 0) == (l.getD i' (false, [])).1) := rfl
    generalize l.getD i' (false, []) = it at hg hs ht
    obtain ⟨barred, signs⟩ := it
    refine ex_cons (ex1_unpack2 (V1 := [some (.d (itemsD l)), some (.d (.str (S row))), some (.d (.int i')), some (.d (.bool barred)), c]) (V2 := [some (.d (itemsD l)), some (.d (.str (S row))), some (.d (.int i')), some (.d (.bool barred)), some (.d (.str (S signs)))]) (by walk_at "ev") (by walk_at "set") (by walk_at "set") ?_)
    change Ex _ _ _ _ _ _
    have k1 : Cmp G (Cx.wa ⟨A, env, [Str.ofString "items", Str.ofString "row", Str.ofString "k", Str.ofString "barred", Str.ofString "signs"], bad, 0, env.cells⟩ []) .In (.str (S [row.getD i' 0])) (.str (S signs)) (signs.contains (row.getD i' 0)) := cmp_inC hc hs
    cases hb : (signs.contains (row.getD i' 0) == barred) with
    | true =>
      walk_at "ifT"
      walk_at "ret"
      have : rTakes l row = false := List.all_eq_false.mpr ⟨i', List.mem_range.mpr hlt, by rw [ht, hb]; decide⟩
      rw [this]
    | false =>
      walk_at "ifF"
      walk_at "done"
      refine ex_nil ⟨rfl, fun k hk => ?_, _, _, _, rfl⟩
      rcases Nat.lt_succ_iff_lt_or_eq.mp hk with h | rfl
      · exact hall k h
      · rw [ht, hb]; rfl
  · rintro V' acc' ⟨rfl, hall, a, b, c, rfl⟩
    change Ex _ _ _ _ _ _
    walk_at "ret"
    have : rTakes l row = true := List.all_eq_true.mpr fun k hk => hall k (by simpa using hk)
    rw [this]
end
section
variable {G : TopC} {C : Cx} {V : List (Option VV)} {acc : Acc}

theorem ev_joinC {y : Str} (hy : y = S []) {e : Expr} {l : List (List Nat)} {k : Nat} {cp ap pos : Pos} (x : Ev G C V e (.list (sL l))) (hz : l.flatten.length ≤ 1000000)
    (hbase : ∀ env, attributeBase (.Constant (.str y) k cp) (Str.ofString "join") env (eval (.Constant (.str y) k cp) env) = eval (.Constant (.str y) k cp) env := by intro _; rfl) (hline : (ap.endLine == pos.line) = true := by rfl)
    (hs : ∀ env, starEach [e] env = [(false, eval e env)] := by intro _; rfl) : Ev G C V (.Call (.Attribute (.Constant (.str y) k cp) (Str.ofString "join") ap) [e] [] pos) (.str (S l.flatten)) := by
  subst hy
  exact ev_join x hz hbase hline hs

noncomputable def Kept (l : List Int) : Prop := ∀ k ∈ l, 0 ≤ k ∧ k < 8
noncomputable def rPat1 (row : List Nat) (kept : List Int) (kind : Int) (k : Nat) : List Nat := if kept.contains (k : Int) then rCell (row.getD k 0) ((kind + k).fmod 3) else [63]
noncomputable def rPattern (row : List Nat) (kept : List Int) (kind : Int) : List Nat := ((List.range 8).map (rPat1 row kept kind)).flatten
theorem rCell_len (c : Nat) (k : Int) : (rCell c k).length ≤ 4 := by unfold rCell; split <;> (try split) <;> simp
theorem rPat1_len (row : List Nat) (kept : List Int) (kind : Int) (k : Nat) : (rPat1 row kept kind k).length ≤ 4 := by
  unfold rPat1; split
  · exact rCell_len _ _
  · decide
theorem rPattern_len (row : List Nat) (kept : List Int) (kind : Int) : (rPattern row kept kind).length ≤ 32 := by
  unfold rPattern
  have h := rPat1_len row kept kind
  simp only [List.range, List.range.loop, List.map_cons, List.map_nil, List.flatten_cons, List.flatten_nil, List.length_append, List.length_nil]
  have h0 := h 0; have h1 := h 1; have h2 := h 2; have h3 := h 3; have h4 := h 4; have h5 := h 5; have h6 := h 6; have h7 := h 7
  omega
theorem fmod3 (i : Int) : i.fmod 3 = 0 ∨ i.fmod 3 = 1 ∨ i.fmod 3 = 2 := by
  have := Int.fmod_nonneg_of_pos (a := i) (b := 3) (by decide)
  have := Int.fmod_lt_of_pos i (b := 3) (by decide)
  omega
theorem law_pattern_ok {fa : Addr} (H : DefAt G (Str.ofString "_law_pattern") 24 fa) (B : BltOk G) {fb : Addr} (Hc : DefAt G (Str.ofString "_law_cell") 23 fb) (row : List Nat) (kept : List Int) (kind : Int) (hr : Row8 row) :
    Fn G fa 2 [.str (S row), .list (iL kept), .int kind] (.str (S (rPattern row kept kind))) := by
  refine fn_at (N := [Str.ofString "row", Str.ofString "kept", Str.ofString "kind"]) (xs := [Str.ofString "row", Str.ofString "kept", Str.ofString "kind"]) (V0 := [some (.d (.str (S row))), some (.d (.list (iL kept))), some (.d (.int kind))]) (ys := []) H ?_ rfl ?_ rfl rfl ?_
  · walk_at "def"
  · intro pm code doc vs h
    obtain ⟨a, b, c, rfl⟩ := len3 h
    rfl
  intro A env bad hk
  have e0 : pBody 24 = [Stmt.Return (some _) _] := rfl
  rw [e0]
  refine ex_cons ?_
  refine' ex1_ret ?e1 ?n1
  case e1 =>
   refine' ev_joinC cE ?e ?z1 ?hb ?hl ?hs
   case hb => intro _; rfl
   case hl => rfl
   case hs => intro _; rfl
   case e =>
    refine' ev_compS (src := List.range 8) (inj := fun (i : Nat) => .int (i : Int)) (p := fun _ => true) (g := rPat1 row kept kind) (fr := [Str.ofString "row", Str.ofString "kept", Str.ofString "kind"]) (Vf := [some (.d (.str (S row))), some (.d (.list (iL kept))), some (.d (.int kind))]) (kinds := fun y => (pScope 24).names.lookup y) ?it hk ?D ?v ?z ?turn ?s
    case it => exact itEv_rangeN (n := 8) (by walk_at "kind") B ev_int (by decide)
    case D => walk_at "comp"
    case v => walk_at "vf"
    case z => decide
    case s => intro _ _; rfl
    case turn =>
      intro env' bad' hK i hi
      have hg := get8 hr.1 hi
      have hi2 := List.mem_range.mp hi
      refine ⟨rfl, fun _ => ?_⟩
      cases hc : kept.contains (i : Int) with
      | true =>
        rw [show rPat1 row kept kind i = rCell (row.getD i 0) ((kind + i).fmod 3) by unfold rPat1; rw [if_pos hc]]
        walk_at "evT"
        · refine' ev_callD Hc ?kk ?a (law_cell_ok Hc (row.getD i 0) ((kind + i).fmod 3) (hr.get hi2) (fmod3 _)) ?nn (by decide) ?h
          case kk => walk_at "kind"
          case a => walk_at "evL"
          case nn => exact Nat.le_refl _
          case h => intro _; rfl
      | false =>
        rw [show rPat1 row kept kind i = [63] by unfold rPat1; rw [if_neg (by rw [hc]; decide)]]
        walk_at "evF"
        walk_at "ev"
   case z1 =>
    rw [List.filter_eq_self.mpr (fun _ _ => rfl)]
    exact Nat.le_trans (rPattern_len row kept kind) (by decide)
  case n1 =>
    change Out.ret _ = Out.ret _
    rw [List.filter_eq_self.mpr (fun _ _ => rfl)]
    rfl

theorem law_item_esc {fa : Addr} (H : DefAt G (Str.ofString "_law_item") 25 fa) (B : BltOk G) (text : List Nat) (k : Nat) (hk9 : k < 900000) (c : Nat) (h0 : text[(k : Int).toNat]? = some 92) (h1 : text[((k : Int) + 1).toNat]? = some c) :
    Fn G fa 1 [.str (S text), .int (k : Int)] (.tuple [itemD (false, [c]), .int ((k : Int) + 2)]) := by
  refine fn_at (N := [Str.ofString "text", Str.ofString "k", Str.ofString "barred", Str.ofString "signs"]) (xs := [Str.ofString "text", Str.ofString "k"]) (V0 := [some (.d (.str (S text))), some (.d (.int (k : Int))), none, none]) (ys := [Str.ofString "barred", Str.ofString "signs"]) H ?_ rfl ?_ rfl rfl ?_
  · walk_at "def"
  · intro pm code doc vs h
    obtain ⟨a, b, rfl⟩ := len2 h
    rfl
  intro A env bad hk
  walk_at "ifT"
  walk_at "ret"
  rfl
theorem law_item_dot {fa : Addr} (H : DefAt G (Str.ofString "_law_item") 25 fa) (B : BltOk G) (text : List Nat) (k : Nat) (hk9 : k < 900000) (h0 : text[(k : Int).toNat]? = some 46) :
    Fn G fa 1 [.str (S text), .int (k : Int)] (.tuple [itemD (true, []), .int ((k : Int) + 1)]) := by
  refine fn_at (N := [Str.ofString "text", Str.ofString "k", Str.ofString "barred", Str.ofString "signs"]) (xs := [Str.ofString "text", Str.ofString "k"]) (V0 := [some (.d (.str (S text))), some (.d (.int (k : Int))), none, none]) (ys := [Str.ofString "barred", Str.ofString "signs"]) H ?_ rfl ?_ rfl rfl ?_
  · walk_at "def"
  · intro pm code doc vs h
    obtain ⟨a, b, rfl⟩ := len2 h
    rfl
  intro A env bad hk
  walk_at "ifF"
  walk_at "done"
  walk_at "ifT"
  walk_at "ret"
  rfl
theorem law_item_in {fa : Addr} (H : DefAt G (Str.ofString "_law_item") 25 fa) (B : BltOk G) (text : List Nat) (k : Nat) (hk9 : k < 900000) (c : Nat) (hc : c = 40 ∨ c = 41) (h0 : text[(k : Int).toNat]? = some 91) (h1 : text[((k : Int) + 1).toNat]? = some c) (h2 : text[((k : Int) + 1 + 1).toNat]? = some 93) :
    Fn G fa 1 [.str (S text), .int (k : Int)] (.tuple [itemD (false, [c]), .int ((k : Int) + 3)]) := by
  refine fn_at (N := [Str.ofString "text", Str.ofString "k", Str.ofString "barred", Str.ofString "signs"]) (xs := [Str.ofString "text", Str.ofString "k"]) (V0 := [some (.d (.str (S text))), some (.d (.int (k : Int))), none, none]) (ys := [Str.ofString "barred", Str.ofString "signs"]) H ?_ rfl ?_ rfl rfl ?_
  · walk_at "def"
  · intro pm code doc vs h
    obtain ⟨a, b, rfl⟩ := len2 h
    rfl
  intro A env bad hk
  walk_at "ifF"
  walk_at "done"
  walk_at "ifF"
  walk_at "done"
  walk_at "ifF"
  walk_at "done"
  walk_at "addI"
  rcases hc with rfl | rfl
  · skip
    walk_at "assign"
    refine ex_cons (ex1_ifF (by walk_at "tr") (by decide) ?_)
    walk_at "done"
    walk_at "assign"
    refine ex_cons (ex1_while (fun n V1 acc1 => acc1 = [] ∧ ((n = 1 ∧ V1 = [some (.d (.str (S text))), some (.d (.int ((k : Int) + 1))), some (.d (.bool ([40] == [94]))), some (.d (.str (S [])))]) ∨ (n = 0 ∧ V1 = [some (.d (.str (S text))), some (.d (.int ((k : Int) + 1 + 1))), some (.d (.bool ([40] == [94]))), some (.d (.str (S [40])))]))) 1 ⟨rfl, .inl ⟨rfl, rfl⟩⟩ ?_)
    rintro n V1 acc1 ⟨rfl, ⟨rfl, rfl⟩ | ⟨rfl, rfl⟩⟩
    · refine ⟨_, by walk_at "tr", fun _ => ?_, fun h => ?_⟩
      · walk_at "ifF"
        walk_at "done"
        walk_at "addS"
        walk_at "addI"
        exact ex_nil ⟨0, by decide, rfl, .inr ⟨rfl, rfl⟩⟩
      · exact absurd h (by first | decide | (rcases hc with rfl | rfl <;> decide))
    · refine ⟨_, by walk_at "tr", fun h => ?_, fun h => ?_⟩
      · exact absurd h (by decide)
      · change Ex _ _ _ _ _ _
        walk_at "ret"
        show Out.ret _ = Out.ret _
        rw [show (k : Int) + 1 + 1 + 1 = (k : Int) + 3 by omega]
        rfl
  · skip
    walk_at "assign"
    refine ex_cons (ex1_ifF (by walk_at "tr") (by decide) ?_)
    walk_at "done"
    walk_at "assign"
    refine ex_cons (ex1_while (fun n V1 acc1 => acc1 = [] ∧ ((n = 1 ∧ V1 = [some (.d (.str (S text))), some (.d (.int ((k : Int) + 1))), some (.d (.bool ([41] == [94]))), some (.d (.str (S [])))]) ∨ (n = 0 ∧ V1 = [some (.d (.str (S text))), some (.d (.int ((k : Int) + 1 + 1))), some (.d (.bool ([41] == [94]))), some (.d (.str (S [41])))]))) 1 ⟨rfl, .inl ⟨rfl, rfl⟩⟩ ?_)
    rintro n V1 acc1 ⟨rfl, ⟨rfl, rfl⟩ | ⟨rfl, rfl⟩⟩
    · refine ⟨_, by walk_at "tr", fun _ => ?_, fun h => ?_⟩
      · walk_at "ifF"
        walk_at "done"
        walk_at "addS"
        walk_at "addI"
        exact ex_nil ⟨0, by decide, rfl, .inr ⟨rfl, rfl⟩⟩
      · exact absurd h (by first | decide | (rcases hc with rfl | rfl <;> decide))
    · refine ⟨_, by walk_at "tr", fun h => ?_, fun h => ?_⟩
      · exact absurd h (by decide)
      · change Ex _ _ _ _ _ _
        walk_at "ret"
        show Out.ret _ = Out.ret _
        rw [show (k : Int) + 1 + 1 + 1 = (k : Int) + 3 by omega]
        rfl
theorem law_item_out {fa : Addr} (H : DefAt G (Str.ofString "_law_item") 25 fa) (B : BltOk G) (text : List Nat) (k : Nat) (hk9 : k < 900000) (c : Nat) (hc : c = 40 ∨ c = 41) (h0 : text[(k : Int).toNat]? = some 91) (h1 : text[((k : Int) + 1).toNat]? = some 94) (h2 : text[((k : Int) + 1 + 1).toNat]? = some c) (h3 : text[((k : Int) + 1 + 1 + 1).toNat]? = some 93) :
    Fn G fa 1 [.str (S text), .int (k : Int)] (.tuple [itemD (true, [c]), .int ((k : Int) + 4)]) := by
  refine fn_at (N := [Str.ofString "text", Str.ofString "k", Str.ofString "barred", Str.ofString "signs"]) (xs := [Str.ofString "text", Str.ofString "k"]) (V0 := [some (.d (.str (S text))), some (.d (.int (k : Int))), none, none]) (ys := [Str.ofString "barred", Str.ofString "signs"]) H ?_ rfl ?_ rfl rfl ?_
  · walk_at "def"
  · intro pm code doc vs h
    obtain ⟨a, b, rfl⟩ := len2 h
    rfl
  intro A env bad hk
  walk_at "ifF"
  walk_at "done"
  walk_at "ifF"
  walk_at "done"
  walk_at "ifF"
  walk_at "done"
  walk_at "addI"
  rcases hc with rfl | rfl
  · skip
    walk_at "assign"
    refine ex_cons (ex1_ifT (by walk_at "tr") (by decide) ?_)
    change Ex _ _ _ _ _ _
    walk_at "addI"
    walk_at "done"
    walk_at "assign"
    refine ex_cons (ex1_while (fun n V1 acc1 => acc1 = [] ∧ ((n = 1 ∧ V1 = [some (.d (.str (S text))), some (.d (.int ((k : Int) + 1 + 1))), some (.d (.bool ([94] == [94]))), some (.d (.str (S [])))]) ∨ (n = 0 ∧ V1 = [some (.d (.str (S text))), some (.d (.int ((k : Int) + 1 + 1 + 1))), some (.d (.bool ([94] == [94]))), some (.d (.str (S [40])))]))) 1 ⟨rfl, .inl ⟨rfl, rfl⟩⟩ ?_)
    rintro n V1 acc1 ⟨rfl, ⟨rfl, rfl⟩ | ⟨rfl, rfl⟩⟩
    · refine ⟨_, by walk_at "tr", fun _ => ?_, fun h => ?_⟩
      · walk_at "ifF"
        walk_at "done"
        walk_at "addS"
        walk_at "addI"
        exact ex_nil ⟨0, by decide, rfl, .inr ⟨rfl, rfl⟩⟩
      · exact absurd h (by first | decide | (rcases hc with rfl | rfl <;> decide))
    · refine ⟨_, by walk_at "tr", fun h => ?_, fun h => ?_⟩
      · exact absurd h (by decide)
      · change Ex _ _ _ _ _ _
        walk_at "ret"
        show Out.ret _ = Out.ret _
        rw [show (k : Int) + 1 + 1 + 1 + 1 = (k : Int) + 4 by omega]
        rfl
  · skip
    walk_at "assign"
    refine ex_cons (ex1_ifT (by walk_at "tr") (by decide) ?_)
    change Ex _ _ _ _ _ _
    walk_at "addI"
    walk_at "done"
    walk_at "assign"
    refine ex_cons (ex1_while (fun n V1 acc1 => acc1 = [] ∧ ((n = 1 ∧ V1 = [some (.d (.str (S text))), some (.d (.int ((k : Int) + 1 + 1))), some (.d (.bool ([94] == [94]))), some (.d (.str (S [])))]) ∨ (n = 0 ∧ V1 = [some (.d (.str (S text))), some (.d (.int ((k : Int) + 1 + 1 + 1))), some (.d (.bool ([94] == [94]))), some (.d (.str (S [41])))]))) 1 ⟨rfl, .inl ⟨rfl, rfl⟩⟩ ?_)
    rintro n V1 acc1 ⟨rfl, ⟨rfl, rfl⟩ | ⟨rfl, rfl⟩⟩
    · refine ⟨_, by walk_at "tr", fun _ => ?_, fun h => ?_⟩
      · walk_at "ifF"
        walk_at "done"
        walk_at "addS"
        walk_at "addI"
        exact ex_nil ⟨0, by decide, rfl, .inr ⟨rfl, rfl⟩⟩
      · exact absurd h (by first | decide | (rcases hc with rfl | rfl <;> decide))
    · refine ⟨_, by walk_at "tr", fun h => ?_, fun h => ?_⟩
      · exact absurd h (by decide)
      · change Ex _ _ _ _ _ _
        walk_at "ret"
        show Out.ret _ = Out.ret _
        rw [show (k : Int) + 1 + 1 + 1 + 1 = (k : Int) + 4 by omega]
        rfl
end
section
variable {G : TopC} {C : Cx} {V : List (Option VV)} {acc : Acc}

/-- the pieces of a pattern, as they are written, as they are turned, and as they are read -/
inductive Pc where
  | q
  | lit (c : Nat)
  | inn (c : Nat)
  | out (c : Nat)
noncomputable def patP : Pc → List Nat
  | .q => [63]
  | .lit c => [c]
  | .inn c => [91, c, 93]
  | .out c => [91, 33, c, 93]
noncomputable def txtP : Pc → List Nat
  | .q => [46]
  | .lit c => [92, c]
  | .inn c => [91, c, 93]
  | .out c => [91, 94, c, 93]
noncomputable def itemP : Pc → Bool × List Nat
  | .q => (true, [])
  | .lit c => (false, [c])
  | .inn c => (false, [c])
  | .out c => (true, [c])
noncomputable def OkP : Pc → Prop
  | .q => True
  | .lit c => c = 40 ∨ c = 41
  | .inn c => c = 40 ∨ c = 41
  | .out c => c = 40 ∨ c = 41
noncomputable def txtOf (ps : List Pc) : List Nat := [40, 63, 115, 58] ++ ps.flatMap txtP ++ [41, 92, 90]

theorem law_item_any {fa : Addr} (H : DefAt G (Str.ofString "_law_item") 25 fa) (B : BltOk G) (text : List Nat) (k : Nat) (hk9 : k < 900000) (p : Pc) (hp : OkP p) (h : ∀ j, j < (txtP p).length → text[k + j]? = (txtP p)[j]?) :
    Fn G fa 1 [.str (S text), .int (k : Int)] (.tuple [itemD (itemP p), .int ((k + (txtP p).length : Nat) : Int)]) := by
  cases p with
  | q => exact law_item_dot H B text k hk9 (by rw [tn0]; exact h 0 (by decide))
  | lit c => exact law_item_esc H B text k hk9 c (by rw [tn0]; exact h 0 (by show 0 < 2; decide)) (by rw [tn1]; exact h 1 (by show 1 < 2; decide))
  | inn c => exact law_item_in H B text k hk9 c hp (by rw [tn0]; exact h 0 (by show 0 < 3; decide)) (by rw [tn1]; exact h 1 (by show 1 < 3; decide)) (by rw [tn2]; exact h 2 (by show 2 < 3; decide))
  | out c => exact law_item_out H B text k hk9 c hp (by rw [tn0]; exact h 0 (by show 0 < 4; decide)) (by rw [tn1]; exact h 1 (by show 1 < 4; decide)) (by rw [tn2]; exact h 2 (by show 2 < 4; decide)) (by rw [tn3]; exact h 3 (by show 3 < 4; decide))
theorem txtP_len (p : Pc) : 1 ≤ (txtP p).length ∧ (txtP p).length ≤ 4 := by cases p <;> exact ⟨by simp [txtP], by simp [txtP]⟩
theorem flat_len (ps : List Pc) : (ps.flatMap txtP).length ≤ 4 * ps.length := by
  induction ps with
  | nil => exact Nat.zero_le _
  | cons p ps ih => rw [List.flatMap_cons, List.length_append, List.length_cons]; have := (txtP_len p).2; omega
theorem txt_split (ps : List Pc) (m : Nat) (p : Pc) (h : ps[m]? = some p) : txtOf ps = ([40, 63, 115, 58] ++ (ps.take m).flatMap txtP) ++ (txtP p ++ ((ps.drop (m + 1)).flatMap txtP ++ [41, 92, 90])) := by
  have hm : m < ps.length := (List.getElem?_eq_some_iff.mp h).1
  have e : ps = ps.take m ++ p :: ps.drop (m + 1) := by
    have := (List.take_append_drop m ps).symm
    rw [List.drop_eq_getElem_cons hm] at this
    rw [(List.getElem?_eq_some_iff.mp h).2] at this; exact this
  conv => lhs; unfold txtOf; rw [e]
  simp [List.flatMap_append, List.flatMap_cons]
theorem txt_get (ps : List Pc) (m : Nat) (p : Pc) (h : ps[m]? = some p) (j : Nat) (hj : j < (txtP p).length) : (txtOf ps)[4 + ((ps.take m).flatMap txtP).length + j]? = (txtP p)[j]? := by
  rw [txt_split ps m p h, List.getElem?_append_right (by simp only [List.length_append, List.length_cons, List.length_nil]; omega), List.getElem?_append_left (by simp only [List.length_append, List.length_cons, List.length_nil]; omega)]
  congr 1
  simp only [List.length_append, List.length_cons, List.length_nil]; omega
theorem txt_len (ps : List Pc) : (txtOf ps).length = 7 + (ps.flatMap txtP).length := by simp [txtOf]; omega
theorem txt_head (ps : List Pc) : pick (txtOf ps) none (some 4) = [40, 63, 115, 58] := by
  unfold pick
  rw [txt_len]
  show List.take ((if (4 : Int) < 0 then (7 + (ps.flatMap txtP).length) - (-(4 : Int)).toNat else min (4 : Int).toNat (7 + (ps.flatMap txtP).length)) - 0) (List.drop 0 (txtOf ps)) = _
  rw [if_neg (by decide), show (4 : Int).toNat = 4 from rfl, show min 4 (7 + (ps.flatMap txtP).length) = 4 by omega]
  simp [txtOf]
theorem txt_tail (ps : List Pc) : pick (txtOf ps) (some (-3)) none = [41, 92, 90] := by
  unfold pick
  rw [txt_len]
  show List.take ((7 + (ps.flatMap txtP).length) - (if (-3 : Int) < 0 then (7 + (ps.flatMap txtP).length) - (-(-3 : Int)).toNat else min (-3 : Int).toNat (7 + (ps.flatMap txtP).length))) (List.drop (if (-3 : Int) < 0 then (7 + (ps.flatMap txtP).length) - (-(-3 : Int)).toNat else min (-3 : Int).toNat (7 + (ps.flatMap txtP).length)) (txtOf ps)) = _
  rw [if_pos (by decide), show (-(-3 : Int)).toNat = 3 from rfl]
  have e1 : 7 + (ps.flatMap txtP).length - 3 = ([40, 63, 115, 58] ++ ps.flatMap txtP).length := by simp; omega
  rw [e1]
  unfold txtOf
  rw [List.drop_left]
  exact List.take_of_length_le (by simp only [List.length_append, List.length_cons, List.length_nil]; omega)
theorem take_flat (ps : List Pc) (m : Nat) (p : Pc) (h : ps[m]? = some p) : ((ps.take (m + 1)).flatMap txtP).length = ((ps.take m).flatMap txtP).length + (txtP p).length := by
  rw [List.take_add_one, h]
  simp [List.flatMap_append]

theorem law_read_ok {fa : Addr} (H : DefAt G (Str.ofString "_law_read") 26 fa) (B : BltOk G) {fb : Addr} (Hi : DefAt G (Str.ofString "_law_item") 25 fb) (ps : List Pc) (hp : ∀ p ∈ ps, OkP p) (hn : ps.length ≤ 100) :
    Fn G fa 2 [.str (S (txtOf ps))] (itemsD (ps.map itemP)) := by
  refine fn_at (N := [Str.ofString "text", Str.ofString "k", Str.ofString "items", Str.ofString "item"]) (xs := [Str.ofString "text"]) (V0 := [some (.d (.str (S (txtOf ps)))), none, none, none]) (ys := [Str.ofString "k", Str.ofString "items", Str.ofString "item"]) H ?_ rfl ?_ rfl rfl ?_
  · walk_at "def"
  · intro pm code doc vs h
    obtain ⟨a, rfl⟩ := len1 h
    rfl
  intro A env bad hk
  have hl := txt_len ps
  have hf := flat_len ps
  have hz : (txtOf ps).length ≤ 1000 := by omega
  have h1 := txt_head ps
  have h2 := txt_tail ps
  refine' ex_cons (ex1_ifF ?t ?c ?a)
  case t => walk_at "tr"
  case c => rw [h1, h2]; decide
  change Ex _ _ _ _ _ _
  walk_at "done"
  walk_at "assign"
  refine ex_cons (ex1_acc (fun a => ⟨[some (.d (.str (S (txtOf ps)))), some (.d (.int ((4 : Nat) : Int))), some (.v (.ref a)), none], .tail (.tail .head), ?_⟩) rfl (by intro _; rfl))
  change Ex _ _ _ _ _ _
  refine ex_cons (ex1_while (fun n V1 acc1 => ∃ m it, m ≤ ps.length ∧ n = ps.length - m ∧ acc1 = [(a, (ps.take m).map fun p => itemD (itemP p))] ∧
    V1 = [some (.d (.str (S (txtOf ps)))), some (.d (.int ((4 + ((ps.take m).flatMap txtP).length : Nat) : Int))), some (.v (.ref a)), it]) ps.length ⟨0, none, Nat.zero_le _, rfl, rfl, rfl⟩ ?_)
  rintro n V1 acc1 ⟨m, it, hm, rfl, rfl, rfl⟩
  refine ⟨_, by walk_at "tr", fun h => ?_, fun h => ?_⟩
  · have hlt : m < ps.length := by
      rcases Nat.lt_or_eq_of_le hm with h' | rfl
      · exact h'
      · exfalso
        rw [List.take_length, hl] at h
        have := of_decide_eq_true h
        omega
    obtain ⟨p, hpm⟩ : ∃ p, ps[m]? = some p := ⟨_, List.getElem?_eq_getElem hlt⟩
    have hmem : p ∈ ps := List.mem_of_getElem? hpm
    have hlen : ((ps.take m).flatMap txtP).length ≤ 400 := Nat.le_trans (flat_len _) (by rw [List.length_take]; omega)
    have F := law_item_any Hi B (txtOf ps) (4 + ((ps.take m).flatMap txtP).length) (by omega) p (hp p hmem) (txt_get ps m p hpm)
    rw [show 4 + ((ps.take m).flatMap txtP).length + (txtP p).length = 4 + ((ps.take (m + 1)).flatMap txtP).length by rw [take_flat ps m p hpm]; omega] at F
    refine ex_cons (ex1_unpack2 (d1 := itemD (itemP p)) (V1 := [some (.d (.str (S (txtOf ps)))), some (.d (.int ((4 + ((ps.take m).flatMap txtP).length : Nat) : Int))), some (.v (.ref a)), some (.d (itemD (itemP p)))])
      (V2 := [some (.d (.str (S (txtOf ps)))), some (.d (.int ((4 + ((ps.take (m + 1)).flatMap txtP).length : Nat) : Int))), some (.v (.ref a)), some (.d (itemD (itemP p)))]) ?_ (by walk_at "set") (by walk_at "set") ?_)
    · exact ev_callD Hi (by walk_at "kind") (by walk_at "evL") F (Nat.le_refl _) (by decide) (by intro _; rfl)
    change Ex _ _ _ _ _ _
    refine ex_cons (ex1_append (d := itemD (itemP p)) (ds := (ps.take m).map fun p => itemD (itemP p)) (by walk_at "var") .head (by walk_at "ev") (by rw [List.length_map, List.length_take]; omega) ?_ (by rfl) (by intro _; rfl) (by intro env h; simp [interactive, h]))
    refine ex_nil ⟨ps.length - (m + 1), by omega, m + 1, _, hlt, rfl, ?_, rfl⟩
    rw [List.take_add_one, hpm]
    simp
  · have : m = ps.length := by
      rcases Nat.lt_or_eq_of_le hm with h' | h'
      · exfalso
        have := of_decide_eq_false h
        obtain ⟨p, hpm⟩ : ∃ p, ps[m]? = some p := ⟨_, List.getElem?_eq_getElem h'⟩
        have e1 := congrArg List.length (txt_split ps m p hpm)
        have := txtP_len p
        simp only [List.length_append, List.length_cons, List.length_nil] at e1
        omega
      · exact h'
    subst this
    change Ex _ _ _ _ _ _
    refine ex_cons (ex1_retAcc (ds := (ps.take ps.length).map fun p => itemD (itemP p)) (by walk_at "var") (.head _) ?_)
    show Out.ret _ = Out.ret _
    rw [List.take_length, itemsD, List.map_map]
    rfl
end
section
variable {G : TopC} {C : Cx} {V : List (Option VV)} {acc : Acc}

theorem itEv_sL {e : Expr} {l : List (List Nat)} (x : Ev G C V e (.list (sL l))) : ItEv G C V e (l.map fun h => .str (S h)) := itEv_list x
theorem itEv_iL {e : Expr} {l : List Int} (x : Ev G C V e (.list (iL l))) : ItEv G C V e (l.map fun h => .int h) := itEv_list x
noncomputable def rSigns (row : List Nat) (kept : List Int) (k : Nat) : List Nat := if kept.contains (k : Int) then [row.getD k 0] else [40, 41]
noncomputable def rHeads (row : List Nat) (kept : List Int) : Nat → List (List Nat)
  | 0 => [[40]]
  | m + 1 => (rHeads row kept m).flatMap fun h => (rSigns row kept (1 + m)).map fun c => h ++ [c]
noncomputable def rListing (row : List Nat) (kept : List Int) : List (List Nat) := (rHeads row kept 6).map fun h => h ++ [41]
theorem rSigns_len (row : List Nat) (kept : List Int) (k : Nat) : (rSigns row kept k).length ≤ 2 := by unfold rSigns; split <;> simp
theorem rHeads_len (row : List Nat) (kept : List Int) : ∀ m, (rHeads row kept m).length ≤ 2 ^ m
  | 0 => Nat.le_refl 1
  | m + 1 => by
    unfold rHeads
    rw [List.length_flatMap]
    have h1 := rHeads_len row kept m
    have h2 := rSigns_len row kept (1 + m)
    simp only [List.length_map, List.map_const', List.sum_replicate_nat]
    rw [Nat.pow_succ]
    exact Nat.mul_le_mul h1 h2
theorem rHeads_each (row : List Nat) (kept : List Int) : ∀ m, ∀ h ∈ rHeads row kept m, h.length = m + 1
  | 0 => by intro h hh; cases List.mem_singleton.mp hh; rfl
  | m + 1 => by
    intro h hh
    unfold rHeads at hh
    obtain ⟨a, ha, hb⟩ := List.mem_flatMap.mp hh
    obtain ⟨c, _, rfl⟩ := List.mem_map.mp hb
    rw [List.length_append, rHeads_each row kept m a ha]; rfl
theorem getI {row : List Nat} {i : Nat} (h : i < row.length) : row[((i : Int)).toNat]? = some (row.getD i 0) := by simp [List.getD, h]

theorem law_listing_ok {fa : Addr} (H : DefAt G (Str.ofString "_law_listing") 21 fa) (B : BltOk G) (row : List Nat) (kept : List Int) (hr : Row8 row) :
    Fn G fa 1 [.str (S row), .list (iL kept)] (.list (sL (rListing row kept))) := by
  refine fn_at (N := [Str.ofString "row", Str.ofString "kept", Str.ofString "heads", Str.ofString "k", Str.ofString "signs"]) (xs := [Str.ofString "row", Str.ofString "kept"]) (V0 := [some (.d (.str (S row))), some (.d (.list (iL kept))), none, none, none]) (ys := [Str.ofString "heads", Str.ofString "k", Str.ofString "signs"]) H ?_ rfl ?_ rfl rfl ?_
  · walk_at "def"
  · intro pm code doc vs h
    obtain ⟨a, b, rfl⟩ := len2 h
    rfl
  intro A env bad hk
  walk_at "assign"
  have itv : ItEv G (Cx.wa ⟨A, env, [Str.ofString "row", Str.ofString "kept", Str.ofString "heads", Str.ofString "k", Str.ofString "signs"], bad, 0, env.cells⟩ []) [some (.d (.str (S row))), some (.d (.list (iL kept))), some (.d (.list (sL (rHeads row kept 0)))), none, none]
      (.Call (.Name (Str.ofString "range") ⟨205, 13, 205, 18⟩) [.Constant (.int 1) 0 ⟨205, 19, 205, 20⟩, .Constant (.int 7) 0 ⟨205, 22, 205, 23⟩] [] ⟨205, 13, 205, 24⟩) ((List.range 6).map fun (i : Nat) => .int ((1 + i : Nat) : Int)) :=
    itEv_rangeL (a := 1) (n := 7) (by walk_at "kind") B ev_int ev_int (by decide) (by decide)
  refine ex_cons (ex1_for itv (fun m V1 acc1 => acc1 = [] ∧ ∃ a b, V1 = [some (.d (.str (S row))), some (.d (.list (iL kept))), some (.d (.list (sL (rHeads row kept m)))), a, b]) ⟨rfl, none, none, rfl⟩ ?_ ?_ ?_ rfl (by intro _ _; rfl))
  · rintro i V1 acc1 ⟨rfl, _⟩; rfl
  · rintro m d V1 acc1 hd ⟨rfl, a, b, rfl⟩
    rw [List.getElem?_map, Option.map_eq_some_iff] at hd
    obtain ⟨m', hm', rfl⟩ := hd
    have hlt : m < 6 := by simpa using (List.getElem?_eq_some_iff.mp hm').1
    have : m' = m := by rw [List.getElem?_range hlt] at hm'; exact (Option.some.inj hm').symm
    subst this
    refine ⟨_, .tail (.tail (.tail .head)), ?_⟩
    have hg := getI (row := row) (i := 1 + m') (by rw [hr.1]; omega)
    have hl8 := rHeads_len row kept m'
    have h2m : 2 ^ m' ≤ 64 := Nat.le_trans (Nat.pow_le_pow_right (by decide) (Nat.le_of_lt hlt)) (by decide)
    have heach := rHeads_each row kept m'
    have hsl := rSigns_len row kept (1 + m')
    have hasc : ∀ c ∈ rSigns row kept (1 + m'), c < 128 := by
      intro c hc
      unfold rSigns at hc
      split at hc
      · have := hr.get (i := 1 + m') (by omega)
        have := List.mem_singleton.mp hc
        omega
      · simp at hc; omega
    have hev : Ev G (Cx.wa ⟨A, env, [Str.ofString "row", Str.ofString "kept", Str.ofString "heads", Str.ofString "k", Str.ofString "signs"], bad, 0, env.cells⟩ []) [some (.d (.str (S row))), some (.d (.list (iL kept))), some (.d (.list (sL (rHeads row kept m')))), some (.d (.int ((1 + m' : Nat) : Int))), b]
        (.IfExp (.Compare (.Name (Str.ofString "k") ⟨206, 26, 206, 27⟩) [.In] [.Name (Str.ofString "kept") ⟨206, 31, 206, 35⟩] ⟨206, 26, 206, 35⟩) (.Subscript (.Name (Str.ofString "row") ⟨206, 16, 206, 19⟩) (.Name (Str.ofString "k") ⟨206, 20, 206, 21⟩) ⟨206, 16, 206, 22⟩)
          (.Constant (.str (Str.ofString "()")) 0 ⟨206, 41, 206, 45⟩) ⟨206, 16, 206, 45⟩) (.str (S (rSigns row kept (1 + m')))) := by
      cases hc : kept.contains ((1 + m' : Nat) : Int) with
      | true =>
        rw [show rSigns row kept (1 + m') = [row.getD (1 + m') 0] by unfold rSigns; rw [if_pos hc]]
        walk_at "evT"
        walk_at "ev"
      | false =>
        rw [show rSigns row kept (1 + m') = [40, 41] by unfold rSigns; rw [if_neg (by rw [hc]; decide)]]
        walk_at "evF"
        walk_at "ev"
    refine' ex_cons (ex1_assign hev ?s1 ?n1)
    case s1 => walk_at "set"
    change Ex _ _ _ _ _ _
    refine' ex_cons (ex1_assignComp2 (src := rHeads row kept m') (inj := fun h => .str (S h)) (src2 := rSigns row kept (1 + m')) (inj2 := fun c => .str (S [c])) (f := fun h c => .str (S (h ++ [c]))) (fr := [Str.ofString "signs"]) (Vf := [some (.d (.str (S (rSigns row kept (1 + m')))))])
      (kinds := fun y => (pScope 21).names.lookup y) ?it hk ?D ?v ?ly ?nd ?dy ?z ?it2 ?turn ?hs2 ?set ?h ?ky ?line ?ny rfl ?s)
    case it => exact itEv_sL (by walk_at "ev")
    case D => walk_at "comp"
    case v => walk_at "vf"
    case ly => decide +kernel
    case nd => decide +kernel
    case dy => decide +kernel
    case z => exact Nat.le_trans (Nat.mul_le_mul (Nat.le_trans hl8 h2m) hsl) (by decide)
    case it2 => intro env' bad' hK a ha o2; exact itEv_str (by walk_at "ev") hasc
    case turn =>
      intro env' bad' hK a ha c hc
      have hal : a.length + 1 ≤ 100 := by rw [heach a ha]; omega
      refine' ev_binop ?xa ?ya ?ka
      case xa => walk_at "ev"
      case ya => walk_at "ev"
      case ka => exact bin_addT (by show a.length + 1 ≤ 1000000; omega)
    case hs2 => intro _ _; rfl
    case s => intro _ _; rfl
    case ky => decide +kernel
    case line => rfl
    case ny => decide +kernel
    case set => walk_at "set"
    change Ex _ _ _ _ _ _
    have e : ((rHeads row kept m').flatMap fun h => (rSigns row kept (1 + m')).map fun c => PyData.str (S (h ++ [c]))) = sL (rHeads row kept (m' + 1)) := by
      show _ = List.map (fun x => PyData.str (S x)) ((rHeads row kept m').flatMap fun h => (rSigns row kept (1 + m')).map fun c => h ++ [c])
      rw [List.map_flatMap]
      simp only [List.map_map]
      rfl
    refine ex_nil ⟨rfl, some (.d (.int ((1 + m' : Nat) : Int))), some (.d (.str (S (rSigns row kept (1 + m'))))), ?_⟩
    rw [e]
  · rintro V' acc' ⟨rfl, a, b, rfl⟩
    change Ex _ _ _ _ _ _
    refine' ex_cons (ex1_ret ?e9 ?n9)
    case e9 =>
      refine' ev_compS (src := rHeads row kept ((List.range 6).map fun (i : Nat) => PyData.int ((1 + i : Nat) : Int)).length) (inj := fun h => .str (S h)) (p := fun _ => true) (g := fun h => h ++ [41]) (fr := []) (Vf := []) (kinds := fun y => (pScope 21).names.lookup y) ?it9 hk ?D9 ?v9 ?z9 ?turn9 ?s9
      case it9 => exact itEv_sL (by walk_at "ev")
      case D9 => walk_at "comp"
      case v9 => walk_at "vf"
      case z9 => exact Nat.le_trans (rHeads_len row kept 6) (by decide)
      case s9 => intro _ _; rfl
      case turn9 =>
        intro env' bad' hK a ha
        have hal : a.length = 7 := rHeads_each row kept 6 a ha
        refine ⟨rfl, fun _ => ?_⟩
        refine' ev_binop ?x9 ?y9 ?k9
        case x9 => walk_at "ev"
        case y9 => walk_at "ev"
        case k9 => exact bin_addT (by show a.length + 1 ≤ 1000000; omega)
    show Out.ret _ = Out.ret _
    rw [List.filter_eq_self.mpr (fun _ _ => rfl)]
    rfl
end
section
variable {G : TopC} {C : Cx} {V : List (Option VV)} {acc : Acc}

noncomputable def rTurn1 (row : List Nat) (i : Int) : List Nat := pick row none (some i) ++ [turnC (row.getD i.toNat 0)] ++ pick row (some (i + 1)) none
noncomputable def rTurnAt (listing : List (List Nat)) (kept : List Int) (k : Nat) : List Nat := rTurn1 (listing.getD k []) (kept.getD (k % kept.length) 0)
noncomputable def rTurned (listing : List (List Nat)) (kept : List Int) : List (List Nat) := (List.range listing.length).map (rTurnAt listing kept)
theorem law_turned_ok {fa : Addr} (H : DefAt G (Str.ofString "_law_turned") 22 fa) (B : BltOk G) (listing : List (List Nat)) (kept : List Int) (hl : listing.length ≤ 1000) (hr : ∀ r ∈ listing, Row8 r) (hk0 : kept ≠ []) (hk1 : kept.length ≤ 100) (hk8 : Kept kept) :
    Fn G fa 1 [.list (sL listing), .list (iL kept)] (.list (sL (rTurned listing kept))) := by
  refine fn_at (N := [Str.ofString "listing", Str.ofString "kept", Str.ofString "turned", Str.ofString "k", Str.ofString "row", Str.ofString "at"]) (xs := [Str.ofString "listing", Str.ofString "kept"]) (V0 := [some (.d (.list (sL listing))), some (.d (.list (iL kept))), none, none, none, none]) (ys := [Str.ofString "turned", Str.ofString "k", Str.ofString "row", Str.ofString "at"]) H ?_ rfl ?_ rfl rfl ?_
  · walk_at "def"
  · intro pm code doc vs h
    obtain ⟨a, b, rfl⟩ := len2 h
    rfl
  intro A env bad hk
  refine ex_cons (ex1_acc (fun a => ⟨[some (.d (.list (sL listing))), some (.d (.list (iL kept))), some (.v (.ref a)), none, none, none], .tail (.tail .head), ?_⟩) rfl (by intro _; rfl))
  change Ex _ _ _ _ _ _
  have hz1 : (sL listing).length < 1000000 := by rw [sL, List.length_map]; omega
  have hz2 : (iL kept).length < 1000000 := by rw [iL, List.length_map]; omega
  have hl2 : (iL kept).length = kept.length := by rw [iL, List.length_map]
  have hl3 : (sL listing).length = listing.length := by rw [sL, List.length_map]
  have hpos : 0 < kept.length := List.length_pos_iff.mpr hk0
  have hne : ((iL kept).length : Int) ≠ 0 := by rw [hl2]; omega
  have itv : ItEv G (Cx.wa ⟨A, env, [Str.ofString "listing", Str.ofString "kept", Str.ofString "turned", Str.ofString "k", Str.ofString "row", Str.ofString "at"], bad, 0, env.cells⟩ [(a, [])]) [some (.d (.list (sL listing))), some (.d (.list (iL kept))), some (.v (.ref a)), none, none, none]
      (.Call (.Name (Str.ofString "range") ⟨211, 13, 211, 18⟩) [.Call (.Name (Str.ofString "len") ⟨211, 19, 211, 22⟩) [.Name (Str.ofString "listing") ⟨211, 23, 211, 30⟩] [] ⟨211, 19, 211, 31⟩] [] ⟨211, 13, 211, 32⟩) ((List.range (sL listing).length).map fun (i : Nat) => .int (i : Int)) :=
    itEv_rangeN (by walk_at "kind") B (by walk_at "ev") hz1
  refine ex_cons (ex1_for itv (fun m V1 acc1 => acc1 = [(a, sL ((List.range m).map (rTurnAt listing kept)))] ∧ ∃ x y z, V1 = [some (.d (.list (sL listing))), some (.d (.list (iL kept))), some (.v (.ref a)), x, y, z]) ⟨rfl, none, none, none, rfl⟩ ?_ ?_ ?_ rfl (by intro _ _; rfl))
  · rintro i V1 acc1 ⟨rfl, _⟩; rfl
  · rintro m d V1 acc1 hd ⟨rfl, x, y, z, rfl⟩
    rw [List.getElem?_map, Option.map_eq_some_iff] at hd
    obtain ⟨m', hm', rfl⟩ := hd
    have hlt : m < listing.length := by rw [← hl3]; simpa using (List.getElem?_eq_some_iff.mp hm').1
    have : m' = m := by rw [List.getElem?_range (by rw [hl3]; exact hlt)] at hm'; exact (Option.some.inj hm').symm
    subst this
    refine ⟨_, .tail (.tail (.tail .head)), ?_⟩
    have hrow : Row8 (listing.getD m' []) := by
      rw [List.getD_eq_getElem?_getD, List.getElem?_eq_getElem hlt]; exact hr _ (List.getElem_mem _)
    have hmod : m' % kept.length < kept.length := Nat.mod_lt _ hpos
    have hat := hk8 (kept.getD (m' % kept.length) 0) (by rw [List.getD_eq_getElem?_getD, List.getElem?_eq_getElem hmod]; exact List.getElem_mem _)
    have g1 : (sL listing)[((m' : Int)).toNat]? = some (.str (S (listing.getD m' []))) := by simp [sL, List.getD, hlt]
    have g2 : (iL kept)[((m' : Int).fmod ((iL kept).length : Int)).toNat]? = some (.int (kept.getD (m' % kept.length) 0)) := by
      rw [show (m' : Int).fmod ((iL kept).length : Int) = ((m' % kept.length : Nat) : Int) by rw [hl2, ← Int.ofNat_fmod], Int.toNat_natCast]
      simp [iL, List.getD, hmod]
    have i1 : 0 ≤ (m' : Int).fmod ((iL kept).length : Int) := by rw [hl2, ← Int.ofNat_fmod]; omega
    have i2 : (m' : Int).fmod ((iL kept).length : Int) < 1000000 := by rw [hl2, ← Int.ofNat_fmod]; omega
    have hstep : (List.range (m' + 1)).map (rTurnAt listing kept) = (List.range m').map (rTurnAt listing kept) ++ [rTurn1 (listing.getD m' []) (kept.getD (m' % kept.length) 0)] := by
      rw [List.range_succ, List.map_append]; rfl
    have hlen : (sL ((List.range m').map (rTurnAt listing kept))).length ≤ 1000000 := by rw [sL, List.length_map, List.length_map, List.length_range]; omega
    generalize kept.getD (m' % kept.length) 0 = i at hat g2 hstep
    generalize listing.getD m' [] = row at hrow g1 hstep
    obtain ⟨h0, h8⟩ := hat
    have g3 : row[(i : Int).toNat]? = some (row.getD i.toNat 0) := by
      have : i.toNat < row.length := by rw [hrow.1]; omega
      simp [List.getD, this]
    have hc := hrow.get (i := i.toNat) (by omega)
    have p1 : (pick row none (some i)).length ≤ 100 := Nat.le_trans (pick_length_le _ _ _) (by rw [hrow.1]; decide)
    have p2 : (pick row (some (i + 1)) none).length ≤ 100 := Nat.le_trans (pick_length_le _ _ _) (by rw [hrow.1]; decide)
    have p3 : row.length ≤ 1000000 := by rw [hrow.1]; decide
    have i3 : i < 1000000 := by omega
    walk_at "assign"
    walk_at "assign"
    refine ex_cons ?_
    refine' ex1_append (a := a) (acc' := [(a, sL ((List.range m').map (rTurnAt listing kept)) ++ [.str (S (rTurn1 row i))])]) (d := .str (S (rTurn1 row i))) (ds := sL ((List.range m').map (rTurnAt listing kept))) ?av ?ag ?ae ?az ?an ?al ?as ?ai
    case ag => exact .head
    case az => exact hlen
    case av => walk_at "var"
    case al => rfl
    case as => intro _; rfl
    case ai => intro env h; simp [interactive, h]
    case ae =>
      unfold rTurn1
      rcases hc with hc | hc
      · rw [hc] at g3 ⊢
        rw [show turnC 40 = 41 from rfl]
        walk_at "ev"
      · rw [hc] at g3 ⊢
        rw [show turnC 41 = 40 from rfl]
        walk_at "ev"
    refine ex_nil ⟨?_, _, _, _, rfl⟩
    rw [hstep]
    simp [sL]
  · rintro V' acc' ⟨rfl, x, y, z, rfl⟩
    change Ex _ _ _ _ _ _
    refine ex_cons (ex1_retAcc (ds := sL ((List.range ((List.range (sL listing).length).map fun (i : Nat) => PyData.int (i : Int)).length).map (rTurnAt listing kept))) (by walk_at "var") (.head _) ?_)
    show Out.ret _ = Out.ret _
    rw [List.length_map, List.length_range, hl3]
    rfl
end
section

section
variable {prog : Program} {w : World} {A : Around} {R : GenEnd} {Y : Protocol} {n : Nat} {s₀ : Shared} {fs : List Frame} {s : Shared} {env : Env} {c : Code}
  {K : Flow → Sem Fin} {H : Value → Sem Fin} {gd : Bool → Bool} {lv : List Value → List Value}

theorem seg_If {t : Expr} {b o : List Stmt} {pos : Pos} (h : wpAny (model prog w) (A.over c fs) (isTrue t env (eval t env)) (fun r s' =>
      if r = true then Seg (model prog w) A R Y n s₀ c ((execs b env).wrap K H gd lv) fs s' else Seg (model prog w) A R Y n s₀ c ((execs o env).wrap K H gd lv) fs s')
      (fun x s' => Seg (model prog w) A R Y n s₀ c (H x) fs s') s) :
    Seg (model prog w) A R Y n s₀ c ((exec (.If t b o pos) env).wrap K H gd lv) fs s := by
  rw [exec_If]
  show Seg _ A R Y n s₀ c (.at pos fun _ => (isTrue t env (eval t env) >>= fun r => if r = true then execs b env else execs o env).wrap K H gd lv) fs s
  refine seg_at ?_
  rw [Sem.bind_eq_wrap', Sem.wrap_wrap]
  refine seg_wrap (wpAny_mono h (fun r s' hr => ?_) fun _ _ x => x)
  cases r with
  | true => exact hr
  | false => exact hr

theorem seg_For {tgt it : Expr} {body : List Stmt} {pos : Pos}
    (h : wpAny (model prog w) (A.over c fs) (eval it env) (fun x s1 => wpAny (model prog w) (A.over c fs) (pyIter x) (fun i s2 =>
      ∀ p, Seg (model prog w) A R Y n s₀ (.forLoop tgt i body [] env) ((model prog w).den (.forLoop tgt i body [] env))
      (.ret (fun r => ((match r with | .ok f => (.pure f : Sem Flow) | .error e => .raise e).onRaise fun (x : Value) => do
        if (← field x 1) == Value.none then unsupported "frame.own-activation:exception-without-traceback"
        setFlight x env.frame).wrap K H gd lv) none (gd false) (lv []) c p [] :: fs) s2)
      (fun x s' => Seg (model prog w) A R Y n s₀ c (H x) fs s') s1) (fun x s' => Seg (model prog w) A R Y n s₀ c (H x) fs s') s)
    (hs : ∀ v, foldedSetIterable it env v = pure v) :
    Seg (model prog w) A R Y n s₀ c ((exec (.For tgt it body [] pos) env).wrap K H gd lv) fs s := by
  rw [exec_For]
  show Seg _ A R Y n s₀ c (.at pos fun _ => (eval it env >>= fun x => foldedSetIterable it env x >>= fun x => standAt it.pos >>= fun _ => holding [x] (pyIter x) >>= fun i => runOwn (.forLoop tgt i body [] env) env).wrap K H gd lv) fs s
  refine seg_at ?_
  rw [Sem.bind_eq_wrap', Sem.wrap_wrap]
  refine seg_wrap (wpAny_mono h (fun x s1 h1 => ?_) fun _ _ x => x)
  rw [hs x]
  show Seg _ A R Y n s₀ c (.at it.pos fun _ => (holding [x] (pyIter x) >>= fun i => runOwn (.forLoop tgt i body [] env) env).wrap K H gd lv) fs s1
  refine seg_at ?_
  rw [Sem.bind_eq_wrap', Sem.wrap_wrap]
  refine seg_wrap (wpAny_holding (wpAny_mono h1 (fun i s2 h2 => ?_) fun _ _ x => x))
  exact seg_call h2

theorem seg_forLoop {tgt : Expr} {i : Value} {body : List Stmt}
    (h : wpAny (model prog w) (A.over (.forLoop tgt i body [] env) fs) (pyNext i) (fun r s1 => match r with
      | none => Seg (model prog w) A R Y n s₀ (.forLoop tgt i body [] env) (.pure (.again (.block [] env))) fs s1
      | some v => wpAny (model prog w) (A.over (.forLoop tgt i body [] env) fs) (letOwnedTupleGo tgt i v) (fun _ s2 => wpAny (model prog w) (A.over (.forLoop tgt i body [] env) fs) (assign tgt env v) (fun _ s3 =>
          Seg (model prog w) A R Y n s₀ (.forLoop tgt i body [] env) ((execs body env).wrap (fun f => match f with
            | .next | .cont => .pure (.again (.forLoop tgt i body [] env))
            | .brk => .pure (.done .next)
            | .ret v => .pure (.done (.ret v))) (fun e => (do noteFrame e env; theTreesLotGoes e : Sem Unit).wrap (fun _ => .raise e) .raise id id) id id) fs s3)
          (fun _ _ => False) s2) (fun _ _ => False) s1) (fun _ _ => False) s) :
    Seg (model prog w) A R Y n s₀ (.forLoop tgt i body [] env) ((model prog w).den (.forLoop tgt i body [] env)) fs s := by
  show Seg _ A R Y n s₀ _ ((forTurn tgt i body [] env).onRaise (fun x => do noteFrame x env; theTreesLotGoes x)) fs s
  unfold forTurn
  rw [Sem.onRaise_eq_wrap]
  show Seg _ A R Y n s₀ _ (.at tgt.pos fun _ => ((pyNext i).onRaise (fun _ => standAt { tgt.pos with line := 0 }) >>= fun r => match r with
    | none => again (.block [] env)
    | some v => letOwnedTupleGo tgt i v >>= fun _ => assign tgt env v >>= fun _ => execs body env >>= fun f => match f with
      | .next | .cont => again (.forLoop tgt i body [] env)
      | .brk => pure (.done .next)
      | .ret v => pure (.done (.ret v))).wrap .pure (fun e => (do noteFrame e env; theTreesLotGoes e : Sem Unit).bind fun _ => .raise e) id id) fs s
  refine seg_at ?_
  rw [Sem.bind_eq_wrap', Sem.wrap_wrap]
  refine seg_wrap (wpAny_onRaise (wpAny_mono h (fun r s1 h1 => ?_) fun _ _ f => f.elim))
  cases r with
  | none => exact h1
  | some v =>
    dsimp only at h1 ⊢
    rw [Sem.bind_eq_wrap', Sem.wrap_wrap]
    refine seg_wrap (wpAny_mono h1 (fun _ s2 h2 => ?_) fun _ _ f => f.elim)
    rw [Sem.bind_eq_wrap', Sem.wrap_wrap]
    refine seg_wrap (wpAny_mono h2 (fun _ s3 h3 => ?_) fun _ _ f => f.elim)
    rw [Sem.bind_eq_wrap', Sem.wrap_wrap]
    rw [Sem.wrap_congr (execs body env) _ _ (K' := fun f => match f with
            | .next | .cont => .pure (.again (.forLoop tgt i body [] env))
            | .brk => .pure (.done .next)
            | .ret v => .pure (.done (.ret v))) (H' := (fun e => (do noteFrame e env; theTreesLotGoes e : Sem Unit).wrap (fun _ => .raise e) .raise id id))
        (fun f => by cases f <;> rfl)
        (fun e => by show ((do noteFrame e env; theTreesLotGoes e : Sem Unit).bind (fun _ => .raise e)) = _; rw [Sem.bind_eq_wrap])]
    exact h3
end

section
variable {G : TopC} {C : Cx} {V : List (Option VV)} {acc : Acc}
mutual
noncomputable def noDict : PyData → Bool
  | .list xs | .tuple xs => noDicts xs
  | .dict _ => false
  | .none | .bool _ | .int _ | .str _ => true
noncomputable def noDicts : List PyData → Bool
  | [] => true
  | x :: xs => noDict x && noDicts xs
end
/-- an object that no reading of such data touches: an iterator's record, a frame -/
noncomputable def Fo (o : Obj) : Prop := Plain o ∧ (∀ vs n, o.data ≠ .seq vs n) ∧ ∀ v, o.data ≠ .cell v
mutual
theorem reads_fo {h : Heap} {pv : List Addr} (hf : ∀ a ∈ pv, ∀ o, h.get? a = some o → Fo o) : ∀ {v : Value} {d : PyData} {as : List Addr}, Reads h v d as → noDict d = true → Reads (PySem.W.hideAll h pv) v d as
  | _, _, _, .none, _ => .none
  | _, _, _, .bool b, _ => .bool b
  | _, _, _, .int i t, _ => .int i t
  | _, _, _, .str x t, _ => .str x t
  | _, _, _, .list (a := k) e1 e2 e3 r, n => .list (PySem.W.hideAll_get pv e1 fun q => (hf k q _ e1).2.1 _ _ e3) e2 e3 (readsAll_fo hf r n)
  | _, _, _, .tuple (a := k) e1 e2 e3 r, n => .tuple (PySem.W.hideAll_get pv e1 fun q => (hf k q _ e1).2.1 _ _ e3) e2 e3 (readsAll_fo hf r n)
  | _, _, _, .dict (a := k) e1 e2 e3 r r', n => by cases n
theorem readsAll_fo {h : Heap} {pv : List Addr} (hf : ∀ a ∈ pv, ∀ o, h.get? a = some o → Fo o) : ∀ {v : List Value} {d : List PyData} {as : List Addr}, ReadsAll h v d as → noDicts d = true → ReadsAll (PySem.W.hideAll h pv) v d as
  | _, _, _, .nil, _ => .nil
  | _, _, _, .cons r rs, n => .cons (reads_fo hf r (Bool.and_eq_true_iff.mp n).1) (readsAll_fo hf rs (Bool.and_eq_true_iff.mp n).2)
end
noncomputable def NoDictV (C : Cx) (V : List (Option VV)) : Prop := ∀ x d, VarIx C.N V x (.d d) → noDict d = true
noncomputable def NoDictA (acc : Acc) : Prop := ∀ a ds, (a, ds) ∈ acc → noDicts ds = true
/-- foreign places turn: the frame stands -/
theorem FS.priv {B : Base} {s s' : Shared} (q : FS G B C V acc s) (nv : NoDictV C V) (na : NoDictA acc) (pv : List Addr) (hf : ∀ a ∈ pv, ¬ (C.wa acc).bad a ∧ (∀ o, Plain o → B.h.get? a ≠ some o) ∧ ∀ o, s.heap.get? a = some o → Fo o)
    (kp : KpH (PySem.W.hideAll s.heap pv) s'.heap) (top : G.hT.StaysIn s'.heap) (tab : TabI G s'.heap) (gens : ∃ gs : Array GenState, s'.gens = B.gens ++ gs ∧ ∀ g ∈ gs, g.bare = true) (os : s'.os = s.os)
    (hfr : ∀ a ∈ pv, ∀ o, s.heap.get? a = some o → (∀ vs, o.data ≠ .fields vs) → ∃ o', s'.heap.get? a = some o' ∧ ∀ vs, o'.data ≠ .fields vs) : FS G B C V acc s' := by
  have fo : ∀ a ∈ pv, ∀ o, s.heap.get? a = some o → Fo o := fun a ha => (hf a ha).2.2
  have sim : ∀ a o, a ∉ pv → Plain o → s.heap.get? a = some o → ∃ o', s'.heap.get? a = some o' ∧ Sim o o' := fun a o ha p e => kp a o p (PySem.W.hideAll_get pv e ha)
  have nsK : ∀ {L m}, (C.wa acc).bad L → s.heap.Ns L m → s'.heap.Ns L m := by
    rintro L m hb ⟨o, es, ep, e, d, r⟩
    obtain ⟨o', e', s1⟩ := sim L o (fun h => (hf L h).1 hb) (.of_data fun vs z => by rw [d] at z; cases z) e
    exact ⟨o', es, ep, e', s1.2.2.1.trans d, r⟩
  have clK : ∀ {c v}, s.heap.IsCell c v → s'.heap.IsCell c v := by
    rintro c v ⟨o, e, d⟩
    obtain ⟨o', e', s1⟩ := sim c o (fun h => (fo c h o e).2.2 _ d) (.of_data fun vs z => by rw [d] at z; cases z) e
    exact ⟨o', e', s1.2.2.1.trans d⟩
  have rdK : ∀ {bad : Addr → Prop} {v d}, noDict d = true → Rd bad s.heap v d → Rd bad s'.heap v d := fun n ⟨as, r, p⟩ => ⟨as, reads_sim kp (reads_fo fo r n), p⟩
  have rdsK : ∀ {bad : Addr → Prop} {v d}, noDicts d = true → RdAll bad s.heap v d → RdAll bad s'.heap v d := fun n ⟨as, r, p⟩ => ⟨as, readsAll_sim kp (readsAll_fo fo r n), p⟩
  refine ⟨⟨q.st.cx, q.st.a, ⟨q.st.ok.g, top, tab, ?_⟩, fun x o hx => ?_, fun b hb => ?_⟩, fun b o p e => ?_, q.ownL, q.ownC, ?_, fun x c hc => ?_, q.apart, gens, os.trans q.os, q.accN, q.accB, fun a ds hm => ?_, q.obad, q.own, q.hT⟩
  · obtain ⟨l, e, f⟩ := q.st.ok.frames
    refine ⟨l, e, ?_⟩
    clear e
    induction l with
    | nil => trivial
    | cons env r ih =>
      obtain ⟨h1, ⟨L, o, h2, h3, h4, h5⟩, h6⟩ := f
      refine ⟨h1, ⟨L, ?_⟩, ih h6⟩
      by_cases hL : L ∈ pv
      · obtain ⟨o', e', n'⟩ := hfr L hL o h4 h5
        exact ⟨o', h2, h3, e', n'⟩
      · obtain ⟨o', e', s1⟩ := sim L o hL (.of_data h5) h4
        exact ⟨o', h2, h3, e', fun vs z => h5 vs (s1.2.2.1 ▸ z)⟩
  · obtain ⟨v, st, hd⟩ := q.st.vars x o hx
    refine ⟨v, st.imp (fun ⟨a, m, b, c⟩ => ⟨a, m, nsK (.inl q.own.L) b, c⟩) (fun ⟨a, c, b, d⟩ => ⟨a, c, b, clK d⟩), ?_⟩
    cases o with
    | v u => exact hd
    | d d => exact rdK (nv x d hx) hd
  · obtain ⟨o, p, e⟩ := q.st.bad b hb
    obtain ⟨o', e', s1⟩ := sim b o (fun h => (hf b h).1 hb) p e
    exact ⟨o', p.sim s1, e'⟩
  · obtain ⟨o1, e1, s1⟩ := q.base b o p e
    obtain ⟨o2, e2, s2⟩ := sim b o1 (fun h => (hf b h).2.1 o p e) (p.sim s1) e1
    exact ⟨o2, e2, s1.trans s2⟩
  · obtain ⟨m, h⟩ := q.ns; exact ⟨m, nsK (.inl q.own.L) h⟩
  · obtain ⟨v, h⟩ := q.cs x c hc; exact ⟨v, clK h⟩
  · obtain ⟨h1, vs, ⟨o2, n2, e2, c2, dn2, dt2⟩, r2⟩ := q.acc a ds hm
    obtain ⟨o', e', s1⟩ := sim a o2 (fun h => (hf a h).1 (.inr (List.mem_map_of_mem (f := (·.1)) hm))) (.of_cls (by rw [c2]; intro z; cases z)) e2
    exact ⟨h1, vs, ⟨o', n2, e', s1.1.trans c2, s1.2.1.trans dn2, s1.2.2.1.trans dt2⟩, rdsK (na a ds hm) r2⟩

/-- pyNext of a generator, its state left bare -/
theorem pyNext_genQ {prog : Program} {w : World} {A : Around} {E : Value → Shared → Prop} {s : Shared} {a : Addr} {g n : Nat} {gs : GenState} {P : Nat → Shared → Shared → Prop} {Y : Protocol} {Q : Option Value → Shared → Prop} (hh : A.handled = none)
    (hl : s.heap.NoLimit) (hroom : A.depth < recursionLimit) (hg : s.heap.IsGen a g) (hgs : s.gens[g]? = some gs)
    (hgo : gs.Goes (model prog w) A.in1 (fun n s₀ r s₁ => r = .ok (.ret .none) ∧ P n s₀ s₁) Y n (.send .none) (s.setGen g .running))
    (hY : ∀ v s₁ gs', gs'.bare = true → Y (n - 1) (s.setGen g .running) v s₁ (fun r' s'' => match n with
        | 0 => False
        | m + 1 => gs'.Goes (model prog w) A.in1 (fun n s₀ r s₁ => r = .ok (.ret .none) ∧ P n s₀ s₁) Y m r' s'') → Q (some v) (s₁.setGen g gs'))
    (hP : ∀ s₁, P n (s.setGen g .running) s₁ → ∀ h', (∀ b o, s₁.heap.get? b = some o → h'.get? b = some o) → Q none { s₁.setGen g .finished with heap := h' }) :
    wpAny (model prog w) A (pyNext (.ref a)) Q E s := by
  unfold pyNext
  refine wpAny_bind (wpAny_attempt (wpAny_callSpecial?_slot (name := Str.ofString "__next__") hg.typeIs slot_gen_next
    (wpAny_call_entry slot_gen_next hg.typeIs entry_gen_next ?_ (args_gen_next _))))
  show wpAny _ _ (Builtin.Generator.genWake (.ref a) (.send .none)) _ _ s
  unfold Builtin.Generator.genWake
  refine wpAny_bind (wpAny_holding (wpAny_genNumber hg (wpAny_bind (wpAny_genState hgs ?_))))
  cases gs with
  | running => exact hgo.elim
  | finished => exact hgo.elim
  | _ =>
    refine wpAny_bind (wpAny_roomToWake hl hroom ?_)
    show wpAny _ _ (.resume g (.send .none) [] _) _ _ s
    refine wpAny_resumeQ hgs hgo (fun x s₁ hx => ?_) (fun v s₁ gs' hb hv => ?_)
    · obtain ⟨rfl, hp⟩ := hx
      show wpAny _ _ (newExc (.type "StopIteration") [] >>= _) _ _ _
      refine wpAny_bind ?_
      simp only [newExc, newTuple]
      refine wpAny_bind (wpAny_newObj_type ?_ (by size_fits))
      refine wpAny_bind (m := firstArgMember _ _) (wpAny_of_eq (a := Value.none) (by first | rfl | (simp only [firstArgMember]; rfl)) ?_)
      refine wpAny_newObj_type ?_ (by size_fits)
      simp only [raiseNew]
      refine wpAny_bind (wpAny_bind (wpAny_handled ?_))
      rw [show A.in1.handled = none from hh]
      refine wpAny_throw ?_
      refine wpAny_bind (wpAny_isInstance (T := "StopIteration") (b := true) ⟨_, Heap.get?_push_size _ rfl, rfl⟩ isSubtype_stop ?_)
      exact wpAny_pure (hP s₁ hp _ fun b o hb => Heap.get?_push_of_some _ (Heap.get?_push_of_some _ hb))
    · exact wpAny_pure ⟨v, rfl, wpAny_pure (hY v s₁ gs' hb hv)⟩
end
end
section

theorem over0 {A : Around} {n : Nat} {body : List Stmt} {env : Env} (h : AOk (n + 1) A) : AOk n (A.in1.over (.func body env) []) := by
  refine ⟨?_, ?_, ?_⟩
  · show A.handled = none; exact h.1
  · show A.depth + frameCount [] + 1 + n < recursionLimit
    have := h.2.1
    simp [frameCount]; omega
  · show A.in1.units + unitsOf [] + 3 + 4 * n + 100 < cLine
    have := h.2.2
    simp only [Around.in1_units, unitsOf, List.map_nil, List.sum_nil]; omega
theorem over0F {A : Around} {body : List Stmt} {env : Env} {l : List Env} (h : A.frames = some l) : (A.in1.over (.func body env) []).frames = some (env :: l) := by
  show pushEnvs [env] (pushEnvs [] A.frames) = _
  rw [h]; rfl
theorem over1 {A : Around} {n : Nat} {body b2 : List Stmt} {env : Env} {tgt : Expr} {i : Value} {K g l p kp} (h : AOk (n + 1) A) : AOk n (A.in1.over (.forLoop tgt i b2 [] env) [.ret K none g l (.func body env) p kp]) := by
  refine ⟨?_, ?_, ?_⟩
  · show A.handled = none; exact h.1
  · show A.depth + frameCount [(Code.func body env, p)] + 0 + n < recursionLimit
    have := h.2.1
    rw [frameCount_cons]
    show A.depth + (1 + frameCount []) + 0 + n < _
    simp [frameCount]; omega
  · show A.in1.units + unitsOf [(Code.func body env, p)] + 0 + 4 * n + 100 < cLine
    have := h.2.2
    rw [unitsOf_cons]
    show A.in1.units + (3 + unitsOf []) + 0 + 4 * n + 100 < cLine
    simp only [Around.in1_units, unitsOf, List.map_nil, List.sum_nil]; omega
theorem over1F {A : Around} {body b2 : List Stmt} {env : Env} {tgt : Expr} {i : Value} {K g l p kp} {fr : List Env} (h : A.frames = some fr) : (A.in1.over (.forLoop tgt i b2 [] env) [.ret K none g l (.func body env) p kp]).frames = some (env :: fr) := by
  show pushEnvs [] (pushEnvs [env] A.frames) = _
  rw [h]; rfl

/-- what the generator hands out -/
noncomputable def gIt : Bool → Int → Nat → List Nat → List (Int × List Nat)
  | true, pos, _, [] => [(pos, [92])]
  | false, _, _, [] => []
  | true, _, i, c :: r => ((i : Int), [92, c]) :: gIt false i (i + 1) r
  | false, _, i, c :: r => if c = 92 then gIt true i (i + 1) r else ((i : Int), [c]) :: gIt false i (i + 1) r
noncomputable abbrev itD (x : Int × List Nat) : PyData := .tuple [.int x.1, .str (S x.2)]

section
variable (G : TopC) (A : Around) (its : List PyData) (pv : List Addr)
/-- between two points: all but the private places is kept -/
structure GRel (s₀ s' : Shared) : Prop where
  heap : KpH (PySem.W.hideAll s₀.heap pv) s'.heap
  top : G.hT.StaysIn s'.heap
  tab : TabI G s'.heap
  gens : ∃ gs : Array GenState, s'.gens = s₀.gens ++ gs ∧ ∀ g ∈ gs, g.bare = true
  os : s'.os = s₀.os
  fo : ∀ a ∈ pv, ∃ o, s'.heap.get? a = some o ∧ Fo o
  fr : ∀ a ∈ pv, ∀ o, s₀.heap.get? a = some o → (∀ vs, o.data ≠ .fields vs) → ∃ o', s'.heap.get? a = some o' ∧ ∀ vs, o'.data ≠ .fields vs
noncomputable def KpA (h h' : Heap) : Prop := ∀ a ∈ pv, ∀ o, h.get? a = some o → ∃ o', h'.get? a = some o' ∧ Sim o o'
noncomputable def Ygen : Protocol := fun k s₀ v s' kap => GRel G pv s₀ s' ∧ (∃ d, its[its.length - 1 - k]? = some d ∧ Reads s'.heap v d []) ∧ ∀ s'', KpA pv s'.heap s''.heap → Ok G A s'' → kap (.send .none) s''
noncomputable def Rgen : GenEnd := fun n s₀ r s₁ => r = .ok (.ret .none) ∧ (n = 0 ∧ GRel G pv s₀ s₁)
end

/-- a generator's own frame -/
structure GEnv (env : Env) : Prop where
  kind : env.scope.kind = .function
  glob : env.globals = mainGlobals
  blt : env.builtins = builtinsNs
  co : env.scope.isCoroutine = false
  cells : env.cells = []
  frame : env.frame = some env.locals
  kinds : ∀ x ∈ [Str.ofString "addr", Str.ofString "pos", Str.ofString "escape", Str.ofString "ch"], env.kindOf x = some .local
  enum : env.kindOf (Str.ofString "enumerate") = some .globalImplicit

noncomputable def GN : List Str := [Str.ofString "addr", Str.ofString "pos", Str.ofString "escape", Str.ofString "ch"]
@[reducible] noncomputable def GC (A' : Around) (env : Env) (n : Nat) : Cx := ⟨A', env, GN, fun b => b = env.locals, n, env.cells⟩
noncomputable def GBase (s₀ : Shared) (pv : List Addr) : Base := { h := PySem.W.hideAll s₀.heap pv, gens := s₀.gens, os := s₀.os, bad := fun _ => False }
noncomputable def GV (l : List Nat) (pos : Int) (esc : Bool) (ch : Option VV) : List (Option VV) := [some (.d (.str (S l))), some (.d (.int pos)), some (.d (.bool esc)), ch]

section
variable {G : TopC} {A A' : Around} {env : Env} {n : Nat} {l : List Nat} {pv : List Addr}

/-- the frame, wherever it is woken -/
theorem gfs (X : GEnv env) (hA : AOk n A') (hF : ∀ l, A.frames = some l → A'.frames = some (env :: l)) {pos : Int} {esc : Bool} (hpv : env.locals ∈ pv) (hT : ∀ a ∈ pv, G.hT.get? a = none) {s' s'' : Shared} {c : List Nat} {m : Str → Option Value} (hn : s'.heap.Ns env.locals m)
    (h1 : ∃ t, m (Str.ofString "addr") = some (.str (S l) t)) (h2 : ∃ t, m (Str.ofString "pos") = some (.int pos t)) (h3 : m (Str.ofString "escape") = some (.bool esc))
    (k : KpA pv s'.heap s''.heap) (ok : Ok G A s'') : FS G (GBase s'' pv) (GC A' env n) (GV l pos esc none) [] s'' := by
  have hn2 : s''.heap.Ns env.locals m := by
    obtain ⟨o, es, ep, e, d, r⟩ := hn
    obtain ⟨o', e', s1⟩ := k _ hpv o e
    exact ⟨o', es, ep, e', s1.2.2.1.trans d, r⟩
  obtain ⟨o, es, ep, e, d, r⟩ := id hn2
  have nf : ∀ vs, o.data ≠ .fields vs := fun vs z => by rw [d] at z; cases z
  obtain ⟨fr, hfr, ff⟩ := ok.frames
  have hLs : G.hT.get? env.locals = none := hT _ hpv
  have no : ∀ {P : Prop} (x : Str) (c : Addr), (x, c) ∈ (GC A' env n).own → P := fun x c hc => by rw [show (GC A' env n).own = [] from X.cells] at hc; cases hc
  refine { st := ⟨⟨X.kind, X.glob, X.blt, (by decide +kernel : GN.Nodup), (by decide +kernel : ∀ x ∈ GN, (x == ("__debug__" : Str)) = false), fun x hx => .inl (X.kinds x hx)⟩, hA, ⟨ok.g, ok.top, ok.tab, ⟨env :: fr, hF fr hfr, (by rw [X.kind]; intro z; cases z), ⟨env.locals, o, X.frame, hLs, e, nf⟩, ff⟩⟩, fun x v hx => ?_, fun b hb => ?_⟩,
           base := fun a o _ e => ⟨o, PySem.W.of_hideAll _ e, .refl o⟩, ownL := PySem.W.hideAll_none _ hpv, ownC := fun x c h => no x c h, ns := ⟨_, hn2⟩, cs := fun x c h => no x c h,
           apart := by rw [show (GC A' env n).own = [] from X.cells]; exact .nil, gens := ⟨#[], by simp [GBase], by simp⟩, os := rfl, accN := .nil, accB := fun _ _ h => (nomatch h), acc := fun _ _ h => (nomatch h), obad := fun b hb => hb.elim,
           own := ⟨rfl, fun x c h => no x c h⟩, hT := fun b o e => PySem.W.hideAll_get _ (ok.top b o e) fun hm => by rw [hT b hm] at e; cases e }
  · have st : ∀ x v, x ∈ GN → m x = some v → Stored env s''.heap x v := fun x v hx hv => .inl ⟨X.kinds x hx, m, hn2, hv⟩
    cases hx with
    | head => obtain ⟨t, h1⟩ := h1; exact ⟨_, st _ _ (.head _) h1, .str _ _⟩
    | tail hx =>
      cases hx with
      | head => obtain ⟨t, h2⟩ := h2; exact ⟨_, st _ _ (.tail _ (.head _)) h2, .int _ _⟩
      | tail hx =>
        cases hx with
        | head => exact ⟨_, st _ _ (.tail _ (.tail _ (.head _))) h3, .bool _⟩
        | tail hx => cases hx with | tail hx => cases hx
  · rcases hb with rfl | hb
    · exact ⟨o, .of_data nf, e⟩
    · cases hb
end
end
section

noncomputable def gFor : Stmt := (pBody 2).getD 2 (.Break ⟨0, 0, 0, 0⟩)
noncomputable def gFb : List Stmt := match gFor with | .For _ _ b _ _ => b | _ => []
noncomputable def gTgt : Expr := match gFor with | .For t _ _ _ _ => t | _ => .Name "x" ⟨0, 0, 0, 0⟩
noncomputable def gRest : List Stmt := (pBody 2).drop 3

theorem ns_uniq {h : Heap} {L : Addr} {m m' : Str → Option Value} (x : h.Ns L m) (y : h.Ns L m') : m = m' := by
  funext z
  obtain ⟨o1, es1, ep1, h1, d1, _, f1⟩ := x
  obtain ⟨o2, es2, ep2, h2, d2, _, f2⟩ := y
  rw [h1] at h2; cases h2
  rw [d1] at d2; cases d2
  rw [← f1, ← f2]

section
variable {G : TopC} {A : Around} {env : Env} {n : Nat} {l : List Nat} {e it : Addr} {w : Value} {t : Tok}

theorem gvars {A' : Around} (X : GEnv env) {B : Base} {s : Shared} {pos : Int} {esc : Bool} {ch : Option VV} (q : FS G B (GC A' env n) (GV l pos esc ch) [] s) :
    ∃ m, s.heap.Ns env.locals m ∧ (∃ t, m (Str.ofString "addr") = some (.str (S l) t)) ∧ (∃ t, m (Str.ofString "pos") = some (.int pos t)) ∧ m (Str.ofString "escape") = some (.bool esc) := by
  have key : ∀ x o, VarIx GN (GV l pos esc ch) x o → ∃ m v, s.heap.Ns env.locals m ∧ m x = some v ∧ Holds ((GC A' env n).wa []).bad s.heap v o := fun x o hx => by
    obtain ⟨v, st, hd⟩ := q.st.vars x o hx
    rcases st with ⟨_, m, hn, hv⟩ | ⟨hk, _⟩
    · exact ⟨m, v, hn, hv, hd⟩
    · have := X.kinds x hx.mem
      rw [show ((GC A' env n).wa []).env.kindOf x = env.kindOf x from rfl, this] at hk; cases hk
  obtain ⟨m1, v1, n1, e1, d1⟩ := key _ _ .head
  obtain ⟨m2, v2, n2, e2, d2⟩ := key _ _ (.tail .head)
  obtain ⟨m3, v3, n3, e3, d3⟩ := key _ _ (.tail (.tail .head))
  cases ns_uniq n1 n2; cases ns_uniq n1 n3
  obtain ⟨t1, rfl⟩ := Rd.str_inv d1
  obtain ⟨t2, rfl⟩ := Rd.int_inv d2
  cases Rd.bool_inv d3
  exact ⟨m1, n1, ⟨_, e1⟩, ⟨_, e2⟩, e3⟩

/-- inside the generator, its iterator at place i -/
structure GS (G : TopC) (A' : Around) (env : Env) (n : Nat) (l : List Nat) (e it : Addr) (w : Value) (s₀ s : Shared) (i : Nat) (pos : Int) (esc : Bool) (ch : Option VV) : Prop where
  fs : FS G (GBase s₀ [env.locals, e, it]) (GC A' env n) (GV l pos esc ch) [] s
  en : ∃ old, IsEnum s.heap e it i old
  si : ∃ o, s.heap.get? it = some o ∧ o.cls = .type "str_ascii_iterator" ∧ o.data = .fields #[w, .int i 0]
  s0 : ∀ a ∈ [e, it], ∀ o, s₀.heap.get? a = some o → ∃ vs, o.data = .fields vs
theorem GS.rel {A' : Around} {s₀ s : Shared} {i : Nat} {pos : Int} {esc : Bool} {ch : Option VV} (x : GS G A' env n l e it w s₀ s i pos esc ch) : GRel G [env.locals, e, it] s₀ s := by
  obtain ⟨m, hn⟩ := x.fs.ns
  obtain ⟨oL, es, ep, eL, dL, _⟩ := id hn
  obtain ⟨old, he⟩ := x.en
  obtain ⟨oi, ei, ci, di⟩ := id x.si
  refine ⟨x.fs.base, x.fs.st.ok.top, x.fs.st.ok.tab, x.fs.gens, x.fs.os, fun a ha => ?_, fun a ha o eo nf => ?_⟩
  · rcases List.mem_cons.mp ha with rfl | ha
    · exact ⟨oL, eL, .of_data fun vs z => (by rw [dL] at z; cases z), fun vs n z => (by rw [dL] at z; cases z), fun v z => by rw [dL] at z; cases z⟩
    rcases List.mem_cons.mp ha with rfl | ha
    · exact ⟨_, he, .of_cls (by intro z; cases z), fun vs n z => (by cases z), fun v z => by cases z⟩
    · have : a = it := by simpa using ha
      subst this
      exact ⟨_, ei, .of_cls (by rw [ci]; intro z; cases z), fun vs n z => (by rw [di] at z; cases z), fun v z => by rw [di] at z; cases z⟩
  · rcases List.mem_cons.mp ha with rfl | ha
    · exact ⟨oL, eL, fun vs z => by rw [dL] at z; cases z⟩
    · obtain ⟨vs, d⟩ := x.s0 a ha o eo
      exact absurd d (nf vs)

/-- woken later -/
theorem GS.later {A' : Around} (X : GEnv env) (hF : ∀ l, A.frames = some l → A'.frames = some (env :: l)) (hT : ∀ a ∈ [env.locals, e, it], G.hT.get? a = none) {s₀ s' s'' : Shared} {i : Nat} {pos : Int} {esc : Bool} {ch : Option VV}
    (x : GS G A' env n l e it w s₀ s' i pos esc ch) (k : KpA [env.locals, e, it] s'.heap s''.heap) (ok : Ok G A s'') : GS G A' env n l e it w s'' s'' i pos esc none := by
  obtain ⟨m, hn, h1, h2, h3⟩ := gvars X x.fs
  obtain ⟨old, he⟩ := x.en
  obtain ⟨oi, ei, ci, di⟩ := id x.si
  obtain ⟨o2, e2, s2⟩ := k e (.tail _ (.head _)) _ he
  obtain ⟨o3, e3, s3⟩ := k it (.tail _ (.tail _ (.head _))) _ ei
  have q2 := s2.2.2.2 ⟨_, rfl⟩
  have q3 := s3.2.2.2 ⟨_, di⟩
  subst q2 q3
  refine ⟨gfs X x.fs.st.a hF (.head _) hT (c := []) hn h1 h2 h3 k ok, ⟨old, e2⟩, ⟨_, e3, ci, di⟩, fun a ha o eo => ?_⟩
  rcases List.mem_cons.mp ha with rfl | ha
  · rw [e2] at eo; cases eo; exact ⟨_, rfl⟩
  · have : a = it := by simpa using ha
    subst this
    rw [e3] at eo; cases eo; exact ⟨_, di⟩

theorem gstep {A' : Around} {B : Base} {V : List (Option VV)} {s : Shared} {h' : Heap} {tk : Nat} {old : Value} {i j : Nat} (q : FS G B (GC A' env n) V [] s) (nv : NoDictV (GC A' env n) V) (hB : ∀ a ∈ [e, it], B.h.get? a = none) (hT : ∀ a ∈ [e, it], G.hT.get? a = none) (neL : ∀ a ∈ [e, it], a ≠ env.locals)
    {oe : Obj} (he : s.heap.get? e = some oe) (he1 : oe.cls = .type "enumerate") (he2 : ∃ vs, oe.data = .fields vs ∧ ∀ q t, vs[1]? ≠ some (.str q t)) (hi : ∃ o, s.heap.get? it = some o ∧ o.cls = .type "str_ascii_iterator" ∧ o.data = .fields #[w, .int j 0])
    (hk : ∀ b o, b ≠ e → b ≠ it → s.heap.get? b = some o → h'.get? b = some o) : FS G B (GC A' env n) V [] { s with heap := h', toks := tk } := by
  obtain ⟨vs, de, hs1⟩ := he2
  obtain ⟨oi, ei, ci, di⟩ := hi
  have fo : ∀ a ∈ [e, it], ∀ o, s.heap.get? a = some o → o.cls ≠ Value.none ∧ ∃ vs, o.data = .fields vs ∧ ∀ q t, vs[1]? ≠ some (.str q t) := fun a ha o eo => by
    rcases List.mem_cons.mp ha with rfl | ha
    · rw [he] at eo; cases eo; exact ⟨(by rw [he1]; intro z; cases z), vs, de, hs1⟩
    · have : a = it := by simpa using ha
      subst this
      rw [ei] at eo; cases eo; exact ⟨(by rw [ci]; intro z; cases z), _, di, fun q t z => by simp at z⟩
  have hk2 : ∀ b o, b ∉ [e, it] → s.heap.get? b = some o → h'.get? b = some o := fun b o hb e' => hk b o (fun z => hb (z ▸ .head _)) (fun z => hb (z ▸ .tail _ (.head _))) e'
  refine q.priv nv (fun _ _ h => nomatch h) [e, it] (fun a ha => ⟨?_, fun o _ e' => (by rw [hB a ha] at e'; cases e'), fun o eo => ?_⟩) (fun b o _ e' => ⟨o, ?_, .refl o⟩) (fun b o e' => ?_) ?_ q.gens rfl (fun a ha o eo nf => ?_)
  · rintro (hb | hb)
    · exact neL a ha hb
    · cases hb
  · obtain ⟨c, vs, d, _⟩ := fo a ha o eo
    exact ⟨.of_cls c, fun vs' n z => (by rw [d] at z; cases z), fun v z => by rw [d] at z; cases z⟩
  · refine hk2 b o (fun hm => ?_) (PySem.W.of_hideAll _ e')
    rw [PySem.W.hideAll_none _ hm] at e'; cases e'
  · exact hk2 b o (fun hm => by rw [hT b hm] at e'; cases e') (q.st.ok.top b o e')
  · obtain ⟨ps, e1, r⟩ := q.st.ok.tab
    refine ⟨ps, hk2 _ _ (fun hm => (fo _ hm _ e1).1 rfl) e1, r.imp id ?_⟩
    rintro ⟨c', e', c₂, o, vs, t, e2, e3, e4, e5⟩
    refine ⟨c', e', c₂, o, vs, t, e2, hk2 _ _ (fun hm => ?_) e3, e4, e5⟩
    obtain ⟨_, vs', d, ns⟩ := fo _ hm _ e3
    rw [d] at e4; cases e4
    exact ns _ _ e5
  · obtain ⟨_, vs', d, _⟩ := fo a ha o eo
    exact absurd d (nf vs')
theorem gv_nodict {A' : Around} {pos : Int} {esc : Bool} {c : Option (List Nat)} : NoDictV (GC A' env n) (GV l pos esc (c.map fun c => .d (.str (S c)))) := by
  intro x d hx
  cases hx with
  | head => rfl
  | tail hx =>
    cases hx with
    | head => rfl
    | tail hx =>
      cases hx with
      | head => rfl
      | tail hx =>
        cases c with
        | none => cases hx with | tail hx => cases hx
        | some c => cases hx with
          | head => rfl
          | tail hx => cases hx

theorem gnext {A' : Around} (X : GEnv env) {E : Value → Shared → Prop} {s₀ s : Shared} {i c : Nat} {pos : Int} {esc : Bool} {ch : Option (List Nat)} (hh : A'.handled = none) (hne : e ≠ it) (hT : ∀ a ∈ [e, it], G.hT.get? a = none) (neL : ∀ a ∈ [e, it], a ≠ env.locals)
    (x : GS G A' env n l e it (.str (S l) t) s₀ s i pos esc (ch.map fun c => .d (.str (S c)))) (hc : l[i]? = some c) :
    wpAny (model G.prog G.w) A' (pyNext (.ref e)) (fun r s1 => match r with
      | none => False
      | some v => wpAny (model G.prog G.w) A' (letOwnedTupleGo gTgt (.ref e) v) (fun _ s2 => wpAny (model G.prog G.w) A' (assign gTgt env v) (fun _ s3 => GS G A' env n l e it (.str (S l) t) s₀ s3 (i + 1) i esc (some (.d (.str (S [c]))))) E s2) E s1) E s := by
  obtain ⟨old, he⟩ := x.en
  have hi := x.si
  have hlt : i < (S l).cps.size := by
    have := (List.getElem?_eq_some_iff.mp hc).1
    simpa [S] using this
  have hB : ∀ a ∈ [e, it], (GBase s₀ [env.locals, e, it]).h.get? a = none := fun a ha => PySem.W.hideAll_none _ (.tail _ ha)
  have heL : e < s.heap.objs.size := Heap.lt_size he
  have hiL : it < s.heap.objs.size := by obtain ⟨o, e', _⟩ := hi; exact Heap.lt_size e'
  refine wpAny_pyNext_enum_itemD (Draws.strAscii (A := A'.in1) hh it (S l) t) he hi hlt hne (by simpa using hne) fun v h' tk hP heo hst hTu hsz hk => ?_
  obtain ⟨c', u, hc', rfl⟩ := hP
  have : c' = c := by
    have h1 : l[i]? = some c' := by simpa [S] using hc'
    rw [h1] at hc; exact Option.some.inj hc
  subst this
  have q1 := gstep (i := i) (old := old) (tk := tk + 1) x.fs gv_nodict hB hT neL he rfl ⟨_, rfl, fun q t z => by simp at z⟩ hi hk
  refine wpAny_letOwnedTupleGo_enum heo fun h2 he2 hs2 => ?_
  replace hs2 : Heap.SameBut e h' h2 := hs2
  have q2 := gstep (h' := h2) (i := i) (old := old) (tk := tk + 1) q1 gv_nodict hB hT neL heo rfl ⟨_, rfl, fun q t z => by simp at z⟩ hst fun b o hb _ e' => (hs2.2 b hb).trans e'
  have ht2 : h2.IsTuple s.heap.objs.size #[.int i tk, .str ⟨#[c']⟩ u] := ⟨_, (hs2.2 _ (Nat.ne_of_gt heL)).trans hTu, rfl, _, rfl⟩
  have hi2 : h2.IsStrIter it "str_ascii_iterator" (S l) t (i + 1) := by
    obtain ⟨o, e', r⟩ := hst
    exact ⟨o, (hs2.2 _ (Ne.symm hne)).trans e', r⟩
  show wpAny _ A' (assign (.Tuple [.Name (Str.ofString "pos") _, .Name (Str.ofString "ch") _] 0 _) env (.ref s.heap.objs.size)) _ _ _
  refine wpAny_assign_Tuple hh ht2 rfl rfl fun h3 ext => ?_
  have up : ∀ b o, h2.get? b = some o → h3.get? b = some o := fun b o e' => ext b o (Nat.ne_of_lt (Heap.lt_size e')) e'
  have k2 : Kp G { s with heap := h2, toks := tk + 1 } { s with heap := h3, toks := tk + 1 } := Kp.of_keeps G (s := { s with heap := h2, toks := tk + 1 }) (tk + 1) up
  have q3 := q2.keeps k2
  show wpAny _ A' (holding [.str ⟨#[c']⟩ u] (assign (.Name (Str.ofString "pos") _) env (.int i tk)) >>= fun _ => assignInOrder [assign (.Name (Str.ofString "ch") _) env] [.str ⟨#[c']⟩ u]) _ _ _
  refine wpAny_bind (wpAny_holding (wpAny_assign_Name (storeVar (C := GC A' env n) q3 (.inl rfl) (x := Str.ofString "pos") (o := .d (.int i)) (V' := GV l i esc (ch.map fun c => .d (.str (S c)))) (.tail .head) (.int _ _) fun s4 q4 keep4 _ => ?_)))
  show wpAny _ A' (holding [] (assign (.Name (Str.ofString "ch") _) env (.str ⟨#[c']⟩ u)) >>= fun _ => assignInOrder [] []) _ _ _
  refine wpAny_bind (wpAny_holding (wpAny_assign_Name (storeVar (C := GC A' env n) q4 (.inl rfl) (x := Str.ofString "ch") (o := .d (.str (S [c']))) (V' := GV l i esc (some (.d (.str (S [c']))))) (.tail (.tail (.tail .head))) (.str _ _) fun s5 q5 keep5 _ => wpAny_pure ?_)))
  have keepL : ∀ {s s' : Shared}, (∃ a, (a = env.locals ∨ ∃ y, (y, a) ∈ env.cells) ∧ Heap.SameBut a s.heap s'.heap) → ∀ a ∈ [e, it], ∀ o, s.heap.get? a = some o → s'.heap.get? a = some o := by
    rintro s s' ⟨a', ha', hsb⟩ a ha o eo
    have : a' = env.locals := by
      rcases ha' with h | ⟨y, hy⟩
      · exact h
      · rw [X.cells] at hy; cases hy
    subst this
    exact (hsb.2 a (neL a ha)).trans eo
  have fin : ∀ a ∈ [e, it], ∀ o, h2.get? a = some o → s5.heap.get? a = some o := fun a ha o eo => keepL keep5 a ha o (keepL keep4 a ha o (up a o eo))
  refine ⟨q5, ⟨.str ⟨#[c']⟩ u, ?_⟩, ?_, x.s0⟩
  · have : (((i + 1 : Nat) : Int)) = (i : Int) + 1 := by push_cast; rfl
    rw [this]
    exact fin e (.head _) _ he2
  · obtain ⟨o, e', r⟩ := hi2
    exact ⟨o, fin it (.tail _ (.head _)) _ e', r⟩
end
end
section
section
variable {G : TopC} {A A' : Around} {env : Env} {n : Nat} {l : List Nat} {e it : Addr} {w : Value} {t : Tok} {its : List PyData}

theorem readsAll2 {h : Heap} {vs : List Value} {i : Int} {x : Str} {as : List Addr} (r : ReadsAll h vs [.int i, .str x] as) : as = [] := by
  cases r with
  | cons r1 r2 =>
    cases r1
    cases r2 with
    | cons r3 r4 => cases r3; cases r4; rfl
theorem reads_itD {h : Heap} {v : Value} {d : Int × List Nat} {as : List Addr} (r : Reads h v (itD d) as) : as = [] := by
  cases r with
  | tuple h1 h2 h3 r => exact readsAll2 r
theorem GS.keeps {s₀ s s' : Shared} {i : Nat} {pos : Int} {esc : Bool} {ch : Option VV} (x : GS G A' env n l e it w s₀ s i pos esc ch) (k : Kp G s s') : GS G A' env n l e it w s₀ s' i pos esc ch := by
  obtain ⟨old, he⟩ := x.en
  obtain ⟨oi, ei, ci, di⟩ := id x.si
  exact ⟨x.fs.keeps k, ⟨old, rec_sim k.heap (by intro z; cases z) ⟨_, rfl⟩ he⟩, ⟨oi, rec_sim k.heap (by rw [ci]; intro z; cases z) ⟨_, di⟩ ei, ci, di⟩, x.s0⟩

noncomputable abbrev GSeg (G : TopC) (A : Around) (its : List PyData) (pv : List Addr) := Seg (model G.prog G.w) A.in1 (Rgen G pv) (Ygen G A its pv)

theorem gen_yield (X : GEnv env) {c : Code} {fs : List Frame} {K : Flow → Sem Fin} {H : Value → Sem Fin} {gd : Bool → Bool} {lv : List Value → List Value} {m : Nat} {x : Expr} {yp p : Pos} {d : Int × List Nat} {s₀ s : Shared} {i : Nat} {pos : Int} {esc : Bool} {ch : Option VV}
    (hA : A.in1.over c fs = A') (hF : ∀ l, A.frames = some l → A'.frames = some (env :: l)) (hT : ∀ a ∈ [env.locals, e, it], G.hT.get? a = none) (hfs : splitAtGen fs = none) (hgd : gd false = false) (hfg : fs.any Frame.guarded = false)
    (q : GS G A' env n l e it w s₀ s i pos esc ch) (ev : Ev G (Cx.wa (GC A' env n) []) (GV l pos esc ch) x (itD d)) (hd : its[its.length - 1 - m]? = some (itD d))
    (next : ∀ s'', GS G A' env n l e it w s'' s'' i pos esc none → GSeg G A its [env.locals, e, it] m s'' c (K .next) fs s'') :
    GSeg G A its [env.locals, e, it] (m + 1) s₀ c ((exec (.Expr (.Yield (some x) yp) p) env).wrap K H gd lv) fs s := by
  refine seg_Expr_Yield hfs hgd hfg ?_ X.co (by simp [interactive, X.kind])
  rw [hA]
  refine ev s _ _ q.fs.st fun v s' k1 r => ?_
  intro kap hk
  have q' := q.keeps k1
  obtain ⟨as, r, _⟩ := r
  have := reads_itD r
  subst this
  exact ⟨q'.rel, ⟨_, hd, r⟩, fun s'' kA ok => hk .none s'' (next s'' (q'.later X hF hT kA ok))⟩

/-- the end of a text's iterator, and what its record is then -/
theorem enum_end {A1 : Around} {E : Value → Shared → Prop} {s : Shared} {x : Str} {i : Nat} {ie : Int} {old : Value} {Q : Option Value → Shared → Prop} (hh : A1.handled = none) (he : IsEnum s.heap e it ie old) (hit : s.heap.IsStrIter it "str_ascii_iterator" x t i) (hx : x.cps[i]? = none)
    (hQ : ∀ h', Heap.ExtBut it s.heap h' → (∃ o, h'.get? it = some o ∧ o.cls = .type "str_ascii_iterator" ∧ o.data = .fields #[.none, .int i 0]) → Q none { s with heap := h' }) : wpAny (model G.prog G.w) A1 (pyNext (.ref e)) Q E s := by
  have hT : s.TypeIs (.ref e) "enumerate" := ⟨_, he, rfl⟩
  unfold pyNext
  refine wpAny_bind (wpAny_attempt (wpAny_callSpecial?_slot (name := Str.ofString "__next__") hT F.slot_enumerate_next
    (wpAny_call_entry F.slot_enumerate_next hT F.entry_enumerate_next ?_ (F.args_enumerate_next_1 _))))
  show wpAny _ _ (field (.ref e) 2 >>= _) _ _ _
  refine wpAny_bind (wpAny_field he rfl (x := .ref it) rfl ?_)
  obtain ⟨o, ho, hc, hd⟩ := id hit
  unfold Builtin.SmallTypes.nextOf
  refine wpAny_bind (wpAny_bind (wpAny_callSpecial?_slot (name := Str.ofString "__next__") hit.typeIs F.slot_str_ascii_iterator_next
    (wpAny_call_entry F.slot_str_ascii_iterator_next hit.typeIs F.entry_str_ascii_iterator_next ?_ (F.args_str_ascii_iterator_next_1 _))))
  show wpAny _ _ (field (.ref it) 0 >>= _) _ _ s
  refine wpAny_bind (wpAny_field ho hd (x := .str x t) rfl ?_)
  show wpAny _ _ (field (.ref it) 1 >>= _) _ _ s
  refine wpAny_bind (wpAny_field ho hd (x := .int i 0) rfl ?_)
  simp only [Int.toNat_natCast, hx]
  refine wpAny_bind (wpAny_rule (wpAny_bind (wpAny_setField ho hd (by simp) (wpAny_bind (wpAny_letGo ?_)))))
  show wpAny _ _ (newExc (.type "StopIteration") [] >>= _) _ _ _
  refine wpAny_bind ?_
  simp only [newExc, newTuple]
  refine wpAny_bind (wpAny_newObj_type ?_ (by size_fits))
  refine wpAny_bind (m := firstArgMember _ _) (wpAny_of_eq (a := Value.none) (by first | rfl | (simp only [firstArgMember]; rfl)) ?_)
  refine wpAny_newObj_type ?_ (by size_fits)
  simp only [raiseNew]
  refine wpAny_bind (wpAny_handled ?_)
  first | rw [show A1.in1.in1.handled = none from hh] | rw [show A1.in1.handled = none from hh] | rw [hh]
  refine wpAny_bind (wpAny_pure (wpAny_throw ?_))
  refine wpAny_bind (wpAny_isInstance (T := "StopIteration") (b := true) ⟨_, Heap.get?_push_size _ rfl, rfl⟩ isSubtype_stop ?_)
  refine wpAny_pure (hQ _ (((Heap.SameBut.update ..).extBut.push _).push _) ⟨_, Heap.get?_push_of_some _ (Heap.get?_push_of_some _ (Heap.get?_update_self _ ho (Obj.isFreed_of_fields (Obj.data_mapFields hd _)))), (Obj.cls_mapFields ..).trans hc, ?_⟩)
  rw [Obj.data_mapFields hd]; simp
end
end
section
section
variable {G : TopC} {A A' : Around} {env : Env} {n : Nat} {l : List Nat} {e it : Addr} {w : Value} {t : Tok} {its : List PyData}

theorem hitS {d : Int × List Nat} {r : List (Int × List Nat)} (hle : r.length + 1 ≤ its.length) (h : (d :: r).map itD = its.drop (its.length - (r.length + 1))) : its[its.length - 1 - r.length]? = some (itD d) ∧ r.map itD = its.drop (its.length - r.length) := by
  have h1 : its.length - 1 - r.length = its.length - (r.length + 1) := by omega
  have h2 : its.length - r.length = its.length - (r.length + 1) + 1 := by omega
  refine ⟨?_, ?_⟩
  · rw [h1]
    have := congrArg List.head? h
    rw [List.head?_drop] at this
    exact this.symm
  · rw [h2, ← List.drop_drop, ← h]; rfl

theorem gassign (X : GEnv env) (neL : ∀ a ∈ [e, it], a ≠ env.locals) {b : Bool} {px cp p : Pos} {k : Nat} {E : Value → Shared → Prop} {s₀ s : Shared} {i : Nat} {pos : Int} {esc : Bool} {ch : Option VV} (x : GS G A' env n l e it w s₀ s i pos esc ch) :
    wpAny (model G.prog G.w) A' (exec (.Assign [.Name (Str.ofString "escape") px] (.Constant (.bool b) k cp) p) env) (fun f s' => f = .next ∧ GS G A' env n l e it w s₀ s' i pos b ch) E s := by
  refine wpAny_Assign_Name (ev_bool (G := G) (C := Cx.wa (GC A' env n) []) (V := GV l pos esc ch) s _ E x.fs.st fun v s1 k1 r => ?_) rfl
  have x1 := x.keeps k1
  refine storeVar (C := GC A' env n) x1.fs (.inl rfl) (x := Str.ofString "escape") (o := .d (.bool b)) (V' := GV l pos b ch) (.tail (.tail .head)) r fun s' q' keep _ => ⟨rfl, q', ?_, ?_, x.s0⟩
  all_goals
    obtain ⟨a', ha', hsb⟩ := keep
    have hL : a' = env.locals := by
      rcases ha' with h | ⟨y, hy⟩
      · exact h
      · rw [show (GC A' env n).own = [] from X.cells] at hy; cases hy
    subst hL
  · obtain ⟨old, he⟩ := x1.en
    exact ⟨old, (hsb.2 e (neL e (.head _))).trans he⟩
  · obtain ⟨o, eo, r⟩ := x1.si
    exact ⟨o, (hsb.2 it (neL it (.tail _ (.head _)))).trans eo, r⟩
theorem gen_loop (X : GEnv env) {kr : Result → Sem Fin} {lv : List Value} {p : Pos} {c0 : Code} (hne : e ≠ it) (hT : ∀ a ∈ [env.locals, e, it], G.hT.get? a = none) (neL : ∀ a ∈ [e, it], a ≠ env.locals) (hh : A'.handled = none)
    (hF : ∀ l, A.frames = some l → A'.frames = some (env :: l)) (hA : A.in1.over (.forLoop gTgt (.ref e) gFb [] env) [.ret kr none false lv c0 p []] = A')
    (after : ∀ w s₀ s i pos esc ch, GS G A' env n l e it w s₀ s i pos esc ch → (gIt esc pos i []).length ≤ its.length → (gIt esc pos i []).map itD = its.drop (its.length - (gIt esc pos i []).length) →
      GSeg G A its [env.locals, e, it] (gIt esc pos i []).length s₀ c0 (kr (.ok .next)) [] s) :
    ∀ (rest : List Nat) (i : Nat) (pos : Int) (esc : Bool) (ch : Option (List Nat)) (s₀ s : Shared), GS G A' env n l e it (.str (S l) t) s₀ s i pos esc (ch.map fun c => .d (.str (S c))) → i ≤ l.length → l.drop i = rest →
      (gIt esc pos i rest).length ≤ its.length → (gIt esc pos i rest).map itD = its.drop (its.length - (gIt esc pos i rest).length) →
      GSeg G A its [env.locals, e, it] (gIt esc pos i rest).length s₀ (.forLoop gTgt (.ref e) gFb [] env) ((model G.prog G.w).den (.forLoop gTgt (.ref e) gFb [] env)) [.ret kr none false lv c0 p []] s := by
  have hT2 : ∀ a ∈ [e, it], G.hT.get? a = none := fun a ha => hT a (.tail _ ha)
  have hB : ∀ s₀, ∀ a ∈ [e, it], (GBase s₀ [env.locals, e, it]).h.get? a = none := fun s₀ a ha => PySem.W.hideAll_none _ (.tail _ ha)
  intro rest
  induction rest with
  | nil =>
    intro i pos esc ch s₀ s q hi hd hle hits
    obtain ⟨old, he⟩ := q.en
    have hend : i = l.length := by
      have := congrArg List.length hd
      rw [List.length_drop] at this
      simp at this; omega
    refine seg_forLoop ?_
    rw [hA]
    refine enum_end hh he q.si (by simp [S, hend]) fun h' ext hit' => ?_
    have q1 := gstep (tk := s.toks) (i := i) (old := old) q.fs gv_nodict (hB s₀) hT2 neL he rfl ⟨_, rfl, fun q t z => by simp at z⟩ q.si (fun b o _ hb e' => ext b o hb e')
    have x1 : GS G A' env n l e it .none s₀ { s with heap := h' } i pos esc (ch.map fun c => .d (.str (S c))) := ⟨q1, ⟨old, ext e _ hne he⟩, hit', q.s0⟩
    refine seg_again rfl ?_
    show GSeg G A its [env.locals, e, it] _ s₀ (.block [] env) (leafOf (.ok .next)) [.ret kr none false lv c0 p []] _
    exact seg_leaf (.ok .next) (after _ _ _ _ _ _ _ x1 hle hits)
  | cons c rest ih =>
    intro i pos esc ch s₀ s q hi hd hle hits
    have hlt : i < l.length := by
      rcases Nat.lt_or_ge i l.length with h | h
      · exact h
      · rw [List.drop_of_length_le h] at hd; cases hd
    have hc : l[i]? = some c := by
      rw [List.drop_eq_getElem_cons hlt] at hd
      rw [List.getElem?_eq_getElem hlt]
      exact congrArg some (by injection hd)
    have hd' : l.drop (i + 1) = rest := by
      rw [List.drop_eq_getElem_cons hlt] at hd
      injection hd
    refine seg_forLoop ?_
    rw [hA]
    refine wpAny_mono (gnext X hh hne hT2 neL q hc (E := fun _ _ => False)) (fun r s1 h1 => ?_) fun _ _ f => f
    cases r with
    | none => exact h1.elim
    | some v =>
      refine wpAny_mono h1 (fun _ s2 h2 => wpAny_mono h2 (fun _ s3 x3 => ?_) fun _ _ f => f) fun _ _ f => f
      have eb : execs gFb env = execs [.If (.Name (Str.ofString "escape") _) [.Expr (.Yield (some _) _) _, .Assign [.Name (Str.ofString "escape") _] (.Constant (.bool false) _ _) _] [.If _ [.Assign [.Name (Str.ofString "escape") _] (.Constant (.bool true) _ _) _] [.Expr (.Yield (some _) _) _] _] _] env := rfl
      rw [eb]
      refine seg_execs_cons (seg_If ?_)
      rw [hA]
      have htr : ∀ p, Tr G (Cx.wa (GC A' env n) []) (GV l i esc (some (.d (.str (S [c]))))) (.Name (Str.ofString "escape") p) esc := fun p => tr_ev (ev_name (.tail (.tail .head))) (by intro _ _; rfl)
      refine htr _ s3 _ _ x3.fs.st fun s4 k4 => ?_
      have x4 := x3.keeps k4
      cases esc with
      | true =>
        rw [if_pos rfl]
        rw [show gIt true pos i (c :: rest) = ((i : Int), [92, c]) :: gIt false i (i + 1) rest from rfl] at hle hits ⊢
        obtain ⟨g1, g2⟩ := hitS hle hits
        refine seg_execs_cons ?_
        have hev : ∀ p1 p2 p3 p4 p5 k k2, Ev G (Cx.wa (GC A' env n) []) (GV l i true (some (.d (.str (S [c]))))) (.Tuple [.Name (Str.ofString "pos") p1, .BinOp (.Constant (.str (Str.ofString "\\")) k p2) .Add (.Name (Str.ofString "ch") p3) p4] k2 p5) (itD ((i : Int), [92, c])) := fun _ _ _ _ _ _ _ => ev_tuple (evL_cons (ev_name (.tail .head)) (evL_cons (ev_binop (evc c92) (ev_name (.tail (.tail (.tail .head)))) (bin_addT (a := [92]) (b := [c]) (by show 1 + 1 ≤ 1000000; decide))) evL_nil)) (by show 2 ≤ sizeLine; decide)
        refine gen_yield X hA hF hT rfl rfl rfl x4 (hev _ _ _ _ _ _ _) g1 fun s5 x5 => ?_
        refine seg_execs_cons (seg_wrap ?_)
        rw [hA]
        refine wpAny_mono (gassign X neL x5) (fun f s6 h6 => ?_) fun _ _ f => f
        obtain ⟨rfl, x6⟩ := h6
        refine seg_execs_nil (seg_again rfl (ih (i + 1) i false none _ s6 x6 hlt hd' (Nat.le_of_succ_le hle) g2))
      | false =>
        rw [if_neg (by decide)]
        refine seg_execs_cons (seg_If ?_)
        rw [hA]
        have htr2 : ∀ p1 p2 p3 k, Tr G (Cx.wa (GC A' env n) []) (GV l i false (some (.d (.str (S [c]))))) (.Compare (.Name (Str.ofString "ch") p1) [.Eq] [.Constant (.str (Str.ofString "\\")) k p2] p3) ([c] == [92]) := fun _ _ _ _ => tr_cmp (ev_name (.tail (.tail (.tail .head)))) (evc c92) cmp_eqT
        refine htr2 _ _ _ _ s4 _ _ x4.fs.st fun s5 k5 => ?_
        have x5 := x4.keeps k5
        rw [beq1]
        by_cases hc92 : c = 92
        · rw [if_pos (by simpa using hc92)]
          rw [show gIt false pos i (c :: rest) = gIt true i (i + 1) rest by show (if c = 92 then _ else _) = _; rw [if_pos hc92]] at hle hits ⊢
          refine seg_execs_cons (seg_wrap ?_)
          rw [hA]
          refine wpAny_mono (gassign X neL x5) (fun f s6 h6 => ?_) fun _ _ f => f
          obtain ⟨rfl, x6⟩ := h6
          exact seg_execs_nil (seg_again rfl (ih (i + 1) i true (some [c]) _ s6 x6 hlt hd' hle hits))
        · rw [if_neg (by simpa using hc92)]
          rw [show gIt false pos i (c :: rest) = ((i : Int), [c]) :: gIt false i (i + 1) rest by show (if c = 92 then _ else _) = _; rw [if_neg hc92]] at hle hits ⊢
          obtain ⟨g1, g2⟩ := hitS hle hits
          refine seg_execs_cons ?_
          have hev : ∀ p1 p2 p3 k, Ev G (Cx.wa (GC A' env n) []) (GV l i false (some (.d (.str (S [c]))))) (.Tuple [.Name (Str.ofString "pos") p1, .Name (Str.ofString "ch") p2] k p3) (itD ((i : Int), [c])) := fun _ _ _ _ => ev_tuple (evL_cons (ev_name (.tail .head)) (evL_cons (ev_name (.tail (.tail (.tail .head)))) evL_nil)) (by show 2 ≤ sizeLine; decide)
          refine gen_yield X hA hF hT rfl rfl rfl x5 (hev _ _ _ _) g1 fun s6 x6 => ?_
          exact seg_execs_nil (seg_again rfl (ih (i + 1) i false none _ s6 x6 hlt hd' (Nat.le_of_succ_le hle) g2))
end
end
section
section
variable {G : TopC} {A A' A2 : Around} {env : Env} {n : Nat} {l : List Nat} {e it : Addr} {w : Value} {t : Tok} {its : List PyData}

theorem GS.setA {s₀ s : Shared} {i : Nat} {pos : Int} {esc : Bool} {ch : Option VV} (x : GS G A' env n l e it w s₀ s i pos esc ch) (h : AOk n A2) (hf : A2.frames = A'.frames) : GS G A2 env n l e it w s₀ s i pos esc ch := by
  obtain ⟨fs, en, si, s0⟩ := x
  obtain ⟨fr, h1, h2⟩ := fs.st.ok.frames
  exact ⟨{ st := ⟨⟨fs.st.cx.kind, fs.st.cx.glob, fs.st.cx.blt, fs.st.cx.nodup, fs.st.cx.dbg, fs.st.cx.kinds⟩, h, ⟨fs.st.ok.g, fs.st.ok.top, fs.st.ok.tab, ⟨fr, hf.trans h1, h2⟩⟩, fs.st.vars, fs.st.bad⟩,
           base := fs.base, ownL := fs.ownL, ownC := fs.ownC, ns := fs.ns, cs := fs.cs, apart := fs.apart, gens := fs.gens, os := fs.os, accN := fs.accN, accB := fs.accB, acc := fs.acc, obad := fs.obad, own := ⟨fs.own.L, fs.own.c⟩, hT := fs.hT }, en, si, s0⟩

noncomputable abbrev gK0 : Flow → Sem Fin := fun f => .pure (.done (.ret (match f with | .ret v => v | _ => .none)))
theorem gen_after (X : GEnv env) {H : Value → Sem Fin} {body : List Stmt} (hT : ∀ a ∈ [env.locals, e, it], G.hT.get? a = none) (hA0 : AOk n (A.in1.over (.func body env) []))
    (hf : (A.in1.over (.func body env) []).frames = A'.frames) (hF : ∀ l, A.frames = some l → A'.frames = some (env :: l)) {s₀ s : Shared} {i : Nat} {pos : Int} {esc : Bool} {ch : Option VV} (q0 : GS G A' env n l e it w s₀ s i pos esc ch)
    (hle : (gIt esc pos i []).length ≤ its.length) (hits : (gIt esc pos i []).map itD = its.drop (its.length - (gIt esc pos i []).length)) :
    GSeg G A its [env.locals, e, it] (gIt esc pos i []).length s₀ (.func body env) ((execs gRest env).wrap gK0 H id id) [] s := by
  have q := q0.setA hA0 hf
  have hF0 : ∀ l, A.frames = some l → (A.in1.over (.func body env) []).frames = some (env :: l) := fun l h => hf.trans (hF l h)
  have fin : ∀ {s₀ s i pos esc ch}, GS G (A.in1.over (.func body env) []) env n l e it w s₀ s i pos esc ch → GSeg G A its [env.locals, e, it] 0 s₀ (.func body env) (gK0 .next) [] s := fun x =>
    seg_end (.ok (.ret .none)) ⟨rfl, rfl, x.rel⟩
  have eb : execs gRest env = execs [.If (.Name (Str.ofString "escape") _) [.Expr (.Yield (some _) _) _] [] _] env := rfl
  rw [eb]
  refine seg_execs_cons (seg_If ?_)
  have htr : ∀ p, Tr G (Cx.wa (GC (A.in1.over (.func body env) []) env n) []) (GV l pos esc ch) (.Name (Str.ofString "escape") p) esc := fun p => tr_ev (ev_name (.tail (.tail .head))) (by intro _ _; rfl)
  refine htr _ s _ _ q.fs.st fun s4 k4 => ?_
  have x4 := q.keeps k4
  cases esc with
  | true =>
    rw [if_pos rfl]
    obtain ⟨g1, g2⟩ := hitS (d := (pos, [92])) (r := []) hle hits
    refine seg_execs_cons ?_
    have hev : ∀ p1 p2 p3 k k2, Ev G (Cx.wa (GC (A.in1.over (.func body env) []) env n) []) (GV l pos true ch) (.Tuple [.Name (Str.ofString "pos") p1, .Constant (.str (Str.ofString "\\")) k p2] k2 p3) (itD (pos, [92])) := fun _ _ _ _ _ => ev_tuple (evL_cons (ev_name (.tail .head)) (evL_cons (evc c92) evL_nil)) (by show 2 ≤ sizeLine; decide)
    refine gen_yield X rfl hF0 hT rfl rfl rfl x4 (hev _ _ _ _ _) g1 fun s5 x5 => ?_
    exact seg_execs_nil (seg_execs_nil (fin x5))
  | false =>
    rw [if_neg (by decide)]
    exact seg_execs_nil (seg_execs_nil (fin x4))

theorem gfs0 (X : GEnv env) (hA : AOk n A') (hF : ∀ l, A.frames = some l → A'.frames = some (env :: l)) {pv : List Addr} (hpv : env.locals ∈ pv) (hT : ∀ a ∈ pv, G.hT.get? a = none) {s : Shared} {m : Str → Option Value} (hn2 : s.heap.Ns env.locals m)
    (h1 : ∃ t, m (Str.ofString "addr") = some (.str (S l) t)) (ok : Ok G A s) : FS G (GBase s pv) (GC A' env n) [some (.d (.str (S l))), none, none, none] [] s := by
  obtain ⟨o, es, ep, e, d, r⟩ := id hn2
  have nf : ∀ vs, o.data ≠ .fields vs := fun vs z => by rw [d] at z; cases z
  obtain ⟨fr, hfr, ff⟩ := ok.frames
  have hLs : G.hT.get? env.locals = none := hT _ hpv
  have no : ∀ {P : Prop} (x : Str) (c : Addr), (x, c) ∈ (GC A' env n).own → P := fun x c hc => by rw [show (GC A' env n).own = [] from X.cells] at hc; cases hc
  refine { st := ⟨⟨X.kind, X.glob, X.blt, (by decide +kernel : GN.Nodup), (by decide +kernel : ∀ x ∈ GN, (x == ("__debug__" : Str)) = false), fun x hx => .inl (X.kinds x hx)⟩, hA, ⟨ok.g, ok.top, ok.tab, ⟨env :: fr, hF fr hfr, (by rw [X.kind]; intro z; cases z), ⟨env.locals, o, X.frame, hLs, e, nf⟩, ff⟩⟩, fun x v hx => ?_, fun b hb => ?_⟩,
           base := fun a o _ e => ⟨o, PySem.W.of_hideAll _ e, .refl o⟩, ownL := PySem.W.hideAll_none _ hpv, ownC := fun x c h => no x c h, ns := ⟨_, hn2⟩, cs := fun x c h => no x c h,
           apart := by rw [show (GC A' env n).own = [] from X.cells]; exact .nil, gens := ⟨#[], by simp [GBase], by simp⟩, os := rfl, accN := .nil, accB := fun _ _ h => (nomatch h), acc := fun _ _ h => (nomatch h), obad := fun b hb => hb.elim,
           own := ⟨rfl, fun x c h => no x c h⟩, hT := fun b o e => PySem.W.hideAll_get _ (ok.top b o e) fun hm => by rw [hT b hm] at e; cases e }
  · cases hx with
    | head => obtain ⟨t, h1⟩ := h1; exact ⟨_, .inl ⟨X.kinds _ (.head _), m, hn2, h1⟩, .str _ _⟩
    | tail hx => cases hx with | tail hx => cases hx with | tail hx => cases hx with | tail hx => cases hx
  · rcases hb with rfl | hb
    · exact ⟨o, .of_data nf, e⟩
    · cases hb

theorem gen_start (X : GEnv env) (Bk : BltOk G) (hA : AOk (n + 1) A) (hL : G.hT.get? env.locals = none) (hl : ∀ c ∈ l, c < 128) {s : Shared} (ok : Ok G A s) {m : Str → Option Value} (hn : s.heap.Ns env.locals m) (hm : ∃ t, m (Str.ofString "addr") = some (.str (S l) t)) :
    GenState.Goes (model G.prog G.w) A.in1 (Rgen G [env.locals, s.heap.objs.size + 1, s.heap.objs.size]) (Ygen G A ((gIt false 0 0 l).map itD) [env.locals, s.heap.objs.size + 1, s.heap.objs.size]) (gIt false 0 0 l).length (.fresh (.func (pBody 2) env)) (.send .none) s := by
  have hLlt : env.locals < s.heap.objs.size := hn.lt
  have fresh : ∀ a, s.heap.objs.size ≤ a → s.heap.get? a = none := fun a ha => by
    cases e : s.heap.get? a with
    | none => rfl
    | some o => exact absurd (Heap.lt_size e) (Nat.not_lt.mpr ha)
  have hTf : ∀ a, s.heap.objs.size ≤ a → G.hT.get? a = none := fun a ha => by
    cases e : G.hT.get? a with
    | none => rfl
    | some o => have := ok.top a o e; rw [fresh a ha] at this; cases this
  have hT : ∀ a ∈ [env.locals, s.heap.objs.size + 1, s.heap.objs.size], G.hT.get? a = none := fun a ha => by
    rcases List.mem_cons.mp ha with rfl | ha
    · exact hL
    rcases List.mem_cons.mp ha with rfl | ha
    · exact hTf _ (Nat.le_succ _)
    · have : a = s.heap.objs.size := by simpa using ha
      exact this ▸ hTf _ (Nat.le_refl _)
  have neL : ∀ a ∈ [s.heap.objs.size + 1, s.heap.objs.size], a ≠ env.locals := fun a ha z => by
    rcases List.mem_cons.mp ha with rfl | ha
    · rw [← z] at hLlt; exact absurd hLlt (Nat.not_lt.mpr (Nat.le_succ _))
    · have : a = s.heap.objs.size := by simpa using ha
      rw [← z, this] at hLlt; exact Nat.lt_irrefl _ hLlt
  have hA0 : AOk n (A.in1.over (.func (pBody 2) env) []) := over0 hA
  have hF0 : ∀ l, A.frames = some l → (A.in1.over (.func (pBody 2) env) []).frames = some (env :: l) := fun l h => over0F h
  have F0 := gfs0 (n := n) X hA0 hF0 (.head _) hT hn hm ok
  refine ⟨rfl, seg_func ?_⟩
  have eb : execs (pBody 2) env = execs (.Assign [.Name (Str.ofString "pos") _] (.Constant (.int 0) _ _) _ :: .Assign [.Name (Str.ofString "escape") _] (.Constant (.bool false) _ _) _ :: .For gTgt (.Call (.Name (Str.ofString "enumerate") _) [.Name (Str.ofString "addr") _] [] _) gFb [] _ :: gRest) env := rfl
  rw [eb]
  have keepS : ∀ {s s' : Shared}, (∃ a, (a = env.locals ∨ ∃ y, (y, a) ∈ env.cells) ∧ Heap.SameBut a s.heap s'.heap) → s'.heap.objs.size = s.heap.objs.size := by
    rintro s s' ⟨a', _, hsb⟩; exact hsb.1
  refine seg_execs_cons (seg_wrap ?_)
  refine wpAny_Assign_Name (wpAny_Constant_int ?_) rfl
  have F1 := F0.keeps (Kp.of_toks G (s := s) (s.toks + 1))
  refine storeVar (C := GC (A.in1.over (.func (pBody 2) env) []) env n) F1 (.inl rfl) (x := Str.ofString "pos") (o := .d (.int 0)) (V' := [some (.d (.str (S l))), some (.d (.int 0)), none, none]) (.tail .head) (.int _ _) fun s2 F2 keep2 _ => ?_
  refine seg_execs_cons (seg_wrap ?_)
  refine wpAny_Assign_Name (wpAny_Constant_bool ?_) rfl
  refine storeVar (C := GC (A.in1.over (.func (pBody 2) env) []) env n) F2 (.inl rfl) (x := Str.ofString "escape") (o := .d (.bool false)) (V' := GV l 0 false none) (.tail (.tail .head)) (.bool _) fun s3 F3 keep3 _ => ?_
  have hsz : s3.heap.objs.size = s.heap.objs.size := (keepS keep3).trans (keepS keep2)
  refine seg_execs_cons (seg_For ?_ (by intro _; rfl))
  refine Call_ (bltName F3.st X.enum (by decide) Bk.enumerate.1 Bk.enumerate.2 ?_)
  refine PyProof.Rows.callWith_type rfl (evalArgs_plain (spliced_cons (wpAny_Name (loadVar F3.st (x := Str.ofString "addr") (o := .d (.str (S l))) .head fun v hv => ?_) (by decide)) ))
  obtain ⟨t, rfl⟩ := Rd.str_inv hv
  refine spliced_nil (call_enumerate_str fun h' he hi hz hk => wpAny_pyIter_enum he ?_)
  rw [hsz] at he hi ⊢
  have hst : strIterType (S l) = "str_ascii_iterator" := by
    unfold strIterType
    rw [if_pos]
    rw [Array.all_eq_true]
    intro i hi
    have hi2 : i < l.length := by simpa [S] using hi
    have := hl _ (List.getElem_mem hi2)
    simpa [S] using this
  rw [hst] at hi
  intro p
  have k4 : Kp G s3 { s3 with heap := h' } := Kp.of_keeps G s3.toks hk
  have F4 := F3.keeps k4
  refine gen_loop (A' := A.in1.over (.forLoop gTgt (.ref (s.heap.objs.size + 1)) gFb [] env) [.ret _ none false [] (.func (pBody 2) env) p []]) (n := n) (t := t) X (Nat.succ_ne_self _) hT neL ?_ ?_ rfl ?_ l 0 0 false none s _ ?_ (Nat.zero_le _) rfl ?_ ?_
  · exact (over1 hA).1
  · exact fun l h => over1F h
  · intro w s₀ s i pos esc ch q hle hits
    exact gen_after X hT hA0 (by
      obtain ⟨fr, hfr, _⟩ := ok.frames
      rw [over0F hfr, over1F hfr]) (fun l h => over1F h) q hle hits
  · have x0 : GS G (A.in1.over (.func (pBody 2) env) []) env n l (s.heap.objs.size + 1) s.heap.objs.size (.str (S l) t) s { s3 with heap := h' } 0 0 false none := ⟨F4, ⟨.none, he⟩, hi, fun a ha o eo => by
      rcases List.mem_cons.mp ha with rfl | ha
      · rw [fresh _ (Nat.le_succ _)] at eo; cases eo
      · have : a = s.heap.objs.size := by simpa using ha
        rw [this, fresh _ (Nat.le_refl _)] at eo; cases eo⟩
    exact x0.setA (over1 hA) (by
      obtain ⟨fr, hfr, _⟩ := ok.frames
      rw [over0F hfr, over1F hfr])
  · rw [List.length_map]; exact Nat.le_refl _
  · rw [List.length_map, Nat.sub_self]; rfl
end
end
section
section
variable {G : TopC} {C : Cx} {V : List (Option VV)} {acc : Acc} {its : List PyData} {I : Addr} {g : Nat}

/-- a generator that waits, n things before its end -/
structure GenAt (G : TopC) (A : Around) (its : List PyData) (I : Addr) (g : Nat) (bad : Addr → Prop) (B : Base) (n : Nat) (s : Shared) : Prop where
  gen : s.heap.IsGen I g
  base : B.gens.size ≤ g
  nbad : ¬ bad I
  wait : ∃ gs pv, s.gens[g]? = some gs ∧ gs.bare = true ∧ (∀ a ∈ pv, a ≠ I ∧ ¬ bad a ∧ (∀ o, Plain o → B.h.get? a ≠ some o) ∧ ∃ o, s.heap.get? a = some o ∧ Fo o) ∧
    ∀ s'', KpA pv s.heap s''.heap → Ok G A s'' → ∃ pv', (∀ a ∈ pv, a ∈ pv') ∧ (∀ a ∈ pv', a ∈ pv ∨ s''.heap.objs.size ≤ a) ∧ gs.Goes (model G.prog G.w) A.in1 (Rgen G pv') (Ygen G A its pv') n (.send .none) s''

theorem gens_set {B gl more : Array GenState} {g : Nat} {x y : GenState} (hb : B.size ≤ g) (hl : g < (B ++ gl).size) (bg : ∀ z ∈ gl, z.bare = true) (bm : ∀ z ∈ more, z.bare = true) (by_ : y.bare = true) :
    ∃ gs : Array GenState, (((B ++ gl).setIfInBounds g x ++ more).setIfInBounds g y) = B ++ gs ∧ ∀ z ∈ gs, z.bare = true := by
  have h1 : (B ++ gl).setIfInBounds g x = B ++ gl.setIfInBounds (g - B.size) x := by
    rw [Array.setIfInBounds_append, if_neg (Nat.not_lt.mpr hb)]
  have h2 : (B ++ gl.setIfInBounds (g - B.size) x ++ more).setIfInBounds g y = B ++ (gl.setIfInBounds (g - B.size) x ++ more).setIfInBounds (g - B.size) y := by
    rw [Array.append_assoc, Array.setIfInBounds_append, if_neg (Nat.not_lt.mpr hb)]
  have hlt : g - B.size < gl.size := by rw [Array.size_append] at hl; omega
  refine ⟨_, by rw [h1, h2], fun z hz => ?_⟩
  have h3 : (gl.setIfInBounds (g - B.size) x ++ more).setIfInBounds (g - B.size) y = gl.setIfInBounds (g - B.size) y ++ more := by
    rw [Array.setIfInBounds_append, if_pos (by simpa using hlt)]
    congr 1
    simp
  rw [h3] at hz
  rcases Array.mem_append.mp hz with h | h
  · rcases Array.mem_or_eq_of_mem_setIfInBounds h with h | rfl
    · exact bg _ h
    · exact by_
  · exact bm _ h

theorem gen_pyNext {B : Base} {s : Shared} {n : Nat} {E : Value → Shared → Prop} (q : FS G B C V acc s) (nv : NoDictV C V) (na : NoDictA acc) (ga : GenAt G C.A its I g (C.wa acc).bad B n s) :
    wpAny (model G.prog G.w) C.A (pyNext (.ref I)) (fun r s1 => FS G B C V acc s1 ∧ match r with
      | none => n = 0
      | some v => ∃ m, n = m + 1 ∧ GenAt G C.A its I g (C.wa acc).bad B m s1 ∧ ∃ d, its[its.length - 1 - m]? = some d ∧ Reads s1.heap v d []) E s := by
  obtain ⟨gs, pv, hgs, hbare, hpv, wait⟩ := ga.wait
  have lt : ∀ {b o}, s.heap.get? b = some o → b < s.heap.objs.size := fun e => Heap.lt_size e
  obtain ⟨pv', hsub, hnew, goes⟩ := wait (s.setGen g .running) (fun a _ o e => ⟨o, e, .refl o⟩) ⟨q.st.ok.g, q.st.ok.top, q.st.ok.tab, q.st.ok.frames⟩
  have hglt : g < s.gens.size := (Array.getElem?_eq_some_iff.mp hgs).1
  have hIo : ∃ o, s.heap.get? I = some o ∧ o.cls = .type "generator" ∧ ∃ vs, o.data = .fields vs := by
    obtain ⟨o, nm, qn, e, c, d, _⟩ := ga.gen; exact ⟨o, e, c, _, d⟩
  have hf : ∀ a ∈ pv', a ≠ I ∧ ¬ (C.wa acc).bad a ∧ (∀ o, Plain o → B.h.get? a ≠ some o) ∧ ∀ o, s.heap.get? a = some o → Fo o := fun a ha => by
    rcases hnew a ha with h | h
    · obtain ⟨h0, h1, h2, o, h3, h4⟩ := hpv a h
      exact ⟨h0, h1, h2, fun o' e => by rw [h3] at e; cases e; exact h4⟩
    · have hn : s.heap.get? a = none := by
        cases e : s.heap.get? a with
        | none => rfl
        | some o => exact absurd (lt e) (Nat.not_lt.mpr h)
      refine ⟨fun z => ?_, fun hb => ?_, fun o p e => ?_, fun o e => by rw [hn] at e; cases e⟩
      · obtain ⟨o, e, _⟩ := hIo; rw [← z, hn] at e; cases e
      · obtain ⟨o, _, e⟩ := q.st.bad a hb; rw [hn] at e; cases e
      · obtain ⟨o', e', _⟩ := q.base a o p e; rw [hn] at e'; cases e'
  have step : ∀ {s₁ : Shared} {gs' : GenState}, gs'.bare = true → GRel G pv' (s.setGen g .running) s₁ → FS G B C V acc (s₁.setGen g gs') := by
    intro s₁ gs' hb r
    refine q.priv nv na pv' (fun a ha => (hf a ha).2) r.heap r.top r.tab ?_ r.os r.fr
    obtain ⟨gl, e1, b1⟩ := q.gens
    obtain ⟨more, e2, b2⟩ := r.gens
    have e3 : (s₁.setGen g gs').gens = ((B.gens ++ gl).setIfInBounds g .running ++ more).setIfInBounds g gs' := by
      show s₁.gens.setIfInBounds g gs' = _
      rw [e2]
      show (s.gens.setIfInBounds g .running ++ more).setIfInBounds g gs' = _
      rw [e1]
    rw [e3]
    exact gens_set ga.base (by rw [← e1]; exact hglt) b1 b2 hb
  have nl : s.heap.NoLimit := q.st.ok.g.nolimit.keeps fun b o e => q.st.ok.top b o e
  refine pyNext_genQ (Y := Ygen G C.A its pv') (P := fun n s₀ s₁ => n = 0 ∧ GRel G pv' s₀ s₁) (gs := gs) (n := n) q.st.a.1 nl (Nat.lt_of_le_of_lt (Nat.le_add_right _ _) q.st.a.2.1) ga.gen hgs goes (fun v s₁ gs' hb hy => ?_) (fun s₁ hp h' hk => ?_)
  · obtain ⟨r, ⟨d, hd, rd⟩, later⟩ := hy
    have q1 := step hb r
    refine ⟨q1, ?_⟩
    cases n with
    | zero => exact (later s₁ (fun a _ o e => ⟨o, e, .refl o⟩) ⟨q1.st.ok.g, q1.st.ok.top, q1.st.ok.tab, q1.st.ok.frames⟩).elim
    | succ m =>
      have hg1 : g < s₁.gens.size := by
        obtain ⟨more, e2, _⟩ := r.gens
        rw [e2, Array.size_append]
        show g < (s.gens.setIfInBounds g .running).size + _
        rw [Array.size_setIfInBounds]; omega
      refine ⟨m, rfl, ⟨?_, ga.base, ga.nbad, gs', pv', ?_, hb, fun a ha => ⟨(hf a ha).1, (hf a ha).2.1, (hf a ha).2.2.1, r.fo a ha⟩, fun s'' k ok => ⟨pv', fun a h => h, fun a h => .inl h, later s'' k ok⟩⟩, d, by simpa using hd, rd⟩
      · obtain ⟨o, nm, qn, e, c, dd, sl⟩ := ga.gen
        obtain ⟨o', e', s1⟩ := r.heap I o (.of_cls (by rw [c]; intro z; cases z)) (PySem.W.hideAll_get _ e fun hm => (hf I hm).1 rfl)
        have := s1.2.2.2 ⟨_, dd⟩
        subst this
        exact ⟨_, nm, qn, e', c, dd, sl⟩
      · show (s₁.gens.setIfInBounds g gs')[g]? = some gs'
        simp [hg1]
  · obtain ⟨hn, r⟩ := hp
    have q1 := step (gs' := .finished) rfl r
    exact ⟨q1.keeps (Kp.of_keeps G (s := s₁.setGen g .finished) _ hk), hn⟩

theorem GenAt.keep {A : Around} {bad : Addr → Prop} {B : Base} {n : Nat} {s s' : Shared} {own : List Addr} (ga : GenAt G A its I g bad B n s) (ho : ∀ a ∈ own, bad a) (k : KpH (PySem.W.hideAll s.heap own) s'.heap) (hg : s'.gens[g]? = s.gens[g]?) : GenAt G A its I g bad B n s' := by
  obtain ⟨gs, pv, hgs, hb, hpv, wait⟩ := ga.wait
  have key : ∀ a o, ¬ bad a → Plain o → s.heap.get? a = some o → ∃ o', s'.heap.get? a = some o' ∧ Sim o o' := fun a o hb p e => k a o p (PySem.W.hideAll_get _ e fun hm => hb (ho a hm))
  refine ⟨?_, ga.base, ga.nbad, gs, pv, hg.trans hgs, hb, fun a ha => ?_, fun s'' kA ok => ?_⟩
  · obtain ⟨o, nm, qn, e, c, dd, sl⟩ := ga.gen
    obtain ⟨o', e', s1⟩ := key I o ga.nbad (.of_cls (by rw [c]; intro z; cases z)) e
    have := s1.2.2.2 ⟨_, dd⟩
    subst this
    exact ⟨_, nm, qn, e', c, dd, sl⟩
  · obtain ⟨h0, h1, h2, o, h3, h4⟩ := hpv a ha
    obtain ⟨o', e', s1⟩ := key a o h1 h4.1 h3
    exact ⟨h0, h1, h2, o', e', h4.1.sim s1, fun vs n z => h4.2.1 vs n (s1.2.2.1 ▸ z), fun v z => h4.2.2 v (s1.2.2.1 ▸ z)⟩
  · refine wait s'' (fun a ha o e => ?_) ok
    obtain ⟨h0, h1, h2, o1, h3, h4⟩ := hpv a ha
    rw [h3] at e; cases e
    obtain ⟨o', e', s1⟩ := key a o h1 h4.1 h3
    obtain ⟨o2, e2, s2⟩ := kA a ha o' e'
    exact ⟨o2, e2, s1.trans s2⟩

/-- an expression that makes the generator over the text l -/
noncomputable def GenEv (G : TopC) (C : Cx) (V : List (Option VV)) (e : Expr) (l : List Nat) : Prop :=
  ∀ (s : Shared) (Q E : Value → Shared → Prop), St G C V s → (∀ (I : Addr) (g : Nat) (env : Env) (m : Str → Option Value) s', Kp G s s' → s'.heap.IsGen I g → s.gens.size ≤ g → s'.gens[g]? = some (.fresh (.func (pBody 2) env)) → GEnv env → G.hT.get? env.locals = none →
      s'.heap.Ns env.locals m → (∃ t, m (Str.ofString "addr") = some (.str (S l) t)) → (∀ o, Plain o → s.heap.get? env.locals ≠ some o) → ¬ C.bad env.locals → env.locals ≠ I → ¬ C.bad I → Q (.ref I) s') →
    wpAny (model G.prog G.w) C.A (eval e C.env) (fun x s1 => wpAny (model G.prog G.w) C.A (pyIter x) Q E s1) E s

theorem ex1_forGen {x y : Str} {px py tp pos : Pos} {k0 : Nat} {e : Expr} {l : List Nat} {body : List Stmt} {P : Post} (Bk : BltOk G) (hn : 1 ≤ C.n) (hl : ∀ c ∈ l, c < 128) (itv : GenEv G (C.wa acc) V e l) (J : Nat → List (Option VV) → Acc → Prop) (h0 : J 0 V acc)
    (hacc : ∀ i V1 acc1, J i V1 acc1 → acc1.map (·.1) = acc.map (·.1) ∧ NoDictV C V1 ∧ NoDictA acc1)
    (turn : ∀ i p c V1 acc1, (gIt false 0 0 l)[i]? = some (p, c) → J i V1 acc1 → ∃ V2 V3, SetIx C.N V1 x (.d (.int p)) V2 ∧ SetIx C.N V2 y (.d (.str (S c))) V3 ∧
      Ex G C V3 acc1 body (fun o V' acc' => match o with | .next => J (i + 1) V' acc' | .brk => P .next V' acc' | .ret r => P (.ret r) V' acc'))
    (done : ∀ V' acc', J (gIt false 0 0 l).length V' acc' → P .next V' acc') (ho : C.own = C.env.cells := by rfl)
    (hs : ∀ env y, foldedSetIterable e env y = pure y := by intro _ _; rfl) : Ex1 G C V acc (.For (.Tuple [.Name x px, .Name y py] k0 tp) e body [] pos) P := fun B s Q E q k => by
  refine wpAny_For (itv s _ E q.st fun I g env m s1 k1 hI hg hgs X hLT hns hm hf1 hb1 hne hbI => ?_) (hs C.env)
  have q1 := q.keeps k1
  have hits : ((gIt false 0 0 l).map itD).length = (gIt false 0 0 l).length := List.length_map ..
  have hBg : B.gens.size ≤ g := by
    obtain ⟨gl, e1, _⟩ := q.gens
    rw [e1, Array.size_append] at hg; omega
  have ga1 : GenAt G C.A ((gIt false 0 0 l).map itD) I g (C.wa acc).bad B (gIt false 0 0 l).length s1 := by
    obtain ⟨o, es, ep, eo, dd, rr⟩ := id hns
    refine ⟨hI, hBg, hbI, .fresh (.func (pBody 2) env), [env.locals], hgs, rfl, fun a ha => ?_, fun s'' kA ok => ?_⟩
    · have : a = env.locals := by simpa using ha
      subst this
      refine ⟨hne, hb1, fun o' p e' => ?_, o, eo, .of_data fun vs z => (by rw [dd] at z; cases z), fun vs n z => (by rw [dd] at z; cases z), fun v z => by rw [dd] at z; cases z⟩
      obtain ⟨o2, e2, s2⟩ := q.base _ o' p e'
      exact hf1 o2 (p.sim s2) e2
    · obtain ⟨o', e', s2⟩ := kA _ (.head _) o eo
      have hn2 : s''.heap.Ns env.locals m := ⟨o', es, ep, e', s2.2.2.1.trans dd, rr⟩
      refine ⟨_, fun a ha => ?_, fun a ha => ?_, gen_start (n := 0) X Bk (q.st.a.mono hn) hLT hl ok hn2 hm⟩
      · have : a = env.locals := by simpa using ha
        subst this; exact .head _
      · rcases List.mem_cons.mp ha with rfl | ha
        · exact .inl (.head _)
        · rcases List.mem_cons.mp ha with rfl | ha
          · exact .inr (Nat.le_succ _)
          · have : a = s''.heap.objs.size := by simpa using ha
            exact .inr (Nat.le_of_eq this.symm)
  refine codeAny_forLoop_any (fun n s => ∃ i V1 acc1, i ≤ (gIt false 0 0 l).length ∧ n = (gIt false 0 0 l).length - i ∧ J i V1 acc1 ∧ FS G B C V1 acc1 s ∧ GenAt G C.A ((gIt false 0 0 l).map itD) I g (C.wa acc).bad B ((gIt false 0 0 l).length - i) s) ?_ ((gIt false 0 0 l).length - 0) ⟨0, V, acc, Nat.zero_le _, rfl, h0, q1, ga1⟩
  rintro n s2 ⟨i, V1, acc1, hi, rfl, hJ, q2, ga2⟩
  obtain ⟨hm1, nv, na⟩ := hacc i V1 acc1 hJ
  have hw : C.wa acc1 = C.wa acc := by unfold Cx.wa; rw [hm1]
  have ho1 : ∀ {acc1 : Acc} {V1 s} (q : FS G B C V1 acc1 s), C.wa acc1 = C.wa acc → ∀ a ∈ ownList C acc1, (C.wa acc).bad a := fun q h a ha => h ▸ own_bad q a ha
  refine wpAny_mono (gen_pyNext (E := fun _ _ => False) q2 nv na (hw ▸ ga2)) (fun r s3 h3 => ?_) fun _ _ f => f.elim
  obtain ⟨q3, h3⟩ := h3
  cases r with
  | none =>
    have : i = (gIt false 0 0 l).length := by
      have : (gIt false 0 0 l).length - i = 0 := h3
      omega
    subst this
    exact wpAny_execs_nil (k .next .next _ _ _ (done V1 acc1 hJ) q3 rfl)
  | some v =>
    obtain ⟨m', hm', ga3, d, hd, rd⟩ := h3
    have hii : ((gIt false 0 0 l).map itD).length - 1 - m' = i := by rw [hits]; omega
    rw [hii, List.getElem?_map, Option.map_eq_some_iff] at hd
    obtain ⟨⟨p, c⟩, hpc, rfl⟩ := hd
    have hlt : i < (gIt false 0 0 l).length := (List.getElem?_eq_some_iff.mp hpc).1
    have hm2 : m' = (gIt false 0 0 l).length - (i + 1) := by omega
    subst hm2
    rw [hw] at ga3
    obtain ⟨V2, V3, hx, hy, hex⟩ := turn i p c V1 acc1 hpc hJ
    have rd2 : Rd (C.wa acc1).bad s3.heap v (.tuple [.int p, .str (S c)]) := ⟨[], rd, fun a h => nomatch h⟩
    obtain ⟨a, vs, rfl, ht, r⟩ := rd2.tuple_inv
    obtain ⟨v1, vs, rfl, r1, r⟩ := r.cons_inv
    obtain ⟨v2, vs, rfl, r2, r⟩ := r.cons_inv
    cases r.nil_inv
    have hgo : wpAny (model G.prog G.w) C.A (letOwnedTupleGo (.Tuple [.Name x px, .Name y py] k0 tp) (.ref I) (.ref a)) (fun _ s' => s' = s3) (fun _ _ => False) s3 := by
      obtain ⟨o, nm, qn, eo, co, dd, _⟩ := ga3.gen
      unfold letOwnedTupleGo
      refine wpAny_bind (wpAny_load eo ?_)
      rw [co, dd]
      exact wpAny_pure rfl
    refine wpAny_mono hgo (fun _ s3' h => ?_) fun _ _ f => f.elim
    have h := h.symm
    subst h
    refine wpAny_assign_Tuple q2.st.a.1 ht rfl rfl fun h' ext => ?_
    have up : ∀ b o, s3.heap.get? b = some o → h'.get? b = some o := fun b o e => ext b o (Nat.ne_of_lt (Heap.lt_size e)) e
    have k2 : Kp G s3 { s3 with heap := h' } := Kp.of_keeps G s3.toks up
    have q3a := q3.keeps k2
    have ga3a : GenAt G C.A ((gIt false 0 0 l).map itD) I g (C.wa acc).bad B ((gIt false 0 0 l).length - (i + 1)) { s3 with heap := h' } := ga3.keep (own := []) (fun _ h => nomatch h) (fun b o p e => k2.heap b o p (PySem.W.of_hideAll _ e)) rfl
    have storeKeep : ∀ {sa sb : Shared} {V1 acc1} (qa : FS G B C V1 acc1 sa), C.wa acc1 = C.wa acc → (∃ a, (a = C.env.locals ∨ ∃ y, (y, a) ∈ C.own) ∧ Heap.SameBut a sa.heap sb.heap) → sb.gens = sa.gens → ∀ {n}, GenAt G C.A ((gIt false 0 0 l).map itD) I g (C.wa acc).bad B n sa → GenAt G C.A ((gIt false 0 0 l).map itD) I g (C.wa acc).bad B n sb := by
      rintro sa sb V1 acc1 qa hw ⟨a, ha, hsb⟩ hg n ga
      refine ga.keep (own := ownList C acc1) (ho1 qa hw) (fun b o p e => ⟨o, ?_, .refl o⟩) (by rw [hg])
      have hm : a ∈ ownList C acc1 := by
        rcases ha with rfl | ⟨y, hy⟩
        · exact .head _
        · exact .tail _ (List.mem_append_left _ (List.mem_map_of_mem (f := (·.2)) hy))
      refine (hsb.2 b fun z => ?_).trans (PySem.W.of_hideAll _ e)
      rw [z, PySem.W.hideAll_none _ hm] at e; cases e
    show wpAny _ _ (holding [v2] (assign (.Name x px) C.env v1) >>= fun _ => assignInOrder [assign (.Name y py) C.env] [v2]) _ _ _
    refine wpAny_bind (wpAny_holding (wpAny_assign_Name (storeVar q3a (.inl ho) hx (o := .d (.int p)) (r1.sim k2.heap) fun s4 q4 keep4 hg4 => ?_)))
    show wpAny _ _ (holding [] (assign (.Name y py) C.env v2) >>= fun _ => assignInOrder [] []) _ _ _
    have ga4 := storeKeep q3a hw keep4 hg4 ga3a
    have r2' : Rd (C.wa acc1).bad s4.heap v2 (.str (S c)) := by
      obtain ⟨t, rfl⟩ := r2.str_inv
      exact .str _ _
    refine wpAny_bind (wpAny_holding (wpAny_assign_Name (storeVar q4 (.inl ho) hy (o := .d (.str (S c))) r2' fun s5 q5 keep5 hg5 => wpAny_pure ?_)))
    have ga5 := storeKeep q4 hw keep5 hg5 ga4
    refine hex (B.loop C acc1 s5) s5 _ _ q5.loop fun o f V' acc' s6 pp q6 hf => ?_
    have q7 := q5.back q6
    cases o with
    | next =>
      cases hf
      refine ⟨(gIt false 0 0 l).length - (i + 1), by omega, i + 1, V', acc', hlt, rfl, pp, q7, ga5.keep (own := ownList C acc1) (ho1 q5 hw) q6.base ?_⟩
      obtain ⟨more, e2, _⟩ := q6.gens
      rw [e2]
      show (s5.gens ++ more)[g]? = _
      obtain ⟨gs, _, hgs5, _⟩ := ga5.wait
      exact Array.getElem?_append_left (Array.getElem?_eq_some_iff.mp hgs5).1
    | brk => cases hf; exact k .next .next _ _ _ pp q7 rfl
    | ret d => obtain ⟨v, rfl, r⟩ := hf; exact k (.ret d) _ _ _ _ pp q7 ⟨v, rfl, r⟩
end
end
section
section
variable {G : TopC} {C : Cx} {V : List (Option VV)} {acc : Acc}

theorem genEv_call {fa : Addr} {fp pos : Pos} {e : Expr} {l : List Nat} (H : DefAt G (Str.ofString "_iter_escaped_chars") 2 fa) (hk : C.env.kindOf (Str.ofString "_iter_escaped_chars") = some .globalImplicit) (x : Ev G C V e (.str (S l)))
    (hs : ∀ env, starEach [e] env = [(false, eval e env)] := by intro _; rfl) : GenEv G C V (.Call (.Name (Str.ofString "_iter_escaped_chars") fp) [e] [] pos) l := fun s Q E q k => by
  obtain ⟨pm, code, doc, hm, ⟨o, ho, hdat⟩, hcr⟩ := H
  have hb : backTo pos (starEach [e] C.env) = [(false, eval e C.env)] := by rw [hs]; rfl
  refine Call_ (globName q hk (by decide) hm ?_)
  rw [hb]
  refine callWith_function (o := o) (evalArgs_plain (spliced_cons (x s _ E q fun v s1 k1 r => spliced_nil ⟨⟨(q.keeps k1).ok.top _ _ ho, hdat⟩, ?_⟩)))
  obtain ⟨t, rfl⟩ := r.str_inv
  have q1 := q.keeps k1
  have ho1 := q1.ok.top _ _ ho
  have fresh1 : ∀ a, s1.heap.objs.size ≤ a → s1.heap.get? a = none := fun a ha => by
    cases e : s1.heap.get? a with
    | none => rfl
    | some o => exact absurd (Heap.lt_size e) (Nat.not_lt.mpr ha)
  refine wpAny_call (codeAny_call_generator (by have := q.a.2.1; omega) ho1 hdat rfl rfl rfl (hcr.keeps fun b o e => q1.ok.top b o e) ?_)
  rw [show bindArgs (docDef (Str.ofString "_iter_escaped_chars") (pArgs 2) (pBody 2) (pScope 2) pm code doc) ⟨[] ++ (⟨[.str (S l) t], []⟩ : Args).pos, []⟩ = pure [(Str.ofString "addr", .str (S l) t)] from rfl]
  have hcl : ∀ x ∈ (pScope 2).names, x.2 ≠ .cell := by decide +kernel
  have hlo : (pScope 2).names.lookup (Str.ofString "addr") = some .local := by decide +kernel
  have hbl : ∀ y ∈ [(Str.ofString "addr", Value.str (S l) t)], (pScope 2).names.lookup y.1 = some .local := fun y hy => by
    cases List.mem_singleton.mp hy; exact hlo
  refine wpAny_pure (wpAny_newFunctionEnv hcl hbl (fun h' hn hsb => ?_) rfl)
  dsimp only at hn hsb ⊢
  have up : ∀ b o, s1.heap.get? b = some o → h'.get? b = some o := fun b o e => hsb.extBut b o (Nat.ne_of_lt (Heap.lt_size e)) (Heap.get?_push_of_some _ e)
  have k2 : Kp G s1 { s1 with heap := h', toks := s1.toks + 1 } := Kp.of_keeps G _ up
  refine ⟨(q1.ok.g.nolimit.keeps fun b o e => q1.ok.top b o e).keeps up, ?_⟩
  have hsz : h'.objs.size = s1.heap.objs.size + 1 := by rw [hsb.1, Heap.size_push]
  let env : Env := newEnv (pScope 2) s1.heap.objs.size mainGlobals [] (Str.ofString "_iter_escaped_chars" ++ ".<locals>.") (some fa) code none builtinsNs
  have ksc : ∀ y, env.kindOf y = (pScope 2).names.lookup y := fun y => rfl
  have X : GEnv env := ⟨(by decide +kernel : (pScope 2).kind = .function), rfl, rfl, (by decide +kernel : (pScope 2).isCoroutine = false), rfl, rfl, fun y hy => by rw [ksc]; revert y; decide +kernel, by rw [ksc]; decide +kernel⟩
  have hP : ∀ o, Plain o → s.heap.get? s1.heap.objs.size ≠ some o := fun o p e => by
    obtain ⟨o', e', _⟩ := k1.heap _ o p e
    rw [fresh1 _ (Nat.le_refl _)] at e'; cases e'
  have hI : (h'.push { cls := .type "generator", data := .fields #[.int s1.gens.size 0, .str (docDef (Str.ofString "_iter_escaped_chars") (pArgs 2) (pBody 2) (pScope 2) pm code doc).name (s1.toks + 1), .str (docDef (Str.ofString "_iter_escaped_chars") (pArgs 2) (pBody 2) (pScope 2) pm code doc).qualname (s1.toks + 1 + 1)] }).IsGen h'.objs.size s1.gens.size := ⟨_, _, _, Heap.get?_push_size _ rfl, rfl, rfl, rfl⟩
  refine wpAny_pyIter_gen (g := s1.gens.size) hI ?_
  have k3 : Kp G s1 { s1 with gens := s1.gens.push (.fresh (.func (pBody 2) env)), toks := s1.toks + 1 + 1 + 1, heap := h'.push { cls := .type "generator", data := .fields #[.int s1.gens.size 0, .str (docDef (Str.ofString "_iter_escaped_chars") (pArgs 2) (pBody 2) (pScope 2) pm code doc).name (s1.toks + 1), .str (docDef (Str.ofString "_iter_escaped_chars") (pArgs 2) (pBody 2) (pScope 2) pm code doc).qualname (s1.toks + 1 + 1)] } } := by
    have up2 : ∀ b o, s1.heap.get? b = some o → (h'.push { cls := .type "generator", data := .fields #[.int s1.gens.size 0, .str (docDef (Str.ofString "_iter_escaped_chars") (pArgs 2) (pBody 2) (pScope 2) pm code doc).name (s1.toks + 1), .str (docDef (Str.ofString "_iter_escaped_chars") (pArgs 2) (pBody 2) (pScope 2) pm code doc).qualname (s1.toks + 1 + 1)] }).get? b = some o := fun b o e => Heap.get?_push_of_some _ (up b o e)
    exact ⟨.of_keeps up2, fun h b o e => up2 b o (h b o e), fun h => h.keeps up2, ⟨#[.fresh (.func (pBody 2) env)], by simp, by intro g hg; simp at hg; subst hg; rfl⟩, rfl⟩
  refine k h'.objs.size s1.gens.size env _ _ (k1.trans k3) hI ?_ (by simp; rfl) X ?_ (hn.keeps fun b o e => Heap.get?_push_of_some _ e) ⟨t, by rfl⟩ hP (fun hb => ?_) ?_ (fun hb => ?_)
  · obtain ⟨gs, e, _⟩ := k1.gens
    rw [e, Array.size_append]; exact Nat.le_add_right _ _
  · cases e : G.hT.get? s1.heap.objs.size with
    | none => exact e
    | some o => have := q1.ok.top _ _ e; rw [fresh1 _ (Nat.le_refl _)] at this; cases this
  · obtain ⟨o, p, e⟩ := q.bad _ hb
    exact hP o p e
  · show s1.heap.objs.size ≠ h'.objs.size
    rw [hsz]; exact Nat.ne_of_lt (Nat.lt_succ_self _)
  · obtain ⟨o, p, e⟩ := q1.bad _ hb
    rw [fresh1 _ (by rw [hsz]; exact Nat.le_succ _)] at e; cases e
end
end
section
variable {G : TopC} {C : Cx} {V : List (Option VV)} {acc : Acc}

theorem varIx_mem {N : List Str} {V : List (Option VV)} {x : Str} {o : VV} (h : VarIx N V x o) : some o ∈ V := by
  induction h with
  | head => exact .head _
  | tail _ ih => exact .tail _ ih
noncomputable def Sc (o : Option VV) : Prop := ∀ d, o = some (.d d) → noDict d = true
theorem nodictV (h : ∀ o ∈ V, Sc o) : NoDictV C V := fun x d hx => h _ (varIx_mem hx) d rfl
theorem noDicts_sL (l : List (List Nat)) : noDicts (sL l) = true := by
  induction l with
  | nil => rfl
  | cons x l ih => exact ih
theorem sc_none : Sc none := fun d h => nomatch h
theorem sc_v {u : Value} : Sc (some (.v u)) := fun d h => nomatch h
theorem sc_int {i : Int} : Sc (some (.d (.int i))) := fun d h => by cases h; rfl
theorem sc_str {i : List Nat} : Sc (some (.d (.str (S i)))) := fun d h => by cases h; rfl
noncomputable def optD : Option Int → PyData | none => .none | some o => .int o
theorem sc_opt {o : Option Int} : Sc (some (.d (optD o))) := fun d h => by cases h; cases o <;> rfl
theorem cmp_notInC {c : Nat} {l : List Nat} : Cmp G C .NotIn (.str (S [c])) (.str (S l)) (!l.contains c) := by
  have := cmp_notInS (G := G) (C := C) (x := S l) (y := S [c])
  rw [show S [c] = (⟨#[c]⟩ : Str) from rfl, StrLaws.found_one] at this
  rw [show (decide (c ∈ (S l).cps.toList)) = l.contains c by rw [Bool.eq_iff_iff]; simp [S]] at this
  exact this

noncomputable abbrev SSt := Int × Option Int × List (List Nat)
noncomputable def stStep (l : List Nat) (st : SSt) (x : Int × List Nat) : SSt :=
  if x.2 = [34] then (match st.2.1 with
    | none => (st.1, some x.1, st.2.2)
    | some o => (x.1 + 1, none, if st.1 = o then st.2.2 else st.2.2 ++ [pick l (some st.1) (some o)])) else st
noncomputable def rStripSt (l : List Nat) (i : Nat) : SSt := ((gIt false 0 0 l).take i).foldl (stStep l) (0, none, [])
noncomputable def rStrip (l : List Nat) : List Nat :=
  if l.contains 34 then ((rStripSt l (gIt false 0 0 l).length).2.2 ++ (if (rStripSt l (gIt false 0 0 l).length).1 < l.length then [pick l (some (rStripSt l (gIt false 0 0 l).length).1) none] else [])).flatten else l
theorem rStripSt_succ {l : List Nat} {i : Nat} {x : Int × List Nat} (h : (gIt false 0 0 l)[i]? = some x) : rStripSt l (i + 1) = stStep l (rStripSt l i) x := by
  unfold rStripSt
  rw [List.take_add_one, h]
  simp
theorem stStep_len (l : List Nat) (st : SSt) (x : Int × List Nat) : (stStep l st x).2.2.length ≤ st.2.2.length + 1 ∧ ((∀ y ∈ st.2.2, y.length ≤ l.length) → ∀ y ∈ (stStep l st x).2.2, y.length ≤ l.length) := by
  unfold stStep
  split
  · split
    · exact ⟨Nat.le_succ _, id⟩
    · dsimp only
      split
      · exact ⟨Nat.le_succ _, id⟩
      · refine ⟨by simp, fun h y hy => ?_⟩
        rcases List.mem_append.mp hy with hy | hy
        · exact h y hy
        · cases List.mem_singleton.mp hy
          exact pick_length_le _ _ _
  · exact ⟨Nat.le_succ _, id⟩
theorem rStripSt_len (l : List Nat) : ∀ i, (rStripSt l i).2.2.length ≤ i ∧ ∀ y ∈ (rStripSt l i).2.2, y.length ≤ l.length
  | 0 => ⟨Nat.le_refl _, fun y hy => nomatch hy⟩
  | i + 1 => by
    have ih := rStripSt_len l i
    cases h : (gIt false 0 0 l)[i]? with
    | some x =>
      rw [rStripSt_succ h]
      have := stStep_len l (rStripSt l i) x
      exact ⟨by omega, this.2 ih.2⟩
    | none =>
      have : rStripSt l (i + 1) = rStripSt l i := by unfold rStripSt; rw [List.take_add_one, h]; simp
      rw [this]; exact ⟨by omega, ih.2⟩
theorem flat_le {n : Nat} : ∀ (l : List (List Nat)), (∀ y ∈ l, y.length ≤ n) → l.flatten.length ≤ l.length * n
  | [], _ => by simp
  | x :: l, h => by
    rw [List.flatten_cons, List.length_append, List.length_cons, Nat.add_mul]
    have := flat_le l fun y hy => h y (.tail _ hy)
    have := h x (.head _)
    omega
theorem gIt_len : ∀ (l : List Nat) (esc : Bool) (pos : Int) (i : Nat), (gIt esc pos i l).length ≤ l.length + (if esc then 1 else 0)
  | [], true, _, _ => by simp [gIt]
  | [], false, _, _ => by simp [gIt]
  | c :: r, true, pos, i => by
    show (gIt false i (i + 1) r).length + 1 ≤ _
    have := gIt_len r false i (i + 1)
    simp at this ⊢; omega
  | c :: r, false, pos, i => by
    show (if c = 92 then gIt true i (i + 1) r else ((i : Int), [c]) :: gIt false i (i + 1) r).length ≤ _
    split
    · have := gIt_len r true i (i + 1)
      simp at this ⊢; omega
    · have := gIt_len r false i (i + 1)
      simp at this ⊢; omega
theorem strip_ok {fa : Addr} (H : DefAt G (Str.ofString "_strip_quoted_realnames") 3 fa) (B : BltOk G) {fg : Addr} (Hg : DefAt G (Str.ofString "_iter_escaped_chars") 2 fg) (l : List Nat) (hl : ∀ c ∈ l, c < 128) (hz : l.length ≤ 100) :
    Fn G fa 2 [.str (S l)] (.str (S (rStrip l))) := by
  refine fn_at (N := [Str.ofString "addr", Str.ofString "start", Str.ofString "open_pos", Str.ofString "result", Str.ofString "pos", Str.ofString "ch"]) (xs := [Str.ofString "addr"]) (V0 := [some (.d (.str (S l))), none, none, none, none, none]) (ys := [Str.ofString "start", Str.ofString "open_pos", Str.ofString "result", Str.ofString "pos", Str.ofString "ch"]) H ?_ rfl ?_ rfl rfl ?_
  · walk_at "def"
  · intro pm code doc vs h
    obtain ⟨a, rfl⟩ := len1 h
    rfl
  intro A env bad hk
  have hz1 : l.length < 1000000 := by omega
  have hz2 : l.length ≤ 1000000 := by omega
  have k1 : Cmp G (Cx.wa ⟨A, env, [Str.ofString "addr", Str.ofString "start", Str.ofString "open_pos", Str.ofString "result", Str.ofString "pos", Str.ofString "ch"], bad, 1, env.cells⟩ []) .NotIn (.str (S [34])) (.str (S l)) (!l.contains 34) := cmp_notInC
  cases hq : l.contains 34 with
  | false =>
    rw [show rStrip l = l by unfold rStrip; rw [if_neg (by rw [hq]; decide)]]
    rw [hq] at k1
    walk_at "ifT"
    walk_at "ret"
    rfl
  | true =>
    rw [hq] at k1
    walk_at "ifF"
    walk_at "done"
    walk_at "assign"
    walk_at "assign"
    refine ex_cons (ex1_acc (fun a => ⟨[some (.d (.str (S l))), some (.d (.int (rStripSt l 0).1)), some (.d (optD (rStripSt l 0).2.1)), some (.v (.ref a)), none, none], .tail (.tail (.tail .head)), ?_⟩) rfl (by intro _; rfl))
    change Ex _ _ _ _ _ _
    have itv : ∀ p1 p2 p3, GenEv G (Cx.wa ⟨A, env, [Str.ofString "addr", Str.ofString "start", Str.ofString "open_pos", Str.ofString "result", Str.ofString "pos", Str.ofString "ch"], bad, 1, env.cells⟩ [(a, [])]) [some (.d (.str (S l))), some (.d (.int (rStripSt l 0).1)), some (.d (optD (rStripSt l 0).2.1)), some (.v (.ref a)), none, none] (.Call (.Name (Str.ofString "_iter_escaped_chars") p1) [.Name (Str.ofString "addr") p2] [] p3) l := fun _ _ _ => genEv_call Hg (by walk_at "kind") (by walk_at "ev")
    refine ex_cons (ex1_forGen B (Nat.le_refl 1) hl (itv _ _ _) (fun i V1 acc1 => acc1 = [(a, sL (rStripSt l i).2.2)] ∧ ∃ x y, Sc x ∧ Sc y ∧ V1 = [some (.d (.str (S l))), some (.d (.int (rStripSt l i).1)), some (.d (optD (rStripSt l i).2.1)), some (.v (.ref a)), x, y]) ⟨rfl, none, none, sc_none, sc_none, rfl⟩ ?_ ?_ ?_ rfl (by intro _ _; rfl))
    · rintro i V1 acc1 ⟨rfl, x, y, hx, hy, rfl⟩
      refine ⟨rfl, nodictV fun o ho => ?_, fun b ds hm => ?_⟩
      · simp only [List.mem_cons, List.not_mem_nil, or_false] at ho
        rcases ho with rfl | rfl | rfl | rfl | rfl | rfl
        · exact sc_str
        · exact sc_int
        · exact sc_opt
        · exact sc_v
        · exact hx
        · exact hy
      · cases List.mem_singleton.mp hm; exact noDicts_sL _
    · rintro i p c V1 acc1 hpc ⟨rfl, x, y, hx, hy, rfl⟩
      refine ⟨_, _, .tail (.tail (.tail (.tail .head))), .tail (.tail (.tail (.tail (.tail .head)))), ?_⟩
      have hlen := rStripSt_len l i
      have hsz : (sL (rStripSt l i).2.2).length ≤ 1000000 := by
        have h1 := (List.getElem?_eq_some_iff.mp hpc).1
        have h2 := gIt_len l false 0 0
        rw [sL, List.length_map]
        simp at h2
        omega
      have hstep := rStripSt_succ hpc
      generalize rStripSt l i = st at hstep hsz
      obtain ⟨start, op, res⟩ := st
      by_cases hc : c = [34]
      · subst hc
        walk_at "ifT"
        cases op with
        | none =>
          walk_at "ifT"
          walk_at "assign"
          walk_at "done"
          walk_at "done"
          have e : stStep l (start, none, res) (p, [34]) = (start, some p, res) := by simp [stStep]
          exact ex_nil ⟨by rw [hstep, e], some (.d (.int p)), some (.d (.str (S [34]))), sc_int, sc_str, by rw [hstep, e]; rfl⟩
        | some o =>
          simp only [optD]
          walk_at "ifF"
          by_cases hso : start = o
          · have e : stStep l (start, some o, res) (p, [34]) = (p + 1, none, res) := by simp [stStep, hso]
            refine ex_cons (ex1_ifF (c := (!(start == o))) (by walk_at "tr") (by simp [hso]) ?_)
            walk_at "done"
            walk_at "assign"
            walk_at "assign"
            walk_at "done"
            walk_at "done"
            exact ex_nil ⟨by rw [hstep, e], some (.d (.int p)), some (.d (.str (S [34]))), sc_int, sc_str, by rw [hstep, e]⟩
          · have e : stStep l (start, some o, res) (p, [34]) = (p + 1, none, res ++ [pick l (some start) (some o)]) := by simp [stStep, hso]
            refine ex_cons (ex1_ifT (c := (!(start == o))) (by walk_at "tr") (by simp [hso]) ?_)
            refine ex_cons ?_
            refine' ex1_append (a := a) (acc' := [(a, sL res ++ [.str (S (pick l (some start) (some o)))])]) (d := .str (S (pick l (some start) (some o)))) (ds := sL res) ?av .head ?ae hsz ?an ?al ?as ?ai
            case av => walk_at "var"
            case al => rfl
            case as => intro _; rfl
            case ai => intro env h; simp [interactive, h]
            case ae => walk_at "ev"
            change Ex _ _ _ _ _ _
            walk_at "done"
            walk_at "assign"
            walk_at "assign"
            walk_at "done"
            walk_at "done"
            exact ex_nil ⟨by rw [hstep, e]; simp [sL], some (.d (.int p)), some (.d (.str (S [34]))), sc_int, sc_str, by rw [hstep, e]⟩
      · have hcf : (c == [34]) = false := by simpa using hc
        walk_at "ifF"
        walk_at "done"
        have e : stStep l (start, op, res) (p, c) = (start, op, res) := by simp [stStep, hc]
        exact ex_nil ⟨by rw [hstep, e], some (.d (.int p)), some (.d (.str (S c))), sc_int, sc_str, by rw [hstep, e]⟩
    · rintro V' acc' ⟨rfl, x, y, hx, hy, rfl⟩
      change Ex _ _ _ _ _ _
      have hlen := rStripSt_len l (gIt false 0 0 l).length
      have hgl : (gIt false 0 0 l).length ≤ 100 := by
        have := gIt_len l false 0 0
        simp at this; omega
      have e0 : rStrip l = ((rStripSt l (gIt false 0 0 l).length).2.2 ++ (if (rStripSt l (gIt false 0 0 l).length).1 < l.length then [pick l (some (rStripSt l (gIt false 0 0 l).length).1) none] else [])).flatten := by
        unfold rStrip; rw [if_pos hq]
      rw [e0]
      generalize rStripSt l (gIt false 0 0 l).length = st at hlen
      obtain ⟨start, op, res⟩ := st
      have hsz : (sL res).length ≤ 1000000 := by rw [sL, List.length_map]; have := hlen.1; simp at this; omega
      by_cases hlt : start < l.length
      · rw [if_pos hlt]
        have hfl : (res ++ [pick l (some start) none]).flatten.length ≤ 1000000 := by
          have h1 := flat_le (n := l.length) (res ++ [pick l (some start) none]) (fun y hy => by
            rcases List.mem_append.mp hy with hy | hy
            · exact hlen.2 y hy
            · cases List.mem_singleton.mp hy; exact pick_length_le _ _ _)
          have h2 : (res ++ [pick l (some start) none]).length ≤ 101 := by rw [List.length_append]; have := hlen.1; simp at this ⊢; omega
          have h3 := Nat.mul_le_mul h2 hz
          omega
        refine ex_cons (ex1_ifT (c := decide (start < (l.length : Int))) (by walk_at "tr") (by simp [hlt]) ?_)
        refine ex_cons ?_
        refine' ex1_append (a := a) (acc' := [(a, sL res ++ [.str (S (pick l (some start) none))])]) (d := .str (S (pick l (some start) none))) (ds := sL res) ?bv .head ?be hsz ?bn ?bl ?bs ?bi
        case bv => walk_at "var"
        case bl => rfl
        case bs => intro _; rfl
        case bi => intro env h; simp [interactive, h]
        case be => walk_at "ev"
        change Ex _ _ _ _ _ _
        walk_at "done"
        rw [show sL res ++ [PyData.str (S (pick l (some start) none))] = sL (res ++ [pick l (some start) none]) by simp [sL]]
        refine' ex_freeze (x := Str.ofString "result") ?fv ?fs ?fx
        case fv => walk_at "var"
        case fs => walk_at "set"
        change Ex _ _ _ _ _ _
        refine ex_cons ?_
        refine' ex1_ret ?e8 ?n8
        case e8 =>
          refine' ev_joinC cE ?f8 ?z8 ?hb8 ?hl8 ?hs8
          case hb8 => intro _; rfl
          case hl8 => rfl
          case hs8 => intro _; rfl
          case f8 => walk_at "ev"
          case z8 => exact hfl
        rfl
      · rw [if_neg hlt, List.append_nil]
        have hfl : res.flatten.length ≤ 1000000 := by
          have h1 := flat_le (n := l.length) res hlen.2
          have h2 : res.length ≤ 101 := by have := hlen.1; simp at this ⊢; omega
          have h3 := Nat.mul_le_mul h2 hz
          omega
        refine ex_cons (ex1_ifF (c := decide (start < (l.length : Int))) (by walk_at "tr") (by simp [hlt]) ?_)
        walk_at "done"
        refine' ex_freeze (x := Str.ofString "result") ?gv ?gs ?gx
        case gv => walk_at "var"
        case gs => walk_at "set"
        change Ex _ _ _ _ _ _
        refine ex_cons ?_
        refine' ex1_ret ?e9 ?n9
        case e9 =>
          refine' ev_joinC cE ?f9 ?z9 ?hb9 ?hl9 ?hs9
          case hb9 => intro _; rfl
          case hl9 => rfl
          case hs9 => intro _; rfl
          case f9 => walk_at "ev"
          case z9 => exact hfl
        rfl
end
section
variable {G : TopC} {C : Cx} {V : List (Option VV)} {acc : Acc}

theorem pick_mem {l : List Nat} {lo hi : Option Int} {c : Nat} (h : c ∈ pick l lo hi) : c ∈ l := List.mem_of_mem_drop (List.mem_of_mem_take h)
theorem stStep_mem (l : List Nat) (st : SSt) (x : Int × List Nat) (h : ∀ y ∈ st.2.2, ∀ c ∈ y, c ∈ l) : ∀ y ∈ (stStep l st x).2.2, ∀ c ∈ y, c ∈ l := by
  unfold stStep
  split
  · split
    · exact h
    · dsimp only
      split
      · exact h
      · intro y hy
        rcases List.mem_append.mp hy with hy | hy
        · exact h y hy
        · cases List.mem_singleton.mp hy
          exact fun c hc => pick_mem hc
  · exact h
theorem rStripSt_mem (l : List Nat) : ∀ i, ∀ y ∈ (rStripSt l i).2.2, ∀ c ∈ y, c ∈ l
  | 0 => fun y hy => nomatch hy
  | i + 1 => by
    have ih := rStripSt_mem l i
    cases h : (gIt false 0 0 l)[i]? with
    | some x =>
      rw [rStripSt_succ h]
      exact stStep_mem l _ x ih
    | none =>
      have : rStripSt l (i + 1) = rStripSt l i := by unfold rStripSt; rw [List.take_add_one, h]; simp
      rw [this]; exact ih
theorem rStrip_mem (l : List Nat) : ∀ c ∈ rStrip l, c ∈ l := by
  unfold rStrip
  split
  · intro c hc
    obtain ⟨y, hy, hc⟩ := List.mem_flatten.mp hc
    rcases List.mem_append.mp hy with hy | hy
    · exact rStripSt_mem l _ y hy c hc
    · split at hy
      · cases List.mem_singleton.mp hy; exact pick_mem hc
      · cases hy
  · exact fun c h => h
noncomputable def chkGo : Int → List (Int × List Nat) → Bool
  | o, [] => o == 0
  | o, x :: r => if x.2 = [40] then chkGo (o + 1) r else if x.2 = [41] then (if o - 1 < 0 then false else chkGo (o - 1) r) else chkGo o r
noncomputable def rChk (l : List Nat) : Bool := chkGo 0 (gIt false 0 0 (rStrip l))
noncomputable def BAD : List Nat := [40, 39, 39, 44, 32, 39, 39, 41]
noncomputable def rPre (l : List (List Nat)) : List (List Nat) := l.map fun v => if rChk v then v else BAD
theorem check_ok {fa : Addr} (H : DefAt G (Str.ofString "_check_parenthesis") 4 fa) (B : BltOk G) {fg fs : Addr} (Hg : DefAt G (Str.ofString "_iter_escaped_chars") 2 fg) (Hs : DefAt G (Str.ofString "_strip_quoted_realnames") 3 fs) (l : List Nat) (hl : ∀ c ∈ l, c < 128) (hz : l.length ≤ 100) :
    Fn G fa 3 [.str (S l)] (.bool (rChk l)) := by
  refine fn_at (N := [Str.ofString "addr", Str.ofString "opens", Str.ofString "pos", Str.ofString "ch"]) (xs := [Str.ofString "addr"]) (V0 := [some (.d (.str (S l))), none, none, none]) (ys := [Str.ofString "opens", Str.ofString "pos", Str.ofString "ch"]) H ?_ rfl ?_ rfl rfl ?_
  · walk_at "def"
  · intro pm code doc vs h
    obtain ⟨a, rfl⟩ := len1 h
    rfl
  intro A env bad hk
  have hl2 : ∀ c ∈ rStrip l, c < 128 := fun c hc => hl c (rStrip_mem l c hc)
  have hcall : ∀ p1 p2 p3 V, VarIx [Str.ofString "addr", Str.ofString "opens", Str.ofString "pos", Str.ofString "ch"] V (Str.ofString "addr") (.d (.str (S l))) → Ev G (Cx.wa ⟨A, env, [Str.ofString "addr", Str.ofString "opens", Str.ofString "pos", Str.ofString "ch"], bad, 2, env.cells⟩ []) V (.Call (.Name (Str.ofString "_strip_quoted_realnames") p1) [.Name (Str.ofString "addr") p2] [] p3) (.str (S (rStrip l))) := fun p1 p2 p3 V hv =>
    ev_callD Hs (by walk_at "kind") (evL_cons (ev_name hv) evL_nil) (strip_ok Hs B Hg l hl hz) (Nat.le_refl _) (by decide) (by intro _; rfl)
  refine' ex_cons (ex1_assign (hcall _ _ _ _ .head) ?s1 ?n1)
  case s1 => walk_at "set"
  change Ex _ _ _ _ _ _
  walk_at "assign"
  have itv : ∀ p1 p2 p3, GenEv G (Cx.wa ⟨A, env, [Str.ofString "addr", Str.ofString "opens", Str.ofString "pos", Str.ofString "ch"], bad, 2, env.cells⟩ []) [some (.d (.str (S (rStrip l)))), some (.d (.int 0)), none, none] (.Call (.Name (Str.ofString "_iter_escaped_chars") p1) [.Name (Str.ofString "addr") p2] [] p3) (rStrip l) := fun _ _ _ => genEv_call Hg (by walk_at "kind") (by walk_at "ev")
  refine ex_cons (ex1_forGen B (Nat.le_succ 1) hl2 (itv _ _ _) (fun i V1 acc1 => acc1 = [] ∧ ∃ o x y, Sc x ∧ Sc y ∧ chkGo 0 (gIt false 0 0 (rStrip l)) = chkGo o ((gIt false 0 0 (rStrip l)).drop i) ∧ V1 = [some (.d (.str (S (rStrip l)))), some (.d (.int o)), x, y]) ⟨rfl, 0, none, none, sc_none, sc_none, rfl, rfl⟩ ?_ ?_ ?_ rfl (by intro _ _; rfl))
  · rintro i V1 acc1 ⟨rfl, o, x, y, hx, hy, _, rfl⟩
    refine ⟨rfl, nodictV fun o ho => ?_, fun b ds hm => nomatch hm⟩
    simp only [List.mem_cons, List.not_mem_nil, or_false] at ho
    rcases ho with rfl | rfl | rfl | rfl
    · exact sc_str
    · exact sc_int
    · exact hx
    · exact hy
  · rintro i p c V1 acc1 hpc ⟨rfl, o, x, y, hx, hy, hgo, rfl⟩
    refine ⟨_, _, .tail (.tail .head), .tail (.tail (.tail .head)), ?_⟩
    have hlt := (List.getElem?_eq_some_iff.mp hpc).1
    have hd : (gIt false 0 0 (rStrip l)).drop i = (p, c) :: (gIt false 0 0 (rStrip l)).drop (i + 1) := by
      rw [List.drop_eq_getElem_cons hlt, (List.getElem?_eq_some_iff.mp hpc).2]
    rw [hd] at hgo
    by_cases h1 : c = [40]
    · subst h1
      walk_at "ifT"
      walk_at "addI"
      walk_at "done"
      exact ex_nil ⟨rfl, o + 1, some (.d (.int p)), some (.d (.str (S [40]))), sc_int, sc_str, by rw [hgo]; simp [chkGo], rfl⟩
    · have hc1 : (c == [40]) = false := by simpa using h1
      walk_at "ifF"
      by_cases h2 : c = [41]
      · subst h2
        walk_at "ifT"
        walk_at "subI"
        by_cases h3 : o - 1 < 0
        · refine ex_cons (ex1_ifT (c := decide (o - 1 < 0)) (by walk_at "tr") (by simpa using h3) ?_)
          walk_at "ret"
          have : rChk l = false := by unfold rChk; rw [hgo]; simp [chkGo, h3]
          rw [this]
        · refine ex_cons (ex1_ifF (c := decide (o - 1 < 0)) (by walk_at "tr") (by simpa using h3) ?_)
          walk_at "done"
          walk_at "done"
          walk_at "done"
          exact ex_nil ⟨rfl, o - 1, some (.d (.int p)), some (.d (.str (S [41]))), sc_int, sc_str, by rw [hgo]; simp [chkGo, h3], rfl⟩
      · have hc2 : (c == [41]) = false := by simpa using h2
        walk_at "ifF"
        walk_at "done"
        walk_at "done"
        exact ex_nil ⟨rfl, o, some (.d (.int p)), some (.d (.str (S c))), sc_int, sc_str, by rw [hgo]; simp [chkGo, h1, h2], rfl⟩
  · rintro V' acc' ⟨rfl, o, x, y, hx, hy, hgo, rfl⟩
    change Ex _ _ _ _ _ _
    walk_at "ret"
    rw [List.drop_length] at hgo
    show Out.ret _ = Out.ret _
    unfold rChk; rw [hgo]; rfl

theorem pre_ok {fa : Addr} (H : DefAt G (Str.ofString "_pre_parse_validation") 5 fa) (B : BltOk G) {fg fs fc : Addr} (Hg : DefAt G (Str.ofString "_iter_escaped_chars") 2 fg) (Hs : DefAt G (Str.ofString "_strip_quoted_realnames") 3 fs) (Hc : DefAt G (Str.ofString "_check_parenthesis") 4 fc) (l : List (List Nat)) (hl : ∀ v ∈ l, (∀ c ∈ v, c < 128) ∧ v.length ≤ 100) (hz : l.length ≤ 1000) :
    Fn G fa 4 [.list (sL l)] (.list (sL (rPre l))) := by
  refine fn_at (N := [Str.ofString "email_header_fields", Str.ofString "accepted_values", Str.ofString "v"]) (xs := [Str.ofString "email_header_fields"]) (V0 := [some (.d (.list (sL l))), none, none]) (ys := [Str.ofString "accepted_values", Str.ofString "v"]) H ?_ rfl ?_ rfl rfl ?_
  · walk_at "def"
  · intro pm code doc vs h
    obtain ⟨a, rfl⟩ := len1 h
    rfl
  intro A env bad hk
  refine ex_cons (ex1_acc (fun a => ⟨[some (.d (.list (sL l))), some (.v (.ref a)), none], .tail .head, ?_⟩) rfl (by intro _; rfl))
  change Ex _ _ _ _ _ _
  have itv : ∀ p1, ItEv G (Cx.wa ⟨A, env, [Str.ofString "email_header_fields", Str.ofString "accepted_values", Str.ofString "v"], bad, 3, env.cells⟩ [(a, [])]) [some (.d (.list (sL l))), some (.v (.ref a)), none] (.Name (Str.ofString "email_header_fields") p1) (l.map fun h => .str (S h)) := fun _ => itEv_sL (by walk_at "ev")
  refine ex_cons (ex1_for (itv _) (fun i V1 acc1 => acc1 = [(a, sL (rPre (l.take i)))] ∧ ∃ x, V1 = [some (.d (.list (sL l))), some (.v (.ref a)), x]) ⟨rfl, none, rfl⟩ ?_ ?_ ?_ rfl (by intro _ _; rfl))
  · rintro i V1 acc1 ⟨rfl, _⟩; rfl
  · rintro i d V1 acc1 hd ⟨rfl, x, rfl⟩
    rw [List.getElem?_map, Option.map_eq_some_iff] at hd
    obtain ⟨v, hv, rfl⟩ := hd
    have hmem := List.mem_of_getElem? hv
    have hlt := (List.getElem?_eq_some_iff.mp hv).1
    refine ⟨_, .tail (.tail .head), ?_⟩
    have hcall : ∀ p1 p2 p3, Ev G (Cx.wa ⟨A, env, [Str.ofString "email_header_fields", Str.ofString "accepted_values", Str.ofString "v"], bad, 3, env.cells⟩ [(a, sL (rPre (l.take i)))]) [some (.d (.list (sL l))), some (.v (.ref a)), some (.d (.str (S v)))] (.Call (.Name (Str.ofString "_check_parenthesis") p1) [.Name (Str.ofString "v") p2] [] p3) (.bool (rChk v)) := fun p1 p2 p3 =>
      ev_callD Hc (by walk_at "kind") (evL_cons (ev_name (.tail (.tail .head))) evL_nil) (check_ok Hc B Hg Hs v (hl v hmem).1 (hl v hmem).2) (Nat.le_refl _) (by decide) (by intro _; rfl)
    have hsz : (sL (rPre (l.take i))).length ≤ 1000000 := by rw [sL, List.length_map, rPre, List.length_map, List.length_take]; omega
    have hstep : sL (rPre (l.take (i + 1))) = sL (rPre (l.take i)) ++ [.str (S (if rChk v then v else BAD))] := by
      rw [List.take_add_one, hv]; simp [sL, rPre]
    have fin : ∀ w, w = (if rChk v then v else BAD) → ∀ P : Post, P .next [some (.d (.list (sL l))), some (.v (.ref a)), some (.d (.str (S w)))] [(a, sL (rPre (l.take (i + 1))))] →
        ∀ p1 p2 p3 p4, (p2.endLine == p3.line) = true → Ex1 G ⟨A, env, [Str.ofString "email_header_fields", Str.ofString "accepted_values", Str.ofString "v"], bad, 3, env.cells⟩ [some (.d (.list (sL l))), some (.v (.ref a)), some (.d (.str (S w)))] [(a, sL (rPre (l.take i)))]
          (.Expr (.Call (.Attribute (.Name (Str.ofString "accepted_values") p1) (Str.ofString "append") p2) [.Name (Str.ofString "v") p4] [] p3) p3) P := by
      intro w hw P hP p1 p2 p3 p4 hline
      refine' ex1_append (a := a) (acc' := [(a, sL (rPre (l.take i)) ++ [.str (S w)])]) (d := .str (S w)) (ds := sL (rPre (l.take i))) ?av .head ?ae hsz ?an ?al ?as ?ai
      case av => walk_at "var"
      case al => exact hline
      case as => intro _; rfl
      case ai => intro env h; simp [interactive, h]
      case ae => walk_at "ev"
      case an => subst hw; rw [hstep] at hP; exact hP
    cases hq : rChk v with
    | true =>
      rw [hq] at fin
      refine' ex_cons (ex1_ifF ?t1 ?c1 ?a1)
      case t1 => exact tr_not (tr_ev (hcall _ _ _) (by intro _ _; rfl))
      case c1 => rw [hq]; rfl
      change Ex _ _ _ _ _ _
      walk_at "done"
      refine ex_cons (fin v rfl _ ?_ _ _ _ _ rfl)
      exact ex_nil ⟨rfl, _, rfl⟩
    | false =>
      rw [hq] at fin
      refine' ex_cons (ex1_ifT ?t2 ?c2 ?a2)
      case t2 => exact tr_not (tr_ev (hcall _ _ _) (by intro _ _; rfl))
      case c2 => rw [hq]; rfl
      change Ex _ _ _ _ _ _
      refine' ex_cons (ex1_assign (evc cBad) ?s3 ?n3)
      case s3 => walk_at "set"
      change Ex _ _ _ _ _ _
      walk_at "done"
      refine ex_cons (fin BAD rfl _ ?_ _ _ _ _ rfl)
      exact ex_nil ⟨rfl, _, rfl⟩
  · rintro V' acc' ⟨rfl, x, rfl⟩
    change Ex _ _ _ _ _ _
    refine ex_cons (ex1_retAcc (ds := sL (rPre (l.take (l.map fun h => PyData.str (S h)).length))) (by walk_at "var") (.head _) ?_)
    show Out.ret _ = Out.ret _
    rw [List.length_map, List.take_length]
end
section
variable {G : TopC} {C : Cx} {V : List (Option VV)} {acc : Acc}

theorem eqvAll_sL : ∀ {a b : List (List Nat)}, PyData.eqvAll (sL a) (sL b) = (a == b)
  | [], [] => rfl
  | [], _ :: _ => rfl
  | _ :: _, [] => rfl
  | x :: a, y :: b => by
    show (PyData.eqv (.str (S x)) (.str (S y)) && PyData.eqvAll (sL a) (sL b)) = _
    rw [eqvAll_sL, PyData.eqv, str_beq]; rfl
theorem eqvAll_iL : ∀ {a b : List Int}, PyData.eqvAll (iL a) (iL b) = (a == b)
  | [], [] => rfl
  | [], _ :: _ => rfl
  | _ :: _, [] => rfl
  | x :: a, y :: b => by
    show (PyData.eqv (.int x) (.int y) && PyData.eqvAll (iL a) (iL b)) = _
    rw [eqvAll_iL, PyData.eqv]; rfl
theorem cmp_neLS {a b : List (List Nat)} (ha : ∀ x ∈ a, Asc x) (hb : ∀ x ∈ b, Asc x) : Cmp G C .NotEq (.list (sL a)) (.list (sL b)) (a != b) := by
  have := cmp_ne (G := G) (C := C) (shaped_strs ha) (shaped_strs hb)
  rw [show PyData.eqv (.list (sL a)) (.list (sL b)) = (a == b) from eqvAll_sL] at this
  exact this

theorem law_way_ok {fa : Addr} (H : DefAt G (Str.ofString "_law_way") 30 fa) (B : BltOk G) {ft : Addr} (Ht : DefAt G (Str.ofString "three_way_cmp") 18 ft) (dx dy : PyData) (a b due : Int) (F1 : Fn G ft 1 [dx, dy] (.int a)) (F2 : Fn G ft 1 [dy, dx] (.int b)) :
    Fn G fa 2 [dx, dy, .int due] (.bool ((a == due) && (b == -due))) := by
  refine fn_at (N := [Str.ofString "first", Str.ofString "second", Str.ofString "due", Str.ofString "there", Str.ofString "back"]) (xs := [Str.ofString "first", Str.ofString "second", Str.ofString "due"]) (V0 := [some (.d (dx)), some (.d (dy)), some (.d (.int due)), none, none]) (ys := [Str.ofString "there", Str.ofString "back"]) H ?_ rfl ?_ rfl rfl ?_
  · walk_at "def"
  · intro pm code doc vs h
    obtain ⟨a, b, c, rfl⟩ := len3 h
    rfl
  intro A env bad hk
  have c1 : ∀ p1 p2 p3 p4 V, VarIx [Str.ofString "first", Str.ofString "second", Str.ofString "due", Str.ofString "there", Str.ofString "back"] V (Str.ofString "first") (.d dx) → VarIx [Str.ofString "first", Str.ofString "second", Str.ofString "due", Str.ofString "there", Str.ofString "back"] V (Str.ofString "second") (.d dy) →
      Ev G (Cx.wa ⟨A, env, [Str.ofString "first", Str.ofString "second", Str.ofString "due", Str.ofString "there", Str.ofString "back"], bad, 1, env.cells⟩ []) V (.Call (.Name (Str.ofString "three_way_cmp") p1) [.Name (Str.ofString "first") p2, .Name (Str.ofString "second") p3] [] p4) (.int a) := fun p1 p2 p3 p4 V h1 h2 =>
    ev_callD Ht (by walk_at "kind") (evL_cons (ev_name h1) (evL_cons (ev_name h2) evL_nil)) F1 (Nat.le_refl _) (by decide) (by intro _; rfl)
  have c2 : ∀ p1 p2 p3 p4 V, VarIx [Str.ofString "first", Str.ofString "second", Str.ofString "due", Str.ofString "there", Str.ofString "back"] V (Str.ofString "first") (.d dx) → VarIx [Str.ofString "first", Str.ofString "second", Str.ofString "due", Str.ofString "there", Str.ofString "back"] V (Str.ofString "second") (.d dy) →
      Ev G (Cx.wa ⟨A, env, [Str.ofString "first", Str.ofString "second", Str.ofString "due", Str.ofString "there", Str.ofString "back"], bad, 1, env.cells⟩ []) V (.Call (.Name (Str.ofString "three_way_cmp") p1) [.Name (Str.ofString "second") p2, .Name (Str.ofString "first") p3] [] p4) (.int b) := fun p1 p2 p3 p4 V h1 h2 =>
    ev_callD Ht (by walk_at "kind") (evL_cons (ev_name h2) (evL_cons (ev_name h1) evL_nil)) F2 (Nat.le_refl _) (by decide) (by intro _; rfl)
  refine' ex_cons (ex1_assign (c1 _ _ _ _ _ .head (.tail .head)) ?s1 ?n1)
  case s1 => walk_at "set"
  change Ex _ _ _ _ _ _
  refine' ex_cons (ex1_assign (c2 _ _ _ _ _ .head (.tail .head)) ?s2 ?n2)
  case s2 => walk_at "set"
  change Ex _ _ _ _ _ _
  have ty : ∀ p1 p2 p3 x i, VarIx [Str.ofString "first", Str.ofString "second", Str.ofString "due", Str.ofString "there", Str.ofString "back"] [some (.d dx), some (.d dy), some (.d (.int due)), some (.d (.int a)), some (.d (.int b))] x (.d (.int i)) →
      EvV G (Cx.wa ⟨A, env, [Str.ofString "first", Str.ofString "second", Str.ofString "due", Str.ofString "there", Str.ofString "back"], bad, 1, env.cells⟩ []) [some (.d dx), some (.d dy), some (.d (.int due)), some (.d (.int a)), some (.d (.int b))] (.Call (.Name (Str.ofString "type") p1) [.Name x p2] [] p3) (.type "int") := fun p1 p2 p3 x i h =>
    evV_typeInt (by walk_at "kind") B.type.1 B.type.2 (ev_name h) (by intro _; rfl)
  have it : ∀ p1, EvV G (Cx.wa ⟨A, env, [Str.ofString "first", Str.ofString "second", Str.ofString "due", Str.ofString "there", Str.ofString "back"], bad, 1, env.cells⟩ []) [some (.d dx), some (.d dy), some (.d (.int due)), some (.d (.int a)), some (.d (.int b))] (.Name (Str.ofString "int") p1) (.type "int") := fun p1 => evV_blt (by walk_at "kind") B.int.1 B.int.2
  refine ex_cons ?_
  refine' ex1_ret ?e3 ?n3
  case e3 =>
    refine' ev_boolop (evB_and ?x1 fun _ => evB_and ?x2 fun _ => evB_and ?x3 fun _ => evB_one ?x4)
    case x1 => exact ev_isV (b := true) (ty _ _ _ _ _ (.tail (.tail (.tail .head)))) (it _) (by decide +kernel) (by decide +kernel) (by with_unfolding_all rfl)
    case x2 => exact ev_isV (b := true) (ty _ _ _ _ _ (.tail (.tail (.tail (.tail .head))))) (it _) (by decide +kernel) (by decide +kernel) (by with_unfolding_all rfl)
    case x3 => walk_at "ev"
    case x4 => walk_at "ev"
  rfl

noncomputable def rWr (hid : List Nat) (place : Int) (r : List Nat) : List Nat := pick r none (some place) ++ hid ++ pick r (some place) none
noncomputable def rStay (r0 r1 : List Nat) (l : List (Bool × List Nat)) (hid : List Nat) (place : Int) : Bool :=
  if rPre [rWr hid place r0, rWr hid place r1] != [rWr hid place r0, rWr hid place r1] then false else rTakes l r0 && rTakes l r1
theorem rWr_asc {hid r : List Nat} {place : Int} (hh : Asc hid) (hr : Row8 r) : Asc (rWr hid place r) := by
  intro c hc
  have h8 : ∀ c ∈ r, c < 128 := fun c hc => by have := hr.2 c hc; omega
  unfold rWr at hc
  rcases List.mem_append.mp hc with hc | hc
  · rcases List.mem_append.mp hc with hc | hc
    · exact h8 c (pick_mem hc)
    · exact hh c hc
  · exact h8 c (pick_mem hc)
theorem rWr_len {hid r : List Nat} {place : Int} (hh : hid.length ≤ 10) (hr : Row8 r) : (rWr hid place r).length ≤ 30 := by
  unfold rWr
  have h1 := pick_length_le r none (some place)
  have h2 := pick_length_le r (some place) none
  have := hr.1
  simp only [List.length_append]; omega
theorem rPre_asc {l : List (List Nat)} (h : ∀ x ∈ l, Asc x) : ∀ x ∈ rPre l, Asc x := by
  intro x hx
  obtain ⟨v, hv, rfl⟩ := List.mem_map.mp hx
  split
  · exact h v hv
  · intro c hc; revert c; decide
theorem law_stay_ok {fa : Addr} (H : DefAt G (Str.ofString "_law_stay") 31 fa) (B : BltOk G) {fg fs fc fp ft : Addr} (Hg : DefAt G (Str.ofString "_iter_escaped_chars") 2 fg) (Hs : DefAt G (Str.ofString "_strip_quoted_realnames") 3 fs) (Hc : DefAt G (Str.ofString "_check_parenthesis") 4 fc) (Hp : DefAt G (Str.ofString "_pre_parse_validation") 5 fp) (Ht : DefAt G (Str.ofString "_law_takes") 27 ft) (r0 r1 : List Nat) (l : List (Bool × List Nat)) (hid : List Nat) (place : Int) (h0 : Row8 r0) (h1 : Row8 r1) (hl : l.length = 8) (hi : ItemsOk l) (hh : Asc hid) (hz : hid.length ≤ 10) :
    Fn G fa 5 [.list (sL [r0, r1]), itemsD l, .str (S hid), .int place] (.bool (rStay r0 r1 l hid place)) := by
  refine fn_at (N := [Str.ofString "rows", Str.ofString "items", Str.ofString "hidden", Str.ofString "place", Str.ofString "written"]) (xs := [Str.ofString "rows", Str.ofString "items", Str.ofString "hidden", Str.ofString "place"]) (V0 := [some (.d (.list (sL [r0, r1]))), some (.d (itemsD l)), some (.d (.str (S hid))), some (.d (.int place)), none]) (ys := [Str.ofString "written"]) H ?_ rfl ?_ rfl rfl ?_
  · walk_at "def"
  · intro pm code doc vs h
    obtain ⟨a, b, c, d, rfl⟩ := len4 h
    rfl
  intro A env bad hk
  refine' ex_cons (ex1_assignComp (src := [r0, r1]) (inj := fun r => .str (S r)) (p := fun _ => true) (f := fun r => .str (S (rWr hid place r))) (fr := [Str.ofString "hidden", Str.ofString "place"]) (Vf := [some (.d (.str (S hid))), some (.d (.int place))]) (kinds := fun y => (pScope 31).names.lookup y) ?it hk ?D ?v ?z ?turn ?set ?h ?ky ?line ?ny rfl ?s)
  case it => exact itEv_sL (by walk_at "ev")
  case D => walk_at "comp"
  case v => walk_at "vf"
  case z => show 2 ≤ 1000000; decide
  case s => intro _ _; rfl
  case ky => decide +kernel
  case line => rfl
  case ny => decide +kernel
  case turn =>
    intro env' bad' hK r hr
    have hr8 : Row8 r := by
      rcases List.mem_cons.mp hr with rfl | hr
      · exact h0
      · cases List.mem_singleton.mp hr; exact h1
    have p0 : r.length ≤ 1000000 := by rw [hr8.1]; decide
    have p1 : (pick r none (some place)).length ≤ 100 := Nat.le_trans (pick_length_le _ _ _) (by rw [hr8.1]; decide)
    have p2 : (pick r (some place) none).length ≤ 100 := Nat.le_trans (pick_length_le _ _ _) (by rw [hr8.1]; decide)
    refine ⟨rfl, fun _ => ?_⟩
    unfold rWr
    walk_at "ev"
  case set => walk_at "set"
  change Ex _ _ _ _ _ _
  have e : (([r0, r1].filter fun _ => true).map fun r => PyData.str (S (rWr hid place r))) = sL [rWr hid place r0, rWr hid place r1] := rfl
  rw [e]
  have hw : ∀ v ∈ [rWr hid place r0, rWr hid place r1], (∀ c ∈ v, c < 128) ∧ v.length ≤ 100 := fun v hv => by
    rcases List.mem_cons.mp hv with rfl | hv
    · exact ⟨rWr_asc hh h0, Nat.le_trans (rWr_len hz h0) (by decide)⟩
    · cases List.mem_singleton.mp hv; exact ⟨rWr_asc hh h1, Nat.le_trans (rWr_len hz h1) (by decide)⟩
  have k1 : Cmp G (Cx.wa ⟨A, env, [Str.ofString "rows", Str.ofString "items", Str.ofString "hidden", Str.ofString "place", Str.ofString "written"], bad, 4, env.cells⟩ []) .NotEq (.list (sL (rPre [rWr hid place r0, rWr hid place r1]))) (.list (sL [rWr hid place r0, rWr hid place r1])) (rPre [rWr hid place r0, rWr hid place r1] != [rWr hid place r0, rWr hid place r1]) := cmp_neLS (rPre_asc fun v hv => (hw v hv).1) fun v hv => (hw v hv).1
  have tr : ∀ p1 p2 p3 p4 p5 p6 p7, Tr G (Cx.wa ⟨A, env, [Str.ofString "rows", Str.ofString "items", Str.ofString "hidden", Str.ofString "place", Str.ofString "written"], bad, 4, env.cells⟩ []) [some (.d (.list (sL [r0, r1]))), some (.d (itemsD l)), some (.d (.str (S hid))), some (.d (.int place)), some (.d (.list (sL [rWr hid place r0, rWr hid place r1])))]
      (.Compare (.Call (.Name (Str.ofString "_pre_parse_validation") p1) [.Call (.Name (Str.ofString "list") p2) [.Name (Str.ofString "written") p3] [] p4] [] p5) [.NotEq] [.Name (Str.ofString "written") p6] p7) (rPre [rWr hid place r0, rWr hid place r1] != [rWr hid place r0, rWr hid place r1]) := fun p1 p2 p3 p4 p5 p6 p7 =>
    tr_cmp (ev_callD Hp (by walk_at "kind") (evL_cons (ev_listOf (by walk_at "kind") B.list.1 B.list.2 (by walk_at "ev") (by show 2 ≤ 1000000; decide) (by intro _; rfl)) evL_nil) (pre_ok Hp B Hg Hs Hc _ hw (by show 2 ≤ 1000; decide)) (Nat.le_refl _) (by decide) (by intro _; rfl)) (by walk_at "ev") k1 (by with_unfolding_all rfl)
  cases hq : (rPre [rWr hid place r0, rWr hid place r1] != [rWr hid place r0, rWr hid place r1]) with
  | true =>
    rw [show rStay r0 r1 l hid place = false by unfold rStay; rw [if_pos hq]]
    refine ex_cons (ex1_ifT (tr _ _ _ _ _ _ _) hq ?_)
    walk_at "ret"
    rfl
  | false =>
    rw [show rStay r0 r1 l hid place = (rTakes l r0 && rTakes l r1) by unfold rStay; rw [if_neg (by rw [hq]; decide)]]
    refine ex_cons (ex1_ifF (tr _ _ _ _ _ _ _) hq ?_)
    walk_at "done"
    refine ex_cons ?_
    refine' ex1_ret ?e9 ?n9
    case e9 =>
      refine' ev_boolop (evB_and ?x1 fun _ => evB_one ?x2)
      case x1 =>
        refine' ev_callD Ht ?k1 ?l1 (law_takes_ok Ht B l r0 hl hi h0) ?m1 (by decide) ?s1
        case k1 => walk_at "kind"
        case l1 =>
          have g0 : (sL [r0, r1])[(0 : Int).toNat]? = some (.str (S r0)) := rfl
          walk_at "evL"
        case m1 => show 1 ≤ 4; decide
        case s1 => intro _; rfl
      case x2 =>
        refine' ev_callD Ht ?k2 ?l2 (law_takes_ok Ht B l r1 hl hi h1) ?m2 (by decide) ?s2
        case k2 => walk_at "kind"
        case l2 =>
          have g0 : (sL [r0, r1])[(1 : Int).toNat]? = some (.str (S r1)) := rfl
          walk_at "evL"
        case m2 => show 1 ≤ 4; decide
        case s2 => intro _; rfl
    rfl
end
section
/-! the plain law -/
noncomputable def hids : List (List Nat) := [[92, 41], [92, 34], [34, 41, 34], [34, 40, 40, 34], [92, 92], [34, 92, 34, 41, 34], [92, 40]]
noncomputable def rows6 : Nat → List (List Nat)
  | 0 => [[]]
  | n + 1 => (rows6 n).flatMap fun r => [40 :: r, 41 :: r]
noncomputable def rows64 : List (List Nat) := (rows6 6).map fun r => 40 :: (r ++ [41])
noncomputable def okHid (hid : List Nat) : Bool := (List.range 9).all fun (p : Nat) => rows64.all fun r => rChk (rWr hid (p : Int) r) == rClosed.contains r
section
set_option maxRecDepth 100000
theorem okHid0 : okHid [92, 41] = true := by decide +kernel
theorem okHid1 : okHid [92, 34] = true := by decide +kernel
theorem okHid2 : okHid [34, 41, 34] = true := by decide +kernel
theorem okHid3 : okHid [34, 40, 40, 34] = true := by decide +kernel
theorem okHid4 : okHid [92, 92] = true := by decide +kernel
theorem okHid5 : okHid [34, 92, 34, 41, 34] = true := by decide +kernel
theorem okHid6 : okHid [92, 40] = true := by decide +kernel
end
theorem okHids {hid : List Nat} (h : hid ∈ hids) : okHid hid = true := by
  simp only [hids, List.mem_cons, List.not_mem_nil, or_false] at h
  rcases h with rfl | rfl | rfl | rfl | rfl | rfl | rfl
  · exact okHid0
  · exact okHid1
  · exact okHid2
  · exact okHid3
  · exact okHid4
  · exact okHid5
  · exact okHid6
theorem rows6_mem : ∀ (n : Nat) (r : List Nat), r.length = n → (∀ c ∈ r, c = 40 ∨ c = 41) → r ∈ rows6 n
  | 0, [], _, _ => .head _
  | n + 1, c :: r, hl, h => by
    unfold rows6
    refine List.mem_flatMap.mpr ⟨r, rows6_mem n r (by simpa using hl) fun d hd => h d (.tail _ hd), ?_⟩
    rcases h c (.head _) with rfl | rfl
    · exact .head _
    · exact .tail _ (.head _)
theorem rows64_mem {r : List Nat} (h : Row8 r) (h0 : r.getD 0 0 = 40) (h7 : r.getD 7 0 = 41) : r ∈ rows64 := by
  obtain ⟨hl, hc⟩ := h
  match r, hl with
  | [a, b, c, d, e, f, g, i], _ =>
    have e0 : a = 40 := h0
    have e7 : i = 41 := h7
    subst e0 e7
    refine List.mem_map.mpr ⟨[b, c, d, e, f, g], rows6_mem 6 _ rfl fun x hx => hc x ?_, rfl⟩
    simp only [List.mem_cons, List.not_mem_nil, or_false] at hx ⊢
    rcases hx with h | h | h | h | h | h <;> simp [h]
theorem chk_row {hid r : List Nat} {p : Nat} (hh : hid ∈ hids) (hp : p < 9) (h : Row8 r) (h0 : r.getD 0 0 = 40) (h7 : r.getD 7 0 = 41) : rChk (rWr hid (p : Int) r) = rClosed.contains r := by
  have h1 := List.all_eq_true.mp (okHids hh) p (List.mem_range.mpr hp)
  have h2 := List.all_eq_true.mp h1 r (rows64_mem h h0 h7)
  exact eq_of_beq h2
theorem closed8 : ∀ r ∈ rClosed, Row8 r ∧ r.getD 0 0 = 40 ∧ r.getD 7 0 = 41 := by
  have : rClosed.all (fun r => r.length == 8 && r.all (fun c => c == 40 || c == 41) && r.getD 0 0 == 40 && r.getD 7 0 == 41) = true := by decide +kernel
  intro r hr
  have h := List.all_eq_true.mp this r hr
  simp only [Bool.and_eq_true, beq_iff_eq, List.all_eq_true, Bool.or_eq_true] at h
  exact ⟨⟨h.1.1.1, h.1.1.2⟩, h.1.2, h.2⟩

noncomputable def rTold (a b : List Nat) : List Int := (rPlaces a).filter fun k => !(rPlaces b).contains k
noncomputable def agree (a b x : List Nat) : Bool := (List.range 8).all fun k => a.getD k 0 != b.getD k 0 || x.getD k 0 == a.getD k 0
noncomputable def exch (a b : List Nat) : Bool := (rTold a b).all fun i => (rTold b a).any fun j => rClosed.contains (rChanged a i j) && rClosed.contains (rChanged b j i) && agree a b (rChanged a i j) && agree a b (rChanged b j i)
set_option maxRecDepth 100000 in
theorem exch_all : (rClosed.all fun a => rClosed.all fun b => exch a b) = true := by decide +kernel

/-! the pattern's pieces -/
noncomputable def pcAt (row : List Nat) (kept : List Int) (kind : Int) (k : Nat) : Pc :=
  if kept.contains (k : Int) then (if (kind + k).fmod 3 = 0 then .lit (row.getD k 0) else if (kind + k).fmod 3 = 1 then .inn (row.getD k 0) else .out (turnC (row.getD k 0))) else .q
noncomputable def psOf (row : List Nat) (kept : List Int) (kind : Int) : List Pc := (List.range 8).map (pcAt row kept kind)
theorem pat_ps (row : List Nat) (kept : List Int) (kind : Int) : rPattern row kept kind = (psOf row kept kind).flatMap patP := by
  unfold rPattern psOf
  rw [List.flatMap_map, List.flatMap_def]
  congr 1
  refine List.map_congr_left fun k _ => ?_
  unfold rPat1 pcAt rCell
  split
  · split
    · rfl
    · split <;> rfl
  · rfl
theorem ps_ok {row : List Nat} (h : Row8 row) (kept : List Int) (kind : Int) : ∀ p ∈ psOf row kept kind, OkP p := by
  intro p hp
  obtain ⟨k, hk, rfl⟩ := List.mem_map.mp hp
  have := h.get (List.mem_range.mp hk)
  unfold pcAt
  split
  · split
    · exact this
    · split
      · exact this
      · show turnC _ = 40 ∨ turnC _ = 41
        unfold turnC; split
        · exact .inr rfl
        · exact .inl rfl
  · trivial
theorem items_tk {row r : List Nat} (h : Row8 row) (hr : Row8 r) (kept : List Int) (kind : Int) {k : Nat} (hk : k < 8) : tk1 ((psOf row kept kind).map itemP) r k = (!kept.contains (k : Int) || r.getD k 0 == row.getD k 0) := by
  have e : ((psOf row kept kind).map itemP).getD k (false, []) = itemP (pcAt row kept kind k) := by
    simp [psOf, List.getD, hk]
  unfold tk1
  rw [e]
  unfold pcAt
  cases hc : kept.contains (k : Int) with
  | false => rfl
  | true =>
    simp only [if_true]
    rcases hr.get hk with h1 | h1 <;> rcases h.get hk with h2 | h2 <;> rw [h1, h2] <;> split <;> (try split) <;> decide
end
section
variable {G : TopC} {C : Cx} {V : List (Option VV)} {acc : Acc}

theorem cmp_neI2 {a b c d : List Int} (h1 : a = c) (h2 : b = d) : Cmp G C .NotEq (.tuple [.list (iL a), .list (iL b)]) (.tuple [.list (iL c), .list (iL d)]) false := by
  subst h1 h2
  exact cmp_neSelf shaped_ints2
theorem places_iL_filter (a b : List Int) : (iL a).length = a.length := by rw [iL, List.length_map]
theorem law_two_ok {fa : Addr} (H : DefAt G (Str.ofString "_law_two") 33 fa) (B : BltOk G) {f28 f16 f32 f30 f18 f31 f29 fg fs fc fp ft : Addr} (H28 : DefAt G (Str.ofString "_law_places") 28 f28) (H16 : DefAt G (Str.ofString "sorted_list_difference") 16 f16) (H32 : DefAt G (Str.ofString "_law_first") 32 f32) (H30 : DefAt G (Str.ofString "_law_way") 30 f30) (H18 : DefAt G (Str.ofString "three_way_cmp") 18 f18) (H31 : DefAt G (Str.ofString "_law_stay") 31 f31) (H29 : DefAt G (Str.ofString "_law_changed") 29 f29) (Hg : DefAt G (Str.ofString "_iter_escaped_chars") 2 fg) (Hs : DefAt G (Str.ofString "_strip_quoted_realnames") 3 fs) (Hc : DefAt G (Str.ofString "_check_parenthesis") 4 fc) (Hp : DefAt G (Str.ofString "_pre_parse_validation") 5 fp) (Ht : DefAt G (Str.ofString "_law_takes") 27 ft) (a b : List Nat) (l : List (Bool × List Nat)) (hid : List Nat) (place : Int) (ha : Row8 a) (hb : Row8 b) (hl : l.length = 8) (hi : ItemsOk l) (hh : Asc hid) (hz : hid.length ≤ 10) (F16 : Fn G f16 3 [.list (iL (rPlaces a)), .list (iL (rPlaces b))] (.tuple [.list (iL (rTold a b)), .list (iL (rTold b a))])) (hp1 : Parts (rTold a b) (rTold b a)) (hp2 : Parts (rTold b a) (rTold a b)) (hw1 : ((if decide (b < a) then 1 else 0) - (if decide (a < b) then 1 else 0) : Int) = rFirst a b) (hw2 : ((if decide (a < b) then 1 else 0) - (if decide (b < a) then 1 else 0) : Int) = - rFirst a b) (hw3 : ((if lexLt (rTold b a) (rTold a b) then 1 else 0) - (if lexLt (rTold a b) (rTold b a) then 1 else 0) : Int) = rFirst a b) (hw4 : ((if lexLt (rTold a b) (rTold b a) then 1 else 0) - (if lexLt (rTold b a) (rTold a b) then 1 else 0) : Int) = - rFirst a b) (hex : ∀ i ∈ rTold a b, ∃ j ∈ rTold b a, rStay (rChanged a i j) (rChanged b j i) l hid place = true) (hrow : ∀ i ∈ rTold a b, ∀ j ∈ rTold b a, Row8 (rChanged a i j) ∧ Row8 (rChanged b j i)) :
    Fn G fa 6 [.str (S a), .str (S b), itemsD l, .str (S hid), .int place] (.bool true) := by
  refine fn_at (N := [Str.ofString "one", Str.ofString "other", Str.ofString "items", Str.ofString "hidden", Str.ofString "place", Str.ofString "first", Str.ofString "second", Str.ofString "kept", Str.ofString "told", Str.ofString "due", Str.ofString "i", Str.ofString "found", Str.ofString "j"]) (xs := [Str.ofString "one", Str.ofString "other", Str.ofString "items", Str.ofString "hidden", Str.ofString "place"]) (V0 := [some (.d (.str (S a))), some (.d (.str (S b))), some (.d (itemsD l)), some (.d (.str (S hid))), some (.d (.int place)), none, none, none, none, none, none, none, none]) (ys := [Str.ofString "first", Str.ofString "second", Str.ofString "kept", Str.ofString "told", Str.ofString "due", Str.ofString "i", Str.ofString "found", Str.ofString "j"]) H ?_ rfl ?_ rfl rfl ?_
  · walk_at "def"
  · intro pm code doc vs h
    obtain ⟨a, b, c, d, e, rfl⟩ := len5 h
    rfl
  intro A env bad hk
  refine' ex_cons (ex1_assign (ev_callD H28 ?k1 (evL_cons (ev_name .head) evL_nil) (law_places_ok H28 B a ha.1) ?m1 (by decide) (by intro _; rfl)) ?s1 ?n1)
  case k1 => walk_at "kind"
  case m1 => show 1 ≤ 5; decide
  case s1 => walk_at "set"
  change Ex _ _ _ _ _ _
  refine' ex_cons (ex1_assign (ev_callD H28 ?k2 (evL_cons (ev_name (.tail .head)) evL_nil) (law_places_ok H28 B b hb.1) ?m2 (by decide) (by intro _; rfl)) ?s2 ?n2)
  case k2 => walk_at "kind"
  case m2 => show 1 ≤ 5; decide
  case s2 => walk_at "set"
  change Ex _ _ _ _ _ _
  have hpl : ∀ r, (iL (rPlaces r)).length ≤ 1000000 := fun r => by
    rw [iL, List.length_map, rPlaces, List.length_map]
    exact Nat.le_trans (List.length_filter_le _ _) (by rw [List.length_range]; decide)
  refine' ex_cons (ex1_assign (ev_tuple (evL_cons (ev_listOf ?k3 B.list.1 B.list.2 ?e3 (hpl _) (by intro _; rfl)) (evL_cons (ev_listOf ?k4 B.list.1 B.list.2 ?e4 (hpl _) (by intro _; rfl)) evL_nil)) (of_decide_eq_true rfl)) ?s3 ?n3)
  case k3 => walk_at "kind"
  case e3 => walk_at "ev"
  case k4 => walk_at "kind"
  case e4 => walk_at "ev"
  case s3 => walk_at "set"
  change Ex _ _ _ _ _ _
  refine' ex_cons (ex1_assign (ev_callD H16 ?k5 (evL_cons ?a5 (evL_cons ?b5 evL_nil)) F16 ?m5 (by decide) (by intro _; rfl)) ?s5 ?n5)
  case k5 => walk_at "kind"
  case m5 => show 3 ≤ 5; decide
  case a5 => walk_at "ev"
  case b5 => walk_at "ev"
  case s5 => walk_at "set"
  change Ex _ _ _ _ _ _
  refine' ex_cons (ex1_ifF (c := false) ?t6 rfl ?a6)
  case t6 =>
    refine' tr_cmp (b := .tuple [.list (iL (((rPlaces a).filter fun k => !(rPlaces b).contains k).map fun k => k)), .list (iL (((rPlaces b).filter fun k => !(rPlaces a).contains k).map fun k => k))]) (ev_name ?x6) (ev_tuple (evL_cons ?y6 (evL_cons ?z6 evL_nil)) (of_decide_eq_true rfl)) (cmp_neI2 (a := rTold a b) (b := rTold b a) (c := ((rPlaces a).filter fun k => !(rPlaces b).contains k).map fun k => k) (d := ((rPlaces b).filter fun k => !(rPlaces a).contains k).map fun k => k) (by simp [rTold]) (by simp [rTold])) (by with_unfolding_all rfl)
    case x6 => walk_at "var"
    case y6 =>
      refine' ev_compI (src := rPlaces a) (inj := fun k => .int k) (p := fun k => !(rPlaces b).contains k) (g := fun k => k) (fr := [Str.ofString "second"]) (Vf := [some (.d (.list (iL (rPlaces b))))]) (kinds := fun y => (pScope 33).names.lookup y) ?it7 hk ?D7 ?v7 ?z7 ?turn7 ?s7
      case it7 => exact itEv_iL (by walk_at "ev")
      case D7 => walk_at "comp"
      case v7 => walk_at "vf"
      case z7 => have := hpl a; rw [iL, List.length_map] at this; exact this
      case s7 => intro _ _; rfl
      case turn7 =>
        intro env' bad' hK i hi
        refine ⟨?_, fun hp => ?_⟩
        · show Tr _ _ _ _ _
          walk_at "tr"
        · walk_at "ev"
    case z6 =>
      refine' ev_compI (src := rPlaces b) (inj := fun k => .int k) (p := fun k => !(rPlaces a).contains k) (g := fun k => k) (fr := [Str.ofString "first"]) (Vf := [some (.d (.list (iL (rPlaces a))))]) (kinds := fun y => (pScope 33).names.lookup y) ?it8 hk ?D8 ?v8 ?z8 ?turn8 ?s8
      case it8 => exact itEv_iL (by walk_at "ev")
      case D8 => walk_at "comp"
      case v8 => walk_at "vf"
      case z8 => have := hpl b; rw [iL, List.length_map] at this; exact this
      case s8 => intro _ _; rfl
      case turn8 =>
        intro env' bad' hK i hi
        refine ⟨?_, fun hp => ?_⟩
        · show Tr _ _ _ _ _
          walk_at "tr"
        · walk_at "ev"
  change Ex _ _ _ _ _ _
  walk_at "done"
  refine' ex_cons (ex1_assign (ev_callD H32 ?k9 (evL_cons ?a9 (evL_cons ?b9 evL_nil)) (law_first_ok H32 B a b ha hb) ?m9 (by decide) (by intro _; rfl)) ?s9 ?n9)
  case k9 => walk_at "kind"
  case m9 => show 1 ≤ 5; decide
  case a9 => walk_at "ev"
  case b9 => walk_at "ev"
  case s9 => walk_at "set"
  change Ex _ _ _ _ _ _
  have W1 := law_way_ok H30 B H18 (.str (S a)) (.str (S b)) _ _ (rFirst a b) (three_way_str H18 a b) (three_way_str H18 b a)
  rw [hw1, hw2, show ((rFirst a b == rFirst a b) && (-rFirst a b == -rFirst a b)) = true by simp] at W1
  have W2 := law_way_ok H30 B H18 (.list (iL (rTold a b))) (.list (iL (rTold b a))) _ _ (rFirst a b) (three_way_list H18 _ _ hp1 hp2) (three_way_list H18 _ _ hp2 hp1)
  rw [hw3, hw4, show ((rFirst a b == rFirst a b) && (-rFirst a b == -rFirst a b)) = true by simp] at W2
  refine' ex_cons (ex1_ifF (c := false || (!true || (!true || false))) ?t10 rfl ?a10)
  case t10 =>
    refine' tr_bool (trL_or ?x10 fun _ => trL_or (tr_not ?y10) fun _ => trL_or (tr_not ?z10) fun _ => trL_orNil)
    case x10 =>
      refine' tr_cmp (b := .tuple [.list (iL (rPlaces a)), .list (iL (rPlaces b))]) (ev_tuple (evL_cons ?p10 (evL_cons ?q10 evL_nil)) (of_decide_eq_true rfl)) (ev_name ?r10) (cmp_neI2 rfl rfl) (by with_unfolding_all rfl)
      case p10 => walk_at "ev"
      case q10 => walk_at "ev"
      case r10 => walk_at "var"
    case y10 =>
      refine' tr_ev (ev_callD H30 ?k11 (evL_cons ?a11 (evL_cons ?b11 (evL_cons ?c11 evL_nil))) W1 ?m11 (by decide) (by intro _; rfl)) (by intro _ _; rfl)
      case k11 => walk_at "kind"
      case m11 => show 2 ≤ 5; decide
      case a11 => walk_at "ev"
      case b11 => walk_at "ev"
      case c11 => walk_at "ev"
    case z10 =>
      refine' tr_ev (ev_callD H30 ?k12 (evL_cons ?a12 (evL_cons ?b12 (evL_cons ?c12 evL_nil))) W2 ?m12 (by decide) (by intro _; rfl)) (by intro _ _; rfl)
      case k12 => walk_at "kind"
      case m12 => show 2 ≤ 5; decide
      case a12 => walk_at "ev"
      case b12 => walk_at "ev"
      case c12 => walk_at "ev"
  change Ex _ _ _ _ _ _
  walk_at "done"
  refine' ex_cons (ex1_for (items := (rTold a b).map fun h => .int h) ?it20 (fun k V1 acc1 => acc1 = [] ∧ ∃ x y z, V1 = [some (.d (.str (S a))), some (.d (.str (S b))), some (.d (itemsD l)), some (.d (.str (S hid))), some (.d (.int place)), some (.d (.list (iL (rPlaces a)))), some (.d (.list (iL (rPlaces b)))), some (.d (.tuple [.list (iL (rPlaces a)), .list (iL (rPlaces b))])), some (.d (.tuple [.list (iL (rTold a b)), .list (iL (rTold b a))])), some (.d (.int (rFirst a b))), x, y, z]) ⟨rfl, none, none, none, rfl⟩ ?h20 ?t20 ?d20 rfl (by intro _ _; rfl))
  case it20 => exact itEv_iL (by walk_at "ev")
  case h20 => rintro i V1 acc1 ⟨rfl, _⟩; rfl
  case d20 =>
    rintro V' acc' ⟨rfl, x, y, z, rfl⟩
    change Ex _ _ _ _ _ _
    walk_at "ret"
    rfl
  case t20 =>
    rintro k d V1 acc1 hd ⟨rfl, x, y, z, rfl⟩
    rw [List.getElem?_map, Option.map_eq_some_iff] at hd
    obtain ⟨i, hi1, rfl⟩ := hd
    have him := List.mem_of_getElem? hi1
    obtain ⟨j0, hj0, hst0⟩ := hex i him
    refine ⟨_, .tail (.tail (.tail (.tail (.tail (.tail (.tail (.tail (.tail (.tail .head))))))))), ?_⟩
    walk_at "assign"
    refine' ex_cons (ex1_for (items := (rTold b a).map fun h => .int h) ?it30 (fun k V1 acc1 => acc1 = [] ∧ ∃ z, V1 = [some (.d (.str (S a))), some (.d (.str (S b))), some (.d (itemsD l)), some (.d (.str (S hid))), some (.d (.int place)), some (.d (.list (iL (rPlaces a)))), some (.d (.list (iL (rPlaces b)))), some (.d (.tuple [.list (iL (rPlaces a)), .list (iL (rPlaces b))])), some (.d (.tuple [.list (iL (rTold a b)), .list (iL (rTold b a))])), some (.d (.int (rFirst a b))), some (.d (.int i)), some (.d (.bool (((rTold b a).take k).any fun j => rStay (rChanged a i j) (rChanged b j i) l hid place))), z]) ⟨rfl, _, rfl⟩ ?h30 ?t30 ?d30 rfl (by intro _ _; rfl))
    case it30 => exact itEv_iL (by walk_at "ev")
    case h30 => rintro i V1 acc1 ⟨rfl, _⟩; rfl
    case d30 =>
      rintro V' acc' ⟨rfl, z, rfl⟩
      change Ex _ _ _ _ _ _
      have hf : (((rTold b a).take ((rTold b a).map fun h => PyData.int h).length).any fun j => rStay (rChanged a i j) (rChanged b j i) l hid place) = true := by
        rw [List.length_map, List.take_length]
        exact List.any_eq_true.mpr ⟨j0, hj0, hst0⟩
      rw [hf]
      refine' ex_cons (ex1_ifF (c := !true) ?t40 rfl ?a40)
      case t40 => walk_at "tr"
      change Ex _ _ _ _ _ _
      walk_at "done"
      exact ex_nil ⟨rfl, _, _, _, rfl⟩
    case t30 =>
      rintro m d V1 acc1 hd ⟨rfl, z, rfl⟩
      rw [List.getElem?_map, Option.map_eq_some_iff] at hd
      obtain ⟨j, hj1, rfl⟩ := hd
      have hjm := List.mem_of_getElem? hj1
      obtain ⟨r1, r2⟩ := hrow i him j hjm
      refine ⟨_, .tail (.tail (.tail (.tail (.tail (.tail (.tail (.tail (.tail (.tail (.tail (.tail .head))))))))))), ?_⟩
      have hstep : (((rTold b a).take (m + 1)).any fun j => rStay (rChanged a i j) (rChanged b j i) l hid place) = ((((rTold b a).take m).any fun j => rStay (rChanged a i j) (rChanged b j i) l hid place) || rStay (rChanged a i j) (rChanged b j i) l hid place) := by
        rw [List.take_add_one, hj1, List.any_append]; simp
      rw [hstep]
      refine' ex_cons (ex1_assign (ev_boolop (evB_or (ev_name ?x50) fun _ => evB_one ?y50)) ?s50 ?n50)
      case x50 => walk_at "var"
      case y50 =>
        refine' ev_callD H31 ?k50 (evL_cons (ev_list (evL_cons ?c50 (evL_cons ?d50 evL_nil)) (of_decide_eq_true rfl)) (evL_cons (ev_name ?e50) (evL_cons (ev_name ?f50) (evL_cons (ev_name ?g50) evL_nil)))) (law_stay_ok H31 B Hg Hs Hc Hp Ht (rChanged a i j) (rChanged b j i) l hid place r1 r2 hl hi hh hz) ?m50 (by decide) (by intro _; rfl)
        case k50 => walk_at "kind"
        case m50 => show 5 ≤ 5; decide
        case e50 => walk_at "var"
        case f50 => walk_at "var"
        case g50 => walk_at "var"
        case c50 =>
          refine' ev_callD H29 ?k60 (evL_cons (ev_name ?a60) (evL_cons (ev_name ?b60) (evL_cons (ev_name ?c60) evL_nil))) (law_changed_ok H29 a i j (by rw [ha.1]; decide)) ?m60 (by decide) (by intro _; rfl)
          case k60 => walk_at "kind"
          case m60 => show 1 ≤ 5; decide
          case a60 => walk_at "var"
          case b60 => walk_at "var"
          case c60 => walk_at "var"
        case d50 =>
          refine' ev_callD H29 ?k61 (evL_cons (ev_name ?a61) (evL_cons (ev_name ?b61) (evL_cons (ev_name ?c61) evL_nil))) (law_changed_ok H29 b j i (by rw [hb.1]; decide)) ?m61 (by decide) (by intro _; rfl)
          case k61 => walk_at "kind"
          case m61 => show 1 ≤ 5; decide
          case a61 => walk_at "var"
          case b61 => walk_at "var"
          case c61 => walk_at "var"
      case s50 => walk_at "set"
      change Ex _ _ _ _ _ _
      exact ex_nil ⟨rfl, _, rfl⟩
end
section
set_option maxRecDepth 100000
section
variable {prog : Program} {w : World} {A : Around} {E : Value → Shared → Prop} {h : Heap} {g : Array GenState} {d : Drawn} {t : Nat} {os : OsState} {a : Addr}
theorem slot_md_get : Slot "method_descriptor" "__get__" "method_descriptor.__get__" :=
  .of (owner := "method_descriptor") (n := "__get__") (by rw [typeLookup_type, builtinLookup_eq_fast]; kernel_rfl) (by decide +kernel) (by decide +kernel) (by decide +kernel)
    (by first | exact .inl (by decide +kernel) | exact .inr (by decide +kernel)) (by rw [isSubtype_type]; kernel_rfl)
theorem entry_md_get : entryFor table "method_descriptor.__get__" = some Builtin.«method_descriptor.__get__» := entryFor_of_tree (by kernel_rfl)
theorem args_md_get (a b c : Value) : argsOk "method_descriptor.__get__" ⟨[a, b, c], []⟩ := by unfold argsOk; kernel_rfl
theorem owner_list_append : (".".intercalate ("list.append".cutAt '.').dropLast) = "list" := by
  have e0 : "list.append".cutAt '.' = ["list", "append"] := by first | rfl | decide +kernel
  rw [e0]; decide +kernel
theorem sub_list_append_owner : isSubtype (.type "list") (.type (".".intercalate ("list.append".cutAt '.').dropLast)) = pure true := by rw [owner_list_append, isSubtype_type]; kernel_rfl
theorem md_get : typeLookup (.type "method_descriptor") "__get__" = pure (some (.builtin "method_descriptor.__get__")) := by rw [typeLookup_type, builtinLookup_eq_fast]; kernel_rfl
theorem md_set : typeLookup (.type "method_descriptor") "__set__" = pure none := by rw [typeLookup_type, builtinLookup_eq_fast]; kernel_rfl
theorem md_del : typeLookup (.type "method_descriptor") "__delete__" = pure none := by rw [typeLookup_type, builtinLookup_eq_fast]; kernel_rfl
set_option maxHeartbeats 1000000 in
theorem append_get {xs : Array Value} {k : Nat} {sl : Array (Option Value)} {R : Result → Shared → Prop} (hx : h.get? a = some { cls := .type "list", dict := none, data := .seq xs k, slots := sl })
    (hq : R (.ok (.ret (.ref h.objs.size))) ⟨h.push { cls := .type "builtin_function_or_method", data := .fields #[.builtin "list.append", .ref a] }, g, d, t, os⟩) :
    codeAny (model prog w) A (.call (.builtin "method_descriptor.__get__") ⟨[.builtin "list.append", .ref a, .type "list"], []⟩) R ⟨h, g, d, t, os⟩ := by
  have hT : (⟨h, g, d, t, os⟩ : Shared).TypeIs (.ref a) "list" := ⟨_, hx, rfl⟩
  have hT5 : (⟨h, g, d, t, os⟩ : Shared).TypeIs (.builtin "list.append") "method_descriptor" := F.type_list_append
  have f9 := sub_list_append_owner
  refine codeAny_call_builtin slot_md_get.plain entry_md_get (slot_md_get.check _ _ _ _ _ _ _ _ hT5 (args_md_get _ _ _) ?_)
  repeat (any_goals (first | assumption | wp_step))
set_option maxHeartbeats 1000000 in
theorem append_entry {xs : Array Value} {k : Nat} {sl : Array (Option Value)} {tk : Tok} {Q : Fin → Shared → Prop} (hx : h.get? a = some { cls := .type "list", dict := none, data := .seq xs k, slots := sl })
    (hq : Q (.done (.ret (.ref h.objs.size))) ⟨h.push { cls := .type "builtin_function_or_method", data := .fields #[.builtin "list.append", .ref a] }, g, d, t, os⟩) :
    wpAny (model prog w) A (Builtin.«object.__getattribute__» ⟨[.ref a, .str "append" tk], []⟩) Q E ⟨h, g, d, t, os⟩ := by
  have hT : (⟨h, g, d, t, os⟩ : Shared).TypeIs (.ref a) "list" := ⟨_, hx, rfl⟩
  have hT5 : (⟨h, g, d, t, os⟩ : Shared).TypeIs (.builtin "list.append") "method_descriptor" := F.type_list_append
  have f4 := PySem.slot_list_append.lookup
  have f5 := F.type_list_append
  have f6 := md_get
  have f7 := md_set
  have f8 := md_del
  repeat (any_goals (first | assumption | wp_step))
  refine append_get hx ?_
  repeat (any_goals (first | assumption | wp_step))
end
end
section
set_option maxRecDepth 100000
section
variable {prog : Program} {w : World} {A : Around} {E : Value → Shared → Prop} {h : Heap} {g : Array GenState} {d : Drawn} {t : Nat} {os : OsState} {a : Addr}
theorem append_call {xs : Array Value} {k : Nat} {sl : Array (Option Value)} {tk : Tok} {R : Result → Shared → Prop} (hx : h.get? a = some { cls := .type "list", dict := none, data := .seq xs k, slots := sl })
    (hq : R (.ok (.ret (.ref h.objs.size))) ⟨h.push { cls := .type "builtin_function_or_method", data := .fields #[.builtin "list.append", .ref a] }, g, d, t, os⟩) :
    codeAny (model prog w) A (.call (.builtin "list.__getattribute__") ⟨[.ref a, .str "append" tk], []⟩) R ⟨h, g, d, t, os⟩ :=
  codeAny_call_builtin F.slot_list_getattribute.plain F.entry_list_ga (F.slot_list_getattribute.check _ _ _ _ _ _ _ _ (show (⟨h, g, d, t, os⟩ : Shared).TypeIs (.ref a) "list" from ⟨_, hx, rfl⟩) (F.args_list_getattribute_2 _ _) (append_entry hx hq))
set_option maxHeartbeats 1000000 in
theorem append_attr {xs : Array Value} {k : Nat} {sl : Array (Option Value)} {Q : Value → Shared → Prop} (hx : h.get? a = some { cls := .type "list", dict := none, data := .seq xs k, slots := sl })
    (hq : Q (.ref h.objs.size) ⟨h.push { cls := .type "builtin_function_or_method", data := .fields #[.builtin "list.append", .ref a] }, g, d, t + 1, os⟩) :
    wpAny (model prog w) A (getAttr (.ref a) "append" true) Q E ⟨h, g, d, t, os⟩ := by
  have hT : ∀ tk', (⟨h, g, d, tk', os⟩ : Shared).TypeIs (.ref a) "list" := fun _ => ⟨_, hx, rfl⟩
  have f3 := F.slot_list_getattribute.lookup
  have f4 := F.slot_list_getattribute.bind (.ref a)
  unfold getAttr getAttrBy
  repeat (any_goals (first | assumption | exact hT _ | wp_step))
  refine append_call hx ?_
  repeat (any_goals (first | assumption | exact hT _ | wp_step))
theorem chkA (a x : Value) : (match Manifest.signature? "list.append" with | none => pure () | some sig => Bind.checkArgs "list.append" { sig with full := "list.append" } ⟨[a, x], []⟩ : Sem Unit) = pure () := by kernel_rfl
theorem chkN : (toString (Bind.lastOf "list") ++ toString "." ++ toString (Bind.lastOf "list.append")) = "list.append" := by decide +kernel
set_option maxHeartbeats 1000000 in
/-- the bound method, called -/
theorem bound_call {m : Addr} {x : Value} {om : Obj} {xs : Array Value} {k : Nat} {sl : Array (Option Value)} {Q : Value → Shared → Prop} (hm : h.get? m = some om) (hmc : om.cls = .type "builtin_function_or_method") (hmd : om.data = .fields #[.builtin "list.append", .ref a])
    (hx : h.get? a = some { cls := .type "list", dict := none, data := .seq xs k, slots := sl })
    (hq : codeAny (model prog w) A (.builtin "list.append" ⟨[.ref a, x], []⟩) (fun r s' => match r with | .ok (.ret v) => Q v s' | .ok _ => False | .error e => E e s') ⟨h, g, d, t, os⟩) :
    wpAny (model prog w) A (call (.ref m) [x]) Q E ⟨h, g, d, t, os⟩ := by
  have hT : (⟨h, g, d, t, os⟩ : Shared).TypeIs (.ref a) "list" := ⟨_, hx, rfl⟩
  refine wpAny_call (codeAny_of_tree ?_)
  show wpAny _ _ (callAny (.ref m) ⟨[x], []⟩) _ _ _
  unfold callAny
  refine wpAny_bind (wpAny_load hm ?_)
  rw [hmd, hmc]
  show wpAny _ _ (checkBoundCall "list.append" ⟨[.ref a, x], []⟩ >>= fun _ => again (.builtin "list.append" ⟨[.ref a, x], []⟩)) _ _ _
  refine wpAny_bind ?_
  have k1 : builtinKind "list.append" = some .method := by decide +kernel
  have k2 : Manifest.varargsMethods.contains "list.append" = false := by decide +kernel
  have k3 : isSubtype (.type "list") (.type "module") = pure false := by rw [isSubtype_type]; kernel_rfl
  obtain ⟨sig, hsig⟩ : ∃ sig, Manifest.signature? "list.append" = some sig := Option.isSome_iff_exists.mp (by decide +kernel)
  have c := chkA (.ref a) x
  rw [hsig] at c
  dsimp only at c
  unfold checkBoundCall
  rw [hsig, k1]
  dsimp only
  refine wpAny_bind (wpAny_isInstance hT k3 ?_)
  rw [k2]
  rw [if_neg (by decide)]
  repeat (any_goals (first | assumption | ((with_reducible show wpAny _ _ (Bind.checkArgs _ _ _) _ _ _); rw [chkN, c]; refine wpAny_pure ?_) | wp_step))
  exact ⟨Code.quiet_builtin _ (by decide +kernel), hq⟩
end
end
section
variable {G : TopC} {C : Cx} {V : List (Option VV)} {acc : Acc}

/-! exceptions under way -/
/-- none of the frame's own things, and not there when the base was laid -/
noncomputable def Far (G : TopC) (B : Base) (C : Cx) (acc : Acc) (a : Addr) : Prop := (∀ o, Plain o → B.h.get? a ≠ some o) ∧ G.hT.get? a = none ∧ ¬ (C.wa acc).bad a
theorem Far.new {B : Base} {s : Shared} (q : FS G B C V acc s) {a : Addr} (h : s.heap.get? a = none) : Far G B C acc a := by
  refine ⟨fun o p e => ?_, ?_, q.st.new h⟩
  · obtain ⟨o', e', _⟩ := q.base a o p e
    rw [h] at e'; cases e'
  · cases e : G.hT.get? a with
    | none => rfl
    | some o => have := q.st.ok.top a o e; rw [h] at this; cases this
theorem Far.reacc {B : Base} {a : Addr} {acc' : Acc} (x : Far G B C acc a) (h : acc'.map (·.1) = acc.map (·.1)) : Far G B C acc' a := by
  have : C.wa acc' = C.wa acc := by unfold Cx.wa; rw [h]
  exact ⟨x.1, x.2.1, by rw [this]; exact x.2.2⟩

/-- the frame stands at the head of the frames -/
structure Hd (C : Cx) : Prop where
  frame : C.env.frame = some C.env.locals
  frames : ∃ outer, C.A.frames = some (C.env :: outer)

structure TBk (G : TopC) (B : Base) (C : Cx) (acc : Acc) (h : Heap) (e tb : Addr) : Prop where
  far : Far G B C acc tb
  ne : tb ≠ e
  there : ∃ ot ts L, h.get? tb = some ot ∧ ot.cls = .type "traceback" ∧ ot.data = .fields ts ∧ 3 < ts.size ∧ ts[1]? = some (.ref L)
structure XF (G : TopC) (B : Base) (C : Cx) (acc : Acc) (T : String) (cx : Value) (tr : Prop) (h : Heap) (e : Addr) : Prop where
  far : Far G B C acc e
  there : ∃ oe vs, h.get? e = some oe ∧ oe.cls = .type T ∧ oe.data = .fields vs ∧ vs[2]? = some cx ∧ ((¬ tr ∧ vs[1]? = some .none) ∨ ∃ tb, vs[1]? = some (.ref tb) ∧ TBk G B C acc h e tb)
theorem XF.weak {B : Base} {T : String} {cx : Value} {h : Heap} {e : Addr} {tr : Prop} (x : XF G B C acc T cx tr h e) : XF G B C acc T cx False h e := by
  obtain ⟨oe, vs, a, b, c, d, r⟩ := x.there
  exact ⟨x.far, oe, vs, a, b, c, d, r.imp (fun q => ⟨id, q.2⟩) id⟩
theorem XF.reacc {B : Base} {T : String} {cx : Value} {h : Heap} {e : Addr} {tr : Prop} {acc' : Acc} (x : XF G B C acc T cx tr h e) (hm : acc'.map (·.1) = acc.map (·.1)) : XF G B C acc' T cx tr h e := by
  obtain ⟨oe, vs, a, b, c, d, r⟩ := x.there
  exact ⟨x.far.reacc hm, oe, vs, a, b, c, d, r.imp id fun ⟨tb, h1, h2⟩ => ⟨tb, h1, h2.far.reacc hm, h2.ne, h2.there⟩⟩
theorem XF.keep {B : Base} {T : String} {cx : Value} {h h' : Heap} {e : Addr} {tr : Prop} (x : XF G B C acc T cx tr h e) (k : ∀ a o, o.cls ≠ Value.none → (∃ vs, o.data = .fields vs) → h.get? a = some o → h'.get? a = some o) : XF G B C acc T cx tr h' e := by
  obtain ⟨oe, vs, a, b, c, d, r⟩ := x.there
  refine ⟨x.far, oe, vs, k _ _ (by rw [b]; intro z; cases z) ⟨_, c⟩ a, b, c, d, r.imp id ?_⟩
  rintro ⟨tb, h1, h2, h3, ot, ts, L, h4, h5, h6, h7⟩
  exact ⟨tb, h1, h2, h3, ot, ts, L, k _ _ (by rw [h5]; intro z; cases z) ⟨_, h6⟩ h4, h5, h6, h7⟩
theorem XF.sim {B : Base} {T : String} {cx : Value} {h h' : Heap} {e : Addr} {tr : Prop} (x : XF G B C acc T cx tr h e) (k : KpH h h') : XF G B C acc T cx tr h' e :=
  x.keep fun a o hc hf e => rec_sim k hc hf e

/-- a place of a record far off set -/
theorem FS.set {B : Base} {s : Shared} (q : FS G B C V acc s) {a : Addr} {o : Obj} {vs : Array Value} (far : Far G B C acc a) (ho : s.heap.get? a = some o) (hc : o.cls ≠ Value.none) (hd : o.data = .fields vs) (h1 : ∀ x t, vs[1]? ≠ some (.str x t)) (f : Obj → Obj) :
    FS G B C V acc { s with heap := s.heap.update a f } :=
  q.step (tk := s.toks) ho ⟨hc, vs, hd, h1⟩ far.1 far.2.1 far.2.2 (Heap.SameBut.update ..).extBut

theorem kp_slots {A : Around} {s : Shared} {h' : Heap} {l : List Env} (x : Ok G A s) (hl : s.heap.FunFrames G.hT l) (hs : Heap.SlotsOnly (l.filterMap (·.frame)) s.heap h') : Kp G s { s with heap := h' } := by
  have nf : ∀ b ∈ l.filterMap (·.frame), ∀ o, s.heap.get? b = some o → ∀ vs, o.data ≠ .fields vs := fun b hb o e => by
    obtain ⟨_, o', ho, hnf⟩ := hl.mem hb
    rw [e] at ho; cases ho; exact hnf
  refine ⟨fun a o _ e => ?_, fun h b o e => ?_, fun h => ?_, ⟨#[], by simp, by simp⟩, rfl⟩
  · by_cases hm : a ∈ l.filterMap (·.frame)
    · obtain ⟨sl, e'⟩ := hs.2.2 a o e
      exact ⟨_, e', rfl, rfl, rfl, fun ⟨vs, z⟩ => absurd z (nf a hm o e vs)⟩
    · exact ⟨o, (hs.2.1 a hm).trans e, .refl o⟩
  · exact (hs.2.1 b fun hm => by rw [(hl.mem hm).1] at e; cases e).trans (h b o e)
  · obtain ⟨ps, e, r⟩ := h
    refine ⟨ps, (hs.2.1 _ fun hm => nf _ hm _ e _ rfl).trans e, r.imp id ?_⟩
    rintro ⟨c', e', c₂, o, vs, t, e2, e3, e4, e5⟩
    exact ⟨c', e', c₂, o, vs, t, e2, (hs.2.1 _ fun hm => nf _ hm _ e3 _ e4).trans e3, e4, e5⟩

section
variable {A' : Around} {E : Value → Shared → Prop} {B : Base} {T : String} {cx : Value} {e : Addr}
theorem fs_entry {s : Shared} (hfr : A'.frames = C.A.frames) (H : Hd C) (q : FS G B C V acc s) {tr : Prop} (x : XF G B C acc T cx tr s.heap e) {head : Value} {hadNext : Bool} {Q : Unit → Shared → Prop}
    (k : ∀ s', FS G B C V acc s' → XF G B C acc T cx True s'.heap e → Q () s') :
    wpAny (model G.prog G.w) A' (do let a ← frameOf C.env; let pl ← entryPlaceOf C.env.locals hadNext; let b ← EntryCells.newEntry head a .none (rawInt C.env.locals) .none pl; setField (.ref e) 1 b) Q E s := by
  obtain ⟨outer, hf⟩ := H.frames
  obtain ⟨l, e1, hl⟩ := q.st.ok.frames
  have e1' : C.A.frames = some l := e1
  rw [hf] at e1'; cases e1'
  refine wpAny_bind (wpAny_frameOf_fun (hfr.trans hf) hl H.frame fun h₁ hs₁ => ?_)
  have k1 := kp_slots (G := G) q.st.ok hl hs₁
  refine wpAny_bind (wpAny_entryPlaceOf fun pl hpl => ?_)
  unfold EntryCells.newEntry newFields
  refine wpAny_bind (wpAny_newObj_type ?_ (hpl.sizeOk5 _ _ _ _ _))
  have k2 := k1.trans (Kp.of_push G (s := { s with heap := h₁ }) s.toks { cls := .type "traceback", dict := none, data := .fields ([head, .ref C.env.locals, .none, rawInt C.env.locals, .none] ++ (if pl.isEmpty then List.replicate 6 Value.none else pl)).toArray })
  have q2 := q.keeps k2
  have x2 := x.sim k2.heap
  have far : Far G B C acc h₁.objs.size := Far.new (q.keeps k1) (get_size h₁)
  obtain ⟨oe, vs, he, hc, hd, h2, h1⟩ := x2.there
  have hsz : 1 < vs.size := by have := (Array.getElem?_eq_some_iff.mp h2).1; omega
  have hne : h₁.objs.size ≠ e := fun z => by
    obtain ⟨oe', vs', he', _⟩ := (x.sim k1.heap).there
    exact absurd (Heap.lt_size he') (by show ¬ e < h₁.objs.size; rw [z]; exact Nat.lt_irrefl _)
  refine wpAny_setField he hd hsz (k _ (q2.set x.far he (by rw [hc]; intro z; cases z) hd (fun a t z => ?_) _) ?_)
  · rcases h1 with ⟨_, h1⟩ | ⟨tb, h1, _⟩ <;> rw [h1] at z <;> cases z
  · refine ⟨x.far, _, _, Heap.get?_update_self _ he (Obj.isFreed_of_fields (Obj.data_mapFields hd _)), (Obj.cls_mapFields _ _).trans hc, Obj.data_mapFields hd _, ?_, .inr ⟨h₁.objs.size, ?_, far, hne, ?_⟩⟩
    · rw [Array.getElem?_setIfInBounds_ne (by decide)]; exact h2
    · simp [hsz]
    · refine ⟨_, _, C.env.locals, (Heap.get?_update_other _ _ (Ne.symm hne)).trans (Heap.get?_push_size h₁ rfl), rfl, rfl, ?_, rfl⟩
      simp only [List.size_toArray, List.length_append, List.length_cons, List.length_nil]; omega
theorem fs_note {s : Shared} (hfr : A'.frames = C.A.frames) (H : Hd C) (q : FS G B C V acc s) {tr : Prop} (x : XF G B C acc T cx tr s.heap e) {Q : Unit → Shared → Prop}
    (k : ∀ s', FS G B C V acc s' → XF G B C acc T cx True s'.heap e → Q () s') : wpAny (model G.prog G.w) A' (noteFrame (.ref e) C.env) Q E s := by
  obtain ⟨oe, vs, he, hc, hd, h2, h1⟩ := x.there
  unfold noteFrame
  simp only [H.frame]
  rcases h1 with ⟨_, h1⟩ | ⟨tb, h1, htb⟩
  · refine wpAny_bind (wpAny_field he hd h1 ?_)
    rw [if_neg (by decide)]
    exact fs_entry hfr H q x k
  · refine wpAny_bind (wpAny_field he hd h1 ?_)
    rw [if_pos (show (Value.ref tb != Value.none) = true from by simp)]
    obtain ⟨ot, ts, L, ht, htc, htd, hts, ht1⟩ := htb.there
    obtain ⟨fl, hfl⟩ : ∃ fl, ts[3]? = some fl := ⟨ts[3], Array.getElem?_eq_getElem hts⟩
    refine wpAny_bind (wpAny_field ht htd hfl ?_)
    by_cases hq : (fl == rawInt C.env.locals) = true
    · rw [if_pos hq]
      exact wpAny_pure (k s q ⟨x.far, oe, vs, he, hc, hd, h2, .inr ⟨tb, h1, htb⟩⟩)
    · rw [if_neg hq]
      refine wpAny_bind (wpAny_setField ht htd hts ?_)
      have q2 := q.set htb.far ht (by rw [htc]; intro z; cases z) htd (fun a t z => by rw [ht1] at z; cases z) (Obj.mapFields (·.setIfInBounds 3 .none))
      refine fs_entry hfr H q2 (tr := False) ⟨x.far, oe, vs, (Heap.get?_update_other _ _ htb.ne).trans he, hc, hd, h2, .inr ⟨tb, h1, htb.far, htb.ne, _, _, L, Heap.get?_update_self _ ht (Obj.isFreed_of_fields (Obj.data_mapFields htd _)), (Obj.cls_mapFields _ _).trans htc, Obj.data_mapFields htd _, by simpa using hts, by rw [Array.getElem?_setIfInBounds_ne (by decide)]; exact ht1⟩⟩ k
theorem fs_flight {s : Shared} (q : FS G B C V acc s) (x : XF G B C acc T cx True s.heap e) {f : Option Addr} {Q : Unit → Shared → Prop}
    (k : ∀ s', FS G B C V acc s' → XF G B C acc T cx True s'.heap e → Q () s') : wpAny (model G.prog G.w) A' (setFlight (.ref e) f) Q E s := by
  obtain ⟨oe, vs, he, hc, hd, h2, h1⟩ := x.there
  rcases h1 with ⟨hn, _⟩ | ⟨tb, h1, htb⟩
  · exact absurd trivial hn
  obtain ⟨ot, ts, L, ht, htc, htd, hts, ht1⟩ := htb.there
  unfold setFlight
  refine wpAny_bind (wpAny_field he hd h1 ?_)
  rw [if_pos (show (Value.ref tb != Value.none) = true from by simp)]
  refine wpAny_setField ht htd hts (k _ (q.set htb.far ht (by rw [htc]; intro z; cases z) htd (fun a t z => by rw [ht1] at z; cases z) _) ?_)
  exact ⟨x.far, oe, vs, (Heap.get?_update_other _ _ htb.ne).trans he, hc, hd, h2, .inr ⟨tb, h1, htb.far, htb.ne, _, _, L, Heap.get?_update_self _ ht (Obj.isFreed_of_fields (Obj.data_mapFields htd _)), (Obj.cls_mapFields _ _).trans htc, Obj.data_mapFields htd _, by simpa using hts, by rw [Array.getElem?_setIfInBounds_ne (by decide)]; exact ht1⟩⟩
theorem fs_field1 {s : Shared} (x : XF G B C acc T cx True s.heap e) {Q : Value → Shared → Prop} (k : ∀ tb, Q (.ref tb) s) : wpAny (model G.prog G.w) A' (field (.ref e) 1) Q E s := by
  obtain ⟨oe, vs, he, hc, hd, h2, h1⟩ := x.there
  rcases h1 with ⟨hn, _⟩ | ⟨tb, h1, htb⟩
  · exact absurd trivial hn
  exact wpAny_field he hd h1 (k tb)
theorem fs_back {s : Shared} (q : FS G B C V acc s) (x : XF G B C acc T cx True s.heap e)
    (k : ∀ s', FS G B C V acc s' → XF G B C acc T cx True s'.heap e → E (.ref e) s') : cameBackBy (model G.prog G.w) A' C.env E (.ref e) s := by
  unfold cameBackBy
  refine wpAny_bind (fs_field1 x fun tb => ?_)
  rw [if_neg (by simp)]
  exact fs_flight q x k
theorem fs_passOn {α : Type} {s : Shared} {what : String} (q : FS G B C V acc s) (x : XF G B C acc T cx True s.heap e) {Q : α → Shared → Prop}
    (k : ∀ s', FS G B C V acc s' → XF G B C acc T cx True s'.heap e → E (.ref e) s') : wpAny (model G.prog G.w) A' (PySem.passOn what (.ref e) C.env : Sem α) Q E s := by
  unfold PySem.passOn
  refine wpAny_bind (fs_field1 x fun tb => ?_)
  rw [if_neg (by simp)]
  exact wpAny_bind (fs_flight q x fun s' q' x' => wpAny_throw (k s' q' x'))
end
end
section
variable {G : TopC} {C : Cx} {V : List (Option VV)} {acc : Acc}

theorem entry_unchain : entryFor table "proto.unchain" = some Builtin.«proto.unchain» := entryFor_of_tree (by kernel_rfl)
structure NewX (hn : Prop) (h h' : Heap) (e : Addr) (cls : String) : Prop where
  keeps : ∀ b o, h.get? b = some o → h'.get? b = some o
  new : h.get? e = none
  there : ∃ ob t cx, h'.get? e = some ob ∧ ob.cls = .type cls ∧ ob.data = .fields #[t, .none, cx, .none, .bool false, .none] ∧ (hn → cx = .none)
/-- what is handled has no elder one behind it -/
noncomputable def HandOk (A : Around) (h : Heap) : Prop := A.handled = none ∨ ∃ e0 o0 vs0, A.handled = some (.ref e0) ∧ h.get? e0 = some o0 ∧ o0.data = .fields vs0 ∧ vs0[2]? = some .none
section
variable {α : Type} {prog : Program} {w : World} {A : Around} {E : Value → Shared → Prop} {s : Shared}
theorem raise_any {h' : Heap} {tk : Nat} {e : Addr} {cls : String} {t : Value} {Q : α → Shared → Prop} (hh : HandOk A s.heap)
    (keeps : ∀ b o, s.heap.get? b = some o → h'.get? b = some o) (new : s.heap.get? e = none) (he : h'.get? e = some { cls := .type cls, data := .fields #[t, .none, .none, .none, .bool false, .none] })
    (h : ∀ h'' e, NewX (A.handled = none) s.heap h'' e cls → E (.ref e) { s with heap := h'', toks := tk }) :
    wpAny (model prog w) A (raiseNew (.ref e) : Sem α) Q E { s with heap := h', toks := tk } := by
  unfold raiseNew
  refine wpAny_bind (wpAny_handled ?_)
  rcases hh with hh | ⟨e0, o0, vs0, hh, h0, hd, h2⟩
  · rw [hh]
    refine wpAny_bind (wpAny_pure (wpAny_throw ?_))
    exact h h' e ⟨keeps, new, _, t, .none, he, rfl, rfl, fun _ => rfl⟩
  · rw [hh]
    have hne : (Value.ref e0 != Value.ref e) = true := by
      rw [bne_iff_ne]
      intro z; cases z
      rw [new] at h0; cases h0
    dsimp only
    rw [if_pos hne]
    refine wpAny_bind (wpAny_holding (wpAny_runValue (codeAny_builtin entry_unchain ?_)))
    show wpAny _ _ (field (.ref e0) 2 >>= _) _ _ _
    refine wpAny_bind (wpAny_field (keeps _ _ h0) hd h2 ?_)
    rw [if_pos (by rfl)]
    refine wpAny_bind (wpAny_pure (wpAny_pure ?_))
    refine wpAny_bind ?_
    show wpAny _ _ (setField (.ref e) 2 (.ref e0)) _ _ _
    refine wpAny_setField he rfl (by show 2 < 6; decide) (wpAny_throw (h _ e ⟨fun b o hb => ?_, new, _, t, .ref e0, Heap.get?_update_self _ he rfl, rfl, rfl, fun z => by rw [hh] at z; cases z⟩))
    exact (Heap.get?_update_other _ _ (fun z => by rw [← z, new] at hb; cases hb)).trans (keeps b o hb)
theorem raiseWords_any {cls msg : String} {Q : α → Shared → Prop} (hp : PlainExc cls) (hh : HandOk A s.heap)
    (h : ∀ h' tk e, NewX (A.handled = none) s.heap h' e cls → E (.ref e) { s with heap := h', toks := tk }) :
    wpAny (model prog w) A (raiseErrorWords cls msg : Sem α) Q E s := by
  unfold raiseErrorWords
  refine wpAny_bind (wpAny_mkText (wpAny_bind ?_))
  unfold newExc newTuple
  refine wpAny_bind (wpAny_newObj_type ?_)
  refine wpAny_bind (m := firstArgMember _ _) (wpAny_of_eq (a := Value.none) (by simp only [firstArgMember, hp.first]; rfl) ?_)
  rw [hp.own]
  refine wpAny_newObj_type ?_
  exact raise_any (s := s) (tk := s.toks + 1) (t := .ref s.heap.objs.size) hh (fun b o hb => Heap.get?_push_of_some _ (Heap.get?_push_of_some _ hb)) (Heap.get?_none_of_le (by simp)) (Heap.get?_push_size _ rfl) fun h'' e x => h h'' _ e x
theorem getItem_out {l : Addr} {items : Array Value} {k : Int} {t : Tok} {Q : Value → Shared → Prop} (hh : HandOk A s.heap) (hl : s.heap.IsList l items) (hout : (items.size : Int) ≤ k) (hhi : k < 1000000)
    (hE : ∀ h' tk e, NewX (A.handled = none) s.heap h' e "IndexError" → E (.ref e) { s with heap := h', toks := tk }) :
    wpAny (model prog w) A (getItem (.ref l) (.int k t)) Q E s := by
  obtain ⟨o, ho, hc, ne, hd⟩ := id hl
  have hfit : Builtin.List.listFitsIndex k = true := fitsIndex_both (by omega) (by omega)
  clear hhi
  unfold getItem
  try with_reducible refine wpAny_holding ?_
  first | refine wpAny_bind (wpAny_pure ?_) | skip
  refine wpAny_bind (wpAny_sequenceKey hl.typeIs (by decide) ?_)
  refine wpAny_bind (wpAny_callSpecial?_slot (name := Str.ofString "__getitem__") hl.typeIs slot_list_getitem
    (wpAny_call_entry slot_list_getitem hl.typeIs entry_list_getitem ?_ (args_list_getitem _ _)))
  show wpAny _ _ (Builtin.List.listSubscript? (.int k t) >>= _) _ _ s
  refine wpAny_bind (wpAny_listSubscript_int hfit ?_)
  obtain ⟨j, rfl⟩ : ∃ j : Nat, k = Int.ofNat j := ⟨k.toNat, by simp only [Int.ofNat_eq_natCast]; omega⟩
  have hx : items[j]? = none := Array.getElem?_eq_none (by have : (items.size : Int) ≤ (j : Int) := hout; omega)
  show wpAny _ _ ((seqItemAt l j >>= fun r => pure (r.map (j, ·))) >>= _) _ _ s
  refine wpAny_bind (wpAny_bind (wpAny_seqItemAt ho hd (wpAny_pure ?_)))
  rw [hx]
  first
    | exact wpAny_bind (wpAny_rule (raiseWords_any plainExc_IndexError hh hE))
    | exact wpAny_bind (wpAny_rule (wpAny_bind (raiseWords_any plainExc_IndexError hh hE)))
    | exact wpAny_bind (wpAny_bind (wpAny_rule (raiseWords_any plainExc_IndexError hh hE)))
    | exact wpAny_rule (raiseWords_any plainExc_IndexError hh hE)
end
/-- a new exception, in the frame -/
theorem FS.exc {B : Base} {s : Shared} {h' : Heap} {tk : Nat} {e : Addr} {T : String} {hn : Prop} (q : FS G B C V acc s) (x : NewX hn s.heap h' e T) : FS G B C V acc { s with heap := h', toks := tk } ∧ ∃ cx, XF G B C acc T cx False h' e ∧ (hn → cx = .none) := by
  have k := Kp.of_keeps G (s := s) tk x.keeps
  obtain ⟨ob, t, cx, h1, h2, h3, h4⟩ := x.there
  exact ⟨q.keeps k, cx, ⟨Far.new q x.new, ob, _, h1, h2, h3, rfl, .inl ⟨id, rfl⟩⟩, h4⟩
end
section
variable {G : TopC} {C : Cx} {V : List (Option VV)} {acc : Acc}

/-! statements that may raise, under whatever is handled -/
noncomputable def HandB (A' : Around) (B : Base) : Prop := A'.handled = none ∨ ∃ e0 o0 vs0, A'.handled = some (.ref e0) ∧ B.h.get? e0 = some o0 ∧ o0.cls ≠ Value.none ∧ o0.data = .fields vs0 ∧ vs0[2]? = some .none
theorem HandB.ok {A' : Around} {B : Base} {s : Shared} (x : HandB A' B) (q : FS G B C V acc s) : HandOk A' s.heap := by
  rcases x with h | ⟨e0, o0, vs0, h, h1, h2, h3, h4⟩
  · exact .inl h
  · exact .inr ⟨e0, o0, vs0, h, rec_sim q.base h2 ⟨_, h3⟩ h1, h3, h4⟩
theorem own_rec {B : Base} {s : Shared} (q : FS G B C V acc s) {a : Addr} {o : Obj} {vs : Array Value} (e : s.heap.get? a = some o) (hd : o.data = .fields vs) : a ∉ ownList C acc := fun h => (own_obj q a h o e).2 vs hd
theorem HandB.loop {A' : Around} {B : Base} {s : Shared} (x : HandB A' B) (q : FS G B C V acc s) : HandB A' (B.loop C acc s) := by
  rcases x with h | ⟨e0, o0, vs0, h, h1, h2, h3, h4⟩
  · exact .inl h
  · have e := rec_sim q.base h2 ⟨_, h3⟩ h1
    exact .inr ⟨e0, o0, vs0, h, PySem.W.hideAll_get _ e (own_rec q e h3), h2, h3, h4⟩

noncomputable abbrev XPost := List (Option VV) → Acc → Prop
noncomputable def ExE (G : TopC) (A' : Around) (T : String) (cn : Prop) (C : Cx) (V : List (Option VV)) (acc : Acc) (b : List Stmt) (P : Post) (PE : XPost) : Prop :=
  ∀ (B : Base) (s : Shared) (Q : Flow → Shared → Prop) (E : Value → Shared → Prop), FS G B C V acc s → ((∃ V' acc', PE V' acc') → HandB A' B) → (∀ o f V' acc' s', P o V' acc' → FS G B C V' acc' s' → OutIs B.bad s'.heap o f → Q f s') →
    (∀ e V' acc' s' cx, PE V' acc' → FS G B C V' acc' s' → XF G B C acc' T cx False s'.heap e → (cn → cx = .none) → E (.ref e) s') →
    wpAny (model G.prog G.w) A' (execs b C.env) Q E s
noncomputable def Ex1E (G : TopC) (A' : Around) (T : String) (cn : Prop) (C : Cx) (V : List (Option VV)) (acc : Acc) (b : Stmt) (P : Post) (PE : XPost) : Prop :=
  ∀ (B : Base) (s : Shared) (Q : Flow → Shared → Prop) (E : Value → Shared → Prop), FS G B C V acc s → ((∃ V' acc', PE V' acc') → HandB A' B) → (∀ o f V' acc' s', P o V' acc' → FS G B C V' acc' s' → OutIs B.bad s'.heap o f → Q f s') →
    (∀ e V' acc' s' cx, PE V' acc' → FS G B C V' acc' s' → XF G B C acc' T cx False s'.heap e → (cn → cx = .none) → E (.ref e) s') →
    wpAny (model G.prog G.w) A' (exec b C.env) Q E s
noncomputable def ThenE (G : TopC) (A' : Around) (T : String) (cn : Prop) (C : Cx) (rest : List Stmt) (P : Post) (PE : XPost) : Post
  | .next, V, acc => ExE G A' T cn C V acc rest P PE
  | o, V, acc => P o V acc
section
variable {A' : Around} {T : String} {cn : Prop} {P : Post} {PE : XPost}
theorem ee_lift {b : Stmt} (h : Ex1 G C V acc b P) : Ex1E G C.A T cn C V acc b P PE := fun B s Q E q _ k _ => h B s Q E q k
theorem ee_nil (h : P .next V acc) : ExE G A' T cn C V acc [] P PE := fun B s Q E q _ k _ => wpAny_execs_nil (k .next .next _ _ _ h q rfl)
theorem ee_cons {b : Stmt} {rest : List Stmt} (h : Ex1E G A' T cn C V acc b (ThenE G A' T cn C rest P PE) PE) : ExE G A' T cn C V acc (b :: rest) P PE := fun B s Q E q hh k kE =>
  wpAny_execs_cons (h B s _ E q hh (fun o f V' acc' s' p q' hf => by
    cases o with
    | next => cases hf; exact p B s' Q E q' hh k kE
    | brk => cases hf; exact k .brk .brk _ _ _ p q' rfl
    | ret d => obtain ⟨v, rfl, r⟩ := hf; exact k (.ret d) _ _ _ _ p q' ⟨v, rfl, r⟩) kE)
theorem ee_if {t : Expr} {b o : List Stmt} {pos : Pos} {c : Bool} (ht : Tr G (C.wa acc) V t c) (h1 : c = true → ExE G C.A T cn C V acc b P PE) (h2 : c = false → ExE G C.A T cn C V acc o P PE) : Ex1E G C.A T cn C V acc (.If t b o pos) P PE := fun B s Q E q hh k kE =>
  wpAny_If (ht s _ E q.st fun s' k1 => by
    cases c with
    | true => exact h1 rfl B s' Q E (q.keeps k1) hh k kE
    | false => exact h2 rfl B s' Q E (q.keeps k1) hh k kE)
theorem ee_ifT {t : Expr} {b o : List Stmt} {pos : Pos} {c : Bool} (ht : Tr G (C.wa acc) V t c) (hc : c = true) (h1 : ExE G C.A T cn C V acc b P PE) : Ex1E G C.A T cn C V acc (.If t b o pos) P PE := ee_if ht (fun _ => h1) (fun z => by rw [hc] at z; cases z)
theorem ee_ifF {t : Expr} {b o : List Stmt} {pos : Pos} {c : Bool} (ht : Tr G (C.wa acc) V t c) (hc : c = false) (h1 : ExE G C.A T cn C V acc o P PE) : Ex1E G C.A T cn C V acc (.If t b o pos) P PE := ee_if ht (fun z => by rw [hc] at z; cases z) (fun _ => h1)

theorem loadVarA {s : Shared} (q : St G C V s) {x : Str} {o : VV} (hx : VarIx C.N V x o) {Q : Value → Shared → Prop} {E : Value → Shared → Prop}
    (h : ∀ v, Holds C.bad s.heap v o → Q v s) : wpAny (model G.prog G.w) A' (loadName C.env x) Q E s := by
  obtain ⟨v, st, hd⟩ := q.vars x o hx
  rcases st with ⟨hk, m, hn, hv⟩ | ⟨hk, c, hc, hv⟩
  · exact wpAny_loadName_local q.cx.kind hk hn hv (h v hd)
  · exact wpAny_loadName_cell q.cx.kind hk hc hv (h v hd)
theorem nameA {s : Shared} {pos : Pos} (q : St G C V s) {x : Str} {o : VV} (hx : VarIx C.N V x o) {Q : Value → Shared → Prop} {E : Value → Shared → Prop}
    (h : ∀ v, Holds C.bad s.heap v o → Q v s) : wpAny (model G.prog G.w) A' (eval (.Name x pos) C.env) Q E s := wpAny_Name (loadVarA q hx h) (q.cx.dbg x hx.mem)

/-- l[k], under whatever is handled -/
theorem idxA {B : Base} {s : Shared} {l x : Str} {pl px pos : Pos} {ds : List PyData} {i : Int} (q : FS G B C V acc s) (hh : ds[i.toNat]? = none → HandB A' B) (hl : VarIx C.N V l (.d (.list ds))) (hx : VarIx C.N V x (.d (.int i))) (h0 : 0 ≤ i) (h1 : i < 1000000)
    {Q : Value → Shared → Prop} {E : Value → Shared → Prop} (k : ∀ d v, ds[i.toNat]? = some d → Rd (C.wa acc).bad s.heap v d → Q v s)
    (kE : ds[i.toNat]? = none → ∀ e s' cx, FS G B C V acc s' → XF G B C acc "IndexError" cx False s'.heap e → (A'.handled = none → cx = .none) → E (.ref e) s') :
    wpAny (model G.prog G.w) A' (eval (.Subscript (.Name l pl) (.Name x px) pos) C.env) Q E s :=
  Subscript_ (nameA (G := G) (C := C.wa acc) q.st hl fun u hu => nameA (G := G) (C := C.wa acc) q.st hx fun w hw => by
    obtain ⟨a, vs, rfl, hli, hb, r⟩ := Rd.list_inv hu
    obtain ⟨t, rfl⟩ := Rd.int_inv hw
    have hlen := r.length
    cases hd : ds[i.toNat]? with
    | some d =>
      obtain ⟨v, hv, rv⟩ := r.get hd
      exact tail_any hli.typeIs slot_list_getitem.lookup (wpAny_getItem_list hli h0 (by omega) (by simpa using hv) (k d v hd rv)) (ops := [.ref a, .int i t]) rfl
    | none =>
      have hz : ds.length ≤ i.toNat := List.getElem?_eq_none_iff.mp hd
      refine tail_any hli.typeIs slot_list_getitem.lookup (getItem_out ((hh hd).ok q) hli (by rw [List.size_toArray]; omega) h1 fun h' tk e x => ?_) (ops := [.ref a, .int i t]) rfl
      obtain ⟨q', cx, xf, hcx⟩ := q.exc (tk := tk) x
      exact kE hd e _ cx q' xf hcx)
theorem ee_assignIdx {l x y : Str} {pl px py p2 pos : Pos} {ds : List PyData} {i : Int} (hl : VarIx C.N V l (.d (.list ds))) (hx : VarIx C.N V x (.d (.int i))) (h0 : 0 ≤ i) (h1 : i < 1000000)
    (h : ∀ d, ds[i.toNat]? = some d → ∃ V', SetIx C.N V y (.d d) V' ∧ P .next V' acc) (hE : ds[i.toNat]? = none → PE V acc) (hcn : cn → A' = C.A) (ho : C.own = C.env.cells := by rfl)
    (hs : ∀ env, swapsWith (.Subscript (.Name l pl) (.Name x px) p2) (some (.Name y py)) pos.line env = pure false := by intro _; rfl) :
    Ex1E G A' "IndexError" cn C V acc (.Assign [.Name y py] (.Subscript (.Name l pl) (.Name x px) p2) pos) P PE := fun B s Q E q hh k kE =>
  wpAny_Assign_Name (idxA q (fun z => hh ⟨_, _, hE z⟩) hl hx h0 h1 (fun d v hd r => by
    obtain ⟨V', hy, hp⟩ := h d hd
    exact storeVarA q (.inl ho) hy (o := .d d) r fun s' q' _ _ => k .next .next _ _ _ hp q' rfl) (fun hd e s' cx q' xf hcx => kE e V acc s' cx (hE hd) q' xf fun z => hcx (by rw [hcn z]; exact q.st.a.1))) (hs _)
theorem bltNameA {s : Shared} (q : St G C V s) {x : Str} {pos : Pos} {v : Value} {Q E : Value → Shared → Prop} (hk : C.env.kindOf x = some .globalImplicit) (hd : (x == ("__debug__" : Str)) = false) (hm : G.mg x = none) (hb : G.mb x = some v) (h : Q v s) :
    wpAny (model G.prog G.w) A' (eval (.Name x pos) C.env) Q E s := Name_function_global q.cx.kind hk (loadGlobal_builtin q.glob hm q.blt hb h) hd
theorem ee_whileEq {l x y : Str} {pl px py p2 p3 pos : Pos} {ds : List Int} {i b : Int} {body : List Stmt} (hfr : A'.frames = C.A.frames) (H : Hd C) (hl : VarIx C.N V l (.d (.list (iL ds)))) (hx : VarIx C.N V x (.d (.int i))) (hy : VarIx C.N V y (.d (.int b))) (h0 : 0 ≤ i) (h1 : i < 1000000)
    (h : ∀ a, ds[i.toNat]? = some a → a ≠ b ∧ P .next V acc) (hE : ds[i.toNat]? = none → PE V acc) (hcn : cn → A' = C.A) :
    Ex1E G A' "IndexError" cn C V acc (.While (.Compare (.Subscript (.Name l pl) (.Name x px) p2) [.Eq] [.Name y py] p3) body [] pos) P PE := fun B s Q E q hh k kE => by
  refine wpAny_While (codeAny_whileLoop (fun n s' => s' = s) ?_ 0 rfl)
  rintro n s' rfl
  refine wpAny_isTrue_Compare1 (idxA q (fun z => hh ⟨_, _, hE (by simpa [iL] using z)⟩) hl hx h0 h1 (fun d v hd r => nameA (G := G) (C := C.wa acc) q.st hy fun w hw => ?_) fun hd e s2 cx q2 x2 hcx => ?_) (by with_unfolding_all rfl)
  · obtain ⟨a, ha, rfl⟩ : ∃ a, ds[i.toNat]? = some a ∧ d = .int a := by
      rw [iL, List.getElem?_map, Option.map_eq_some_iff] at hd
      obtain ⟨a, h1, h2⟩ := hd
      exact ⟨a, h1, h2.symm⟩
    obtain ⟨hne, hp⟩ := h a ha
    obtain ⟨t, rfl⟩ := Rd.int_inv r
    obtain ⟨t', rfl⟩ := Rd.int_inv hw
    refine PyProof.Rows.eq_int (wpAny_truthy_bool ?_)
    have e : (a == b) = false := by simpa using hne
    rw [e]
    exact wpAny_execs_nil (k .next .next _ _ _ hp q rfl)
  · have hd' : ds[i.toNat]? = none := by simpa [iL] using hd
    exact fs_note hfr H q2 x2 fun s3 q3 x3 => fs_back q3 x3 fun s4 q4 x4 => kE e V acc s4 cx (hE hd') q4 x4.weak fun z => hcx (by rw [hcn z]; exact q.st.a.1)
theorem ee_addI {x : Str} {i : Int} {k0 : Nat} {px pc pos : Pos} {a : Int} {V' : List (Option VV)} (hx : VarIx C.N V x (.d (.int a))) (hs : SetIx C.N V x (.d (.int (a + i))) V') (h : P .next V' acc) (ho : C.own = C.env.cells := by rfl) :
    Ex1E G A' T cn C V acc (.AugAssign (.Name x px) .Add (.Constant (.int i) k0 pc) pos) P PE := fun B s Q E q hh k kE =>
  wpAny_AugAssign_Name (loadVarA (G := G) (C := C.wa acc) q.st hx fun v hv => wpAny_Constant_int (by
    obtain ⟨t, rfl⟩ := Rd.int_inv hv
    exact wpAny_iadd_int (storeVarA ((q.keeps (Kp.of_toks G _)).keeps (Kp.of_toks G _)) (.inl ho) hs (o := .d (.int (a + i))) (.int _ _) fun s' q' _ _ => k .next .next _ _ _ h q' rfl)))
theorem ee_break {pos : Pos} (h : P .brk V acc) : Ex1E G A' T cn C V acc (.Break pos) P PE := fun B s Q E q hh k kE => wpAny_Break (k .brk .brk _ _ _ h q rfl)

theorem list_extend_any (l : Addr) (items : Array Value) (n : Nat) (sl : Array (Option Value)) (b : Addr) (items2 : Array Value) (n2 : Nat) (sl2 : Array (Option Value)) (hc0 : ¬(!items.isEmpty && Builtin.List.listTooLong (items.size + items2.size)) = true) (hc1 : items.size ≤ sizeLine) (hs2 : items.size + items2.size ≤ sizeLine + 1) :
    Meets (Builtin.«list.extend» ⟨[.ref l, .ref b], []⟩) (fun _ R s => s.heap.get? l = some { cls := .type "list", dict := none, data := .seq items n, slots := sl } ∧ s.heap.get? b = some { cls := .type "list", dict := none, data := .seq items2 n2, slots := sl2 } ∧ R (.ok (.ret Value.none)) { s with heap := s.heap.update l (Obj.mapSeq fun x => x ++ items2), toks := s.toks }) :=
  .of_wp fun prog w A R s h => by
    obtain ⟨hp, g, d, tk, os⟩ := s; obtain ⟨hl, hb, h⟩ := h; have f1 := AutoSeq1.idx_int; have f2 := AutoSeq1.sub_tuple_tuple; have f3 := AutoSeq1.sub_list_list; have f4 := AutoSeq1.sub_tuple_list; have f5 := AutoSeq1.sub_list_tuple
    have hz' : (items ++ items2).size ≤ sizeLine + 1 := by rw [Array.size_append]; exact hs2
    wp_walk using (wpAny_updateSeq hl rfl (hz := hc1) (_hz' := hz')), AutoSeq1.wpAny_loadPart' hl, AutoSeq1.wpAny_loadPart' hb; exact ⟨_, rfl, h⟩
/-- x.extend(l[k:]) -/
theorem ee_extend {x l y : Str} {px pl py ap p1 p2 cp pos : Pos} {a : Addr} {ds es : List PyData} {i : Int} {acc' : Acc} (hx : VarIx C.N V x (.v (.ref a))) (hl : VarIx C.N V l (.d (.list es))) (hy : VarIx C.N V y (.d (.int i))) (hg : AccSet acc a ds (ds ++ pick es (some i) none) acc') (hz : ds.length ≤ 10000) (hz2 : es.length ≤ 10000) (h : P .next V acc')
    (hline : (ap.endLine == cp.line) = true := by rfl) (hi : ∀ env : Env, env.scope.kind = .function → interactive env = false := by intro env h; simp [interactive, h]) :
    Ex1E G A' T cn C V acc (.Expr (.Call (.Attribute (.Name x px) (Str.ofString "extend") ap) [.Subscript (.Name l pl) (.Slice (some (.Name y py)) none none p1) p2] [] cp) pos) P PE := fun B s Q E q hh k kE => by
  refine wpAny_Expr_any ?_ (hi C.env q.st.cx.kind) rfl
  refine Call_method1 (by rfl) (by rfl) hline (nameA (G := G) (C := C.wa acc) q.st hx fun v hv => ?_)
  have hv' : v = .ref a := hv
  subst hv'
  obtain ⟨_, vs, ⟨o, n, ho, hc, hdn, hdt⟩, r⟩ := q.acc a ds hg.mem
  refine ⟨"list", "list.extend", F.plainAttrs_list, F.slot_list_extend, F.type_list_extend, ⟨o, ho, hc⟩, (fun b z => by cases z; exact ⟨o, ho, hdn⟩), ?_⟩
  refine Calls.callWith_builtin rfl (evalArgs_plain (spliced_cons ?_))
  refine Subscript_ (nameA (G := G) (C := C.wa acc) q.st hl fun u hu => wpAny_Slice (nameA (G := G) (C := C.wa acc) q.st hy fun w hw => wpAny_pure (wpAny_pure ?_)))
  obtain ⟨D, ws, rfl, hD, hb, rw⟩ := Rd.list_inv hu
  obtain ⟨t, rfl⟩ := Rd.int_inv hw
  have k1 := Kp.of_push G (s := s) s.toks { cls := .type "slice", data := .fields #[.int i t, .none, .none] }
  have up : ∀ b o, s.heap.get? b = some o → (s.heap.push { cls := .type "slice", data := .fields #[.int i t, .none, .none] }).get? b = some o := fun b o e => Heap.get?_push_of_some _ e
  have hD' := isList_sim k1.heap hD
  refine tail_any hD'.typeIs slot_list_getitem.lookup (wpAny_getItem_list_slice hD' (lo := some i) (hi := none) (st := none) ⟨_, Heap.get?_push_size _ rfl, rfl, rfl⟩ (.int _ _) .none .none (by simp) ?_ (by rw [List.size_toArray, rw.length]; exact Nat.le_trans hz2 (by decide))) (ops := [.ref s.heap.objs.size, .ref D]) rfl
  rw [PySem.W.kms_pick_eq]
  have e : PySem.W.kms_pick ws.toArray.toList (some i) none = pick ws (some i) none := rfl
  rw [e]
  have k2 := k1.trans (Kp.of_push G (s := { s with heap := s.heap.push { cls := .type "slice", data := .fields #[.int i t, .none, .none] } }) s.toks { cls := .type "list", data := .seq (pick ws (some i) none).toArray })
  have q2 := q.keeps k2
  obtain ⟨_, vs2, ⟨⟨c3, d3, dt3, sl3⟩, n3, ho3, hc3, hdn3, hdt3⟩, r3⟩ := q2.acc a ds hg.mem
  dsimp only at hc3 hdn3 hdt3
  subst hc3 hdn3 hdt3
  have rp := rdAll_pick (some i) none (rw.sim k2.heap)
  have hlen1 := r3.length
  have hlen2 := rp.length
  have hpl := pick_length_le es (some i) none
  have hsum : vs2.toArray.size + (pick ws (some i) none).toArray.size ≤ 20000 := by simp only [List.size_toArray]; omega
  refine spliced_nil (call_meets F.slot_list_extend ⟨_, ho3, rfl⟩ F.entry_list_extend (F.args_list_extend_2 _ _) (list_extend_any a vs2.toArray n3 sl3 _ (pick ws (some i) none).toArray _ _ ?_ (Nat.le_trans (Nat.le_trans (Nat.le_add_right _ _) hsum) (by decide)) (Nat.le_trans hsum (by decide))) ⟨ho3, Heap.get?_push_size _ rfl, ?_⟩)
  · have : Builtin.List.listTooLong (vs2.toArray.size + (pick ws (some i) none).toArray.size) = false := by
      unfold Builtin.List.listTooLong
      exact decide_eq_false (Nat.not_lt.mpr (Nat.le_trans hsum (by decide)))
    rw [this]; simp
  · obtain ⟨n', hd'⟩ := Obj.data_mapSeq (o := { cls := .type "list", dict := none, data := .seq vs2.toArray n3, slots := sl3 }) rfl (fun x => x ++ (pick ws (some i) none).toArray)
    refine k .next .next _ _ _ h (q2.grow (tk := s.toks) hg (Heap.SameBut.update ..) (vs' := vs2 ++ pick ws (some i) none) ?_ (r3.append rp)) rfl
    refine ⟨_, n', Heap.get?_update_self _ ho3 (Obj.isFreed_of_seq hd'), Obj.cls_mapSeq .., rfl, ?_⟩
    rw [hd']; simp
/-- x.append(e), e a name -/
theorem ee_append {x y : Str} {px py ap cp pos : Pos} {a : Addr} {ds : List PyData} {d : PyData} {acc' : Acc} (hx : VarIx C.N V x (.v (.ref a))) (hy : VarIx C.N V y (.d d)) (hg : AccSet acc a ds (ds ++ [d]) acc') (hz : ds.length ≤ 1000000) (h : P .next V acc')
    (hline : (ap.endLine == cp.line) = true := by rfl) (hi : ∀ env : Env, env.scope.kind = .function → interactive env = false := by intro env h; simp [interactive, h]) :
    Ex1E G A' T cn C V acc (.Expr (.Call (.Attribute (.Name x px) (Str.ofString "append") ap) [.Name y py] [] cp) pos) P PE := fun B s Q E q hh k kE => by
  refine wpAny_Expr_any ?_ (hi C.env q.st.cx.kind) rfl
  refine wpAny_Call_append rfl rfl hline rfl ?_
  refine nameA (G := G) (C := C.wa acc) q.st hx fun v hv => ?_
  have hv' : v = .ref a := hv
  subst hv'
  obtain ⟨_, vs, hl, r⟩ := q.acc a ds hg.mem
  refine ⟨a, _, rfl, hl, nameA (G := G) (C := C.wa acc) q.st hy fun w hw => ?_⟩
  refine list_append_plainL hl (fun h' hl' hsb => ?_) (by rw [List.size_toArray, r.length]; exact Nat.le_trans hz (by decide))
  rw [show vs.toArray.push w = (vs ++ [w]).toArray by simp] at hl'
  exact k .next .next _ _ _ h (q.grow (tk := s.toks) hg hsb hl' (r.append (.cons hw .nil))) rfl
end
end
section
variable {G : TopC} {C : Cx} {V : List (Option VV)} {acc : Acc}

theorem XF.loop {B : Base} {s0 : Shared} {T : String} {cx : Value} {tr : Prop} {e : Addr} {V0 : List (Option VV)} {acc0 : Acc} {h : Heap} (q : FS G B C V0 acc0 s0) (hm : acc.map (·.1) = acc0.map (·.1)) (x : XF G (B.loop C acc0 s0) C acc T cx tr h e) : XF G B C acc T cx tr h e := by
  have hw : C.wa acc = C.wa acc0 := by unfold Cx.wa; rw [hm]
  have far : ∀ a, Far G (B.loop C acc0 s0) C acc a → Far G B C acc a := fun a y => ⟨fun o p ee => by
    obtain ⟨o', e', s'⟩ := q.base a o p ee
    refine y.1 o' (p.sim s') (PySem.W.hideAll_get _ e' fun hm' => y.2.2 ?_)
    rw [hw]; exact own_bad q a hm', y.2.1, y.2.2⟩
  obtain ⟨oe, vs, a, b, c, d, r⟩ := x.there
  exact ⟨far _ x.far, oe, vs, a, b, c, d, r.imp id fun ⟨tb, h1, h2⟩ => ⟨tb, h1, far _ h2.far, h2.ne, h2.there⟩⟩
/-- the base laid anew, what is handled in it -/
theorem HandB.mark {B : Base} {s : Shared} {T : String} {cx : Value} {tr : Prop} {e : Addr} (hn : C.A.handled = none) (q : FS G B C V acc s) (x : XF G B C acc T cx tr s.heap e) (hcx : cx = .none) : HandB (C.A.mark (some (.ref e))) (B.loop C acc s) := by
  obtain ⟨oe, vs, a, b, c, d, r⟩ := x.there
  refine .inr ⟨e, oe, vs, rfl, PySem.W.hideAll_get _ a (own_rec q a c), (by rw [b]; intro z; cases z), c, by rw [d, hcx]⟩
theorem mark_frames (A : Around) (h : Option Value) : (A.mark h).frames = A.frames := rfl

theorem ex1_tryExcept {T : String} {PE : XPost} {P : Post} {body : List Stmt} {b₀ : Stmt} {suite : List Stmt} {x : Str} {np hp pos : Pos} (H : Hd C)
    (hexc : isSubtype (.type T) (.type "BaseException") = pure true) (hnt : isSubtype (.type ((Manifest.find? T).elim "type" fun x => x.metatype)) (.type "tuple") = pure false) (hsub : isSubtype (.type T) (.type T) = pure true)
    (hk : C.env.kindOf x = some .globalImplicit) (hd : (x == ("__debug__" : Str)) = false) (hm : G.mg x = none) (hb : G.mb x = some (.type T))
    (h : ExE G C.A T False C V acc body P PE) (hs : ∀ V' acc' e, PE V' acc' → ExE G (C.A.mark (some (.ref e))) "" False C V' acc' (b₀ :: suite) P (fun _ _ => False)) :
    Ex1 G C V acc (.Try body [.ExceptHandler (some (.Name x np)) none (b₀ :: suite) hp] [] [] pos) P := fun B s Q E q k => by
  refine wpAny_Try_except (h B s _ _ q (fun _ => .inl q.st.a.1) (fun o f V' acc' s' p q' hf => ?_) fun e V' acc' s' cx pe q' xf _ => ?_)
  · cases o with
    | next => cases hf; exact wpAny_execs_nil (k .next .next _ _ _ p q' rfl)
    | brk => cases hf; exact k .brk .brk _ _ _ p q' rfl
    | ret d => obtain ⟨v, rfl, r⟩ := hf; exact k (.ret d) _ _ _ _ p q' ⟨v, rfl, r⟩
  · refine fs_note rfl H q' xf fun s2 q2 x2 => fs_flight q2 x2 fun s3 q3 x3 => wpAny_handleBy_builtin hexc hnt hsub (bltNameA q3.st hk hd hm hb ⟨rfl, ?_, ?_⟩)
    · obtain ⟨oe, vs, a, b, _⟩ := x3.there
      exact ⟨oe, a, b⟩
    · rw [if_pos rfl]
      refine fs_flight q3 x3 fun s4 q4 x4 => ?_
      exact hs V' acc' e pe B s4 _ _ q4 (fun ⟨_, _, z⟩ => z.elim) (fun o f V2 acc2 s5 p q5 hf => k o f V2 acc2 s5 p q5 hf) fun _ _ _ _ _ z => z.elim

theorem ee_tryFinally {T : String} {PE PE1 : XPost} {P : Post} {body : List Stmt} {f₀ : Stmt} {fs : List Stmt} {pos : Pos} (H : Hd C)
    (hacc : ∀ V' acc' V2 acc2, PE1 V' acc' → PE V2 acc2 → acc2.map (·.1) = acc'.map (·.1))
    (h : ExE G C.A T True C V acc body (fun o V' acc' => o = .next ∧ ExE G C.A T False C V' acc' (f₀ :: fs) (fun o V2 acc2 => o = .next ∧ P .next V2 acc2) PE) PE1)
    (hs : ∀ V' acc' e, PE1 V' acc' → ExE G (C.A.mark (some (.ref e))) T False C V' acc' (f₀ :: fs) (fun o V2 acc2 => o = .next ∧ PE V2 acc2) PE) :
    Ex1E G C.A T False C V acc (.Try body [] [] (f₀ :: fs) pos) P PE := fun B s Q E q hh k kE => by
  have hn : C.A.handled = none := q.st.a.1
  -- what leaves the last part by a raise
  have up : ∀ (A1 : Around), A1.frames = C.A.frames → ∀ e V2 acc2 s2 cx, PE V2 acc2 → FS G B C V2 acc2 s2 → XF G B C acc2 T cx False s2.heap e → notedBy (model G.prog G.w) A1 C.env (cameBackBy (model G.prog G.w) C.A C.env E) (.ref e) s2 := by
    intro A1 hf e V2 acc2 s2 cx pe q2 x2
    exact fs_note hf H q2 x2 fun s3 q3 x3 => fs_back q3 x3 fun s4 q4 x4 => kE e V2 acc2 s4 cx pe q4 x4.weak fun z => z.elim
  refine wpAny_Try_finally (h B s _ _ q (fun _ => .inl hn) (fun o f V' acc' s' p q' hf => ?_) fun e V' acc' s' cx pe q' xf hcx => ?_)
  · obtain ⟨rfl, p⟩ := p
    cases hf
    refine wpAny_execs_nil ?_
    refine p B s' _ _ q' (fun _ => .inl hn) (fun o f V2 acc2 s2 p2 q2 hf2 => ?_) fun e V2 acc2 s2 cx pe q2 x2 _ => ?_
    · obtain ⟨rfl, p2⟩ := p2
      cases hf2
      exact k .next .next _ _ _ p2 q2 rfl
    · exact up C.A rfl e V2 acc2 s2 cx pe q2 x2
  · refine fs_note rfl H q' xf fun s2 q2 x2 => ⟨ref_ne_byPass e, ?_⟩
    refine fs_note rfl H q2 x2 fun s3 q3 x3 => fs_flight q3 x3 fun s4 q4 x4 => ?_
    refine hs V' acc' e pe (B.loop C acc' s4) s4 _ _ q4.loop (fun _ => HandB.mark hn q4 x4 (hcx trivial)) (fun o f V2 acc2 s5 p q5 hf => ?_) fun e1 V2 acc2 s5 cx1 pe1 q5 x5 _ => ?_
    · obtain ⟨rfl, p⟩ := p
      cases hf
      have q6 := q4.back q5
      have hm := hacc _ _ _ _ pe p
      have x6 : XF G B C acc' T cx True s5.heap e := by
        obtain ⟨oe, vs, a, b, c, d, r⟩ := x4.there
        have kp : ∀ b' o, o.cls ≠ Value.none → (∃ vs, o.data = .fields vs) → s4.heap.get? b' = some o → s5.heap.get? b' = some o := fun b' o hc hf e' => by
          obtain ⟨vs, hd⟩ := hf
          exact rec_sim q5.base hc ⟨_, hd⟩ (PySem.W.hideAll_get _ e' (own_rec q4 e' hd))
        exact x4.keep kp
      exact fs_passOn q6 (x6.reacc hm) fun s6 q7 x7 => kE e V2 acc2 s6 cx p q7 x7.weak fun z => z.elim
    · exact up (C.A.mark (some (.ref e))) (mark_frames _ _) e1 V2 acc2 s5 cx1 pe1 (q4.back q5) (x5.loop q4 (hacc _ _ _ _ pe pe1))
end
section
variable {G : TopC} {C : Cx} {V : List (Option VV)} {acc : Acc}

theorem lookup_of_nodup : ∀ {l : List (Str × Addr)}, (l.map (·.1)).Nodup → ∀ {y c}, (y, c) ∈ l → l.lookup y = some c := by
  intro l
  induction l with
  | nil => intro _ y c h; cases h
  | cons p r ih =>
    intro hn y c h
    obtain ⟨z, w⟩ := p
    obtain ⟨h1, h2⟩ := List.nodup_cons.mp hn
    rw [List.lookup_cons]
    rcases List.mem_cons.mp h with e | h
    · cases e; simp
    · have : (y == z) = false := by
        rw [beq_eq_false_iff_ne]
        intro e
        exact h1 (List.mem_map.mpr ⟨_, h, e⟩)
      rw [this]; exact ih h2 h

/-- lists that are handed to a def to be turned there -/
structure Given (G : TopC) (bad : Addr → Prop) (h : Heap) (acc : Acc) : Prop where
  nodup : (acc.map (·.1)).Nodup
  there : ∀ a ds, (a, ds) ∈ acc → ∃ vs, PlainL h a vs.toArray ∧ RdAll (fun b => bad b ∨ b ∈ acc.map (·.1)) h vs ds
  notBad : ∀ a ds, (a, ds) ∈ acc → ¬ bad a
  noTop : ∀ a ds, (a, ds) ∈ acc → G.hT.get? a = none
theorem Given.nil {bad : Addr → Prop} {h : Heap} : Given G bad h [] := ⟨.nil, (fun _ _ z => nomatch z), (fun _ _ z => nomatch z), (fun _ _ z => nomatch z)⟩

/-- a def entered: the frame, its parameters told, the lists given on top -/
theorem enter {fa : Addr} {fd : FuncData} {body : List Stmt} {n : Nat} {N xs : List Str} {V0 : List (Option VV)} {f : Str} (hf : FnIs G f fa fd) (hb : fd.body = .stmts body) (hcl : fd.closure = []) (hg : fd.globals = mainGlobals) (hbl : fd.builtins = builtinsNs)
    (D : DefOk fd.scope N xs) {A : Around} {bad : Addr → Prop} {s : Shared} {vs : List Value} {Q E : Value → Shared → Prop} (hA : AOk (n + 1) A) (hok : Ok G A s) (hbad : ∀ b, bad b → ∃ o, Plain o ∧ s.heap.get? b = some o)
    (hvl : vs.length = xs.length) (hbind : bindArgs fd ⟨vs, []⟩ = pure (xs.zip vs)) (gv : Given G bad s.heap acc)
    (hV : ∀ x o, VarIx N V0 x o → ∃ v, (x, v) ∈ xs.zip vs ∧ Holds (fun b => bad b ∨ b ∈ acc.map (·.1)) s.heap v o)
    (X : ∀ (C : Cx) s', (∀ x, C.env.kindOf x = fd.scope.names.lookup x) → C.env.scope = fd.scope → C.N = N → C.n = n → C.A.handled = none → C.own = C.env.cells → Hd C → (C.env.code = fd.code ∧ C.env.qual = fd.qualname ++ ".<locals>.") → (∀ b, C.bad b ↔ (bad b ∨ s.heap.get? b = none ∧ (b = C.env.locals ∨ ∃ y, (y, b) ∈ C.env.cells))) →
      FS G { h := PySem.W.hideAll s.heap (acc.map (·.1)), gens := s.gens, os := s.os, bad := bad } C V0 acc s' →
      wpAny (model G.prog G.w) C.A (execs body C.env) (fun f s2 => ∃ v, f = .ret v ∧ Q v s2) (fun _ _ => False) s') :
    wpAny (model G.prog G.w) A (call (.ref fa) vs) Q E s := by
  obtain ⟨hm, ⟨o, ho, hdat⟩, hcr⟩ := hf
  have ho' := hok.top _ _ ho
  refine wpAny_call (codeAny_call_function (by have := hA.2.1; omega) ho' hdat D.co D.gen hb (hcr.keeps fun b o e => hok.top b o e) ?_)
  rw [hbind]
  refine wpAny_pure ?_
  rw [hcl]
  refine wpAny_newFunctionEnv_cells D.kind (fun x hx => ?_) fun env he s' x => ?_
  · have hxm : x.1 ∈ xs := (List.of_mem_zip hx).1
    rcases D.kinds _ (D.inN _ hxm) with h | h
    · exact .inl h
    · exact .inr ⟨h, PySem.W.cellsFrom_some _ _ _ (.inl h)⟩
  have hnd : ((xs.zip vs).map (·.1)).Nodup := by
    rw [List.map_fst_zip (by omega)]; exact D.params
  have hcn : (env.cells.map (·.1)).Nodup := by
    have : env.cells = cellsFrom (s.heap.objs.size + 1) fd.scope.names [] := by rw [he]; rfl
    rw [this, cellsFrom_names fd.scope.names _ 0 [] [] rfl]; exact D.cells
  have hsc : env.scope = fd.scope := by rw [he]; rfl
  obtain ⟨h', tk, hs', hkeep⟩ := x.done
  have hko : ∀ y, env.kindOf y = fd.scope.names.lookup y := fun y => by unfold Env.kindOf; rw [hsc]
  have look : ∀ {y c}, (y, c) ∈ env.cells → env.cells.lookup y = some c := lookup_of_nodup hcn
  refine ⟨(hok.g.nolimit.keeps fun b o e => hok.top b o e).keeps (by rw [hs']; exact hkeep), codeAny_func ?_⟩
  have hfr : env.frame = some env.locals := by rw [he]; rfl
  have hLsz : s.heap.objs.size ≤ env.locals := x.toInCall.fresh
  have hLn : ∀ h : Heap, (∀ b o, h.get? b = some o → s.heap.get? b = some o) → h.get? env.locals = none := fun h up => by
    cases e : h.get? env.locals with
    | none => rfl
    | some o => exact absurd (Heap.lt_size (up _ _ e)) (Nat.not_lt.mpr hLsz)
  have hcN : ∀ y c, (y, c) ∈ env.cells → s.heap.get? c = none := fun y c hc => by
    cases e : s.heap.get? c with
    | none => rfl
    | some o => exact absurd (Heap.lt_size e) (Nat.not_lt.mpr (Nat.le_of_lt (Nat.lt_of_le_of_lt hLsz (x.above y c hc))))
  have hhide : ∀ b o, (PySem.W.hideAll s.heap (acc.map (·.1))).get? b = some o → s.heap.get? b = some o := fun b o e => PySem.W.of_hideAll _ e
  let C : Cx := { A := A.deeper env, env := env, N := N, bad := fun b => bad b ∨ b = env.locals ∨ ∃ y, (y, b) ∈ env.cells, n := n, own := env.cells }
  have kpx : Kp G s s' := by rw [hs']; exact Kp.of_keeps G tk hkeep
  have okx := hok.keeps kpx
  have cellAt : ∀ y c, (y, c) ∈ env.cells → s'.heap.IsCell c (bindC env.kindOf (xs.zip vs) (fun _ => none) y) := fun y c hc => x.cell y c (look hc)
  have bad_of : ∀ b, (C.wa acc).bad b → (bad b ∨ b ∈ acc.map (·.1)) ∨ s.heap.get? b = none := fun b hb => by
    rcases hb with (hb | rfl | ⟨z, hz⟩) | hb
    · exact .inl (.inl hb)
    · exact .inr (hLn s.heap fun _ _ e => e)
    · exact .inr (hcN z b hz)
    · exact .inl (.inr hb)
  have rdW : ∀ {v d}, Rd (fun b => bad b ∨ b ∈ acc.map (·.1)) s.heap v d → Rd (C.wa acc).bad s'.heap v d := fun {v d} ⟨as, rr, p⟩ => ⟨as, reads_sim kpx.heap rr, fun a ha hb => by
    have lt := reads_lt rr a ha
    rcases bad_of a hb with hb | hb
    · exact p a ha hb
    · obtain ⟨o, e⟩ := reads_some rr a ha
      rw [hb] at e; cases e⟩
  have rdWA : ∀ {v d}, RdAll (fun b => bad b ∨ b ∈ acc.map (·.1)) s.heap v d → RdAll (C.wa acc).bad s'.heap v d := fun {v d} ⟨as, rr, p⟩ => ⟨as, readsAll_sim kpx.heap rr, fun a ha hb => by
    have lt := readsAll_lt rr a ha
    rcases bad_of a hb with hb | hb
    · exact p a ha hb
    · obtain ⟨o, e⟩ := readsAll_some rr a ha
      rw [hb] at e; cases e⟩
  obtain ⟨l, hfl, ffr⟩ := okx.frames
  have F : FS G { h := PySem.W.hideAll s.heap (acc.map (·.1)), gens := s.gens, os := s.os, bad := bad } C V0 acc s' := by
    refine { st := ⟨⟨by show env.scope.kind = _; rw [hsc]; exact D.kind, by show env.globals = _; rw [he]; exact hg, by show env.builtins = _; rw [he]; exact hbl, D.nodup, D.dbg, fun y hy => ?_⟩, ⟨hA.1, ?_, ?_⟩, ⟨okx.g, okx.top, okx.tab, ?_⟩, fun y o hy => ?_, fun b hb => ?_⟩,
             base := fun a o _ e => ⟨o, by rw [hs']; exact hkeep _ _ (hhide _ _ e), .refl o⟩, ownL := hLn _ hhide, ownC := fun y c hc => (by
               cases e : (PySem.W.hideAll s.heap (acc.map (·.1))).get? c with
               | none => rfl
               | some o => have := hhide _ _ e; rw [hcN y c hc] at this; cases this), ns := ⟨_, x.toInCall.ns⟩, cs := fun y c hc => ⟨_, cellAt y c hc⟩, apart := x.apart, gens := ⟨#[], by rw [hs']; simp, by simp⟩, os := by rw [hs'],
             accN := gv.nodup, accB := fun a ds hm hb => ?_, acc := fun a ds hm => ?_, obad := fun b hb => ⟨.inl hb, ?_⟩, own := ⟨.inr (.inl rfl), fun y c hc => .inr (.inr ⟨y, hc⟩)⟩, hT := fun b o e => ?_ }
    · show env.kindOf y = _ ∨ (env.kindOf y = _ ∧ _)
      rw [hko]
      rcases D.kinds y hy with h | h
      · exact .inl h
      · refine .inr ⟨h, ?_⟩
        have : env.cells = cellsFrom (s.heap.objs.size + 1) fd.scope.names [] := by rw [he]; rfl
        have hh := PySem.W.cellsFrom_some fd.scope.names (s.heap.objs.size + 1) [] (x := y) (.inl h)
        exact ⟨_, by show env.cells.lookup y = _; rw [this]; exact (Option.some_get hh).symm⟩
    · show A.depth + 1 + n < recursionLimit; have := hA.2.1; omega
    · show A.units + 3 + 4 * n + 100 < cLine; have := hA.2.2; omega
    · refine ⟨env :: l, Around.frames_deeper hfl, ?_⟩
      exact .cons (by rw [hsc, D.kind]; intro z; cases z) hfr x.toInCall.ns (hLn G.hT hok.top) ffr
    · obtain ⟨v, hzm, hh⟩ := hV y o hy
      have hym : y ∈ xs := (List.of_mem_zip hzm).1
      refine ⟨v, ?_, ?_⟩
      · rcases D.kinds y (D.inN y hym) with h | h
        · refine .inl ⟨by rw [show ((C.wa acc).env) = env from rfl, hko]; exact h, _, x.toInCall.ns, bindL_get _ _ _ _ _ hnd (by rw [hko]; exact h) hzm⟩
        · have : env.cells = cellsFrom (s.heap.objs.size + 1) fd.scope.names [] := by rw [he]; rfl
          have hh := PySem.W.cellsFrom_some fd.scope.names (s.heap.objs.size + 1) [] (x := y) (.inl h)
          have hl : env.cells.lookup y = some ((cellsFrom (s.heap.objs.size + 1) fd.scope.names []).lookup y |>.get hh) := by rw [this]; exact (Option.some_get hh).symm
          refine .inr ⟨by rw [show ((C.wa acc).env) = env from rfl, hko]; exact h, _, hl, ?_⟩
          have hc := x.cell y _ hl
          rw [bindC_get _ _ _ _ _ hnd (by rw [hko, h]; intro z; cases z) hzm] at hc
          exact hc
      · cases o with
        | d d => exact rdW hh
        | v u => exact hh
    · rcases hb with (hb | rfl | ⟨z, hz⟩) | hb
      · obtain ⟨o, p, e⟩ := hbad b hb
        obtain ⟨o', e', s1⟩ := kpx.heap b o p e
        exact ⟨o', p.sim s1, e'⟩
      · obtain ⟨o, es, ep, e, d, _⟩ := x.toInCall.ns
        exact ⟨o, Plain.of_data (fun vs q => by rw [d] at q; cases q), e⟩
      · obtain ⟨o, e, d⟩ := cellAt z b hz
        exact ⟨o, Plain.of_data (fun vs q => by rw [d] at q; cases q), e⟩
      · obtain ⟨⟨c, ds⟩, hm, rfl⟩ := List.mem_map.mp hb
        obtain ⟨vs, ⟨o, n, e, hc, _, _⟩, _⟩ := gv.there c ds hm
        exact ⟨o, Plain.of_cls (by rw [hc]; intro z; cases z), by rw [hs']; exact hkeep _ _ e⟩
    · obtain ⟨vs, ⟨o, n, e, _⟩, _⟩ := gv.there a ds hm
      rcases hb with hb | rfl | ⟨z, hz⟩
      · exact gv.notBad a ds hm hb
      · rw [hLn s.heap fun _ _ e => e] at e; cases e
      · rw [hcN z a hz] at e; cases e
    · obtain ⟨vs, ⟨o, n, e, hc, hd, hdt⟩, r⟩ := gv.there a ds hm
      refine ⟨fun o' _ e' => ?_, vs, ⟨o, n, by rw [hs']; exact hkeep _ _ e, hc, hd, hdt⟩, rdWA r⟩
      rw [PySem.W.hideAll_none _ (List.mem_map_of_mem (f := (·.1)) hm)] at e'; cases e'
    · obtain ⟨o, p, e⟩ := hbad b hb
      refine ⟨o, p, PySem.W.hideAll_get _ e fun hm => ?_⟩
      obtain ⟨⟨c, ds⟩, hm2, rfl⟩ := List.mem_map.mp hm
      exact gv.notBad c ds hm2 hb
    · refine PySem.W.hideAll_get _ (hok.top b o e) fun hm => ?_
      obtain ⟨⟨c, ds⟩, hm2, rfl⟩ := List.mem_map.mp hm
      rw [gv.noTop c ds hm2] at e; cases e
  refine wpAny_mono (X C s' hko hsc rfl rfl hA.1 rfl ⟨hfr, ⟨l, Around.frames_deeper hfl⟩⟩ (by show env.code = _ ∧ env.qual = _; rw [he]; exact ⟨rfl, rfl⟩) (fun b => ?_) F) (fun f s2 h => ?_) (fun _ _ z => z.elim)
  · constructor
    · rintro (h | rfl | ⟨y, hy⟩)
      · exact .inl h
      · exact .inr ⟨hLn s.heap fun _ _ e => e, .inl rfl⟩
      · exact .inr ⟨hcN y b hy, .inr ⟨y, hy⟩⟩
    · rintro (h | ⟨_, h⟩)
      · exact .inl h
      · exact .inr h
  · obtain ⟨v, rfl, h⟩ := h
    exact h
end
section
variable {G : TopC} {C : Cx} {V : List (Option VV)} {acc : Acc}

theorem hide_nil (h : Heap) : ∀ b o, h.get? b = some o → (PySem.W.hideAll h []).get? b = some o := fun b o e => PySem.W.hideAll_get [] e (by simp)
/-- as fn_at; the frame is told to stand at the head -/
theorem fn_atH {f : Str} {i : Nat} {fa : Addr} {n : Nat} {N xs : List Str} {args : List PyData} {d : PyData} {V0 : List (Option VV)} {ys : List Str} (H : DefAt G f i fa)
    (D : DefOk (pScope i) N xs) (hlen : xs.length = args.length) (hbind : ∀ pm code doc, ∀ vs : List Value, vs.length = xs.length → bindArgs (docDef f (pArgs i) (pBody i) (pScope i) pm code doc) ⟨vs, []⟩ = pure (xs.zip vs))
    (hN : N = xs ++ ys) (hV : V0 = args.map (fun d => some (.d d)) ++ ys.map fun _ => none)
    (ex : ∀ (A : Around) (env : Env) (bad : Addr → Prop), (∀ x, env.kindOf x = (pScope i).names.lookup x) → Hd ⟨A, env, N, bad, n, env.cells⟩ → Ex G ⟨A, env, N, bad, n, env.cells⟩ V0 [] (pBody i) (fun o _ _ => o = .ret d)) : Fn G fa (n + 1) args d := by
  obtain ⟨pm, code, doc, hf⟩ := H
  intro A bad s vs Q E hA hok hbad hr hQ
  have hvl : vs.length = xs.length := by rw [hr.length, hlen]
  refine enter (acc := []) (V0 := V0) hf rfl rfl rfl rfl D hA hok hbad hvl (hbind pm code doc vs hvl) .nil (fun x o hx => ?_) fun C s' h1 _ h2 h3 _ h4 h5 _ h6 F => ?_
  · subst hN hV
    obtain ⟨d, rfl, hm⟩ := varIx_init hlen hx
    obtain ⟨i, hi⟩ := List.mem_iff_getElem?.mp hm
    have hi1 := List.getElem?_zip_eq_some.mp hi
    obtain ⟨v, hv, r⟩ := hr.get hi1.2
    exact ⟨v, List.mem_iff_getElem?.mpr ⟨i, List.getElem?_zip_eq_some.mpr ⟨hi1.1, hv⟩⟩, Rd.weaken (h := s.heap) r fun a ha => ha.elim id fun z => nomatch z⟩
  · obtain ⟨A, env, N', bad', n', own⟩ := C
    dsimp only at h2 h3 h4
    subst h2 h3 h4
    refine ex A env bad' h1 h5 _ s' _ _ F fun o f V' acc' s2 p q hf => ?_
    subst p
    obtain ⟨v, rfl, r⟩ := hf
    exact ⟨v, rfl, hQ v s2 ⟨fun a o p e => q.base a o p (hide_nil _ _ _ e), fun _ => q.st.ok.top, fun _ => q.st.ok.tab, q.gens, q.os⟩ r⟩

/-- x = y = an int -/
theorem ex1_assign2I {x y : Str} {i : Int} {k0 : Nat} {px py pc pos : Pos} {V1 V2 : List (Option VV)} {P : Post} (hx : SetIx C.N V x (.d (.int i)) V1) (hy : SetIx C.N V1 y (.d (.int i)) V2) (h : P .next V2 acc) (ho : C.own = C.env.cells := by rfl) :
    Ex1 G C V acc (.Assign [.Name x px, .Name y py] (.Constant (.int i) k0 pc) pos) P := fun B s Q E q k => by
  refine wpAny_Assign_two ?_
  refine wpAny_Constant_int (wpAny_assign_Name (storeVar (q.keeps (Kp.of_toks G _)) (.inl ho) hx (o := .d (.int i)) (.int _ _) fun s2 q2 _ _ => ?_))
  exact wpAny_assign_Name (storeVar q2 (.inl ho) hy (o := .d (.int i)) (.int _ _) fun s3 q3 _ _ => k .next .next _ _ _ h q3 rfl)

theorem pick_drop {α : Type} (l : List α) (i : Nat) (h : i ≤ l.length) : pick l (some (i : Int)) none = l.drop i := by
  unfold pick
  have e1 : PySem.W.kms_lo (some (i : Int)) l.length = i := by unfold PySem.W.kms_lo; dsimp only; rw [if_neg (by omega)]; simp; omega
  have e2 : PySem.W.kms_hi none l.length = l.length := by unfold PySem.W.kms_hi; rfl
  rw [e1, e2, ← List.length_drop]; exact List.take_length

noncomputable def sld (a b : List Int) : Nat → Nat → Nat → List Int → List Int → List Int × List Int
  | 0, _, _, m, u => (m, u)
  | n + 1, i, j, m, u => match a[i]?, b[j]? with
    | some x, some y => if x < y then sld a b n (i + 1) j (m ++ [x]) u else if y < x then sld a b n i (j + 1) m (u ++ [y]) else sld a b n (i + 1) (j + 1) m u
    | _, _ => (m ++ a.drop i, u ++ b.drop j)
theorem sld_end {a b : List Int} {n i j : Nat} {m u : List Int} (h : a[i]? = none ∨ b[j]? = none) : sld a b (n + 1) i j m u = (m ++ a.drop i, u ++ b.drop j) := by
  unfold sld
  rcases h with h | h
  · rw [h]
  · rw [h]; cases a[i]? <;> rfl
end
section
variable {G : TopC} {C : Cx} {V : List (Option VV)} {acc : Acc}

noncomputable def Strict (a : List Int) : Prop := ∀ i x y, a[i]? = some x → a[i + 1]? = some y → y ≠ x
theorem iL_get {a : List Int} {i : Nat} : (iL a)[((i : Nat) : Int).toNat]? = (a[i]?).map PyData.int := by simp [iL]
theorem iL_app (a b : List Int) : iL a ++ iL b = iL (a ++ b) := by simp [iL]
theorem iL_snoc (a : List Int) (x : Int) : iL a ++ [PyData.int x] = iL (a ++ [x]) := by simp [iL]
theorem pick_iL (a : List Int) (i : Nat) (h : i ≤ a.length) : pick (iL a) (some (i : Int)) none = iL (a.drop i) := by
  rw [pick_drop _ _ (by simpa [iL] using h)]; simp [iL]
theorem succ_cast (i : Nat) : ((i : Nat) : Int) + 1 = ((i + 1 : Nat) : Int) := by omega

noncomputable abbrev nSld : List Str := [Str.ofString "expected", Str.ofString "actual", Str.ofString "i", Str.ofString "j", Str.ofString "missing", Str.ofString "unexpected", Str.ofString "e", Str.ofString "a"]
noncomputable abbrev vSld (a b : List Int) (i j : Nat) (pm pu : Addr) (x y : Option VV) : List (Option VV) := [some (.d (.list (iL a))), some (.d (.list (iL b))), some (.d (.int (i : Int))), some (.d (.int (j : Int))), some (.v (.ref pm)), some (.v (.ref pu)), x, y]
noncomputable abbrev aSld (pm pu : Addr) (m u : List Int) : Acc := [(pu, iL u), (pm, iL m)]
/-- what holds where the try part is left by a raise -/
noncomputable def peSld (a b : List Int) (R : List Int × List Int) (pm pu : Addr) : XPost := fun V acc => ∃ i j m u x y, V = vSld a b i j pm pu x y ∧ acc = aSld pm pu m u ∧ i ≤ a.length ∧ j ≤ b.length ∧ m.length ≤ i ∧ u.length ≤ j ∧ (a[i]? = none ∨ b[j]? = none) ∧ (m ++ a.drop i, u ++ b.drop j) = R
/-- what holds between the turns -/
noncomputable def jSld (a b : List Int) (R : List Int × List Int) (pm pu : Addr) (n : Nat) : XPost := fun V acc => ∃ i j m u x y, V = vSld a b i j pm pu x y ∧ acc = aSld pm pu m u ∧ i ≤ a.length ∧ j ≤ b.length ∧ m.length ≤ i ∧ u.length ≤ j ∧ (a.length - i) + (b.length - j) + 1 = n ∧ ∃ k, n ≤ k ∧ sld a b k i j m u = R
theorem jpe {a b : List Int} {R : List Int × List Int} {pm pu : Addr} {i j : Nat} {m u : List Int} {x y : Option VV} {k : Nat} (h1 : i ≤ a.length) (h2 : j ≤ b.length) (h3 : m.length ≤ i) (h4 : u.length ≤ j) (hk : 1 ≤ k) (h : sld a b k i j m u = R) (hn : a[i]? = none ∨ b[j]? = none) :
    peSld a b R pm pu (vSld a b i j pm pu x y) (aSld pm pu m u) := by
  obtain ⟨k, rfl⟩ : ∃ k', k = k' + 1 := ⟨k - 1, by omega⟩
  rw [sld_end hn] at h
  exact ⟨i, j, m, u, x, y, rfl, rfl, h1, h2, h3, h4, hn, h⟩
theorem sub_IndexError_meta : isSubtype (.type ((Manifest.find? "IndexError").elim "type" fun x => x.metatype)) (.type "tuple") = pure false := by
  have e : ((Manifest.find? "IndexError").elim "type" fun x => x.metatype) = "type" := by decide +kernel
  rw [e, isSubtype_type]; kernel_rfl
theorem sld_ok {fa : Addr} (H : DefAt G (Str.ofString "sorted_list_difference") 16 fa) (B : BltOk G) (a b : List Int) (ha : a.length ≤ 100) (hb : b.length ≤ 100) (sa : Strict a) (sb : Strict b) (R : List Int × List Int) (hR : sld a b (a.length + b.length + 1) 0 0 [] [] = R) :
    Fn G fa 3 [.list (iL a), .list (iL b)] (.tuple [.list (iL R.1), .list (iL R.2)]) := by
  refine fn_atH (N := nSld) (xs := [Str.ofString "expected", Str.ofString "actual"]) (V0 := [some (.d (.list (iL a))), some (.d (.list (iL b))), none, none, none, none, none, none]) (ys := [Str.ofString "i", Str.ofString "j", Str.ofString "missing", Str.ofString "unexpected", Str.ofString "e", Str.ofString "a"]) H ?_ rfl ?_ rfl rfl ?_
  · walk_at "def"
  · intro pm code doc vs h
    obtain ⟨a, b, rfl⟩ := len2 h
    rfl
  intro A env bad hk hd
  refine ex_cons (ex1_assign2I (V1 := [some (.d (.list (iL a))), some (.d (.list (iL b))), some (.d (.int 0)), none, none, none, none, none]) (V2 := [some (.d (.list (iL a))), some (.d (.list (iL b))), some (.d (.int 0)), some (.d (.int 0)), none, none, none, none]) (by walk_at "set") (by walk_at "set") ?_)
  refine ex_cons (ex1_acc (fun pm => ⟨[some (.d (.list (iL a))), some (.d (.list (iL b))), some (.d (.int 0)), some (.d (.int 0)), some (.v (.ref pm)), none, none, none], by walk_at "set", ?_⟩) rfl (by intro _; rfl))
  refine ex_cons (ex1_acc (fun pu => ⟨[some (.d (.list (iL a))), some (.d (.list (iL b))), some (.d (.int 0)), some (.d (.int 0)), some (.v (.ref pm)), some (.v (.ref pu)), none, none], by walk_at "set", ?_⟩) rfl (by intro _; rfl))
  refine ex_cons (ex1_while (jSld a b R pm pu) (a.length + b.length + 1) ⟨0, 0, [], [], none, none, rfl, rfl, Nat.zero_le _, Nat.zero_le _, Nat.le_refl _, Nat.le_refl _, by omega, _, Nat.le_refl _, hR⟩ ?_)
  rintro n V1 acc1 ⟨i, j, m, u, x, y, rfl, rfl, hi, hj, hm, hu, hn, k, hkn, hs⟩
  refine ⟨true, tr_ev ev_bool (by intro _ _; rfl), fun _ => ?_, fun z => nomatch z⟩
  have hml : (iL m).length ≤ 10000 := by rw [iL, List.length_map]; omega
  have hul : (iL u).length ≤ 10000 := by rw [iL, List.length_map]; omega
  refine ex_cons ?_
  have hk1 : 1 ≤ k := by omega
  obtain ⟨k, rfl⟩ : ∃ k', k = k' + 1 := ⟨k - 1, by omega⟩
  refine ex1_tryExcept (T := "IndexError") (PE := peSld a b R pm pu) hd (by rw [isSubtype_type]; kernel_rfl) sub_IndexError_meta (by rw [isSubtype_type]; kernel_rfl) (by walk_at "kind") (by decide) B.IndexError.1 B.IndexError.2 ?_ ?_
  · refine ee_cons (ee_assignIdx (ds := iL a) (i := (i : Int)) (by walk_at "var") (by walk_at "var") (by omega) (by omega) (fun d hd => ?_) (fun hd => ?_) (fun z => z.elim) rfl (by intro _; rfl))
    case refine_2 =>
      rw [iL_get, Option.map_eq_none_iff] at hd
      exact jpe hi hj hm hu (by omega) hs (.inl hd)
    rw [iL_get, Option.map_eq_some_iff] at hd
    obtain ⟨e, he, rfl⟩ := hd
    have hil := (List.getElem?_eq_some_iff.mp he).1
    refine ⟨_, .tail (.tail (.tail (.tail (.tail (.tail .head))))), ?_⟩
    refine ee_cons (ee_assignIdx (ds := iL b) (i := (j : Int)) (by walk_at "var") (by walk_at "var") (by omega) (by omega) (fun d hd => ?_) (fun hd => ?_) (fun z => z.elim) rfl (by intro _; rfl))
    case refine_2 =>
      rw [iL_get, Option.map_eq_none_iff] at hd
      exact jpe hi hj hm hu (by omega) hs (.inr hd)
    rw [iL_get, Option.map_eq_some_iff] at hd
    obtain ⟨f, hf, rfl⟩ := hd
    have hjl := (List.getElem?_eq_some_iff.mp hf).1
    refine ⟨_, .tail (.tail (.tail (.tail (.tail (.tail (.tail .head)))))), ?_⟩
    have hs0 : sld a b (k + 1) i j m u = if e < f then sld a b k (i + 1) j (m ++ [e]) u else if f < e then sld a b k i (j + 1) m (u ++ [f]) else sld a b k (i + 1) (j + 1) m u := by
      conv => lhs; unfold sld
      rw [he, hf]
    rw [hs0] at hs
    refine ee_cons (ee_if (c := decide (e < f)) (by walk_at "tr") (fun h => ?_) (fun h => ?_))
    · rw [if_pos (of_decide_eq_true h)] at hs
      refine ee_cons (ee_append (a := pm) (d := .int e) (ds := iL m) (acc' := [(pu, iL u), (pm, iL m ++ [.int e])]) (by walk_at "var") (by walk_at "var") (.tail .head) (Nat.le_trans hml (by decide)) ?_)
      refine ee_cons (ee_addI (V' := vSld a b (i + 1) j pm pu (some (.d (.int e))) (some (.d (.int f)))) (by walk_at "var") (by rw [succ_cast]; walk_at "set") ?_)
      rw [iL_snoc]
      refine ee_cons (ee_whileEq (ds := a) (i := ((i + 1 : Nat) : Int)) (b := e) rfl hd (by walk_at "var") (by walk_at "var") (by walk_at "var") (by omega) (by omega) (fun z hz => ⟨sa i e z he (by simpa using hz), ?_⟩) (fun hz => ?_) (fun z => z.elim))
      · refine ee_nil (ee_nil (ex_nil ⟨_, ?_, i + 1, j, m ++ [e], u, _, _, rfl, rfl, hil, hj, by simp; omega, hu, rfl, k, ?_, hs⟩))
        · omega
        · omega
      · exact jpe hil hj (by simp; omega) hu (by omega) hs (.inl (by simpa using hz))
    · rw [if_neg (of_decide_eq_false h)] at hs
      refine ee_cons (ee_if (c := decide (f < e)) (by walk_at "tr") (fun h2 => ?_) (fun h2 => ?_))
      · rw [if_pos (of_decide_eq_true h2)] at hs
        refine ee_cons (ee_append (a := pu) (d := .int f) (ds := iL u) (acc' := [(pu, iL u ++ [.int f]), (pm, iL m)]) (by walk_at "var") (by walk_at "var") .head (Nat.le_trans hul (by decide)) ?_)
        refine ee_cons (ee_addI (V' := vSld a b i (j + 1) pm pu (some (.d (.int e))) (some (.d (.int f)))) (by walk_at "var") (by rw [succ_cast]; walk_at "set") ?_)
        rw [iL_snoc]
        refine ee_cons (ee_whileEq (ds := b) (i := ((j + 1 : Nat) : Int)) (b := f) rfl hd (by walk_at "var") (by walk_at "var") (by walk_at "var") (by omega) (by omega) (fun z hz => ⟨sb j f z hf (by simpa using hz), ?_⟩) (fun hz => ?_) (fun z => z.elim))
        · refine ee_nil (ee_nil (ee_nil (ex_nil ⟨_, ?_, i, j + 1, m, u ++ [f], _, _, rfl, rfl, hi, hjl, hm, by simp; omega, rfl, k, ?_, hs⟩)))
          · omega
          · omega
        · exact jpe hi hjl hm (by simp; omega) (by omega) hs (.inr (by simpa using hz))
      · rw [if_neg (of_decide_eq_false h2)] at hs
        have hef : e = f := by have := of_decide_eq_false h; have := of_decide_eq_false h2; omega
        refine ee_cons (ee_addI (V' := vSld a b (i + 1) j pm pu (some (.d (.int e))) (some (.d (.int f)))) (by walk_at "var") (by rw [succ_cast]; walk_at "set") ?_)
        refine ee_cons (ee_tryFinally (PE1 := fun V acc => V = vSld a b (i + 1) j pm pu (some (.d (.int e))) (some (.d (.int f))) ∧ acc = aSld pm pu m u ∧ a[i + 1]? = none) hd ?_ ?_ ?_)
        · rintro V' acc' V2 acc2 ⟨rfl, rfl, _⟩ ⟨_, _, _, _, _, _, _, rfl, _⟩
          rfl
        · refine ee_cons (ee_whileEq (ds := a) (i := ((i + 1 : Nat) : Int)) (b := e) rfl hd (by walk_at "var") (by walk_at "var") (by walk_at "var") (by omega) (by omega) (fun z hz => ⟨sa i e z he (by simpa using hz), ?_⟩) (fun hz => ⟨rfl, rfl, by simpa using hz⟩) (fun z => rfl))
          refine ee_nil ⟨rfl, ?_⟩
          refine ee_cons (ee_addI (V' := vSld a b (i + 1) (j + 1) pm pu (some (.d (.int e))) (some (.d (.int f)))) (by walk_at "var") (by rw [succ_cast]; walk_at "set") ?_)
          refine ee_cons (ee_whileEq (ds := b) (i := ((j + 1 : Nat) : Int)) (b := f) rfl hd (by walk_at "var") (by walk_at "var") (by walk_at "var") (by omega) (by omega) (fun z hz => ⟨sb j f z hf (by simpa using hz), ?_⟩) (fun hz => ?_) (fun z => z.elim))
          · refine ee_nil ⟨rfl, ee_nil (ee_nil (ee_nil (ex_nil ⟨_, ?_, i + 1, j + 1, m, u, _, _, rfl, rfl, hil, hjl, by omega, by omega, rfl, k, ?_, hs⟩)))⟩
            · omega
            · omega
          · exact jpe hil hjl (by omega) (by omega) (by omega) hs (.inr (by simpa using hz))
        · rintro V' acc' e0 ⟨rfl, rfl, hnone⟩
          refine ee_cons (ee_addI (V' := vSld a b (i + 1) (j + 1) pm pu (some (.d (.int e))) (some (.d (.int f)))) (by walk_at "var") (by rw [succ_cast]; walk_at "set") ?_)
          have hpe := jpe (x := some (.d (.int e))) (y := some (.d (.int f))) (pm := pm) (pu := pu) hil hjl (Nat.le_trans hm (Nat.le_succ _)) (Nat.le_trans hu (Nat.le_succ _)) (show 1 ≤ k by omega) hs (.inl hnone)
          refine ee_cons (ee_whileEq (ds := b) (i := ((j + 1 : Nat) : Int)) (b := f) (mark_frames _ _) hd (by walk_at "var") (by walk_at "var") (by walk_at "var") (by omega) (by omega) (fun z hz => ⟨sb j f z hf (by simpa using hz), ?_⟩) (fun hz => hpe) (fun z => z.elim))
          exact ee_nil ⟨rfl, hpe⟩
  · rintro V' acc' e ⟨i, j, m, u, x, y, rfl, rfl, hi, hj, hm, hu, hno, hR⟩
    have hml : (iL m).length ≤ 10000 := by rw [iL, List.length_map]; omega
    have hul : (iL u).length ≤ 10000 := by rw [iL, List.length_map]; omega
    have hal : (iL a).length ≤ 10000 := by rw [iL, List.length_map]; omega
    have hbl : (iL b).length ≤ 10000 := by rw [iL, List.length_map]; omega
    refine ee_cons (ee_extend (a := pm) (ds := iL m) (es := iL a) (i := (i : Int)) (acc' := [(pu, iL u), (pm, iL m ++ pick (iL a) (some (i : Int)) none)]) (by walk_at "var") (by walk_at "var") (by walk_at "var") (.tail .head) hml hal ?_)
    refine ee_cons (ee_extend (a := pu) (ds := iL u) (es := iL b) (i := (j : Int)) (acc' := [(pu, iL u ++ pick (iL b) (some (j : Int)) none), (pm, iL m ++ pick (iL a) (some (i : Int)) none)]) (by walk_at "var") (by walk_at "var") (by walk_at "var") .head hul hbl ?_)
    rw [pick_iL a i hi, pick_iL b j hj, iL_app, iL_app]
    subst hR
    refine ee_cons (ee_break ?_)
    change Ex _ _ _ _ _ _
    refine' ex_freeze (x := Str.ofString "unexpected") ?gv ?gs ?gx
    case gv => walk_at "var"
    case gs => walk_at "set"
    change Ex _ _ _ _ _ _
    refine' ex_freeze (x := Str.ofString "missing") ?hv ?hs ?hx
    case hv => walk_at "var"
    case hs => walk_at "set"
    change Ex _ _ _ _ _ _
    walk_at "ret"
    rfl
end
section
variable {G : TopC} {C : Cx} {V : List (Option VV)} {acc : Acc}
section
open AutoSeq1 (wpAny_loadPart')
open SeqAt
theorem erase_size (items : Array Value) (k : Nat) : (items.eraseIdxIfInBounds k).size ≤ items.size := by
  unfold Array.eraseIdxIfInBounds
  split
  · rw [Array.size_eraseIdx]; omega
  · exact Nat.le_refl _
theorem erase_list (vs : List Value) (k : Nat) : (vs.toArray.eraseIdxIfInBounds k) = (vs.eraseIdx k).toArray := by
  unfold Array.eraseIdxIfInBounds
  split
  · simp
  · rename_i h
    rw [List.eraseIdx_of_length_le (by simpa using h)]
theorem plain_remove_loop : plainId "list.remove.loop" = true := by decide +kernel
theorem entry_remove_loop : entryFor table "list.remove.loop" = some Builtin.«list.remove.loop» := entryFor_of_fast (by kernel_rfl)
noncomputable def remWant (l : Addr) (L : List Value) (e : Value → Bool) (i : Nat) : PySem.Spec := fun A R s =>
  match L.findIdx? e with
  | some k => R (.ok (.ret .none)) { s with heap := s.heap.update l (Obj.mapSeq fun x => x.eraseIdxIfInBounds (i + k)) }
  | none => ∀ h' tk x, Heap.NewExc s.heap h' x "ValueError" → R (.error (.ref x)) { s with heap := h', toks := tk }
theorem remove_loopAt (l : Addr) (items : Array Value) (n : Nat) (dd : Option Addr) (sl : Array (Option Value)) (x : Value) (e : Value → Bool) (hz : items.size ≤ sizeLine) (k : Nat) :
    ∀ i : Nat, items.size - i = k → Meets (Builtin.«list.remove.loop» ⟨[.ref l, x, rawInt i], []⟩)
      (fun A R s => s.heap.get? l = some { cls := .type "list", dict := dd, data := .seq items n, slots := sl } ∧ (∀ y, y ∈ items → EqAt A.in1 s y x (e y)) ∧ A.handled = none ∧ remWant l (items.toList.drop i) e i A R s) := by
  have hz' : ∀ k, (items.eraseIdxIfInBounds k).size ≤ sizeLine + 1 := fun k => Nat.le_trans (erase_size items k) (Nat.le_succ_of_le hz)
  induction k with
  | zero =>
    intro i hk prog w A R s h
    obtain ⟨hp, g, d, tk, os⟩ := s; obtain ⟨hl, he, hh, h⟩ := h
    have hi : items[((i : Nat) : Int).toNat]? = none := by simp; omega
    have hd : items.toList.drop i = [] := by simp; omega
    rw [hd] at h
    wp_walk using wpAny_loadPart' hl
    rw [hi]
    wp_walk
    exact_raiseError plainExc_ValueError hh h
  | succ k ih =>
    intro i hk prog w A R s h
    obtain ⟨hp, g, d, tk, os⟩ := s; obtain ⟨hl, he, hh, h⟩ := h
    wp_walk using wpAny_loadPart' hl
    have hlt : i < items.size := by omega
    have hi : items[((i : Nat) : Int).toNat]? = some items[i] := by simp [hlt]
    have hd : items.toList.drop i = items[i] :: items.toList.drop (i + 1) := by simp [List.drop_eq_getElem_cons, hlt]
    rw [hd] at h
    unfold remWant at h
    rw [List.findIdx?_cons] at h
    rw [hi]
    refine wpAny_bind (he _ (Array.getElem_mem hlt) prog w _ _ ?_)
    cases hb : e items[i] with
    | true =>
      rw [hb] at h
      simp only [if_true] at h
      have hc : ((i : Nat) : Int).toNat = i := by simp
      wp_walk using (wpAny_updateSeq hl rfl (hz := hz) (_hz' := hz' _))
      simpa [hc] using h
    | false =>
      rw [hb] at h
      have hc : ((i : Int) + 1) = ((i + 1 : Nat) : Int) := by push_cast; rfl
      wp_walk
      rw [hc]
      refine ⟨plainId_quiet plain_remove_loop _, codeAny_builtin entry_remove_loop (by
        rw [Around.under_plainId plain_remove_loop _]
        refine ih (i + 1) (by omega) prog w A R _ ⟨hl, he, hh, ?_⟩
        simp only [Bool.false_eq_true, if_false] at h
        unfold remWant
        cases hq : (items.toList.drop (i + 1)).findIdx? e with
        | none => rw [hq] at h; exact h
        | some k =>
          rw [hq] at h
          simp only [Option.map_some] at h
          have e : i + 1 + k = i + (k + 1) := by omega
          dsimp only
          rw [e]
          exact h)⟩
theorem list_removeAt (l : Addr) (items : Array Value) (n : Nat) (dd : Option Addr) (sl : Array (Option Value)) (x : Value) (e : Value → Bool) (hz : items.size ≤ sizeLine) :
    Meets (Builtin.«list.remove» ⟨[.ref l, x], []⟩)
      (fun A R s => s.heap.get? l = some { cls := .type "list", dict := dd, data := .seq items n, slots := sl } ∧ (∀ y, y ∈ items → EqAt A.in1 s y x (e y)) ∧ A.handled = none ∧ remWant l items.toList e 0 A R s) := by
  intro prog w A R s h
  obtain ⟨hp, g, d, tk, os⟩ := s; obtain ⟨hl, he, hh, h⟩ := h
  wp_walk using wpAny_loadPart' hl
  exact ⟨plainId_quiet plain_remove_loop _, codeAny_builtin entry_remove_loop (by
    rw [Around.under_plainId plain_remove_loop _]
    exact remove_loopAt l items n dd sl x e hz _ 0 rfl prog w A R _ ⟨hl, he, hh, by simpa using h⟩)⟩
theorem list_popAt (l : Addr) (items : Array Value) (n : Nat) (dd : Option Addr) (sl : Array (Option Value)) (v : Value) (k : Nat) (hk : items.size = k + 1) (hv : items[k]? = some v) (hz : items.size ≤ sizeLine) :
    Meets (Builtin.«list.pop» ⟨[.ref l], []⟩)
      (fun A R s => s.heap.get? l = some { cls := .type "list", dict := dd, data := .seq items n, slots := sl } ∧ R (.ok (.ret v)) { s with heap := s.heap.update l (Obj.mapSeq fun x => x.eraseIdxIfInBounds k) }) := by
  intro prog w A R s h
  obtain ⟨hp, g, d, tk, os⟩ := s; obtain ⟨hl, h⟩ := h
  have hz' : (items.eraseIdxIfInBounds k).size ≤ sizeLine + 1 := Nat.le_trans (erase_size items k) (Nat.le_succ_of_le hz)
  have hne : items.isEmpty = false := by
    cases h : items.isEmpty with
    | false => rfl
    | true => rw [Array.isEmpty_iff] at h; rw [h] at hk; simp at hk
  have hidx : ((seqIndex? (-1) items.size).bind fun k => items[k]?.map (k, ·)) = some (k, v) := by
    have : seqIndex? (-1) items.size = some k := by
      unfold seqIndex?
      simp only [hk]
      have e1 : (if (-1 : Int) < 0 then -1 + ((k + 1 : Nat) : Int) else -1) = (k : Int) := by rw [if_pos (by decide)]; omega
      rw [e1]
      rw [if_pos (by simp; omega)]
      simp
    rw [this]; simp [hv]
  wp_walk using wpAny_loadPart' hl, (wpAny_updateSeq hl rfl (hz := hz) (_hz' := hz'))
  rw [hidx]
  wp_walk using (wpAny_updateSeq hl rfl (hz := hz) (_hz' := hz'))
  exact h
end
theorem RdAll.eraseIdx {bad : Addr → Prop} {h : Heap} : ∀ {vs : List Value} {ds : List PyData} (k : Nat), RdAll bad h vs ds → RdAll bad h (vs.eraseIdx k) (ds.eraseIdx k)
  | [], [], _, _ => .nil
  | [], _ :: _, _, r => by have := r.length; simp at this
  | _ :: _, [], _, r => by have := r.length; simp at this
  | v :: vs, d :: ds, 0, r => r.inv.2
  | v :: vs, d :: ds, k + 1, r => by rw [List.eraseIdx_cons_succ, List.eraseIdx_cons_succ]; exact .cons r.inv.1 (r.inv.2.eraseIdx k)
theorem sL_eraseIdx : ∀ (l : List (List Nat)) (k : Nat), (sL l).eraseIdx k = sL (l.eraseIdx k)
  | [], _ => rfl
  | _ :: _, 0 => rfl
  | x :: l, k + 1 => by
    show PyData.str (S x) :: (sL l).eraseIdx k = PyData.str (S x) :: sL (l.eraseIdx k)
    rw [sL_eraseIdx]
theorem strs_free {bad bad' : Addr → Prop} {h h' : Heap} : ∀ {vs : List Value} {l : List (List Nat)}, RdAll bad h vs (sL l) → RdAll bad' h' vs (sL l)
  | [], [], _ => .nil
  | [], _ :: _, r => by have := r.length; simp [sL] at this
  | _ :: _, [], r => by have := r.length; simp [sL] at this
  | v :: vs, x :: l, r => by
    have q : RdAll bad h (v :: vs) (.str (S x) :: sL l) := r
    obtain ⟨t, rfl⟩ := q.inv.1.str_inv
    exact .cons (.str _ _) (strs_free q.inv.2)
section
variable {P : Post} {PE : XPost} {T : String} {cn : Prop}
theorem grow_update {B : Base} {s : Shared} {a : Addr} {ds ds' : List PyData} {acc' : Acc} {vs : List Value} {o : Obj} {n : Nat} {f : Array Value → Array Value} {vs' : List Value} (q : FS G B C V acc s) (hg : AccSet acc a ds ds' acc') (ho : s.heap.get? a = some o) (hc : o.cls = .type "list") (hdn : o.dict = none) (hdt : o.data = .seq vs.toArray n)
    (hf : f vs.toArray = vs'.toArray) (hr : RdAll (C.wa acc).bad s.heap vs' ds') : FS G B C V acc' { s with heap := s.heap.update a (Obj.mapSeq f) } := by
  obtain ⟨n', hd'⟩ := Obj.data_mapSeq hdt f
  refine q.grow (tk := s.toks) hg (Heap.SameBut.update ..) (vs' := vs') ⟨_, n', Heap.get?_update_self _ ho (Obj.isFreed_of_seq hd'), (Obj.cls_mapSeq ..).trans hc, ?_, by rw [hd', hf]⟩ hr
  obtain ⟨c, d, dt, sl⟩ := o
  dsimp only at hdt hdn
  subst hdt hdn
  rfl
/-- y = x.pop() -/
theorem ex1_assignPop {x y : Str} {px py ap pos p2 : Pos} {a : Addr} {ds : List PyData} {d : PyData} {acc' : Acc} {V' : List (Option VV)} (hx : VarIx C.N V x (.v (.ref a))) (hg : AccSet acc a (ds ++ [d]) ds acc') (hz : ds.length ≤ 10000) (hy : SetIx C.N V y (.d d) V') (h : P .next V' acc')
    (hline : (ap.endLine == p2.line) = true := by rfl) (ho : C.own = C.env.cells := by rfl) (hs : ∀ env, swapsWith (.Call (.Attribute (.Name x px) (Str.ofString "pop") ap) [] [] p2) (some (.Name y py)) pos.line env = pure false := by intro _; rfl) :
    Ex1 G C V acc (.Assign [.Name y py] (.Call (.Attribute (.Name x px) (Str.ofString "pop") ap) [] [] p2) pos) P := fun B s Q E q k => by
  refine wpAny_Assign_Name (Call_method0 (by rfl) hline (nameA (G := G) (C := C.wa acc) q.st hx fun v hv => ?_)) (hs _)
  have hv' : v = .ref a := hv
  subst hv'
  obtain ⟨_, vs, ⟨o, n, ho', hc, hdn, hdt⟩, r⟩ := q.acc a _ hg.mem
  refine ⟨"list", "list.pop", F.plainAttrs_list, F.slot_list_pop, F.type_list_pop, ⟨o, ho', hc⟩, (fun b z => by cases z; exact ⟨o, ho', hdn⟩), ?_⟩
  refine Calls.callWith_builtin rfl ?_
  refine evalArgs_kw_nil rfl (wpAny_evalAll_nil ?_)
  have hlen := r.length
  rw [List.length_append, List.length_singleton] at hlen
  obtain ⟨v, hv, rv⟩ := r.get (i := ds.length) (d := d) (by simp)
  have hsz : vs.toArray.size ≤ sizeLine := by rw [List.size_toArray, hlen]; exact Nat.le_trans (Nat.succ_le_succ hz) (by decide)
  obtain ⟨c3, d3, dt3, sl3⟩ := o
  dsimp only at hc hdn hdt
  subst hc hdn hdt
  refine call_meets F.slot_list_pop ⟨_, ho', rfl⟩ F.entry_list_pop (F.args_list_pop_1 _) (list_popAt a vs.toArray n none sl3 v ds.length (by simpa using hlen) (by simpa using hv) hsz) ⟨ho', ?_⟩
  have r2 := r.eraseIdx ds.length
  have e : (ds ++ [d]).eraseIdx ds.length = ds := by rw [List.eraseIdx_append_of_length_le (Nat.le_refl _)]; simp
  rw [e] at r2
  have q2 := grow_update q hg ho' rfl rfl rfl (f := fun x => x.eraseIdxIfInBounds ds.length) (erase_list vs ds.length) r2
  have rv2 : Rd (C.wa acc').bad (s.heap.update a (Obj.mapSeq fun x => x.eraseIdxIfInBounds ds.length)) v d := by
    have hw : C.wa acc' = C.wa acc := by unfold Cx.wa; rw [hg.map]
    rw [hw]
    exact rv.but (.inr (List.mem_map_of_mem (f := (·.1)) hg.mem)) ho' (fun ⟨z, _⟩ => by simp at z) (Heap.SameBut.update ..)
  exact storeVar q2 (.inl ho) hy (o := .d d) rv2 fun s' q' _ _ => k .next .next _ _ _ h q' rfl
/-- x.remove(y), texts -/
theorem ee_remove {x y : Str} {px py ap cp pos : Pos} {a : Addr} {l : List (List Nat)} {z : List Nat} {acc' : Acc} (hx : VarIx C.N V x (.v (.ref a))) (hy : VarIx C.N V y (.d (.str (S z)))) (hg : z ∈ l → AccSet acc a (sL l) (sL (l.erase z)) acc') (hm : (a, sL l) ∈ acc) (hasc : ∀ u ∈ l, Asc u) (hz : Asc z) (hsz : l.length ≤ 10000)
    (h : z ∈ l → P .next V acc') (hE : z ∉ l → PE V acc)
    (hline : (ap.endLine == cp.line) = true := by rfl) (hi : ∀ env : Env, env.scope.kind = .function → interactive env = false := by intro env h; simp [interactive, h]) :
    Ex1E G C.A "ValueError" cn C V acc (.Expr (.Call (.Attribute (.Name x px) (Str.ofString "remove") ap) [.Name y py] [] cp) pos) P PE := fun B s Q E q hh k kE => by
  refine wpAny_Expr_any ?_ (hi C.env q.st.cx.kind) rfl
  refine Call_method1 (by rfl) (by rfl) hline (nameA (G := G) (C := C.wa acc) q.st hx fun v hv => ?_)
  have hv' : v = .ref a := hv
  subst hv'
  obtain ⟨_, vs, ⟨o, n, ho', hc, hdn, hdt⟩, r⟩ := q.acc a _ hm
  refine ⟨"list", "list.remove", F.plainAttrs_list, F.slot_list_remove, F.type_list_remove, ⟨o, ho', hc⟩, (fun b z => by cases z; exact ⟨o, ho', hdn⟩), ?_⟩
  refine Calls.callWith_builtin rfl (evalArgs_plain (spliced_cons (nameA (G := G) (C := C.wa acc) q.st hy fun w hw => spliced_nil ?_)))
  obtain ⟨t, rfl⟩ := Rd.str_inv hw
  have hlen : vs.length = l.length := by have := r.length; simpa [sL] using this
  have hsz' : vs.toArray.size ≤ sizeLine := by rw [List.size_toArray, hlen]; exact Nat.le_trans hsz (by decide)
  obtain ⟨c3, d3, dt3, sl3⟩ := o
  dsimp only at hc hdn hdt
  subst hc hdn hdt
  -- which value is the text
  let e : Value → Bool := fun v => match v with | .str u _ => u == S z | _ => false
  have vget : ∀ i (hi : i < vs.length), ∃ t, vs[i] = .str (S (l[i]'(by omega))) t := fun i hi => by
    obtain ⟨v', hv', rv⟩ := r.get (i := i) (d := .str (S (l[i]'(by omega)))) (by simp [sL, List.getElem?_eq_getElem (show i < l.length by omega)])
    rw [List.getElem?_eq_getElem hi] at hv'
    cases hv'
    exact rv.str_inv
  have he : ∀ y, y ∈ vs.toArray → SeqAt.EqAt C.A.in1 s y (.str (S z) t) (e y) := fun y hy => by
    obtain ⟨i, hi, rfl⟩ := List.mem_iff_getElem.mp (by simpa using hy)
    obtain ⟨t', ht'⟩ := vget i hi
    rw [ht']
    have hl1 : Asc (l[i]'(by omega)) := hasc _ (List.getElem_mem _)
    have := SeqAt.eqAt_reads (.str (S (l[i]'(by omega)))) (.str (S z)) C.A.in1 s (.str (S (l[i]'(by omega))) t') (.str (S z) t) [] [] (.str _ _) (.str _ _) (can_str hl1) (can_str hz) (by have := q.st.units1; show C.A.in1.units + min 0 0 < cLine; have h2 : (C.wa acc).A.in1.units + 64 < cLine := this; show C.A.in1.units + 0 < cLine; have h3 : C.A.in1.units + 64 < cLine := h2; omega)
    rw [PyData.eqv] at this
    exact this
  have hev : ∀ i (hi : i < vs.length), e vs[i] = (l[i]'(by omega) == z) := fun i hi => by
    obtain ⟨t', ht'⟩ := vget i hi
    rw [ht']
    show (S (l[i]'(by omega)) == S z) = _
    exact str_beq
  have hfind : vs.findIdx? e = l.findIdx? (· == z) := by
    have hmap : vs.map e = l.map (· == z) := by
      refine List.ext_getElem (by simp [hlen]) fun i h1 h2 => ?_
      simp only [List.getElem_map]
      exact hev i (by simpa using h1)
    have a1 := List.findIdx?_map (f := e) (p := id) (l := vs)
    have a2 := List.findIdx?_map (f := fun u => u == z) (p := id) (l := l)
    rw [hmap, a2] at a1
    simpa using a1.symm
  refine call_meets F.slot_list_remove ⟨_, ho', rfl⟩ F.entry_list_remove (F.args_list_remove_2 _ _) (list_removeAt a vs.toArray n none sl3 (.str (S z) t) e hsz') ⟨ho', he, q.st.a.1, ?_⟩
  show remWant a vs e 0 C.A _ s
  unfold remWant
  rw [hfind]
  by_cases hmem : z ∈ l
  · have hfi : l.findIdx? (· == z) = some (l.idxOf z) := by
      rw [List.findIdx?_eq_some_iff_findIdx_eq]
      refine ⟨?_, rfl⟩
      exact List.idxOf_lt_length_of_mem hmem
    rw [hfi]
    dsimp only
    have r2 := r.eraseIdx (l.idxOf z)
    have e1 : (sL l).eraseIdx (l.idxOf z) = sL (l.erase z) := by
      rw [sL_eraseIdx, List.erase_eq_eraseIdx_of_idxOf rfl]
    rw [e1] at r2
    rw [Nat.zero_add]
    have q2 := grow_update q (hg hmem) ho' rfl rfl rfl (f := fun x => x.eraseIdxIfInBounds (l.idxOf z)) (erase_list vs (l.idxOf z)) r2
    exact k .next .next _ _ _ (h hmem) q2 rfl
  · have hfi : l.findIdx? (· == z) = none := by
      rw [List.findIdx?_eq_none_iff]
      intro u hu
      simp only [beq_eq_false_iff_ne]
      rintro rfl
      exact hmem hu
    rw [hfi]
    intro h' tk x hx'
    have hnx : NewX True s.heap h' x "ValueError" := by
      obtain ⟨ob, t, h1, h2, h3⟩ := hx'.there
      exact ⟨hx'.keeps, hx'.new, ob, t, .none, h1, h2, h3, fun _ => rfl⟩
    obtain ⟨q', cx, xf, hcx⟩ := q.exc (tk := tk) hnx
    exact kE x V acc _ cx (hE hmem) q' xf fun _ => hcx trivial

/-- a test told of the frame and its lists -/
noncomputable def TrF (G : TopC) (C : Cx) (V : List (Option VV)) (acc : Acc) (e : Expr) (b : Bool) : Prop :=
  ∀ (B : Base) (s : Shared) (Q : Bool → Shared → Prop) (E : Value → Shared → Prop), FS G B C V acc s → (∀ s', Kp G s s' → Q b s') → wpAny (model G.prog G.w) C.A (isTrue e C.env (eval e C.env)) Q E s
theorem trF_of {e : Expr} {b : Bool} (h : Tr G (C.wa acc) V e b) : TrF G C V acc e b := fun B s Q E q k => h s Q E q.st k
theorem ex1_ifF' {t : Expr} {b o : List Stmt} {pos : Pos} {c : Bool} (ht : TrF G C V acc t c) (h1 : c = true → Ex G C V acc b P) (h2 : c = false → Ex G C V acc o P) : Ex1 G C V acc (.If t b o pos) P := fun B s Q E q k =>
  wpAny_If (ht B s _ E q fun s' k1 => by
    cases c with
    | true => exact h1 rfl B s' Q E (q.keeps k1) k
    | false => exact h2 rfl B s' Q E (q.keeps k1) k)
theorem ex1_whileF {t : Expr} {pos : Pos} {body : List Stmt} (J : Nat → List (Option VV) → Acc → Prop) (n0 : Nat) (h0 : J n0 V acc)
    (turn : ∀ n V1 acc1, J n V1 acc1 → ∃ b, TrF G C V1 acc1 t b ∧
      (b = true → Ex G C V1 acc1 body (fun o V' acc' => match o with | .next => ∃ m, m < n ∧ J m V' acc' | .brk => P .next V' acc' | .ret r => P (.ret r) V' acc')) ∧ (b = false → P .next V1 acc1)) :
    Ex1 G C V acc (.While t body [] pos) P := fun B s Q E q k => by
  refine wpAny_While (codeAny_whileLoop (fun n s => ∃ V1 acc1, J n V1 acc1 ∧ FS G B C V1 acc1 s) ?_ n0 ⟨V, acc, h0, q⟩)
  rintro n s1 ⟨V1, acc1, hJ, q1⟩
  obtain ⟨b, ht, h1, h2⟩ := turn n V1 acc1 hJ
  refine ht B s1 _ _ q1 fun s2 k2 => ?_
  have q2 := q1.keeps k2
  cases b with
  | false => exact wpAny_execs_nil (k .next .next _ _ _ (h2 rfl) q2 rfl)
  | true =>
    refine h1 rfl B s2 _ _ q2 fun o f V' acc' s' p q' hf => ?_
    cases o with
    | next => cases hf; obtain ⟨m, hm, hJ'⟩ := p; exact ⟨m, hm, V', acc', hJ', q'⟩
    | brk => cases hf; exact k .next .next _ _ _ p q' rfl
    | ret d => obtain ⟨v, rfl, r⟩ := hf; exact k (.ret d) _ _ _ _ p q' ⟨v, rfl, r⟩
theorem trF_acc {x : Str} {px : Pos} {a : Addr} {ds : List PyData} (hx : VarIx C.N V x (.v (.ref a))) (hm : (a, ds) ∈ acc) (hz : ds.length ≤ 10000) : TrF G C V acc (.Name x px) (!ds.isEmpty) := fun B s Q E q k =>
  wpAny_isTrue_value (nameA (G := G) (C := C.wa acc) q.st hx fun v hv => by
    have hv' : v = .ref a := hv
    subst hv'
    obtain ⟨_, vs, hl, r⟩ := q.acc a _ hm
    have hlen := r.length
    refine wpAny_truthy_list hl.isList (by rw [List.size_toArray]; omega) ?_
    have e : (!vs.toArray.isEmpty) = !ds.isEmpty := by
      cases vs with
      | nil => cases ds with | nil => rfl | cons => simp at hlen
      | cons => cases ds with | nil => simp at hlen | cons => rfl
    rw [e]
    exact k _ (Kp.of_toks G _)) (by rfl)
end
end
section
variable {G : TopC} {C : Cx} {V : List (Option VV)} {acc : Acc}

/-- the lists parted: from behind, each taken out of the other, or told -/
noncomputable def und : List (List Nat) → List (List Nat) → List (List Nat) → List (List Nat) × List (List Nat)
  | [], rest, mis => (mis, rest)
  | x :: r, rest, mis => if x ∈ rest then und r (rest.erase x) mis else und r rest (mis ++ [x])
theorem und_cons (z : List Nat) (r rest mis : List (List Nat)) : und (z :: r) rest mis = if z ∈ rest then und r (rest.erase z) mis else und r rest (mis ++ [z]) := rfl
theorem sub_ValueError_meta : isSubtype (.type ((Manifest.find? "ValueError").elim "type" fun x => x.metatype)) (.type "tuple") = pure false := by
  have e : ((Manifest.find? "ValueError").elim "type" fun x => x.metatype) = "type" := by decide +kernel
  rw [e, isSubtype_type]; kernel_rfl
noncomputable abbrev nUnd : List Str := [Str.ofString "expected", Str.ofString "actual", Str.ofString "missing", Str.ofString "item"]
noncomputable def jUnd (R : List (List Nat) × List (List Nat)) (l1 l2 pm : Addr) (N : Nat) (n : Nat) : XPost := fun V acc => ∃ r rest mis x, r.length = n ∧ V = [some (.v (.ref l1)), some (.v (.ref l2)), some (.v (.ref pm)), x] ∧ acc = [(pm, sL mis), (l2, sL rest), (l1, sL r.reverse)] ∧
  (∀ u ∈ r, Asc u) ∧ (∀ u ∈ rest, Asc u) ∧ r.length + mis.length + rest.length ≤ N ∧ und r rest mis = R
theorem sL_snoc (a : List (List Nat)) (x : List Nat) : sL a ++ [PyData.str (S x)] = sL (a ++ [x]) := by simp [sL]
theorem isEmpty_sL_rev (r : List (List Nat)) : (sL r.reverse).isEmpty = r.isEmpty := by
  cases r with
  | nil => rfl
  | cons x r => simp [sL]

structure UndEnd (G : TopC) (bad : Addr → Prop) (s s' : Shared) (l1 l2 : Addr) (R : List (List Nat) × List (List Nat)) (t : Addr) : Prop where
  heap : KpH (PySem.W.hideAll s.heap [l2, l1]) s'.heap
  top : G.hT.StaysIn s'.heap
  tab : TabI G s'.heap
  gens : ∃ gs : Array GenState, s'.gens = s.gens ++ gs ∧ ∀ g ∈ gs, g.bare = true
  os : s'.os = s.os
  e1 : ∃ vs, PlainL s'.heap l1 vs.toArray ∧ RdAll (fun _ => False) s'.heap vs (sL [])
  e2 : ∃ vs, PlainL s'.heap l2 vs.toArray ∧ RdAll (fun _ => False) s'.heap vs (sL R.2)
  tup : ∃ m ms, IsTup s'.heap t #[.ref m, .ref l2] ∧ s'.heap.IsList m ms.toArray ∧ RdAll (fun _ => False) s'.heap ms (sL R.1) ∧ ¬ bad m ∧ m ≠ l1 ∧ m ≠ l2

theorem und_ok {fa : Addr} (H : DefAt G (Str.ofString "unorderable_list_difference") 17 fa) (B : BltOk G) (xs ys : List (List Nat)) (hx : ∀ u ∈ xs, Asc u) (hy : ∀ u ∈ ys, Asc u) (hz : xs.length + ys.length ≤ 10000)
    {A : Around} {bad : Addr → Prop} {s : Shared} {l1 l2 : Addr} {Q E : Value → Shared → Prop} (hA : AOk 2 A) (hok : Ok G A s) (hbad : ∀ b, bad b → ∃ o, Plain o ∧ s.heap.get? b = some o) (gv : Given G bad s.heap [(l2, sL ys), (l1, sL xs)])
    (hQ : ∀ t s', UndEnd G bad s s' l1 l2 (und xs.reverse ys []) t → Q (.ref t) s') : wpAny (model G.prog G.w) A (call (.ref fa) [.ref l1, .ref l2]) Q E s := by
  obtain ⟨pm, code, doc, hf⟩ := H
  refine enter (acc := [(l2, sL ys), (l1, sL xs)]) (n := 1) (N := nUnd) (xs := [Str.ofString "expected", Str.ofString "actual"]) (V0 := [some (.v (.ref l1)), some (.v (.ref l2)), none, none]) hf rfl rfl rfl rfl (show DefOk (pScope 17) nUnd _ from by walk_at "def") hA hok hbad rfl rfl gv (fun x o hx => ?_) fun C s1 h1 _ h2 h3 hh h4 h5 _ h6 F => ?_
  · cases hx with
    | head => exact ⟨_, .head _, rfl⟩
    | tail hx =>
      cases hx with
      | head => exact ⟨_, .tail _ (.head _), rfl⟩
      | tail hx => cases hx with | tail hx => cases hx with | tail hx => cases hx
  obtain ⟨A1, env, N', bad', n', own⟩ := C
  dsimp only at h1 h2 h3 h4 h6 hh
  subst h2 h3 h4
  have hd := h5
  have hk : ∀ x, env.kindOf x = (pScope 17).names.lookup x := h1
  clear h1
  -- missing = []
  have st1 : ∀ pm, Ex1 G ⟨A1, env, nUnd, bad', 1, env.cells⟩ [some (.v (.ref l1)), some (.v (.ref l2)), some (.v (.ref pm)), none] [(pm, []), (l2, sL ys), (l1, sL xs)] ((pBody 17).getD 1 (.Break ⟨0, 0, 0, 0⟩))
      (fun o V acc => o = .next ∧ ∃ x, V = [some (.v (.ref l1)), some (.v (.ref l2)), some (.v (.ref pm)), x] ∧ acc = [(pm, sL (und xs.reverse ys []).1), (l2, sL (und xs.reverse ys []).2), (l1, sL [])]) := by
    intro pm
    refine (ex1_whileF (jUnd (und xs.reverse ys []) l1 l2 pm (xs.length + ys.length)) xs.length ⟨xs.reverse, ys, [], none, by simp, rfl, by rw [List.reverse_reverse]; rfl, by simpa using hx, hy, by simp, rfl⟩ ?_)
    rintro n V1 acc1 ⟨r, rest, mis, x, hn, rfl, rfl, hr, hrest, hlen, hR⟩
    have hrl : (sL r.reverse).length ≤ 10000 := by rw [sL, List.length_map, List.length_reverse]; omega
    refine ⟨!(sL r.reverse).isEmpty, trF_acc (by walk_at "var") (.tail _ (.tail _ (.head _))) hrl, fun hne => ?_, fun he => ?_⟩
    · rw [isEmpty_sL_rev] at hne
      obtain ⟨z, r, rfl⟩ : ∃ z r', r = z :: r' := by
        cases r with
        | nil => simp at hne
        | cons z r => exact ⟨z, r, rfl⟩
      have hzz : Asc z := hr z (.head _)
      have e1 : sL (z :: r).reverse = sL r.reverse ++ [.str (S z)] := by simp [sL]
      rw [e1]
      refine ex_cons (ex1_assignPop (a := l1) (ds := sL r.reverse) (d := .str (S z)) (acc' := [(pm, sL mis), (l2, sL rest), (l1, sL r.reverse)]) (by walk_at "var") (.tail (.tail .head)) (by rw [sL, List.length_map, List.length_reverse]; simp at hlen; omega) (by walk_at "set") ?_ rfl rfl (by intro _; rfl))
      refine ex_cons ?_
      refine ex1_tryExcept (T := "ValueError") (PE := fun V acc => z ∉ rest ∧ V = [some (.v (.ref l1)), some (.v (.ref l2)), some (.v (.ref pm)), some (.d (.str (S z)))] ∧ acc = [(pm, sL mis), (l2, sL rest), (l1, sL r.reverse)]) hd (by rw [isSubtype_type]; kernel_rfl) sub_ValueError_meta (by rw [isSubtype_type]; kernel_rfl) (by walk_at "kind") (by decide) B.ValueError.1 B.ValueError.2 ?_ ?_
      · refine ee_cons (ee_remove (a := l2) (l := rest) (z := z) (acc' := [(pm, sL mis), (l2, sL (rest.erase z)), (l1, sL r.reverse)]) (by walk_at "var") (by walk_at "var") (fun _ => .tail .head) (.tail _ (.head _)) hrest hzz (by simp at hlen; omega) (fun hm => ?_) (fun hm => ⟨hm, rfl, rfl⟩))
        refine ee_nil (ex_nil ⟨_, ?_, r, rest.erase z, mis, _, rfl, rfl, rfl, fun u hu => hr u (.tail _ hu), fun u hu => hrest u (List.mem_of_mem_erase hu), ?_, ?_⟩)
        · rw [← hn]; simp
        · have := List.length_erase_of_mem hm; simp at hlen; omega
        · rw [← hR, und_cons, if_pos hm]
      · rintro V' acc' e ⟨hm, rfl, rfl⟩
        refine ee_cons (ee_append (a := pm) (d := .str (S z)) (ds := sL mis) (acc' := [(pm, sL mis ++ [.str (S z)]), (l2, sL rest), (l1, sL r.reverse)]) (by walk_at "var") (by walk_at "var") .head (by rw [sL, List.length_map]; simp at hlen; omega) ?_)
        rw [sL_snoc]
        refine ee_nil (ex_nil ⟨_, ?_, r, rest, mis ++ [z], _, rfl, rfl, rfl, fun u hu => hr u (.tail _ hu), hrest, ?_, ?_⟩)
        · rw [← hn]; simp
        · simp at hlen ⊢; omega
        · rw [← hR, und_cons, if_neg hm]
    · rw [isEmpty_sL_rev] at he
      have : r = [] := by
        cases r with
        | nil => rfl
        | cons => simp at he
      subst this
      rw [← hR]
      exact ⟨rfl, x, rfl, rfl⟩
  have e0 : pBody 17 = [(pBody 17).getD 0 (.Break ⟨0, 0, 0, 0⟩), (pBody 17).getD 1 (.Break ⟨0, 0, 0, 0⟩), Stmt.Return (some (.Tuple [.Name (Str.ofString "missing") _, .Name (Str.ofString "actual") _] 0 _)) _] := rfl
  rw [e0]
  have st0 : Ex1 G ⟨A1, env, nUnd, bad', 1, env.cells⟩ [some (.v (.ref l1)), some (.v (.ref l2)), none, none] [(l2, sL ys), (l1, sL xs)] ((pBody 17).getD 0 (.Break ⟨0, 0, 0, 0⟩))
      (fun o V acc => o = .next ∧ ∃ pm, V = [some (.v (.ref l1)), some (.v (.ref l2)), some (.v (.ref pm)), none] ∧ acc = [(pm, []), (l2, sL ys), (l1, sL xs)]) :=
    ex1_acc (fun pm => ⟨_, .tail (.tail .head), rfl, pm, rfl, rfl⟩) rfl (by intro _; rfl)
  refine wpAny_execs_cons (st0 _ s1 _ _ F fun o f V' acc' s2 p q2 hf2 => ?_)
  obtain ⟨rfl, pm, rfl, rfl⟩ := p
  cases hf2
  refine wpAny_execs_cons (st1 pm _ s2 _ _ q2 fun o f V' acc' s3 p q3 hf3 => ?_)
  obtain ⟨rfl, x, rfl, rfl⟩ := p
  cases hf3
  generalize und xs.reverse ys [] = R at hQ q3
  refine wpAny_execs_cons (wpAny_Return_some (wpAny_Tuple_spliced ?_))
  refine spliced_cons (nameA (G := G) (C := Cx.wa ⟨A1, env, nUnd, bad', 1, env.cells⟩ [(pm, sL R.1), (l2, sL R.2), (l1, sL [])]) q3.st (.tail (.tail .head)) fun v hv => ?_)
  refine spliced_cons (nameA (G := G) (C := Cx.wa ⟨A1, env, nUnd, bad', 1, env.cells⟩ [(pm, sL R.1), (l2, sL R.2), (l1, sL [])]) q3.st (.tail .head) fun w hw => ?_)
  have hv' : v = .ref pm := hv
  have hw' : w = .ref l2 := hw
  subst hv' hw'
  refine spliced_nil ⟨by show 2 ≤ _; decide, ?_⟩
  have k1 := Kp.of_push G (s := s3) s3.toks { cls := .type "tuple", data := .seq [Value.ref pm, Value.ref l2].toArray }
  have q4 := q3.keeps k1
  refine ⟨_, rfl, hQ _ _ ?_⟩
  obtain ⟨n1, vs1, hl1, r1⟩ := q4.acc pm (sL R.1) (.head _)
  obtain ⟨n2, vs2, hl2, r2⟩ := q4.acc l2 (sL R.2) (.tail _ (.head _))
  obtain ⟨n3, vs3, hl3, r3⟩ := q4.acc l1 (sL []) (.tail _ (.tail _ (.head _)))
  have hnd := q4.accN
  refine ⟨q4.base, q4.st.ok.top, q4.st.ok.tab, q4.gens, q4.os, ⟨vs3, hl3, strs_free r3⟩, ⟨vs2, hl2, strs_free r2⟩, pm, vs1, push_tup _ _, hl1.isList, strs_free r1, ?_, ?_, ?_⟩
  · intro hb
    exact q4.accB pm _ (.head _) (q4.obad pm hb).1
  · rintro rfl
    simp at hnd
  · rintro rfl
    simp at hnd
end
section
variable {G : TopC} {C : Cx} {V : List (Option VV)} {acc : Acc}

theorem Reads_plain_ne {bad : Addr → Prop} {h : Heap} {v d} {a : Addr} (r : Rd bad h v d) (hf : ∀ o, Plain o → h.get? a ≠ some o) : Rd (fun b => bad b ∨ b = a) h v d := by
  obtain ⟨as, r, p⟩ := r
  refine ⟨as, r, fun b hb hz => hz.elim (p b hb) fun z => ?_⟩
  obtain ⟨o, hp, e⟩ := reads_plain r b hb
  exact hf o hp (z ▸ e)
theorem ReadsAll_plain_ne {bad : Addr → Prop} {h : Heap} {v d} {a : Addr} (r : RdAll bad h v d) (hf : ∀ o, Plain o → h.get? a ≠ some o) : RdAll (fun b => bad b ∨ b = a) h v d := by
  obtain ⟨as, r, p⟩ := r
  refine ⟨as, r, fun b hb hz => hz.elim (p b hb) fun z => ?_⟩
  obtain ⟨o, hp, e⟩ := readsAll_plain r b hb
  exact hf o hp (z ▸ e)
/-- a new list of texts, held outright -/
theorem FS.addAcc {B : Base} {s0 s1 : Shared} {a : Addr} {l : List (List Nat)} {vs : List Value} (q0 : FS G B C V acc s0) (k : Kp G s0 s1) (hf : ∀ o, Plain o → s0.heap.get? a ≠ some o) (hl : PlainL s1.heap a vs.toArray) (hr : RdAll (fun _ => False) s1.heap vs (sL l)) : FS G B C V ((a, sL l) :: acc) s1 := by
  have q1 := q0.keeps k
  have wk : ∀ b, (C.wa ((a, sL l) :: acc)).bad b → (C.wa acc).bad b ∨ b = a := fun b hb => by
    rcases hb with hb | hb
    · exact .inl (.inl hb)
    · rcases List.mem_cons.mp hb with hb | hb
      · exact .inr hb
      · exact .inl (.inr hb)
  refine { st := ⟨⟨q1.st.cx.kind, q1.st.cx.glob, q1.st.cx.blt, q1.st.cx.nodup, q1.st.cx.dbg, q1.st.cx.kinds⟩, q1.st.a, q1.st.ok, fun y o hy => ?_, fun b hb => ?_⟩, base := q1.base, ownL := q1.ownL, ownC := q1.ownC, ns := q1.ns, cs := q1.cs, apart := q1.apart, gens := q1.gens, os := q1.os, accN := ?_, accB := fun c ds hm => ?_, acc := fun c ds hm => ?_, obad := q1.obad, own := q1.own, hT := q1.hT }
  · obtain ⟨v, st, hd⟩ := q0.st.vars y o hy
    refine ⟨v, st.sim k.heap, ?_⟩
    cases o with
    | v u => exact hd
    | d d => exact ((Reads_plain_ne hd hf).weaken wk).sim k.heap
  · rcases wk b hb with hb | rfl
    · exact q1.st.bad b hb
    · obtain ⟨o, n, e, c, _⟩ := hl
      exact ⟨o, .of_cls (by rw [c]; intro z; cases z), e⟩
  · refine List.nodup_cons.mpr ⟨fun hm => ?_, q0.accN⟩
    obtain ⟨⟨c, ds⟩, hm, e⟩ := List.mem_map.mp hm
    obtain ⟨_, vs, ⟨o, n, e1, hc, _⟩, _⟩ := q0.acc c ds hm
    have : c = a := e
    subst this
    exact hf o (.of_cls (by rw [hc]; intro z; cases z)) e1
  · rcases List.mem_cons.mp hm with e | hm
    · cases e
      intro hb
      obtain ⟨o, p, e⟩ := q0.st.bad a (.inl hb)
      exact hf o p e
    · exact q0.accB c ds hm
  · rcases List.mem_cons.mp hm with e | hm
    · cases e
      refine ⟨fun o p e => ?_, vs, hl, strs_free hr⟩
      obtain ⟨o', e', s'⟩ := q0.base a o p e
      exact hf o' (p.sim s') e'
    · obtain ⟨h1, vs, hl, r⟩ := q1.acc c ds hm
      obtain ⟨_, vs2, hl2, r2⟩ := q0.acc c ds hm
      have : vs2 = vs := by
        obtain ⟨o1, n1, e1, hc1, _, d1⟩ := hl2
        obtain ⟨o2, n2, e2, _, _, d2⟩ := hl
        obtain ⟨o3, e3, s3⟩ := k.heap c o1 (.of_cls (by rw [hc1]; intro z; cases z)) e1
        rw [e2] at e3; cases e3
        have := s3.2.2.1
        rw [d1, d2] at this
        injection this with d3 _
        exact (congrArg Array.toList d3).symm
      subst this
      exact ⟨h1, vs2, hl, ((ReadsAll_plain_ne r2 hf).weaken wk).sim k.heap⟩

/-- the two lists turned elsewhere: both are data now -/
theorem FS.und {B : Base} {s s' : Shared} {xs ys : List (List Nat)} {l1 l2 t : Addr} {R : List (List Nat) × List (List Nat)} {x1 x2 : Str} {V1 V2 : List (Option VV)} (q : FS G B C V [(l2, sL ys), (l1, sL xs)] s) (u : UndEnd G C.bad s s' l1 l2 R t)
    (h1 : VarIx C.N V x1 (.v (.ref l1))) (h2 : VarIx C.N V x2 (.v (.ref l2))) (s1 : SetIx C.N V x1 (.d (.list (sL []))) V1) (s2 : SetIx C.N V1 x2 (.d (.list (sL R.2))) V2) :
    FS G B C V2 [] s' ∧ Rd (C.wa []).bad s'.heap (.ref t) (.tuple [.list (sL R.1), .list (sL R.2)]) := by
  have o1 := q.acc l1 _ (.tail _ (.head _))
  have o2 := q.acc l2 _ (.head _)
  obtain ⟨n1, vs1, ⟨a1, c1, e1, k1, d1, t1⟩, r1⟩ := o1
  obtain ⟨n2, vs2, ⟨a2, c2, e2, k2, d2, t2⟩, r2⟩ := o2
  have b1 : ¬ C.bad l1 := q.accB l1 _ (.tail _ (.head _))
  have b2 : ¬ C.bad l2 := q.accB l2 _ (.head _)
  have hown : ∀ a ∈ [l2, l1], (C.wa [(l2, sL ys), (l1, sL xs)]).bad a ∧ ∀ o, s.heap.get? a = some o → NoTup o ∧ ∀ vs, o.data ≠ .fields vs := by
    intro a ha
    refine ⟨.inr (by simpa using ha), fun o e => ?_⟩
    simp only [List.mem_cons, List.not_mem_nil, or_false] at ha
    rcases ha with rfl | rfl
    · rw [e2] at e; cases e
      exact ⟨(fun ⟨z, _⟩ => by rw [k2] at z; simp at z), fun vs z => by rw [t2] at z; cases z⟩
    · rw [e1] at e; cases e
      exact ⟨(fun ⟨z, _⟩ => by rw [k1] at z; simp at z), fun vs z => by rw [t1] at z; cases z⟩
  have hid : ∀ a o, s.heap.get? a = some o → a ≠ l2 → a ≠ l1 → (PySem.W.hideAll s.heap [l2, l1]).get? a = some o := fun a o e z1 z2 => PySem.W.hideAll_get _ e (by simp [z1, z2])
  have nsK : ∀ {L m}, s.heap.Ns L m → s'.heap.Ns L m := fun {L m} ⟨o, es, ep, e, d, r⟩ => ns_sim u.heap ⟨o, es, ep, hid _ _ e (fun z => by rw [z, e2] at e; cases e; rw [t2] at d; cases d) (fun z => by rw [z, e1] at e; cases e; rw [t1] at d; cases d), d, r⟩
  have clK : ∀ {c v}, s.heap.IsCell c v → s'.heap.IsCell c v := fun {c v} ⟨o, e, d⟩ => cell_sim u.heap ⟨o, hid _ _ e (fun z => by rw [z, e2] at e; cases e; rw [t2] at d; cases d) (fun z => by rw [z, e1] at e; cases e; rw [t1] at d; cases d), d⟩
  have stK : ∀ {y v}, Stored C.env s.heap y v → Stored C.env s'.heap y v := fun {y v} x => x.imp (fun ⟨a, m, b, c⟩ => ⟨a, m, nsK b, c⟩) fun ⟨a, c, b, d⟩ => ⟨a, c, b, clK d⟩
  have rdK : ∀ {v d}, Rd (C.wa [(l2, sL ys), (l1, sL xs)]).bad s.heap v d → Rd (C.wa []).bad s'.heap v d := fun {v d} ⟨as, r, p⟩ => ⟨as, reads_sim u.heap (reads_hide hown r p), fun a ha hb => p a ha (hb.elim .inl fun z => nomatch z)⟩
  have hne : l1 ≠ l2 := fun z => by have := q.accN; simp at this; exact this z.symm
  obtain ⟨w1, p1, f1⟩ := u.e1
  obtain ⟨w2, p2, f2⟩ := u.e2
  have sx1 := q.st.vars x1 _ h1
  have sx2 := q.st.vars x2 _ h2
  have hN := q.st.cx.nodup
  refine ⟨{ st := ⟨⟨q.st.cx.kind, q.st.cx.glob, q.st.cx.blt, q.st.cx.nodup, q.st.cx.dbg, q.st.cx.kinds⟩, q.st.a, ⟨q.st.ok.g, u.top, u.tab, ?_⟩, fun y o hy => ?_, fun b hb => ?_⟩, base := fun a o p e => ?_, ownL := q.ownL, ownC := q.ownC, ns := let ⟨m, h⟩ := q.ns; ⟨m, nsK h⟩, cs := fun x c hc => (let ⟨v, h⟩ := q.cs x c hc; ⟨v, clK h⟩), apart := q.apart, gens := ?_, os := u.os.trans q.os, accN := .nil, accB := (fun _ _ h => nomatch h), acc := (fun _ _ h => nomatch h), obad := q.obad, own := q.own, hT := q.hT }, ?_⟩
  · obtain ⟨l, e, f⟩ := q.st.ok.frames
    refine ⟨l, e, ?_⟩
    clear e
    induction l with
    | nil => trivial
    | cons env r ih =>
      obtain ⟨g1, ⟨L, o, g2, g3, g4, g5⟩, g6⟩ := f
      refine ⟨g1, ⟨L, ?_⟩, ih g6⟩
      by_cases z1 : L = l1
      · subst z1
        obtain ⟨o', n', e', _, _, dt⟩ := p1
        exact ⟨o', g2, g3, e', fun vs z => by rw [dt] at z; cases z⟩
      by_cases z2 : L = l2
      · subst z2
        obtain ⟨o', n', e', _, _, dt⟩ := p2
        exact ⟨o', g2, g3, e', fun vs z => by rw [dt] at z; cases z⟩
      obtain ⟨o', e', s1⟩ := u.heap L o (.of_data g5) (hid _ _ g4 z2 z1)
      exact ⟨o', g2, g3, e', fun vs z => g5 vs (s1.2.2.1 ▸ z)⟩
  · rcases s2.old hN hy with ⟨rfl, rfl⟩ | ⟨ne2, hy⟩
    · obtain ⟨v, st, hv⟩ := sx2
      have hv' : v = .ref l2 := hv
      subst hv'
      exact ⟨_, stK st, .list p2.isList (fun hb => hb.elim b2 fun z => nomatch z) (strs_free f2)⟩
    · rcases s1.old hN hy with ⟨rfl, rfl⟩ | ⟨ne1, hy⟩
      · obtain ⟨v, st, hv⟩ := sx1
        have hv' : v = .ref l1 := hv
        subst hv'
        exact ⟨_, stK st, .list p1.isList (fun hb => hb.elim b1 fun z => nomatch z) (strs_free f1)⟩
      · obtain ⟨v, st, hv⟩ := q.st.vars y o hy
        refine ⟨v, stK st, ?_⟩
        cases o with
        | v u => exact hv
        | d d => exact rdK hv
  · have hb' : C.bad b := hb.elim id fun z => nomatch z
    obtain ⟨o, p, e⟩ := q.st.bad b (.inl hb')
    obtain ⟨o', e', s1⟩ := u.heap b o p (hid _ _ e (fun z => b2 (z ▸ hb')) fun z => b1 (z ▸ hb'))
    exact ⟨o', p.sim s1, e'⟩
  · obtain ⟨o1, e1', s1⟩ := q.base a o p e
    obtain ⟨o2, e2', s2⟩ := u.heap a o1 (p.sim s1) (hid _ _ e1' (fun z => n2 o p (z ▸ e)) fun z => n1 o p (z ▸ e))
    exact ⟨o2, e2', s1.trans s2⟩
  · obtain ⟨g1, e1, b1⟩ := q.gens
    obtain ⟨g2, e2, b2⟩ := u.gens
    refine ⟨g1 ++ g2, by rw [e2, e1, Array.append_assoc], fun g hg => ?_⟩
    rcases Array.mem_append.mp hg with h | h
    · exact b1 g h
    · exact b2 g h
  · obtain ⟨m, ms, tup, lm, rm, nb, _, _⟩ := u.tup
    refine Rd.tuple (vs := [.ref m, .ref l2]) tup (.cons (.list lm (fun hb => hb.elim nb fun z => nomatch z) (strs_free rm)) (.cons (.list p2.isList (fun hb => hb.elim b2 fun z => nomatch z) (strs_free f2)) .nil))

/-- t = unorderable_list_difference(x1, x2) -/
theorem ex1_und {fa : Addr} (H : DefAt G (Str.ofString "unorderable_list_difference") 17 fa) (Bo : BltOk G) {f t x1 x2 : Str} {pt pf p1 p2 pc pos : Pos} {xs ys : List (List Nat)} {l1 l2 : Addr} {V1 V2 V3 : List (Option VV)} {P : Post} (hf : f = Str.ofString "unorderable_list_difference") (hk : C.env.kindOf f = some .globalImplicit) (hn : 2 ≤ C.n) (hx : ∀ u ∈ xs, Asc u) (hy : ∀ u ∈ ys, Asc u) (hz : xs.length + ys.length ≤ 10000)
    (h1 : VarIx C.N V x1 (.v (.ref l1))) (h2 : VarIx C.N V x2 (.v (.ref l2))) (s1 : SetIx C.N V x1 (.d (.list (sL []))) V1) (s2 : SetIx C.N V1 x2 (.d (.list (sL (und xs.reverse ys []).2))) V2) (s3 : SetIx C.N V2 t (.d (.tuple [.list (sL (und xs.reverse ys []).1), .list (sL (und xs.reverse ys []).2)])) V3)
    (h : P .next V3 []) (ho : C.own = C.env.cells := by rfl) (hs : ∀ env, swapsWith (.Call (.Name f pf) [.Name x1 p1, .Name x2 p2] [] pc) (some (.Name t pt)) pos.line env = pure false := by intro _; rfl) :
    Ex1 G C V [(l2, sL ys), (l1, sL xs)] (.Assign [.Name t pt] (.Call (.Name f pf) [.Name x1 p1, .Name x2 p2] [] pc) pos) P := fun B s Q E q k => by
  subst hf
  obtain ⟨pm, code, doc, hm, ⟨o, ho', hdat⟩, hcr⟩ := id H
  refine wpAny_Assign_Name (Call_ (globName q.st hk (by decide) hm ?_)) (hs _)
  refine callWith_function (o := o) (fd := docDef (Str.ofString "unorderable_list_difference") (pArgs 17) (pBody 17) (pScope 17) pm code doc) (evalArgs_plain ?_)
  refine spliced_cons (nameA (G := G) (C := C.wa [(l2, sL ys), (l1, sL xs)]) q.st h1 fun v hv => spliced_cons (nameA (G := G) (C := C.wa [(l2, sL ys), (l1, sL xs)]) q.st h2 fun w hw => spliced_nil ?_))
  have hv' : v = .ref l1 := hv
  have hw' : w = .ref l2 := hw
  subst hv' hw'
  refine ⟨⟨q.st.ok.top _ _ ho', hdat⟩, ?_⟩
  have gv : Given G C.bad s.heap [(l2, sL ys), (l1, sL xs)] := by
    refine ⟨q.accN, fun a ds hm => ?_, fun a ds hm => q.accB a ds hm, fun a ds hm => ?_⟩
    · obtain ⟨_, vs, hl, r⟩ := q.acc a ds hm
      exact ⟨vs, hl, r⟩
    · cases e : G.hT.get? a with
      | none => rfl
      | some o =>
        obtain ⟨n1, vs, ⟨o', n, e', hc, _⟩, r⟩ := q.acc a ds hm
        have e2 := q.st.ok.top a o e
        rw [e'] at e2; cases e2
        exact absurd (q.hT a o e) (n1 o (.of_cls (by rw [hc]; intro z; cases z)))
  refine und_ok H Bo xs ys hx hy hz (q.st.a.mono hn) q.st.ok (fun b hb => q.st.bad b (.inl hb)) gv fun t' s' u => ?_
  obtain ⟨q', r⟩ := q.und u h1 h2 s1 s2
  exact storeVar q' (.inl ho) s3 (o := .d _) r fun s'' q'' _ _ => k .next .next _ _ _ h q'' rfl
end
section
variable {G : TopC} {C : Cx} {V : List (Option VV)} {acc : Acc}

/-- _pre_parse_validation: the list it gives is a new one -/
theorem pre_new {fa : Addr} (H : DefAt G (Str.ofString "_pre_parse_validation") 5 fa) (B : BltOk G) {fg fs fc : Addr} (Hg : DefAt G (Str.ofString "_iter_escaped_chars") 2 fg) (Hs : DefAt G (Str.ofString "_strip_quoted_realnames") 3 fs) (Hc : DefAt G (Str.ofString "_check_parenthesis") 4 fc) (l : List (List Nat)) (hl : ∀ v ∈ l, (∀ c ∈ v, c < 128) ∧ v.length ≤ 100) (hz : l.length ≤ 1000)
    {A : Around} {s : Shared} {vs : List Value} {Q E : Value → Shared → Prop} (hA : AOk 4 A) (hok : Ok G A s) (hr : RdAll (fun _ => False) s.heap vs [.list (sL l)])
    (hQ : ∀ a s', Kp G s s' → (∀ o, Plain o → s.heap.get? a ≠ some o) → (∃ ws, PlainL s'.heap a ws.toArray ∧ RdAll (fun _ => False) s'.heap ws (sL (rPre l))) → Q (.ref a) s') : wpAny (model G.prog G.w) A (call (.ref fa) vs) Q E s := by
  obtain ⟨pm, code, doc, hf⟩ := H
  have hvl : vs.length = 1 := by have := hr.length; simpa using this
  obtain ⟨v0, rfl⟩ : ∃ v0, vs = [v0] := by
    match vs, hvl with
    | [v], _ => exact ⟨v, rfl⟩
  refine enter (acc := []) (n := 3) (bad := fun _ => False) (N := [Str.ofString "email_header_fields", Str.ofString "accepted_values", Str.ofString "v"]) (xs := [Str.ofString "email_header_fields"]) (V0 := [some (.d (.list (sL l))), none, none]) hf rfl rfl rfl rfl (show DefOk (pScope 5) _ _ from by walk_at "def") hA hok (fun _ z => z.elim) rfl rfl .nil (fun x o hx => ?_) fun C s1 h1 _ h2 h3 hh h4 h5 _ h6 F => ?_
  · cases hx with
    | head => exact ⟨_, .head _, Rd.weaken (h := s.heap) hr.inv.1 fun a ha => ha.elim id fun z => nomatch z⟩
    | tail hx => cases hx with | tail hx => cases hx with | tail hx => cases hx
  obtain ⟨A1, env, N', bad', n', own⟩ := C
  dsimp only at h1 h2 h3 h4 h6 hh
  subst h2 h3 h4
  have hk : ∀ x, env.kindOf x = (pScope 5).names.lookup x := h1
  clear h1
  have e0 : pBody 5 = [(pBody 5).getD 0 (.Break ⟨0, 0, 0, 0⟩), (pBody 5).getD 1 (.Break ⟨0, 0, 0, 0⟩), Stmt.Return (some (.Name (Str.ofString "accepted_values") _)) _] := rfl
  have st0 : Ex1 G ⟨A1, env, [Str.ofString "email_header_fields", Str.ofString "accepted_values", Str.ofString "v"], bad', 3, env.cells⟩ [some (.d (.list (sL l))), none, none] [] ((pBody 5).getD 0 (.Break ⟨0, 0, 0, 0⟩))
      (fun o V acc => o = .next ∧ ∃ a, V = [some (.d (.list (sL l))), some (.v (.ref a)), none] ∧ acc = [(a, [])]) :=
    ex1_acc (fun a => ⟨_, .tail .head, rfl, a, rfl, rfl⟩) rfl (by intro _; rfl)
  have st1 : ∀ a, Ex1 G ⟨A1, env, [Str.ofString "email_header_fields", Str.ofString "accepted_values", Str.ofString "v"], bad', 3, env.cells⟩ [some (.d (.list (sL l))), some (.v (.ref a)), none] [(a, [])] ((pBody 5).getD 1 (.Break ⟨0, 0, 0, 0⟩))
      (fun o V acc => o = .next ∧ ∃ x, V = [some (.d (.list (sL l))), some (.v (.ref a)), x] ∧ acc = [(a, sL (rPre l))]) := by
    intro a
    have itv : ∀ p1, ItEv G (Cx.wa ⟨A1, env, [Str.ofString "email_header_fields", Str.ofString "accepted_values", Str.ofString "v"], bad', 3, env.cells⟩ [(a, [])]) [some (.d (.list (sL l))), some (.v (.ref a)), none] (.Name (Str.ofString "email_header_fields") p1) (l.map fun h => .str (S h)) := fun _ => itEv_sL (by walk_at "ev")
    refine (ex1_for (itv _) (fun i V1 acc1 => acc1 = [(a, sL (rPre (l.take i)))] ∧ ∃ x, V1 = [some (.d (.list (sL l))), some (.v (.ref a)), x]) ⟨rfl, none, rfl⟩ ?_ ?_ ?_ rfl (by intro _ _; rfl))
    · rintro i V1 acc1 ⟨rfl, _⟩; rfl
    · rintro i d V1 acc1 hd ⟨rfl, x, rfl⟩
      rw [List.getElem?_map, Option.map_eq_some_iff] at hd
      obtain ⟨v, hv, rfl⟩ := hd
      have hmem := List.mem_of_getElem? hv
      have hlt := (List.getElem?_eq_some_iff.mp hv).1
      refine ⟨_, .tail (.tail .head), ?_⟩
      have hcall : ∀ p1 p2 p3, Ev G (Cx.wa ⟨A1, env, [Str.ofString "email_header_fields", Str.ofString "accepted_values", Str.ofString "v"], bad', 3, env.cells⟩ [(a, sL (rPre (l.take i)))]) [some (.d (.list (sL l))), some (.v (.ref a)), some (.d (.str (S v)))] (.Call (.Name (Str.ofString "_check_parenthesis") p1) [.Name (Str.ofString "v") p2] [] p3) (.bool (rChk v)) := fun p1 p2 p3 =>
        ev_callD Hc (by walk_at "kind") (evL_cons (ev_name (.tail (.tail .head))) evL_nil) (check_ok Hc B Hg Hs v (hl v hmem).1 (hl v hmem).2) (Nat.le_refl _) (by decide) (by intro _; rfl)
      have hsz : (sL (rPre (l.take i))).length ≤ 1000000 := by rw [sL, List.length_map, rPre, List.length_map, List.length_take]; omega
      have hstep : sL (rPre (l.take (i + 1))) = sL (rPre (l.take i)) ++ [.str (S (if rChk v then v else BAD))] := by
        rw [List.take_add_one, hv]; simp [sL, rPre]
      have fin : ∀ w, w = (if rChk v then v else BAD) → ∀ P : Post, P .next [some (.d (.list (sL l))), some (.v (.ref a)), some (.d (.str (S w)))] [(a, sL (rPre (l.take (i + 1))))] →
          ∀ p1 p2 p3 p4, (p2.endLine == p3.line) = true → Ex1 G ⟨A1, env, [Str.ofString "email_header_fields", Str.ofString "accepted_values", Str.ofString "v"], bad', 3, env.cells⟩ [some (.d (.list (sL l))), some (.v (.ref a)), some (.d (.str (S w)))] [(a, sL (rPre (l.take i)))]
            (.Expr (.Call (.Attribute (.Name (Str.ofString "accepted_values") p1) (Str.ofString "append") p2) [.Name (Str.ofString "v") p4] [] p3) p3) P := by
        intro w hw P hP p1 p2 p3 p4 hline
        refine' ex1_append (a := a) (acc' := [(a, sL (rPre (l.take i)) ++ [.str (S w)])]) (d := .str (S w)) (ds := sL (rPre (l.take i))) ?av .head ?ae hsz ?an ?al ?as ?ai
        case av => walk_at "var"
        case al => exact hline
        case as => intro _; rfl
        case ai => intro env h; simp [interactive, h]
        case ae => walk_at "ev"
        case an => subst hw; rw [hstep] at hP; exact hP
      cases hq : rChk v with
      | true =>
        rw [hq] at fin
        refine' ex_cons (ex1_ifF ?t1 ?c1 ?a1)
        case t1 => exact tr_not (tr_ev (hcall _ _ _) (by intro _ _; rfl))
        case c1 => rw [hq]; rfl
        change Ex _ _ _ _ _ _
        walk_at "done"
        refine ex_cons (fin v rfl _ ?_ _ _ _ _ rfl)
        exact ex_nil ⟨rfl, _, rfl⟩
      | false =>
        rw [hq] at fin
        refine' ex_cons (ex1_ifT ?t2 ?c2 ?a2)
        case t2 => exact tr_not (tr_ev (hcall _ _ _) (by intro _ _; rfl))
        case c2 => rw [hq]; rfl
        change Ex _ _ _ _ _ _
        refine' ex_cons (ex1_assign (evc cBad) ?s3 ?n3)
        case s3 => walk_at "set"
        change Ex _ _ _ _ _ _
        walk_at "done"
        refine ex_cons (fin BAD rfl _ ?_ _ _ _ _ rfl)
        exact ex_nil ⟨rfl, _, rfl⟩
    · rintro V' acc' ⟨rfl, x, rfl⟩
      refine ⟨rfl, x, rfl, ?_⟩
      rw [List.length_map, List.take_length]
  rw [e0]
  refine wpAny_execs_cons (st0 _ s1 _ _ F fun o f V' acc' s2 p q2 hf2 => ?_)
  obtain ⟨rfl, a, rfl, rfl⟩ := p
  cases hf2
  refine wpAny_execs_cons (st1 a _ s2 _ _ q2 fun o f V' acc' s3 p q3 hf3 => ?_)
  obtain ⟨rfl, x, rfl, rfl⟩ := p
  cases hf3
  refine wpAny_execs_cons (wpAny_Return_some ?_)
  refine nameA (G := G) (C := Cx.wa ⟨A1, env, [Str.ofString "email_header_fields", Str.ofString "accepted_values", Str.ofString "v"], bad', 3, env.cells⟩ [(a, sL (rPre l))]) q3.st (.tail .head) fun v hv => ?_
  have hv' : v = .ref a := hv
  subst hv'
  obtain ⟨n1, ws, hl1, r1⟩ := q3.acc a _ (.head _)
  refine ⟨_, rfl, hQ a s3 ⟨fun a o p e => q3.base a o p (hide_nil _ _ _ e), fun _ => q3.st.ok.top, fun _ => q3.st.ok.tab, q3.gens, q3.os⟩ (fun o p e => n1 o p (hide_nil _ _ _ e)) ⟨ws, hl1, strs_free r1⟩⟩

/-- x = list(y), held outright -/
theorem ex1_listAcc (B : BltOk G) {x f : Str} {px pf pc pos : Pos} {e : Expr} {l : List (List Nat)} {P : Post} (hf : f = Str.ofString "list") (hk : C.env.kindOf f = some .globalImplicit) (he : Ev G (C.wa acc) V e (.list (sL l))) (hz : l.length ≤ 10000) (hset : ∀ a, ∃ V', SetIx C.N V x (.v (.ref a)) V' ∧ P .next V' ((a, sL l) :: acc)) (ho : C.own = C.env.cells := by rfl)
    (hs1 : ∀ env, starEach [e] env = [(false, eval e env)] := by intro _; rfl)
    (hs : ∀ env, swapsWith (.Call (.Name f pf) [e] [] pc) (some (.Name x px)) pos.line env = pure false := by intro _; rfl) :
    Ex1 G C V acc (.Assign [.Name x px] (.Call (.Name f pf) [e] [] pc) pos) P := fun B' s Q E q k => by
  subst hf
  refine wpAny_Assign_Name (Call_ (bltName q.st hk (by decide) B.list.1 B.list.2 ?_)) (hs _)
  have e' : backTo pc (starEach [e] C.env) = [(false, eval e C.env)] := by rw [hs1]; rfl
  show wpAny _ _ (callWith pc _ [] (backTo pc (starEach [e] C.env)) []) _ _ _
  rw [e']
  refine PyProof.Rows.callWith_type rfl (evalArgs_plain (spliced_cons (he s _ E q.st fun u s1 k1 r1 => spliced_nil ?_)))
  obtain ⟨a, vs, rfl, hl, hb, r⟩ := r1.list_inv
  obtain ⟨o, ho', hc, n, hd⟩ := hl
  have hlen : vs.length = l.length := by have := r.length; simpa [sL] using this
  have hsz : vs.toArray.size ≤ sizeLine := by rw [List.size_toArray, hlen]; exact Nat.le_trans hz (by decide)
  refine call_list_seq (hsz := hsz) a (.inl rfl) ho' hc hd fun h' c' hkp hS => ?_
  have k2 := Kp.of_keeps G (s := s1) (h' := h') s1.toks hkp
  obtain ⟨V', hv, h⟩ := hset s1.heap.objs.size
  have q1 := q.keeps k1
  have q2 := q1.addAcc (a := s1.heap.objs.size) (l := l) (vs := vs) k2 (fun o _ e => by rw [get_size] at e; cases e) ⟨_, _, hS, rfl, rfl, rfl⟩ (strs_free r)
  exact storeVar q2 (.inl ho) hv (o := .v (.ref s1.heap.objs.size)) rfl fun s' q' _ _ => k .next .next _ _ _ h q' rfl

/-- x = _pre_parse_validation(y), both held outright -/
theorem ex1_preAcc {fa : Addr} (H : DefAt G (Str.ofString "_pre_parse_validation") 5 fa) (B : BltOk G) {fg fs fc : Addr} (Hg : DefAt G (Str.ofString "_iter_escaped_chars") 2 fg) (Hs : DefAt G (Str.ofString "_strip_quoted_realnames") 3 fs) (Hc : DefAt G (Str.ofString "_check_parenthesis") 4 fc) {l : List (List Nat)} (hl : ∀ v ∈ l, (∀ c ∈ v, c < 128) ∧ v.length ≤ 100) (hz : l.length ≤ 1000)
    {x y f : Str} {px pf p1 pc pos : Pos} {b : Addr} {P : Post} (hf : f = Str.ofString "_pre_parse_validation") (hk : C.env.kindOf f = some .globalImplicit) (hn : 4 ≤ C.n) (hy : VarIx C.N V y (.v (.ref b))) (hm : (b, sL l) ∈ acc) (hset : ∀ a, ∃ V', SetIx C.N V x (.v (.ref a)) V' ∧ P .next V' ((a, sL (rPre l)) :: acc)) (ho : C.own = C.env.cells := by rfl)
    (hs : ∀ env, swapsWith (.Call (.Name f pf) [.Name y p1] [] pc) (some (.Name x px)) pos.line env = pure false := by intro _; rfl) :
    Ex1 G C V acc (.Assign [.Name x px] (.Call (.Name f pf) [.Name y p1] [] pc) pos) P := fun B' s Q E q k => by
  subst hf
  obtain ⟨pm, code, doc, hm2, ⟨o, ho', hdat⟩, hcr⟩ := id H
  refine wpAny_Assign_Name (Call_ (globName q.st hk (by decide) hm2 ?_)) (hs _)
  refine callWith_function (o := o) (fd := docDef (Str.ofString "_pre_parse_validation") (pArgs 5) (pBody 5) (pScope 5) pm code doc) (evalArgs_plain ?_)
  refine spliced_cons (nameA (G := G) (C := C.wa acc) q.st hy fun v hv => spliced_nil ?_)
  have hv' : v = .ref b := hv
  subst hv'
  refine ⟨⟨q.st.ok.top _ _ ho', hdat⟩, ?_⟩
  obtain ⟨_, vs, hlb, r⟩ := q.acc b _ hm
  refine pre_new H B Hg Hs Hc l hl hz (q.st.a.mono hn) q.st.ok (.cons (.list hlb.isList id (strs_free r)) .nil) fun a s' kp hfr ⟨ws, hla, ra⟩ => ?_
  obtain ⟨V', hv, h⟩ := hset a
  exact storeVar (q.addAcc kp hfr hla ra) (.inl ho) hv (o := .v (.ref a)) rfl fun s'' q'' _ _ => k .next .next _ _ _ h q'' rfl

/-! tests of lists held outright -/
theorem varIx_nil {N : List Str} {x : Str} {o : VV} : ¬ VarIx N [] x o := fun h => by cases h
theorem St.bare {s : Shared} (q : St G C V s) : St G ⟨C.A, C.env, C.N, fun _ => False, C.n, C.own⟩ [] s :=
  ⟨⟨q.cx.kind, q.cx.glob, q.cx.blt, q.cx.nodup, q.cx.dbg, q.cx.kinds⟩, q.a, q.ok, (fun x o h => absurd h varIx_nil), fun b z => z.elim⟩
theorem trF_neAcc {x : Str} {px pos : Pos} {a : Addr} {l : List (List Nat)} {e : Expr} (hx : VarIx C.N V x (.v (.ref a))) (hm : (a, sL l) ∈ acc) (he : Ev G (C.wa acc) V e (.list (sL l))) (hl : ∀ u ∈ l, Asc u) (hb : behindInMarks .NotEq e = false := by with_unfolding_all rfl) :
    TrF G C V acc (.Compare (.Name x px) [.NotEq] [e] pos) false := fun B s Q E q k =>
  wpAny_isTrue_Compare1 (nameA (G := G) (C := C.wa acc) q.st hx fun v hv => he s _ E q.st fun w s1 k1 r1 => by
    have hv' : v = .ref a := hv
    subst hv'
    have q1 := q.keeps k1
    obtain ⟨_, vs, hla, r⟩ := q1.acc a _ hm
    have c := cmp_neSelf (G := G) (C := ⟨C.A, C.env, C.N, fun _ => False, C.n, C.own⟩) (shaped_strs hl)
    refine c [] s1 _ _ (.ref a) w q1.st.bare (.list hla.isList id (strs_free r)) (Rd.weaken (h := s1.heap) r1 fun _ z => z.elim) fun s2 k2 => ?_
    exact wpAny_truthy_bool (k _ (k1.trans k2))) hb
theorem trF_isAcc {x y : Str} {px py pos : Pos} {a b : Addr} {d1 d2 : List PyData} (hx : VarIx C.N V x (.v (.ref a))) (hy : VarIx C.N V y (.v (.ref b))) (ha : (a, d1) ∈ acc) (hb : (b, d2) ∈ acc) (hne : (acc.map (·.1)).Nodup → a ≠ b) :
    TrF G C V acc (.Compare (.Name x px) [.Is] [.Name y py] pos) false := fun B s Q E q k =>
  wpAny_isTrue_Compare1 (nameA (G := G) (C := C.wa acc) q.st hx fun v hv => nameA (G := G) (C := C.wa acc) q.st hy fun w hw => by
    have hv' : v = .ref a := hv
    have hw' : w = .ref b := hw
    subst hv' hw'
    obtain ⟨_, vs, ⟨o1, n1, e1, c1, _⟩, _⟩ := q.acc a _ ha
    obtain ⟨_, ws, ⟨o2, n2, e2, c2, _⟩, _⟩ := q.acc b _ hb
    refine wpAny_is_ref_other (hne q.accN) e1 e2 (by rw [c1]; simp) (wpAny_truthy_bool (k _ (.refl ..)))) (by with_unfolding_all rfl)
theorem trF_or2 {e1 e2 : Expr} {pos : Pos} (h1 : TrF G C V acc e1 false) (h2 : TrF G C V acc e2 false) : TrF G C V acc (.BoolOp .Or [e1, e2] pos) false := fun B s Q E q k =>
  wpAny_isTrue_BoolOp (wpAny_allTrue_Or_cons (h1 B s _ E q fun s1 k1 => wpAny_allTrue_Or_cons (h2 B s1 _ E (q.keeps k1) fun s2 k2 => wpAny_allTrue_Or_nil (k _ (k1.trans k2)))))
theorem ex1_ifFF {t : Expr} {b o : List Stmt} {pos : Pos} {P : Post} (ht : TrF G C V acc t false) (h : Ex G C V acc o P) : Ex1 G C V acc (.If t b o pos) P := ex1_ifF' ht (fun z => nomatch z) fun _ => h
end
section
variable {G : TopC} {C : Cx} {V : List (Option VV)} {acc : Acc}

/-- y = [..], y a cell: no exchanged stores -/
theorem ex1_assignCompC {elt : Expr} {gens : List Comprehension} {sc : Scope} {kinds : Str → Option NameKind} {y : Str} {pos py spos : Pos} {d : PyData} {V' : List (Option VV)} {P : Post} (he : Ev G (C.wa acc) V (.ListComp elt gens sc pos) d) (hkn : ∀ y, C.env.kindOf y = kinds y) (hky : kinds y = some .cell) (hx : SetIx C.N V y (.d d) V') (h : P .next V' acc) (ho : C.own = C.env.cells := by rfl) :
    Ex1 G C V acc (.Assign [.Name y py] (.ListComp elt gens sc pos) spos) P := fun B s Q E q k => by
  have hs : swapsWith (.ListComp elt gens sc pos) (some (.Name y py)) spos.line C.env = pure false := by
    show pure (C.env.blockKind == .function && C.env.kindOf y == some .local && py.line == pos.line && !(sc.names.any fun (n, k) => n == y && (k == .local || k == .cell))) = _
    rw [hkn, hky, show ((some NameKind.cell : Option NameKind) == some NameKind.local) = false from rfl]
    simp
  exact wpAny_Assign_Name (he s _ E q.st fun v s1 k1 r => storeVar (q.keeps k1) (.inl ho) hx (o := .d d) r fun s' q' _ _ => k .next .next _ _ _ h q' rfl) hs

/-! the plain law of _law_left -/
theorem mem_und (chk : List Nat → Bool) (hB : chk BAD = true) (n : Nat) : ∀ (r rest mis : List (List Nat)), rest.Perm (r.filter chk ++ List.replicate n BAD) → und r rest mis = (mis ++ r.filter (fun x => !chk x), List.replicate n BAD)
  | [], rest, mis, h => by
    have : rest = List.replicate n BAD := List.perm_replicate.mp (by simpa using h)
    simp [und, this]
  | x :: r, rest, mis, h => by
    rw [und_cons]
    cases hc : chk x with
    | true =>
      rw [List.filter_cons_of_pos hc] at h
      have hm : x ∈ rest := h.symm.subset (.head _)
      rw [if_pos hm]
      have h2 : (rest.erase x).Perm (r.filter chk ++ List.replicate n BAD) := by
        have := h.erase x
        rwa [List.cons_append, List.erase_cons_head] at this
      rw [mem_und chk hB n r _ mis h2]
      rw [List.filter_cons_of_neg (by simp [hc])]
    | false =>
      rw [List.filter_cons_of_neg (by simp [hc])] at h
      have hm : x ∉ rest := fun hm => by
        have := h.subset hm
        rcases List.mem_append.mp this with h1 | h1
        · rw [(List.mem_filter.mp h1).2] at hc; cases hc
        · rw [(List.mem_replicate.mp h1).2, hB] at hc; cases hc
      rw [if_neg hm, mem_und chk hB n r rest _ h]
      rw [List.filter_cons_of_pos (by simp [hc])]
      simp
theorem pre_perm : ∀ w : List (List Nat), (rPre w).Perm (w.filter rChk ++ List.replicate (w.filter fun x => !rChk x).length BAD)
  | [] => .refl _
  | x :: w => by
    show ((if rChk x then x else BAD) :: rPre w).Perm _
    have ih := pre_perm w
    cases hc : rChk x with
    | true =>
      rw [List.filter_cons_of_pos hc, List.filter_cons_of_neg (by simp [hc])]
      exact ih.cons _
    | false =>
      rw [List.filter_cons_of_neg (by simp [hc]), List.filter_cons_of_pos (by simp [hc])]
      rw [List.length_cons, List.replicate_succ]
      exact (ih.cons BAD).trans List.perm_middle.symm
theorem chk_bad : rChk BAD = true := by decide +kernel
theorem und_pre (w : List (List Nat)) : und w.reverse (rPre w) [] = ((w.filter fun x => !rChk x).reverse, List.replicate (w.filter fun x => !rChk x).length BAD) := by
  rw [mem_und rChk chk_bad (w.filter fun x => !rChk x).length w.reverse (rPre w) []]
  · rw [List.nil_append, List.filter_reverse]
  · refine (pre_perm w).trans (List.Perm.append_right _ ?_)
    rw [List.filter_reverse]
    exact (List.reverse_perm _).symm
theorem ev_eq {e : Expr} {d d' : PyData} (h : d = d') (x : Ev G C V e d') : Ev G C V e d := h ▸ x
theorem range_filter {β : Type} (g : List Nat → β) : ∀ (w : List (List Nat)) (p : List Nat → Bool), ((List.range w.length).filter fun i => p (w.getD i [])).map (fun i => g (w.getD i [])) = (w.filter p).map g
  | [], p => rfl
  | x :: w, p => by
    rw [List.length_cons, List.range_succ_eq_map, List.filter_cons]
    have ih := range_filter g w p
    have e1 : (List.map Nat.succ (List.range w.length)).filter (fun i => p ((x :: w).getD i [])) = ((List.range w.length).filter fun i => p (w.getD i [])).map Nat.succ := by
      rw [List.filter_map]
      rfl
    have e2 : ((((List.range w.length).filter fun i => p (w.getD i [])).map Nat.succ).map fun i => g ((x :: w).getD i [])) = (w.filter p).map g := by
      rw [List.map_map, ← ih]
      rfl
    rw [e1]
    show (if p x = true then 0 :: _ else _).map _ = _
    cases hp : p x with
    | true =>
      rw [if_pos rfl, List.map_cons, e2, List.filter_cons_of_pos hp]
      rfl
    | false =>
      rw [if_neg (by decide), e2, List.filter_cons_of_neg (by simp [hp])]
theorem rep_flat (n : Nat) (x : List Nat) : (List.replicate n [PyData.str (S x)]).flatten = sL (List.replicate n x) := by
  induction n with
  | zero => rfl
  | succ n ih => rw [List.replicate_succ, List.flatten_cons, ih, List.replicate_succ]; rfl
end
section
variable {G : TopC} {C : Cx} {V : List (Option VV)} {acc : Acc}

theorem get_sL {l : List (List Nat)} {i : Nat} (h : i < l.length) : (sL l)[((i : Nat) : Int).toNat]? = some (.str (S (l.getD i []))) := by
  simp [sL, List.getD, h]
theorem get_bL {l : List (List Nat)} {p : List Nat → Bool} {i : Nat} (h : i < l.length) : (bL (l.map p))[((i : Nat) : Int).toNat]? = some (.bool (p (l.getD i []))) := by
  simp [bL, List.getD, h]
noncomputable abbrev nLeft : List Str := [Str.ofString "listing", Str.ofString "hidden", Str.ofString "place", Str.ofString "written", Str.ofString "given", Str.ofString "answer", Str.ofString "good", Str.ofString "told", Str.ofString "bad"]
theorem law_left_ok {fa : Addr} (H : DefAt G (Str.ofString "_law_left") 34 fa) (B : BltOk G) {fg fs fc fp fu f20 : Addr} (Hg : DefAt G (Str.ofString "_iter_escaped_chars") 2 fg) (Hs : DefAt G (Str.ofString "_strip_quoted_realnames") 3 fs) (Hc : DefAt G (Str.ofString "_check_parenthesis") 4 fc) (Hp : DefAt G (Str.ofString "_pre_parse_validation") 5 fp) (Hu : DefAt G (Str.ofString "unorderable_list_difference") 17 fu) (H20 : DefAt G (Str.ofString "_law_closed") 20 f20)
    (listing : List (List Nat)) (hid : List Nat) (place : Int) (hr8 : ∀ r ∈ listing, Row8 r) (hchk : ∀ r ∈ listing, rChk (rWr hid place r) = rClosed.contains r) (hh : Asc hid) (hz : hid.length ≤ 10) (hn : listing.length ≤ 1000) :
    Fn G fa 5 [.list (sL listing), .str (S hid), .int place] (.list (sL (listing.filter fun r => rClosed.contains r))) := by
  refine fn_at (N := nLeft) (xs := [Str.ofString "listing", Str.ofString "hidden", Str.ofString "place"]) (V0 := [some (.d (.list (sL listing))), some (.d (.str (S hid))), some (.d (.int place)), none, none, none, none, none, none]) (ys := [Str.ofString "written", Str.ofString "given", Str.ofString "answer", Str.ofString "good", Str.ofString "told", Str.ofString "bad"]) H ?_ rfl ?_ rfl rfl ?_
  · walk_at "def"
  · intro pm code doc vs h
    obtain ⟨a, b, c, rfl⟩ := len3 h
    rfl
  intro A env bad hk
  have hWl : (listing.map (rWr hid place)).length = listing.length := List.length_map ..
  have hw : ∀ v ∈ listing.map (rWr hid place), (∀ c ∈ v, c < 128) ∧ v.length ≤ 100 := fun v hv => by
    obtain ⟨r, hr, rfl⟩ := List.mem_map.mp hv
    exact ⟨rWr_asc hh (hr8 r hr), Nat.le_trans (rWr_len hz (hr8 r hr)) (by decide)⟩
  have hwa : ∀ v ∈ listing.map (rWr hid place), Asc v := fun v hv => (hw v hv).1
  have hpa : ∀ v ∈ rPre (listing.map (rWr hid place)), Asc v := rPre_asc hwa
  have hchk2 : ∀ i, i < listing.length → rChk ((listing.map (rWr hid place)).getD i []) = rClosed.contains (listing.getD i []) := fun i hi => by
    have e1 : (listing.map (rWr hid place)).getD i [] = rWr hid place (listing.getD i []) := by simp [List.getD, hi]
    have e2 : listing.getD i [] ∈ listing := by simp [List.getD, hi]
    rw [e1]; exact hchk _ e2
  generalize hWW : listing.map (rWr hid place) = W at hWl hw hwa hpa hchk2
  -- written = [..]
  refine ex_cons ?_
  refine' ex1_assignCompC (kinds := fun y => (pScope 34).names.lookup y) (d := .list (sL W)) (V' := [some (.d (.list (sL listing))), some (.d (.str (S hid))), some (.d (.int place)), some (.d (.list (sL W))), none, none, none, none, none]) ?e1 hk ?k1 ?s1 ?n1
  case k1 => decide +kernel
  case s1 => walk_at "set"
  case e1 =>
    have hcomp : sL ((listing.filter fun _ => true).map (rWr hid place)) = sL W := by rw [← hWW]; congr 2; simp
    rw [← hcomp]
    refine' ev_compS (src := listing) (inj := fun r => .str (S r)) (p := fun _ => true) (g := rWr hid place) (fr := [Str.ofString "hidden", Str.ofString "place"]) (Vf := [some (.d (.str (S hid))), some (.d (.int place))]) (kinds := fun y => (pScope 34).names.lookup y) ?it hk ?D ?v ?z ?turn ?s
    case it => exact itEv_sL (by walk_at "ev")
    case D => walk_at "comp"
    case v => walk_at "vf"
    case z => exact Nat.le_trans hn (by decide)
    case s => intro _ _; rfl
    case turn =>
      intro env' bad' hK r hr
      have hr0 := hr8 r hr
      have p0 : r.length ≤ 1000000 := by rw [hr0.1]; decide
      have p1 : (pick r none (some place)).length ≤ 100 := Nat.le_trans (pick_length_le _ _ _) (by rw [hr0.1]; decide)
      have p2 : (pick r (some place) none).length ≤ 100 := Nat.le_trans (pick_length_le _ _ _) (by rw [hr0.1]; decide)
      refine ⟨rfl, fun _ => ?_⟩
      unfold rWr
      walk_at "ev"
  -- given = list(written)
  refine ex_cons ?_
  refine' ex1_listAcc B (l := W) rfl (by walk_at "kind") (by walk_at "ev") (by omega) (fun pg => ⟨[some (.d (.list (sL listing))), some (.d (.str (S hid))), some (.d (.int place)), some (.d (.list (sL W))), some (.v (.ref pg)), none, none, none, none], by walk_at "set", ?_⟩) rfl (by intro _; rfl) (by intro _; rfl)
  -- answer = _pre_parse_validation(given)
  refine ex_cons ?_
  refine' ex1_preAcc Hp B Hg Hs Hc hw (by omega) rfl (by walk_at "kind") (Nat.le_refl _) (b := pg) (by walk_at "var") (.head _) (fun pa => ⟨[some (.d (.list (sL listing))), some (.d (.str (S hid))), some (.d (.int place)), some (.d (.list (sL W))), some (.v (.ref pg)), some (.v (.ref pa)), none, none, none], by walk_at "set", ?_⟩) rfl (by intro _; rfl)
  -- the first test
  refine ex_cons ?_
  refine ex1_ifFF (trF_or2 (trF_neAcc (a := pg) (l := W) (by walk_at "var") (.tail _ (.head _)) (by walk_at "ev") hwa (by with_unfolding_all rfl)) (trF_isAcc (a := pa) (b := pg) (by walk_at "var") (by walk_at "var") (.head _) (.tail _ (.head _)) (fun h => by
    simp at h; exact h))) ?_
  change Ex _ _ _ _ _ _
  walk_at "done"
  -- good = [..]
  refine ex_cons ?_
  refine' ex1_assignCompC (kinds := fun y => (pScope 34).names.lookup y) (d := .list (bL (listing.map fun r => rClosed.contains r))) (V' := [some (.d (.list (sL listing))), some (.d (.str (S hid))), some (.d (.int place)), some (.d (.list (sL W))), some (.v (.ref pg)), some (.v (.ref pa)), some (.d (.list (bL (listing.map fun r => rClosed.contains r)))), none, none]) ?e2 hk ?k2 ?s2 ?n2
  case k2 => decide +kernel
  case s2 => walk_at "set"
  case e2 =>
    have hcomp : bL ((listing.filter fun _ => true).map fun r => rClosed.contains r) = bL (listing.map fun r => rClosed.contains r) := by congr 2; simp
    rw [← hcomp]
    refine' ev_compB (src := listing) (inj := fun r => .str (S r)) (p := fun _ => true) (g := fun r => rClosed.contains r) (fr := []) (Vf := []) (kinds := fun y => (pScope 34).names.lookup y) ?it hk ?D ?v ?z ?turn ?s
    case it => exact itEv_sL (by walk_at "ev")
    case D => walk_at "comp"
    case v => walk_at "vf"
    case z => exact Nat.le_trans hn (by decide)
    case s => intro _ _; rfl
    case turn =>
      intro env' bad' hK r hr
      refine ⟨rfl, fun _ => ?_⟩
      refine ev_cmp (ev_name .head) (ev_callD0 H20 (by walk_at "kind") (law_closed_ok H20) (by show 1 ≤ 4; decide) (by decide)) (cmp_inT_strs (fun y hy c hc => by have := (closed8 y hy).1.2 c hc; omega) (fun c hc => by have := (hr8 r hr).2 c hc; omega)) (by with_unfolding_all rfl)
  generalize hGd : (listing.map fun r => rClosed.contains r) = Gd
  have hGl : (bL Gd).length = listing.length := by rw [← hGd]; simp [bL]
  have hGg : ∀ i, i < listing.length → (bL Gd)[((i : Nat) : Int).toNat]? = some (.bool (rClosed.contains (listing.getD i []))) := fun i hi => by rw [← hGd]; exact get_bL hi
  have lenG : ∀ (C : Cx) (V : List (Option VV)), C.env.kindOf (Str.ofString "len") = some .globalImplicit → VarIx C.N V (Str.ofString "good") (.d (.list (bL Gd))) → ∀ p1 p2 p3, Ev G C V (.Call (.Name (Str.ofString "len") p1) [.Name (Str.ofString "good") p2] [] p3) (.int (listing.length : Nat)) := fun C V hk hv p1 p2 p3 => by
    have := ev_lenL (fp := p1) (pos := p3) hk B.len.1 B.len.2 (ev_name (G := G) (pos := p2) hv) (by rw [hGl]; omega) (by intro _; rfl)
    rw [hGl] at this
    exact this
  have hcC : Asc BAD := by intro c hc; revert c; decide
  -- the second test
  refine ex_cons ?_
  refine' ex1_ifFF (trF_neAcc (a := pa) (l := rPre W) ?x3 (.head _) ?e3 hpa (by with_unfolding_all rfl)) ?n3
  case x3 => walk_at "var"
  case e3 =>
    have hcomp : sL (((List.range W.length).filter fun i => (fun _ => true) (W.getD i [])).map fun i => (fun v => if rChk v then v else BAD) (W.getD i [])) = sL (rPre W) := by
      rw [range_filter (fun v => if rChk v then v else BAD) W (fun _ => true)]
      rw [show W.filter (fun _ => true) = W by simp]; rfl
    rw [← hcomp]
    refine' ev_compS (src := List.range W.length) (inj := fun (i : Nat) => .int (i : Int)) (p := fun i => (fun _ => true) (W.getD i [])) (g := fun i => (fun v => if rChk v then v else BAD) (W.getD i [])) (fr := [Str.ofString "good", Str.ofString "written"]) (Vf := [some (.d (.list (bL Gd))), some (.d (.list (sL W)))]) (kinds := fun y => (pScope 34).names.lookup y) ?it hk ?D ?v ?z ?turn ?s
    case it => rw [hWl]; exact itEv_rangeN (by walk_at "kind") B (lenG _ _ (by walk_at "kind") (by walk_at "var") _ _ _) (by omega)
    case D => walk_at "comp"
    case v => walk_at "vf"
    case z => rw [List.length_range, hWl]; exact Nat.le_trans hn (by decide)
    case s => intro _ _; rfl
    case turn =>
      intro env' bad' hK i hi
      have hi2 := List.mem_range.mp hi
      have hi3 : i < listing.length := by omega
      refine ⟨rfl, fun _ => ?_⟩
      have g1 := hGg i hi3
      have g2 := get_sL hi2
      rw [← hchk2 i hi3] at g1
      dsimp only
      refine ev_ifexp (c := rChk (W.getD i [])) (tr_ev (by walk_at "ev") (by intro _ _; rfl)) (fun hc => ?_) (fun hc => ?_)
      · rw [if_pos hc]; walk_at "ev"
      · rw [if_neg (by rw [hc]; decide)]; exact evc cBad
  change Ex _ _ _ _ _ _
  walk_at "done"
  -- told = unorderable_list_difference(given, answer)
  have hund := und_pre W
  refine ex_cons ?_
  refine' ex1_und Hu B (xs := W) (ys := rPre W) (l1 := pg) (l2 := pa) rfl (by walk_at "kind") (by show 2 ≤ 4; decide) hwa hpa (by rw [rPre, List.length_map]; omega) (by walk_at "var") (by walk_at "var")
    (V1 := [some (.d (.list (sL listing))), some (.d (.str (S hid))), some (.d (.int place)), some (.d (.list (sL W))), some (.d (.list (sL []))), some (.v (.ref pa)), some (.d (.list (bL Gd))), none, none])
    (V2 := [some (.d (.list (sL listing))), some (.d (.str (S hid))), some (.d (.int place)), some (.d (.list (sL W))), some (.d (.list (sL []))), some (.d (.list (sL (und W.reverse (rPre W) []).2))), some (.d (.list (bL Gd))), none, none])
    (V3 := [some (.d (.list (sL listing))), some (.d (.str (S hid))), some (.d (.int place)), some (.d (.list (sL W))), some (.d (.list (sL []))), some (.d (.list (sL (und W.reverse (rPre W) []).2))), some (.d (.list (bL Gd))), some (.d (.tuple [.list (sL (und W.reverse (rPre W) []).1), .list (sL (und W.reverse (rPre W) []).2)])), none])
    (by walk_at "set") (by walk_at "set") (by walk_at "set") ?_ rfl (by intro _; rfl)
  rw [hund]
  have hbl : (W.filter fun x => !rChk x).length ≤ 1000 := Nat.le_trans (List.length_filter_le _ _) (by omega)
  have hba : ∀ u ∈ W.filter (fun x => !rChk x), Asc u := fun u hu => hwa u (List.mem_filter.mp hu).1
  change Ex _ _ _ _ _ _
  dsimp only
  -- bad = [..]
  have hbad : sL (((List.range W.length).filter fun i => (fun x => !rChk x) (W.getD i [])).map fun i => (fun v => v) (W.getD i [])) = sL (W.filter fun x => !rChk x) := by
    rw [range_filter (fun v => v) W (fun x => !rChk x)]; simp
  have hbad2 : (((List.range W.length).filter fun i => !rChk (W.getD i [])).map fun i => PyData.str (S (W.getD i []))) = sL (W.filter fun x => !rChk x) := by
    rw [← hbad]; unfold sL; rw [List.map_map]; rfl
  refine' ex_cons (ex1_assignComp (src := List.range W.length) (inj := fun (i : Nat) => .int (i : Int)) (p := fun i => !rChk (W.getD i [])) (f := fun i => .str (S (W.getD i []))) (fr := [Str.ofString "good", Str.ofString "written"]) (Vf := [some (.d (.list (bL Gd))), some (.d (.list (sL W)))]) (kinds := fun y => (pScope 34).names.lookup y) ?it5 hk ?D5 ?v5 ?z5 ?turn5 ?set5 ?h5 ?ky5 ?line5 ?ny5 rfl ?s5)
  case it5 => rw [hWl]; exact itEv_rangeN (by walk_at "kind") B (lenG _ _ (by walk_at "kind") (by walk_at "var") _ _ _) (by omega)
  case D5 => walk_at "comp"
  case v5 => walk_at "vf"
  case z5 => rw [List.length_range, hWl]; exact Nat.le_trans hn (by decide)
  case s5 => intro _ _; rfl
  case ky5 => decide +kernel
  case line5 => rfl
  case ny5 => decide +kernel
  case turn5 =>
    intro env' bad' hK i hi
    have hi2 := List.mem_range.mp hi
    have hi3 : i < listing.length := by omega
    have g1 := hGg i hi3
    have g2 := get_sL hi2
    rw [← hchk2 i hi3] at g1
    refine ⟨?_, fun hp => ?_⟩
    · show Tr _ _ _ _ _
      walk_at "tr"
    · walk_at "ev"
  case set5 => walk_at "set"
  change Ex _ _ _ _ _ _
  rw [hbad2]
  -- the third test
  generalize hbb : (W.filter fun x => !rChk x) = bd at hbl hba
  have hlb : (sL bd).length = bd.length := by simp [sL]
  have hBl : ∀ u ∈ List.replicate bd.length BAD, Asc u := fun u hu => by rw [(List.mem_replicate.mp hu).2]; exact hcC
  have hbr : ∀ u ∈ bd.reverse, Asc u := fun u hu => hba u (List.mem_reverse.mp hu)
  refine ex_cons ?_
  refine' ex1_ifF (c := false || (false || false)) ?t6 rfl ?a6
  case t6 =>
    refine' tr_bool (trL_or ?x6 fun _ => trL_or ?y6 fun _ => trL_orNil)
    case x6 =>
      refine' tr_cmp (b := .tuple [.list (sL bd.reverse), .list (sL (List.replicate bd.length BAD))]) (ev_name ?p6) (ev_tuple (evL_cons ?q6 (evL_cons ?r6 evL_nil)) (of_decide_eq_true rfl)) (cmp_neSelf (shaped_strs2 hbr hBl)) (by with_unfolding_all rfl)
      case p6 => walk_at "var"
      case q6 =>
        have hrev : (sL bd).reverse = sL bd.reverse := by simp [sL]
        rw [← hrev]
        exact ev_rev (by walk_at "ev") (by walk_at "ev") (by rw [hlb]; exact Nat.le_trans hbl (by decide))
      case r6 =>
        have hl6 : ∀ p1 p2 p3, Ev G (Cx.wa ⟨A, env, nLeft, bad, 4, env.cells⟩ []) [some (.d (.list (sL listing))), some (.d (.str (S hid))), some (.d (.int place)), some (.d (.list (sL W))), some (.d (.list (sL []))), some (.d (.list (sL (List.replicate bd.length BAD)))), some (.d (.list (bL Gd))), some (.d (.tuple [.list (sL bd.reverse), .list (sL (List.replicate bd.length BAD))])), some (.d (.list (sL bd)))] (.Call (.Name (Str.ofString "len") p1) [.Name (Str.ofString "bad") p2] [] p3) (.int (bd.length : Nat)) := fun p1 p2 p3 => by
          have := ev_lenL (G := G) (C := Cx.wa ⟨A, env, nLeft, bad, 4, env.cells⟩ []) (V := [some (.d (.list (sL listing))), some (.d (.str (S hid))), some (.d (.int place)), some (.d (.list (sL W))), some (.d (.list (sL []))), some (.d (.list (sL (List.replicate bd.length BAD)))), some (.d (.list (bL Gd))), some (.d (.tuple [.list (sL bd.reverse), .list (sL (List.replicate bd.length BAD))])), some (.d (.list (sL bd)))]) (fp := p1) (pos := p3) (by walk_at "kind") B.len.1 B.len.2 (ev_name (G := G) (pos := p2) (x := Str.ofString "bad") (by walk_at "var")) (by rw [hlb]; omega) (by intro _; rfl)
          rw [hlb] at this
          exact this
        have e8 : sL (List.replicate bd.length BAD) = (List.replicate ((bd.length : Nat) : Int).toNat [PyData.str (S BAD)]).flatten := by rw [← rep_flat]; simp
        refine ev_eq (congrArg PyData.list e8) ?_
        exact ev_binop (ev_list (evL_cons (evc cBad) evL_nil) (of_decide_eq_true rfl)) (hl6 _ _ _) (bin_mulL (by omega) (by omega) (by show 1 ≤ 100; decide))
    case y6 =>
      refine' tr_cmp (b := .list []) (ev_name ?p7) (ev_list evL_nil (of_decide_eq_true rfl)) (cmp_neNilS (l := []) (fun _ z => nomatch z)) (by with_unfolding_all rfl)
      case p7 => walk_at "var"
  change Ex _ _ _ _ _ _
  walk_at "done"
  -- the rows left
  have hfin : sL (((List.range listing.length).filter fun i => (fun r => rClosed.contains r) (listing.getD i [])).map fun i => (fun v => v) (listing.getD i [])) = sL (listing.filter fun r => rClosed.contains r) := by
    rw [range_filter (fun v => v) listing (fun r => rClosed.contains r)]; simp
  refine ex_cons ?_
  refine' ex1_ret (d := .list (sL (listing.filter fun r => rClosed.contains r))) ?e9 rfl
  rw [← hfin]
  refine' ev_compS (src := List.range listing.length) (inj := fun (i : Nat) => .int (i : Int)) (p := fun i => (fun r => rClosed.contains r) (listing.getD i [])) (g := fun i => (fun v => v) (listing.getD i [])) (fr := [Str.ofString "good", Str.ofString "listing"]) (Vf := [some (.d (.list (bL Gd))), some (.d (.list (sL listing)))]) (kinds := fun y => (pScope 34).names.lookup y) ?it9 hk ?D9 ?v9 ?z9 ?turn9 ?s9
  case it9 => exact itEv_rangeN (by walk_at "kind") B (lenG _ _ (by walk_at "kind") (by walk_at "var") _ _ _) (by omega)
  case D9 => walk_at "comp"
  case v9 => walk_at "vf"
  case z9 => rw [List.length_range]; exact Nat.le_trans hn (by decide)
  case s9 => intro _ _; rfl
  case turn9 =>
    intro env' bad' hK i hi
    have hi3 := List.mem_range.mp hi
    have g1 := hGg i hi3
    have g2 := get_sL hi3
    refine ⟨?_, fun hp => ?_⟩
    · show Tr _ _ _ _ _
      dsimp only
      walk_at "tr"
    · dsimp only
      walk_at "ev"
end
section
set_option maxRecDepth 100000
section
open AutoSeq1 (wpAny_loadPart')
theorem look1 {prog : Program} {w : World} {A : Around} {E : Value → Shared → Prop} {s : Shared} {dm : Addr} {f : Int → Option Value} {c : Nat} {x : Str} {tx : Tok} {Q : Builtin.Str.Mapped → Shared → Prop} (hm : s.heap.MapOf (intKind prog w) dm f) (hv : f (c : Int) = some (.str x tx))
    (h : ∀ tk, Q (.text x) { s with toks := tk }) : wpAny (model prog w) A (Builtin.Str.tableLookup (.ref dm) c) Q E s := by
  unfold Builtin.Str.tableLookup
  refine wpAny_bind (wpAny_attempt (wpAny_bind (wpAny_mkInt ?_)))
  refine wpAny_getItem_of (k := (c : Int)) (intKind_is prog w _ _) (f := f) hm hv ?_
  wp_walk
  exact h _
/-- c.translate(table), one sign -/
theorem translate1 (c : Nat) (t : Tok) (dm : Addr) (f : Int → Option Value) (x : List Nat) (tx : Tok) (hc : c < 128) (hv : f (c : Int) = some (.str (S x) tx)) (hx : x.length = 2) (prog : Program) (w : World) (A : Around) (R : Result → Shared → Prop) (s : Shared)
    (hm : s.heap.MapOf (intKind prog w) dm f) (h : ∀ t tk, R (.ok (.ret (.str (S x) t))) { s with toks := tk }) :
    wpAny (model prog w) A.in1 (Builtin.«str.translate» ⟨[.str (S [c]) t, .ref dm], []⟩) (fun fin s' => match fin with | .done f => R (.ok f) s' | .again c' => c'.quiet = true ∧ codeAny (model prog w) A c' R s') (fun e s' => R (.error e) s') s := by
  obtain ⟨hp, g, d, tk, os⟩ := s
  have fast : (S [c]).cps.all (fun x => decide (x < 128)) = true := by simp [S, hc]
  have hne : ((S x).length == 1 && (S x).cps.all fun x => decide (x < 128)) = false := by
    have : (S x).length = 2 := by rw [S_len, hx]
    rw [this]; rfl
  repeat (first | ((with_reducible show wpAny _ _ (Builtin.Str.tableLookup _ _) _ _ _); refine look1 (c := c) hm hv ?_; intro tk2) | wp_step)
  simp only [hne, Bool.false_eq_true, if_false]
  have hm2 : ∀ tk, Heap.MapOf (intKind prog w) ({ heap := hp, gens := g, drawn := d, toks := tk, os := os } : Shared).heap dm f := fun _ => hm
  repeat (first | ((with_reducible show wpAny _ _ (Builtin.Str.tableLookup _ _) _ _ _); refine look1 (c := c) (hm2 _) hv ?_; intro tk3) | wp_step)
  have htl : Builtin.Str.tooLong ([S x], 0 + (S x).length, false, ([] : List (Nat × Option Nat)), false).snd.fst = false := by
    show Builtin.Str.tooLong (0 + (S x).length) = false
    rw [show (S x).length = 2 by rw [S_len, hx]]
    unfold Builtin.Str.tooLong; decide +kernel
  have hst : (⟨List.foldl (fun acc (p : Str) => acc ++ p.cps) #[] ([S x], 0 + (S x).length, false, ([] : List (Nat × Option Nat)), false).fst.reverse⟩ : Str) = S x := by simp [S]
  rw [htl, if_neg (by decide), hst]
  repeat wp_step
  exact h _ _
end
end
section
set_option maxRecDepth 100000
open Builtin.Re

/-! a search that finds nothing -/
noncomputable def reIter : Nat → Sre.M → Sre.M
  | 0, m => m.runFor 4
  | k + 1, m => if (m.runFor 4).outcome.isSome then m.runFor 4 else reIter k (m.runFor 4)
noncomputable def reFailed (m : Sre.M) : Bool := match m.outcome with | some .failed => true | _ => false
section
variable {M : Model} {A : Around} {E : Value → Shared → Prop} {s : Shared}
theorem drive_to {Q : Sre.M → Shared → Prop} : ∀ (k n : Nat) (m : Sre.M), k < n → (reIter k m).outcome.isSome = true → Q (reIter k m) s → wpAny M A (reDrive n m) Q E s
  | k, 0, m, h, _, _ => absurd h (Nat.not_lt_zero _)
  | 0, n + 1, m, _, h, q => by
    show wpAny M A (if (m.runFor 4).outcome.isSome then pure (m.runFor 4) else do rule "sre.turn"; reDrive n (m.runFor 4)) Q E s
    have h' : (m.runFor 4).outcome.isSome = true := h
    rw [if_pos h']
    exact wpAny_pure q
  | k + 1, n + 1, m, hk, h, q => by
    show wpAny M A (if (m.runFor 4).outcome.isSome then pure (m.runFor 4) else do rule "sre.turn"; reDrive n (m.runFor 4)) Q E s
    unfold reIter at h q
    by_cases hc : (m.runFor 4).outcome.isSome = true
    · rw [if_pos hc] at h q ⊢
      exact wpAny_pure q
    · rw [if_neg hc] at h q ⊢
      exact wpAny_bind (wpAny_rule (drive_to k n _ (Nat.lt_of_succ_lt_succ hk) h q))
theorem rules_loop {c : Nat → Bool} {nm : Nat → String} {Q : PUnit → Shared → Prop} (h : Q ⟨⟩ s) : ∀ l : List Nat, wpAny M A (forIn l PUnit.unit fun i _ => (if c i = true then do rule (nm i); pure (ForInStep.yield PUnit.unit) else pure (ForInStep.yield PUnit.unit) : Sem (ForInStep PUnit))) Q E s
  | [] => wpAny_pure h
  | i :: l => by
    rw [List.forIn_cons]
    refine wpAny_bind ?_
    by_cases hc : c i = true
    · rw [if_pos hc]
      exact wpAny_bind (wpAny_rule (wpAny_pure (rules_loop h l)))
    · rw [if_neg hc]
      exact wpAny_pure (rules_loop h l)
theorem runToEnd_failed {m : Sre.M} {Q : Option Sre.M → Shared → Prop} (k : Nat) (hk : k < 2 ^ 64) (h : reFailed (reIter k m) = true) (hq : Q none s) : wpAny M A (reRunToEnd m) Q E s := by
  have hf : (reIter k m).outcome = some .failed := by
    unfold reFailed at h
    split at h
    · assumption
    · cases h
  unfold reRunToEnd
  refine wpAny_bind (drive_to k _ m hk (by rw [hf]; rfl) ?_)
  refine wpAny_bind (rules_loop ?_ _)
  rw [hf]
  exact wpAny_pure hq
end
noncomputable def reCode : Array Nat := #[14, 14, 4, 1, 1, 9, 0, 64, 0, 1342177280, 0, 0, 0, 0, 0, 17, 0, 13, 11, 9, 0, 64, 0, 1342177280, 0, 0, 0, 0, 0, 17, 1, 1]
noncomputable def reVals : Array Value := reCode.map fun (n : Nat) => Value.int (n : Int) 0
noncomputable def reText (x : List Nat) : Bool := reFailed (reIter 12 (Sre.forSearch reCode x.toArray 1 0 x.length false))
theorem re40 : reText [40] = true := by decide +kernel
theorem re41 : reText [41] = true := by decide +kernel
theorem re3340 : reText [33, 40] = true := by decide +kernel
theorem re3341 : reText [33, 41] = true := by decide +kernel
end
section
set_option maxRecDepth 100000
open Builtin.Re
section
open AutoSeq1 (wpAny_loadPart')
theorem codes_eq : ((reVals.map reRawOf).map (·.toNat)) = reCode := by decide +kernel
variable {prog : Program} {w : World} {A : Around} {hp : Heap} {g : Array GenState} {d : Drawn} {tk : Nat} {os : OsState}
theorem sub_loop1 (x : List Nat) (hx : reText x = true) (hne : x ≠ []) (hlen : x.length ≤ 100) (pa ca lst : Addr) (t t0 t1 : Tok) (P : Str) (repl : Value) (sl1 sl2 sl3 : Array (Option Value)) (n1 n2 : Nat) (R : Result → Shared → Prop)
    (h1 : hp.get? pa = some { cls := .type "re.Pattern", data := .fields #[.str P t0, .int 32 t1, .int 1 0, .none, .none, .ref ca, .int 0 0], slots := sl1 })
    (h2 : hp.get? ca = some { cls := .type "tuple", data := .seq reVals n1, slots := sl2 }) (h3 : hp.get? lst = some { cls := .type "list", dict := none, data := .seq #[] n2, slots := sl3 })
    (h : ∀ t' h' tk', Heap.SameBut lst hp h' → R (.ok (.ret (.str (S x) t'))) ⟨h', g, d, tk', os⟩) :
    wpAny (model prog w) A.in1 (Builtin.«re.Pattern.sub.loop» ⟨[.ref pa, .str (S x) t, repl, rawInt 1, rawInt 0, rawInt 0, rawInt 0, rawInt 0, .bool false, .ref lst, .bool false], []⟩)
      (fun fin s' => match fin with | .done f => R (.ok f) s' | .again c' => c'.quiet = true ∧ codeAny (model prog w) A c' R s') (fun e s' => R (.error e) s') ⟨hp, g, d, tk, os⟩ := by
  repeat ((fail_if_success (with_reducible show wpAny _ _ (reNextFound _ _ _) _ _ _)); wp_step)
  unfold reNextFound
  refine runToEnd_failed 12 (by decide) ?_ ?_
  · show reFailed (reIter 12 (Sre.forSearch ((reVals.map reRawOf).map (·.toNat)) (S x).cps 1 0 (S x).cps.size false)) = true
    rw [codes_eq]
    exact hx
  have hpos : Int.toNat 0 < (S x).cps.size := by
    show 0 < x.toArray.size
    cases x with
    | nil => exact absurd rfl hne
    | cons => simp
  dsimp only
  rw [if_pos hpos]
  repeat ((fail_if_success (with_reducible show wpAny _ _ (updateSeq _ _) _ _ _)); wp_step)
  have hext : x.toArray.extract (Int.toNat 0) = x.toArray := by simp
  have hsz : ¬ (⟨x.toArray⟩ : Str).length > sizeLine := by
    have : (⟨x.toArray⟩ : Str).length = x.length := S_len x
    rw [this]
    exact Nat.not_lt.mpr (Nat.le_trans hlen (by decide))
  rw [hext, if_neg hsz]
  repeat ((fail_if_success (with_reducible show wpAny _ _ (updateSeq _ _) _ _ _)); wp_step)
  obtain ⟨n', hd'⟩ := Obj.data_mapSeq (o := { cls := .type "list", dict := none, data := .seq #[] n2, slots := sl3 }) rfl (fun y => y.push (.str (S x) tk))
  refine wpAny_updateSeq h3 rfl (f := fun y => y.push (.str (S x) tk)) ?_ (by show 0 ≤ _; exact Nat.zero_le _) (by show 1 ≤ _; decide)
  have hL : (hp.update lst (Obj.mapSeq fun y => y.push (.str (S x) tk))).IsList lst [Value.str (S x) tk].toArray := ⟨_, Heap.get?_update_self _ h3 (Obj.isFreed_of_seq hd'), Obj.cls_mapSeq .., n', by rw [hd']; rfl⟩
  have hS := Heap.SameBut.update hp lst (Obj.mapSeq fun y => y.push (Value.str (S x) tk))
  have hp4 : (hp.update lst (Obj.mapSeq fun y => y.push (.str (S x) tk))).get? lst = some (Obj.mapSeq (fun y => y.push (.str (S x) tk)) { cls := .type "list", dict := none, data := .seq #[] n2, slots := sl3 }) := Heap.get?_update_self _ h3 (Obj.isFreed_of_seq hd')
  show wpAny _ _ _ _ _ ⟨hp.update lst (Obj.mapSeq fun y => y.push (.str (S x) tk)), g, d, tk + 1, os⟩
  generalize hp.update lst (Obj.mapSeq fun y => y.push (.str (S x) tk)) = h' at hL hS hp4 ⊢
  repeat ((fail_if_success (with_reducible show wpAny _ _ (call _ _) _ _ _)); wp_step)
  rw [show x.toArray.extract 0 0 = #[] by simp, if_neg (show ¬ (⟨#[]⟩ : Str).length > sizeLine by decide)]
  obtain ⟨o5, h5, c5, n5, d5⟩ := id hL
  repeat ((fail_if_success (with_reducible show wpAny _ _ (seqItems? _) _ _ _)); (fail_if_success (with_reducible show wpAny _ _ (seqItems? _ >>= _) _ _ _)); wp_step)
  refine wpAny_bind (wpAny_seqItems h5 d5 ?_)
  rw [if_neg (show ¬ (((some [Value.str (S x) tk].toArray).getD #[]).isEmpty = true) by simp)]
  refine wpAny_bind ?_
  refine join_list (x := S []) (ys := [S x]) hL (.cons _ _ .nil) ?_ fun t' k3 => ?_
  · have e1 : (S x).length = x.length := S_len x
    show ((S x).length + 0) + 1 * 0 ≤ _
    rw [e1]; omega
  have ej : Txt.join (S []) [S x] = S x := by
    have := join_flat [x]
    simpa using this
  rw [ej, if_neg (by decide)]
  repeat wp_step
  exact h _ _ _ hS
theorem plain_sub_loop : plainId "re.Pattern.sub.loop" = true := by decide +kernel
theorem entry_sub_loop : entryFor table "re.Pattern.sub.loop" = some Builtin.«re.Pattern.sub.loop» := entryFor_of_tree (by kernel_rfl)
theorem fn_call : typeLookup (.type "function") "__call__" = pure (some (.builtin "function.__call__")) := by rw [typeLookup_type, builtinLookup_eq_fast]; kernel_rfl
theorem sub_str_bytearray : isSubtype (.type "str") (.type "bytearray") = pure false := by rw [isSubtype_type]; kernel_rfl
theorem named3 (a b : Value) : reNamed "re.Pattern.sub" "sub" ["repl", "string", "count"] 2 [a, b] [] = pure [some a, some b, none] := by kernel_rfl
theorem sub1 (x : List Nat) (hx : reText x = true) (hne : x ≠ []) (hlen : x.length ≤ 100) (pa ca lam : Addr) (t t0 t1 : Tok) (P : Str) (ol : Obj) (sl1 sl2 : Array (Option Value)) (n1 : Nat) (R : Result → Shared → Prop)
    (h1 : hp.get? pa = some { cls := .type "re.Pattern", data := .fields #[.str P t0, .int 32 t1, .int 1 0, .none, .none, .ref ca, .int 0 0], slots := sl1 })
    (h2 : hp.get? ca = some { cls := .type "tuple", data := .seq reVals n1, slots := sl2 }) (h3 : hp.get? lam = some ol) (h4 : ol.cls = .type "function")
    (h : ∀ t' h' tk', (∀ b o, hp.get? b = some o → h'.get? b = some o) → R (.ok (.ret (.str (S x) t'))) ⟨h', g, d, tk', os⟩) :
    wpAny (model prog w) A.in1 (Builtin.«re.Pattern.sub» ⟨[.ref pa, .ref lam, .str (S x) t], []⟩)
      (fun fin s' => match fin with | .done f => R (.ok f) s' | .again c' => c'.quiet = true ∧ codeAny (model prog w) A c' R s') (fun e s' => R (.error e) s') ⟨hp, g, d, tk, os⟩ := by
  have hT : ∀ tk, (⟨hp, g, d, tk, os⟩ : Shared).TypeIs (.ref lam) "function" := fun _ => ⟨ol, h3, h4⟩
  have f1 := fn_call
  have f2 := sub_str_bytearray
  have f3 : typeOf (.str (S x) t) = pure (.type "str") := rfl
  have hT2 := hT tk
  show wpAny _ _ (reSubstitute "re.Pattern.sub" "sub" false ⟨[.ref pa, .ref lam, .str (S x) t], []⟩) _ _ _
  unfold reSubstitute
  dsimp only
  rw [named3]
  repeat ((fail_if_success (with_reducible show wpAny _ _ (newList _) _ _ _)); wp_step)
  refine wpAny_newObj_type ?_
  refine wpAny_pure ⟨plainId_quiet plain_sub_loop _, codeAny_builtin entry_sub_loop (by
    rw [Around.under_plainId plain_sub_loop _]
    have up : ∀ b o, hp.get? b = some o → (hp.push { cls := .type "list", dict := none, data := .seq ([] : List Value).toArray }).get? b = some o := fun b o e => Heap.get?_push_of_some _ e
    refine sub_loop1 x hx hne hlen pa ca hp.objs.size t t0 t1 P (.ref lam) sl1 sl2 #[] n1 0 R (up _ _ h1) (up _ _ h2) (Heap.get?_push_size _ rfl) fun t' h' tk' hs => h t' h' tk' fun b o e => ?_
    exact (hs.2 b (Nat.ne_of_lt (Heap.lt_size e))).trans (up b o e))⟩
end
end
section
set_option maxRecDepth 100000
variable {G : TopC} {C : Cx} {V : List (Option VV)} {acc : Acc}

/-- the module's own table of escapes, the pattern, the def that makes a lambda -/
structure ReOk (G : TopC) : Prop where
  map : ∃ dm f t1 t2, G.mg (Str.ofString "_special_chars_map") = some (.ref dm) ∧ (∀ h, G.hT.StaysIn h → Heap.MapOf (intKind G.prog G.w) h dm f) ∧ f ((40 : Nat) : Int) = some (.str (S [92, 40]) t1) ∧ f ((41 : Nat) : Int) = some (.str (S [92, 41]) t2)
  re : ∃ pa ca t0 t1 P sl1 sl2 n1, G.mg (Str.ofString "_twin_re_1") = some (.ref pa) ∧ G.hT.get? pa = some { cls := .type "re.Pattern", data := .fields #[.str P t0, .int 32 t1, .int 1 0, .none, .none, .ref ca, .int 0 0], slots := sl1 } ∧ G.hT.get? ca = some { cls := .type "tuple", data := .seq reVals n1, slots := sl2 }
  head : PySem.W.CodeHd G.hT G.pc G.P
  blt : G.hT.BuiltinsAt G.mg G.P
  low : mainGlobals ≠ G.P
  tabT : G.hT.get? G.P = none

/-- a name of the module, a value told outright -/
theorem evV_glob {f : Str} {pos : Pos} {v : Value} (hk : C.env.kindOf f = some .globalImplicit) (hm : G.mg f = some v) (hd : (f == ("__debug__" : Str)) = false := by decide) : EvV G C V (.Name f pos) v := fun s Q E q h =>
  globName q hk hd hm (h s (.refl ..))
/-- isinstance(e, str) -/
theorem ev_isStr {fp p2 pos : Pos} {e : Expr} {x : Str} (hk : C.env.kindOf (Str.ofString "isinstance") = some .globalImplicit) (hk2 : C.env.kindOf (Str.ofString "str") = some .globalImplicit) (B : BltOk G) (x' : Ev G C V e (.str x)) (hs : ∀ e2 env, starEach [e, e2] env = [(false, eval e env), (false, eval e2 env)] ∨ True := by intro _ _; exact .inr trivial)
    (hs2 : ∀ env, starEach [e, .Name (Str.ofString "str") p2] env = [(false, eval e env), (false, eval (.Name (Str.ofString "str") p2) env)] := by intro _; rfl) : Ev G C V (.Call (.Name (Str.ofString "isinstance") fp) [e, .Name (Str.ofString "str") p2] [] pos) (.bool true) := fun s Q E q k => by
  refine Call_ (bltName q hk (by decide) B.isinstance.1 B.isinstance.2 ?_)
  have e' : backTo pos (starEach [e, .Name (Str.ofString "str") p2] C.env) = [(false, eval e C.env), (false, eval (.Name (Str.ofString "str") p2) C.env)] := by rw [hs2]; rfl
  rw [e']
  refine callWith_builtin rfl (evalArgs_plain (spliced_cons (x' s _ E q fun u s1 k1 r1 => spliced_cons (bltName (q.keeps k1) hk2 (by decide) B.str.1 B.str.2 (spliced_nil ?_)))))
  obtain ⟨t, rfl⟩ := r1.str_inv
  exact PySem.IsiPair.str_str (k _ _ k1 (.bool _))
/-- e.translate(_special_chars_map), a bracket -/
theorem ev_escape {ap p2 pos : Pos} {e : Expr} {c : Nat} (R : ReOk G) (hc : c = 40 ∨ c = 41) (hk : C.env.kindOf (Str.ofString "_special_chars_map") = some .globalImplicit) (x : Ev G C V e (.str (S [c])))
    (hbase : ∀ env, attributeBase e (Str.ofString "translate") env (eval e env) = eval e env := by intro _; rfl) (hline : (ap.endLine == pos.line) = true := by rfl) :
    Ev G C V (.Call (.Attribute e (Str.ofString "translate") ap) [.Name (Str.ofString "_special_chars_map") p2] [] pos) (.str (S [92, c])) := fun s Q E q k => by
  obtain ⟨dm, f, t1, t2, hm, hmap, h40, h41⟩ := R.map
  refine Call_method1 (hbase _) (by rfl) hline (x s _ E q fun u s1 k1 r1 => ?_)
  obtain ⟨t, rfl⟩ := r1.str_inv
  refine ⟨"str", "str.translate", F.plainAttrs_str, F.slot_str_translate, F.type_str_translate, typeIs_str _ _ _, (fun a h => nomatch h), ?_⟩
  refine Calls.callWith_builtin rfl (evalArgs_plain (spliced_cons (globName (q.keeps k1) hk (by decide) hm (spliced_nil ?_))))
  obtain ⟨tx, hv⟩ : ∃ tx, f ((c : Nat) : Int) = some (.str (S [92, c]) tx) := by
    rcases hc with rfl | rfl
    · exact ⟨_, h40⟩
    · exact ⟨_, h41⟩
  have m : MeetsIn G.prog G.w (Builtin.«str.translate» ⟨[.str (S [c]) t, .ref dm], []⟩) (fun A R s => Heap.MapOf (intKind G.prog G.w) s.heap dm f ∧ ∀ t tk, R (.ok (.ret (.str (S [92, c]) t))) { s with toks := tk }) :=
    fun A R s h => translate1 c t dm f [92, c] tx (by omega) hv rfl G.prog G.w A R s h.1 h.2
  refine call_meetsIn F.slot_str_translate (typeIs_str _ _ _) F.entry_str_translate (F.args_str_translate_2 _ _) m ⟨hmap _ (q.keeps k1).ok.top, fun t' tk => ?_⟩
  exact k _ _ (k1.trans (Kp.of_toks G tk)) (.str _ _)
/-- e.replace(a, b) where a is not found -/
theorem ev_replaceNone {e : Expr} {x y z : Str} {k1' k2' : Nat} {p1 p2 ap pos : Pos} (h0 : (Builtin.Str.occurrences x y 0 x.length (x.length + 1)).isEmpty = true) (x' : Ev G C V e (.str x))
    (hbase : ∀ env, attributeBase e (Str.ofString "replace") env (eval e env) = eval e env := by intro _; rfl) (hline : (ap.endLine == pos.line) = true := by rfl) :
    Ev G C V (.Call (.Attribute e (Str.ofString "replace") ap) [.Constant (.str y) k1' p1, .Constant (.str z) k2' p2] [] pos) (.str x) := fun s Q E q k => by
  refine Call_method2 (hbase _) (by rfl) hline (x' s _ E q fun u s1 k1 r1 => ?_)
  obtain ⟨t, rfl⟩ := r1.str_inv
  refine ⟨"str", "str.replace", F.plainAttrs_str, F.slot_str_replace, F.type_str_replace, typeIs_str _ _ _, (fun a h => nomatch h), ?_⟩
  refine Calls.callWith_builtin rfl (evalArgs_plain (spliced_cons (wpAny_Constant_str (spliced_cons (wpAny_Constant_str (spliced_nil ?_))))))
  refine call_gives F.slot_str_replace (typeIs_str _ _ _) F.entry_str_replace (F.args_str_replace_3 _ _ _) (gives_str_replace x y z t _ _ fun h => ?_) ?_
  · rw [h0] at h; cases h
  · rw [if_pos (by rw [h0]; rfl)]
    exact k _ _ (k1.trans ((Kp.of_toks G _).trans (Kp.of_toks G (s := { s1 with toks := _ }) _))) (.str _ _)
/-- f"a{e}b" -/
theorem ev_fstr3 {e : Expr} {a b c : List Nat} {x z : Str} {k1' k2' : Nat} {p1 p2 p3 pos : Pos} (hx : x = S a) (hz : z = S c) (h : Ev G C V e (.str (S b))) (hlen : a.length + b.length + c.length ≤ 1000000) :
    Ev G C V (.JoinedStr [.Constant (.str x) k1' p1, .FormattedValue e (-1) none p2, .Constant (.str z) k2' p3] pos) (.str (S (a ++ b ++ c))) := fun s Q E q k => by
  subst hx hz
  have hl : ∀ l : List Nat, l.length ≤ 1000000 → (S l).length ≤ sizeLine := fun l h => by rw [S_len]; exact Nat.le_trans h (by decide)
  refine JoinedStr_many (joinParts_cons (wpAny_Constant_str ⟨?_, joinParts_cons (FormattedValue_plain (h _ _ E (q.keeps (Kp.of_toks G _)) fun u s1 k1 r1 => ?_))⟩))
  · have : Str.empty ++ S a = S a := S_app [] a
    rw [this]; exact hl _ (by omega)
  obtain ⟨t, rfl⟩ := r1.str_inv
  refine formatField_str (fun t' tk => ?_) (hl _ (by omega))
  have e1 : Str.empty ++ S a ++ S b = S (a ++ b) := by rw [show Str.empty ++ S a = S a from S_app [] a, S_app]
  dsimp only
  rw [e1]
  refine ⟨hl _ (by rw [List.length_append]; omega), joinParts_cons (wpAny_Constant_str ?_)⟩
  dsimp only
  rw [S_app]
  refine ⟨hl _ (by simp only [List.length_append]; omega), joinParts_nil ?_ (hl _ (by simp only [List.length_append]; omega))⟩
  exact k _ _ (((Kp.of_toks G _).trans k1).trans ((Kp.of_toks G tk).trans ((Kp.of_toks G (s := { s1 with toks := tk }) _).trans (Kp.of_toks G (s := { s1 with toks := _ }) _)))) (.str _ _)
end
section
set_option maxRecDepth 100000
variable {G : TopC} {C : Cx} {V : List (Option VV)} {acc : Acc}
open PySem.W (kla_eval kla_makeFunction kla_makeFunctionHit tabObj)

theorem bltAt_keeps {h h' : Heap} {mg : Str → Option Value} {P : Addr} (x : h.BuiltinsAt mg P) (k : h.StaysIn h') : h'.BuiltinsAt mg P :=
  let ⟨bm, o, a, b, c, d, e, r⟩ := x; ⟨bm, o, a, b, c, d, k _ _ e, r⟩
/-- the frame is that of the def that makes the lambda -/
structure InT (G : TopC) (C : Cx) : Prop where
  code : C.env.code = .ref G.pc
  qual : C.env.qual ++ "<lambda>" = G.qual
/-- lambda ..: .. -/
theorem evLam (R : ReOk G) (T : InT G C) {params : Arguments} {body : Expr} {scope : Scope} {pos : Pos} (hdef : ∀ env, defaultsOf params env = ([], []) := by intro _; rfl) (hcl : ∀ env, closureFor scope env = pure [] := by intro _; rfl) (hl : pos.line = G.line) (hc : pos.col = G.col)
    {s : Shared} {Q E : Value → Shared → Prop} (q : St G C V s) (h : ∀ a s', Kp G s s' → (∃ o, s'.heap.get? a = some o ∧ o.cls = .type "function") → Q (.ref a) s') :
    wpAny (model G.prog G.w) C.A (eval (.Lambda params body scope pos) C.env) Q E s := by
  obtain ⟨ps, hP, hps⟩ := q.ok.tab
  have hhd : PySem.W.CodeHd s.heap G.pc G.P := R.head.keeps fun b o e => q.ok.top b o e
  have hb := bltAt_keeps R.blt q.ok.top
  refine kla_eval (hdef _) ?_
  rcases hps with rfl | ⟨c', rfl, hrec⟩
  · refine kla_makeFunction (hcl _) q.cx.glob (by have := q.glob; rw [q.cx.glob] at this; exact this) T.code hhd hP trivial rfl R.low hb fun c' ctv h' tk hx hge hlt hrec htb => ?_
    have kp : Kp G s { s with heap := h'.push (PySem.W.kla_obj "<lambda>" (C.env.qual ++ "<lambda>") params body scope [] ((G.mg "__name__").getD .none) c' ctv), toks := tk } := by
      refine ⟨fun a o p e => ⟨o, Heap.get?_push_of_some _ (hx a o (fun z => ?_) e), .refl o⟩, fun k b o e => Heap.get?_push_of_some _ (hx b o (fun z => by rw [z, R.tabT] at e; cases e) (k b o e)), fun _ => ⟨_, Heap.get?_push_of_some _ htb, .inr ⟨c', ?_, ?_⟩⟩, ⟨#[], by simp, by simp⟩, rfl⟩
      · rw [z, hP] at e; cases e
        exact p rfl _ rfl
      · rw [hl, hc]; rfl
      · rw [← T.qual]; exact hrec.keeps fun b o e => Heap.get?_push_of_some _ e
    exact h _ _ kp ⟨_, Heap.get?_push_size _ rfl, rfl⟩
  · refine kla_makeFunctionHit (cv := .ref c') (hcl _) q.cx.glob (by have := q.glob; rw [q.cx.glob] at this; exact this) T.code hhd hP ?_ ?_ hb fun ctv h' tk hk hsz => ?_
    · trivial
    · rw [← hl, ← hc]
      exact codeAmong_snoc (pos := pos) (c := .ref c') [] trivial rfl
    · have kp : Kp G s { s with heap := h'.push { cls := .type "function", data := .func (PySem.W.kla_fn "<lambda>" (C.env.qual ++ "<lambda>") params body scope [] ((G.mg "__name__").getD .none) (.ref c') ctv) }, toks := tk } := Kp.of_keeps G tk fun b o e => Heap.get?_push_of_some _ (hk b o e)
      exact h _ _ kp ⟨_, Heap.get?_push_size _ rfl, rfl⟩
/-! _twin_re_1.sub(lambda .., e) -/
theorem plainAttrs_rePattern : PlainAttrs "re.Pattern" :=
  ⟨⟨"object.__getattribute__", by rw [typeLookup_type, builtinLookup_eq_fast]; kernel_rfl, by decide +kernel⟩, by rw [typeLookup_type, builtinLookup_eq_fast]; kernel_rfl⟩
theorem slot_re_sub : Slot "re.Pattern" "sub" "re.Pattern.sub" :=
  .of (owner := "re.Pattern") (n := "sub") (by rw [typeLookup_type, builtinLookup_eq_fast]; kernel_rfl) (by decide +kernel) (by decide +kernel) (by decide +kernel)
    (by first | exact .inl (by decide +kernel) | exact .inr (by decide +kernel)) (by rw [isSubtype_type]; kernel_rfl)
theorem entry_re_sub : entryFor table "re.Pattern.sub" = some Builtin.«re.Pattern.sub» := entryFor_of_tree (by kernel_rfl)
theorem type_re_sub : typeOf (.builtin "re.Pattern.sub") = pure (.type "method_descriptor") := by show builtinType _ = _; rw [builtinType_eq_fast]; kernel_rfl
theorem args_re_sub (a b c : Value) : argsOk "re.Pattern.sub" ⟨[a, b, c], []⟩ := by unfold argsOk; kernel_rfl
end
section
set_option maxRecDepth 100000
variable {G : TopC} {C : Cx} {V : List (Option VV)} {acc : Acc}

theorem sub_meets (x : List Nat) (hx : reText x = true) (hne : x ≠ []) (hlen : x.length ≤ 100) (pa ca lam : Addr) (t t0 t1 : Tok) (P : Str) (ol : Obj) (sl1 sl2 : Array (Option Value)) (n1 : Nat) (h4 : ol.cls = .type "function") :
    Meets (Builtin.«re.Pattern.sub» ⟨[.ref pa, .ref lam, .str (S x) t], []⟩) (fun A R s => s.heap.get? pa = some { cls := .type "re.Pattern", data := .fields #[.str P t0, .int 32 t1, .int 1 0, .none, .none, .ref ca, .int 0 0], slots := sl1 } ∧
      s.heap.get? ca = some { cls := .type "tuple", data := .seq reVals n1, slots := sl2 } ∧ s.heap.get? lam = some ol ∧ ∀ t' h' tk', (∀ b o, s.heap.get? b = some o → h'.get? b = some o) → R (.ok (.ret (.str (S x) t'))) { s with heap := h', toks := tk' }) := by
  intro prog w A R s h
  obtain ⟨hp, g, d, tk, os⟩ := s
  obtain ⟨h1, h2, h3, h⟩ := h
  exact sub1 x hx hne hlen pa ca lam t t0 t1 P ol sl1 sl2 n1 R h1 h2 h3 h4 fun t' h' tk' k => h t' h' tk' k
theorem ev_reSub (R : ReOk G) (T : InT G C) {params : Arguments} {body : Expr} {scope : Scope} {lpos p1 ap pos : Pos} {e : Expr} {x : List Nat} (hx : reText x = true) (hne : x ≠ []) (hlen : x.length ≤ 100) (hk : C.env.kindOf (Str.ofString "_twin_re_1") = some .globalImplicit) (he : Ev G C V e (.str (S x))) (hl : lpos.line = G.line) (hc : lpos.col = G.col)
    (hdef : ∀ env, defaultsOf params env = ([], []) := by intro _; rfl) (hcl : ∀ env, closureFor scope env = pure [] := by intro _; rfl) (hline : (ap.endLine == pos.line) = true := by rfl)
    (hs : ∀ env, starEach [.Lambda params body scope lpos, e] env = [(false, eval (.Lambda params body scope lpos) env), (false, eval e env)] := by intro _; rfl) :
    Ev G C V (.Call (.Attribute (.Name (Str.ofString "_twin_re_1") p1) (Str.ofString "sub") ap) [.Lambda params body scope lpos, e] [] pos) (.str (S x)) := fun s Q E q k => by
  obtain ⟨pa, ca, t0, t1, P, sl1, sl2, n1, hm, h1, h2⟩ := R.re
  refine Call_method2 (by rfl) (hs _) hline (globName q hk (by decide) hm ?_)
  refine ⟨"re.Pattern", "re.Pattern.sub", plainAttrs_rePattern, slot_re_sub, type_re_sub, ⟨_, q.ok.top _ _ h1, rfl⟩, (fun a h => by cases h; exact ⟨_, q.ok.top _ _ h1, rfl⟩), ?_⟩
  refine Calls.callWith_builtin rfl (evalArgs_plain (spliced_cons (evLam R T hdef hcl hl hc q fun lam s1 k1 ⟨ol, hol, hof⟩ => spliced_cons (he s1 _ E (q.keeps k1) fun u s2 k2 r2 => spliced_nil ?_))))
  obtain ⟨t, rfl⟩ := r2.str_inv
  obtain ⟨o', e', s'⟩ := k2.heap lam ol (.of_cls (by rw [hof]; intro z; cases z)) hol
  have q2 := (q.keeps k1).keeps k2
  refine call_meets slot_re_sub ⟨_, q2.ok.top _ _ h1, rfl⟩ entry_re_sub (args_re_sub _ _ _) (sub_meets x hx hne hlen pa ca lam t t0 t1 P o' sl1 sl2 n1 (s'.1.trans hof)) ⟨q2.ok.top _ _ h1, q2.ok.top _ _ h2, e', fun t' h' tk' kp => ?_⟩
  exact k _ _ ((k1.trans k2).trans (Kp.of_keeps G tk' kp)) (.str _ _)

/-! a bound append -/
noncomputable def appObj (a : Addr) : Obj := { cls := .type "builtin_function_or_method", data := .fields #[.builtin "list.append", .ref a] }
theorem callWith_bound {M : Model} {A : Around} {E : Value → Shared → Prop} {s : Shared} {pos : Pos} {m a : Addr} {args : List (Bool × Sem Value)} {Q : Value → Shared → Prop} (hplain : args.any (·.1) = false)
    (h : wpAny M A (evalArgs (.ref m) true args []) (fun x s₁ => s₁.heap.get? m = some (appObj a) ∧ wpAny M A (call (.ref m) x.pos x.kw) Q E s₁) E s) :
    wpAny M A (callWith pos (.ref m) [] args []) Q E s := by
  unfold callWith
  refine wpAny_bind (wpAny_holding (wpAny_mono h (fun x s₁ h₁ => wpAny_bind (wpAny_standAt ?_)) fun _ _ x => x))
  have tail : ∀ {t : Sem Value}, wpAny M A t Q E s₁ → wpAny M A (t >>= fun r => holding [r] point >>= fun _ => pure r) Q E s₁ :=
    fun ht => wpAny_bind (wpAny_mono ht (fun r s₂ hr => wpAny_bind (wpAny_holding (wpAny_point (wpAny_pure hr)))) fun _ _ x => x)
  simp only [hplain, List.any_nil, Bool.or_false]
  refine wpAny_bind (m := keeperOf (.ref m)) ?_
  unfold keeperOf
  refine wpAny_bind (wpAny_load h₁.1 ?_)
  show wpAny M A (pure Keeper.machine) _ _ _
  refine wpAny_pure ?_
  exact tail h₁.2
/-- add(e), add the bound append of a growing list -/
theorem ex1_add {x : Str} {e : Expr} {px cp pos : Pos} {m a : Addr} {ds : List PyData} {d : PyData} {acc' : Acc} {P : Post} (hx : VarIx C.N V x (.v (.ref m))) (hm : G.hT.get? m = some (appObj a)) (hg : AccSet acc a ds (ds ++ [d]) acc') (he : Ev G (C.wa acc) V e d) (hz : ds.length ≤ 1000000) (h : P .next V acc')
    (hs : ∀ env, starEach [e] env = [(false, eval e env)] := by intro _; rfl) (hi : ∀ env : Env, env.scope.kind = .function → interactive env = false := by intro env h; simp [interactive, h]) :
    Ex1 G C V acc (.Expr (.Call (.Name x px) [e] [] cp) pos) P := fun B s Q E q k => by
  refine wpAny_Expr_any ?_ (hi C.env q.st.cx.kind) rfl
  refine Call_ (nameA (G := G) (C := C.wa acc) q.st hx fun v hv => ?_)
  have hv' : v = .ref m := hv
  subst hv'
  have e' : backTo cp (starEach [e] C.env) = [(false, eval e C.env)] := by rw [hs]; rfl
  show wpAny _ _ (callWith cp _ [] (backTo cp (starEach [e] C.env)) []) _ _ _
  rw [e']
  refine callWith_bound (a := a) rfl (evalArgs_plain (spliced_cons (he s _ E q.st fun u s1 k1 r1 => spliced_nil ?_)))
  have q1 := q.keeps k1
  obtain ⟨_, vs, hl, r⟩ := q1.acc a ds hg.mem
  obtain ⟨o, n, ho, hc, hdn, hdt⟩ := id hl
  have hm1 := q1.st.ok.top _ _ hm
  refine ⟨hm1, ?_⟩
  obtain ⟨hp, g, dr, tk, os⟩ := s1
  obtain ⟨c3, d3, dt3, sl3⟩ := o
  dsimp only at hc hdn hdt
  subst hc hdn hdt
  have hz' : vs.toArray.size ≤ sizeLine := by rw [List.size_toArray, r.length]; exact Nat.le_trans hz (by decide)
  refine bound_call (om := appObj a) (m := m) (a := a) (x := u) hm1 rfl rfl ho ?_
  refine codeAny_builtin entry_list_append ?_
  show wpAny _ _ (updateSeq a (·.push u) >>= fun _ => ret .none) _ _ _
  obtain ⟨n', hd'⟩ := Obj.data_mapSeq (o := { cls := .type "list", dict := none, data := .seq vs.toArray n, slots := sl3 }) rfl (fun y => y.push u)
  refine wpAny_bind (wpAny_updateSeq (f := fun y => y.push u) ho rfl (wpAny_pure ?_) hz' (by rw [Array.size_push]; exact Nat.succ_le_succ hz'))
  have q2 := grow_update (f := fun y => y.push u) (vs' := vs ++ [u]) q1 hg ho rfl rfl rfl (by simp) (r.append (.cons r1 .nil))
  exact k .next .next _ _ _ h q2 rfl
end
section
set_option maxRecDepth 100000
variable {G : TopC} {C : Cx} {V : List (Option VV)} {acc : Acc}

/-- the ghost grown -/
noncomputable abbrev TopC.gh (G : TopC) (H : Heap) : TopC := { G with hT := H }
theorem frames_base {h H H' : Heap} {l : List Env} (f : h.FunFrames H l) (k : ∀ L ∈ l.filterMap (·.frame), H'.get? L = none) : h.FunFrames H' l := by
  induction l with
  | nil => trivial
  | cons env r ih =>
    obtain ⟨g1, ⟨L, o, g2, g3, g4, g5⟩, g6⟩ := f
    refine ⟨g1, ⟨L, o, g2, k L ?_, g4, g5⟩, ih g6 fun L' hL => k L' ?_⟩
    · rw [List.filterMap_cons, g2]; exact .head _
    · rw [List.filterMap_cons, g2]; exact .tail _ hL
theorem frames_none {h H : Heap} {l : List Env} (f : h.FunFrames H l) : ∀ L ∈ l.filterMap (·.frame), H.get? L = none := fun L hm => (f.mem hm).1
/-- behind this point the ghost holds all that stands, the frames' own places away -/
theorem FS.ghost {B : Base} {s : Shared} (q : FS G B C V acc s) (htab : G.hT.get? G.P = none) : ∃ H : Heap, G.hT.StaysIn H ∧ H.get? G.P = none ∧ H.StaysIn s.heap ∧
    (∀ m o, s.heap.get? m = some o → (∃ vs, o.data = .fields vs) → o.cls ≠ Value.none → H.get? m = some o) ∧ FS (G.gh H) (B.loop C acc s) C V acc s ∧
    ∀ V' acc' s', FS (G.gh H) (B.loop C acc s) C V' acc' s' → FS G B C V' acc' s' := by
  obtain ⟨l, e, f⟩ := id q.st.ok.frames
  let L := ownList C acc ++ G.P :: l.filterMap (·.frame)
  let H := PySem.W.hideAll s.heap L
  have F3 : H.StaysIn s.heap := fun b o e => PySem.W.of_hideAll _ e
  have F1 : G.hT.StaysIn H := fun b o e' => by
    refine PySem.W.hideAll_get _ (q.st.ok.top b o e') fun hm => ?_
    rcases List.mem_append.mp hm with hm | hm
    · have h1 := q.loop.hT b o e'
      have h2 : (B.loop C acc s).h.get? b = none := PySem.W.hideAll_none _ hm
      rw [h1] at h2; cases h2
    · rcases List.mem_cons.mp hm with rfl | hm
      · rw [htab] at e'; cases e'
      · rw [frames_none f b hm] at e'; cases e'
  have F2 : H.get? G.P = none := PySem.W.hideAll_none _ (List.mem_append_right _ (.head _))
  have F4 : ∀ x ∈ l.filterMap (·.frame), H.get? x = none := fun x hx => PySem.W.hideAll_none _ (List.mem_append_right _ (.tail _ hx))
  have F5 : ∀ m o, s.heap.get? m = some o → (∃ vs, o.data = .fields vs) → o.cls ≠ Value.none → H.get? m = some o := fun m o e' ⟨vs, hd⟩ hc => by
    refine PySem.W.hideAll_get _ e' fun hm => ?_
    rcases List.mem_append.mp hm with hm | hm
    · exact (own_obj q m hm o e').2 vs hd
    · rcases List.mem_cons.mp hm with rfl | hm
      · obtain ⟨ps, e2, _⟩ := q.st.ok.tab
        rw [e'] at e2; cases e2; exact hc rfl
      · obtain ⟨_, o', ho', hnf⟩ := f.mem hm
        rw [e'] at ho'; cases ho'; exact hnf vs hd
  have hTB : H.StaysIn (B.loop C acc s).h := fun b o e' => by
    refine PySem.W.hideAll_get _ (F3 b o e') fun hm => ?_
    have h2 : H.get? b = none := PySem.W.hideAll_none _ (List.mem_append_left _ hm)
    rw [e'] at h2; cases h2
  have g := q.st.ok.g
  refine ⟨H, F1, F2, F3, F5, { q.loop with st := ⟨q.st.cx, q.st.a, ⟨⟨g.ns.keeps F1, g.bns.keeps F1, g.nolimit.keeps F1⟩, F3, q.st.ok.tab, ⟨l, e, frames_base f F4⟩⟩, q.st.vars, q.st.bad⟩, hT := hTB }, fun V' acc' s' q' => ?_⟩
  refine q.back { q' with st := ⟨q'.st.cx, q'.st.a, ⟨g, fun b o e' => q'.st.ok.top b o (F1 b o e'), q'.st.ok.tab, ?_⟩, q'.st.vars, q'.st.bad⟩, hT := q.loop.hT }
  obtain ⟨l', e', f'⟩ := q'.st.ok.frames
  refine ⟨l', e', frames_base f' fun x hx => ?_⟩
  cases h : G.hT.get? x with
  | none => rfl
  | some o =>
    have h1 := F1 x o h
    have h2 : H.get? x = none := frames_none f' x hx
    rw [h1] at h2; cases h2
/-- add = res.append, and the rest -/
theorem ex_addAppend {res add : Str} {p p1 p2 pos : Pos} {rest : List Stmt} {P : Post} {a : Addr} {ds : List PyData} (htab : G.hT.get? G.P = none) (hres : VarIx C.N V res (.v (.ref a))) (hm : (a, ds) ∈ acc)
    (k : ∀ (H : Heap) (m : Addr), G.hT.StaysIn H → H.get? G.P = none → H.get? m = some (appObj a) → ∃ V', SetIx C.N V add (.v (.ref m)) V' ∧ Ex (G.gh H) C V' acc rest P) (ho : C.own = C.env.cells := by rfl)
    (hs : ∀ env, swapsWith (.Attribute (.Name res p1) (Str.ofString "append") p2) (some (.Name add p)) pos.line env = pure false := by intro _; rfl) :
    Ex G C V acc (.Assign [.Name add p] (.Attribute (.Name res p1) (Str.ofString "append") p2) pos :: rest) P := fun B s Q E q kk => by
  -- the name is set whatever the ghost: the place is known
  obtain ⟨_, vs, hl, r⟩ := q.acc a ds hm
  obtain ⟨⟨c3, d3, dt3, sl3⟩, n, ho', hc, hdn, hdt⟩ := id hl
  dsimp only at hc hdn hdt
  subst hc hdn hdt
  refine wpAny_execs_cons (wpAny_Assign_Name (Attribute_Name_ (nameA (G := G) (C := C.wa acc) q.st hres fun v hv => ?_)) (hs _))
  have hv' : v = .ref a := hv
  subst hv'
  obtain ⟨hp, g, dr, tk, os⟩ := s
  refine append_attr ho' ?_
  have kp : Kp G ⟨hp, g, dr, tk, os⟩ ⟨hp.push (appObj a), g, dr, tk + 1, os⟩ := Kp.of_push G (s := ⟨hp, g, dr, tk, os⟩) (tk + 1) (appObj a)
  have q1 := q.keeps kp
  have hmm : (hp.push (appObj a)).get? hp.objs.size = some (appObj a) := Heap.get?_push_size _ rfl
  obtain ⟨H0, h1, h2, h3, h5, qg, back⟩ := q1.ghost htab
  obtain ⟨V', hset, hex⟩ := k H0 hp.objs.size h1 h2 (h5 _ _ hmm ⟨_, rfl⟩ (by intro z; cases z))
  refine storeVar (G := G.gh H0) qg (.inl ho) hset (o := .v (.ref hp.objs.size)) rfl fun s' q' _ _ => ?_
  exact hex _ s' Q E q' fun o f V2 acc2 s2 pp q2 hf => kk o f V2 acc2 s2 pp (back _ _ _ q2) hf
end
section
set_option maxRecDepth 100000
variable {G : TopC} {C : Cx} {V : List (Option VV)} {acc : Acc}
theorem mro_object' : mroOf (.type "object") = pure [.type "object"] := by rw [mroOf_type]; kernel_rfl
theorem lookup_object_new' : typeLookup (.type "object") "__new__" = pure (some (.builtin "object.__new__")) := by rw [typeLookup_type, builtinLookup_eq_fast]; kernel_rfl
theorem slot_object_init' : Slot "object" "__init__" "object.__init__" :=
  .of (owner := "object") (n := "__init__") (by rw [typeLookup_type, builtinLookup_eq_fast]; kernel_rfl) (by decide +kernel) (by decide +kernel) (by decide +kernel)
    (by first | exact .inl (by decide +kernel) | exact .inr (by decide +kernel)) (by rw [isSubtype_type]; kernel_rfl)
theorem called_object' : TypeCalled "object" "object.__new__" "object.__init__" :=
  ⟨by decide +kernel, by decide +kernel, ⟨_, _, mro_object'⟩, madeBy_type mro_object' lookup_object_new' (by decide +kernel), by decide +kernel, by rw [isSubtype_type]; kernel_rfl, slot_object_init'⟩
theorem typeCall_object' : checkTypeCall "object" ⟨[], []⟩ = pure () := by kernel_rfl
theorem newCall_object' : checkBuiltinCall "object.__new__" ⟨[.type "object"], []⟩ = pure () := by kernel_rfl
theorem entry_object_new' : entryFor table "object.__new__" = some Builtin.«object.__new__» := entryFor_of_tree (by kernel_rfl)
theorem entry_object_init' : entryFor table "object.__init__" = some Builtin.«object.__init__» := entryFor_of_tree (by kernel_rfl)
theorem plain_object_new' : plainId "object.__new__" = true := by decide +kernel
theorem args_object_init' (a : Value) : argsOk "object.__init__" ⟨[a], []⟩ := by unfold argsOk; kernel_rfl
theorem type_type' : typeOf (.type "object") = pure (.type "type") := by show typeOf _ = _; kernel_rfl
theorem made_object' : Bind.madeHere "object.__new__" (.type "object") = pure () := by kernel_rfl
section
variable {prog : Program} {w : World} {A : Around} {E : Value → Shared → Prop} {s : Shared}
theorem code_object_new {Q₁ : Value → Shared → Prop} (h : Q₁ (.ref s.heap.objs.size) { s with heap := s.heap.push { cls := .type "object", data := .plain } }) :
    codeAny (model prog w) A (.call (.builtin "object.__new__") ⟨[.type "object"], []⟩) (wants Q₁ E) s := by
  refine codeAny_of_tree ?_
  show wpAny _ A.in1 (do checkBuiltinCall "object.__new__" ⟨[.type "object"], []⟩; again (.builtin "object.__new__" ⟨[.type "object"], []⟩)) _ _ s
  refine wpAny_bind (wpAny_of_eq newCall_object' (wpAny_pure ⟨plainId_quiet plain_object_new' _, codeAny_builtin entry_object_new' ?_⟩))
  rw [Around.under_plainId plain_object_new' _]
  obtain ⟨hp, g, d, tk, os⟩ := s
  have f1 := type_type'
  have f2 := made_object'
  wp_walk
  exact h
theorem call_object {Q : Value → Shared → Prop} (h : ∀ a, Q (.ref a) { s with heap := s.heap.push { cls := .type "object", data := .plain } }) : wpAny (model prog w) A (call (.type "object") []) Q E s := by
  refine callType_codes (Q₁ := fun obj s₁ => obj = .ref s.heap.objs.size ∧ s₁ = { s with heap := s.heap.push { cls := .type "object", data := .plain } }) called_object' typeCall_object' entry_object_init'
    (code_object_new ⟨rfl, rfl⟩) fun obj s₁ h₁ => ?_
  obtain ⟨rfl, rfl⟩ := h₁
  have h2 := h s.heap.objs.size
  refine ⟨⟨_, Heap.get?_push_size _ rfl, rfl⟩, args_object_init' _, ?_⟩
  obtain ⟨hp, g, d, tk, os⟩ := s
  wp_walk
  exact ⟨rfl, h2⟩
end
/-- x = object() -/
theorem ex1_assignObj (B : BltOk G) {x f : Str} {px pf pc pos : Pos} {P : Post} (hf : f = Str.ofString "object") (hk : C.env.kindOf f = some .globalImplicit) (hset : ∀ a, ∃ V', SetIx C.N V x (.v (.ref a)) V' ∧ P .next V' acc) (ho : C.own = C.env.cells := by rfl)
    (hs : ∀ env, swapsWith (.Call (.Name f pf) [] [] pc) (some (.Name x px)) pos.line env = pure false := by intro _; rfl) :
    Ex1 G C V acc (.Assign [.Name x px] (.Call (.Name f pf) [] [] pc) pos) P := fun B' s Q E q k => by
  subst hf
  refine wpAny_Assign_Name (Call_ (bltName q.st hk (by decide) B.object.1 B.object.2 ?_)) (hs _)
  refine PyProof.Rows.callWith_type rfl ?_
  refine evalArgs_kw_nil rfl (wpAny_evalAll_nil (call_object fun a => ?_))
  obtain ⟨V', hv, h⟩ := hset a
  exact storeVar (q.keeps (Kp.of_push G s.toks { cls := .type "object", data := .plain })) (.inl ho) hv (o := .v (.ref a)) rfl fun s' q' _ _ => k .next .next _ _ _ h q' rfl

/-! defs called with values told outright -/
inductive All2 {α β : Type} (R : α → β → Prop) : List α → List β → Prop
  | nil : All2 R [] []
  | cons {a b l m} : R a b → All2 R l m → All2 R (a :: l) (b :: m)
/-- the def at fa, called with what is told, yields what reads as d; all else is kept -/
noncomputable def FnV (G : TopC) (fa : Addr) (n : Nat) (args : List VV) (d : PyData) : Prop :=
  ∀ (A : Around) (bad : Addr → Prop) (s : Shared) (vs : List Value) (Q E : Value → Shared → Prop), AOk n A → Ok G A s → (∀ b, bad b → ∃ o, Plain o ∧ s.heap.get? b = some o) → All2 (Holds bad s.heap) vs args →
    (∀ v s', Kp G s s' → Rd bad s'.heap v d → Q v s') → wpAny (model G.prog G.w) A (call (.ref fa) vs) Q E s
theorem varIx_initV {ys : List Str} : ∀ {xs : List Str} {args : List VV} {x o}, xs.length = args.length → VarIx (xs ++ ys) (args.map (fun d => some d) ++ ys.map fun _ => none) x o → (x, o) ∈ xs.zip args := by
  intro xs
  induction xs with
  | nil => intro args x o hl h; cases args with
    | nil => exact absurd h varIx_none
    | cons => cases hl
  | cons y xs ih => intro args x o hl h; cases args with
    | nil => cases hl
    | cons d args => cases h with
      | head => exact .head _
      | tail h => exact .tail _ (ih (Nat.succ.inj hl) h)
theorem forall2_len {α β : Type} {R : α → β → Prop} : ∀ {a : List α} {b : List β}, All2 R a b → a.length = b.length
  | _, _, .nil => rfl
  | _, _, .cons _ h => by simp [forall2_len h]
theorem forall2_get {α β : Type} {R : α → β → Prop} : ∀ {a : List α} {b : List β}, All2 R a b → ∀ {i : Nat} {y : β}, b[i]? = some y → ∃ x, a[i]? = some x ∧ R x y
  | _, _, .nil, i, y, h => by simp at h
  | _, _, .cons r h, 0, y, e => by simp at e; subst e; exact ⟨_, rfl, r⟩
  | _, _, .cons r h, i + 1, y, e => forall2_get h (by simpa using e)
theorem fnV_at {f : Str} {i : Nat} {fa : Addr} {n : Nat} {N xs : List Str} {args : List VV} {d : PyData} {V0 : List (Option VV)} {ys : List Str} {pm code doc : Value} (H : FnIs G f fa (docDef f (pArgs i) (pBody i) (pScope i) pm code doc))
    (D : DefOk (pScope i) N xs) (hlen : xs.length = args.length) (hbind : ∀ vs : List Value, vs.length = xs.length → bindArgs (docDef f (pArgs i) (pBody i) (pScope i) pm code doc) ⟨vs, []⟩ = pure (xs.zip vs))
    (hN : N = xs ++ ys) (hV : V0 = args.map (fun d => some d) ++ ys.map fun _ => none)
    (ex : ∀ (A : Around) (env : Env) (bad : Addr → Prop), (∀ x, env.kindOf x = (pScope i).names.lookup x) → Hd ⟨A, env, N, bad, n, env.cells⟩ → (env.code = code ∧ env.qual = f ++ ".<locals>.") → Ex G ⟨A, env, N, bad, n, env.cells⟩ V0 [] (pBody i) (fun o _ _ => o = .ret d)) : FnV G fa (n + 1) args d := by
  intro A bad s vs Q E hA hok hbad hr hQ
  have hvl : vs.length = xs.length := by rw [forall2_len hr, hlen]
  refine enter (acc := []) (V0 := V0) H rfl rfl rfl rfl D hA hok hbad hvl (hbind vs hvl) .nil (fun x o hx => ?_) fun C s' h1 _ h2 h3 _ h4 h5 h6 h7 F => ?_
  · subst hN hV
    have hm := varIx_initV hlen hx
    obtain ⟨i, hi⟩ := List.mem_iff_getElem?.mp hm
    have hi1 := List.getElem?_zip_eq_some.mp hi
    obtain ⟨v, hv, r⟩ := forall2_get hr hi1.2
    refine ⟨v, List.mem_iff_getElem?.mpr ⟨i, List.getElem?_zip_eq_some.mpr ⟨hi1.1, hv⟩⟩, ?_⟩
    cases o with
    | v u => exact r
    | d d => exact Rd.weaken (h := s.heap) r fun a ha => ha.elim id fun z => nomatch z
  · obtain ⟨A, env, N', bad', n', own⟩ := C
    dsimp only at h2 h3 h4
    subst h2 h3 h4
    refine ex A env bad' h1 h5 h6 _ s' _ _ F fun o f V' acc' s2 p q hf => ?_
    subst p
    obtain ⟨v, rfl, r⟩ := hf
    exact ⟨v, rfl, hQ v s2 ⟨fun a o p e => q.base a o p (hide_nil _ _ _ e), fun _ => q.st.ok.top, fun _ => q.st.ok.tab, q.gens, q.os⟩ r⟩

/-- arguments that are told -/
noncomputable def EvLV (G : TopC) (C : Cx) (V : List (Option VV)) (es : List Expr) (ds : List VV) : Prop :=
  ∀ (cpos : Pos) (s : Shared) (Q : List Value → Shared → Prop) (E : Value → Shared → Prop), St G C V s → (∀ vs s', Kp G s s' → All2 (Holds C.bad s'.heap) vs ds → Q vs s') →
    wpAny (model G.prog G.w) C.A (spliced (backTo cpos (starEach es C.env))) Q E s
theorem evLV_nil : EvLV G C V [] [] := fun _ s Q E q h => spliced_nil (h _ _ (.refl ..) .nil)
theorem All2.sim {bad : Addr → Prop} {h h' : Heap} (k : KpH h h') : ∀ {vs : List Value} {ds : List VV}, All2 (Holds bad h) vs ds → All2 (Holds bad h') vs ds
  | _, _, .nil => .nil
  | _, _, .cons r rs => .cons (r.sim k) (rs.sim k)
theorem evLV_d {e : Expr} {es : List Expr} {d : PyData} {ds : List VV} (x : Ev G C V e d) (y : EvLV G C V es ds) (hs : ∀ env, starEach (e :: es) env = (false, eval e env) :: starEach es env := by intro _; rfl) : EvLV G C V (e :: es) (.d d :: ds) := fun cpos s Q E q h => by
  have hb : backTo cpos (starEach (e :: es) C.env) = (false, eval e C.env) :: backTo cpos (starEach es C.env) := by rw [hs]; rfl
  rw [hb]
  exact spliced_cons (x s _ E q fun v s1 k1 r1 => y cpos s1 _ E (q.keeps k1) fun vs s2 k2 r2 => h _ _ (k1.trans k2) (.cons (r1.sim k2.heap) r2))
theorem evLV_v {e : Expr} {es : List Expr} {u : Value} {ds : List VV} (x : EvV G C V e u) (y : EvLV G C V es ds) (hs : ∀ env, starEach (e :: es) env = (false, eval e env) :: starEach es env := by intro _; rfl) : EvLV G C V (e :: es) (.v u :: ds) := fun cpos s Q E q h => by
  have hb : backTo cpos (starEach (e :: es) C.env) = (false, eval e C.env) :: backTo cpos (starEach es C.env) := by rw [hs]; rfl
  rw [hb]
  exact spliced_cons (x s _ E q fun s1 k1 => y cpos s1 _ E (q.keeps k1) fun vs s2 k2 r2 => h _ _ (k1.trans k2) (.cons rfl r2))
theorem ev_callV {f : Str} {fp pos : Pos} {e : Expr} {es : List Expr} {fa : Addr} {fd : FuncData} {ds : List VV} {d : PyData} {n : Nat} (hf : FnIs G f fa fd) (hk : C.env.kindOf f = some .globalImplicit) (x : EvLV G C V (e :: es) ds)
    (F : FnV G fa n ds d) (hn : n ≤ C.n) (hd : (f == ("__debug__" : Str)) = false := by decide) (hs : ∀ env, starEach (e :: es) env = (false, eval e env) :: starEach es env := by intro _; rfl) : Ev G C V (.Call (.Name f fp) (e :: es) [] pos) d := fun s Q E q h => by
  obtain ⟨hm, ⟨o, ho, hdat⟩, _⟩ := hf
  have hb : backTo pos (starEach (e :: es) C.env) = (false, eval e C.env) :: backTo pos (starEach es C.env) := by rw [hs]; rfl
  refine Call_ (globName q hk hd hm ?_)
  rw [hb]
  refine callWith_function (o := o) (fd := fd) (evalArgs_plain ?_)
  rw [← hb]
  exact x pos s _ E q fun vs s1 k1 r => ⟨⟨(q.keeps k1).ok.top _ _ ho, hdat⟩, F C.A C.bad s1 vs Q E (q.a.mono hn) (q.keeps k1).ok (q.keeps k1).bad r fun v s' k2 r2 => h v s' (k1.trans k2) r2⟩
end
section
set_option maxRecDepth 100000
variable {G : TopC} {C : Cx} {V : List (Option VV)} {acc : Acc}

theorem BltOk.gh (B : BltOk G) (H : Heap) : BltOk (G.gh H) := ⟨B.len, B.range, B.sum, B.all, B.list, B.type, B.int, B.object, B.str, B.isinstance, B.enumerate, B.IndexError, B.ValueError⟩
theorem FnIs.gh {f : Str} {fa : Addr} {fd : FuncData} (h : FnIs G f fa fd) {H : Heap} (k : G.hT.StaysIn H) : FnIs (G.gh H) f fa fd := by
  obtain ⟨a, ⟨o, b, c⟩, d⟩ := h
  exact ⟨a, ⟨o, k _ _ b, c⟩, d.keeps k⟩
theorem DefAt.gh {f : Str} {i : Nat} {fa : Addr} (h : DefAt G f i fa) {H : Heap} (k : G.hT.StaysIn H) : DefAt (G.gh H) f i fa :=
  let ⟨pm, code, doc, x⟩ := h; ⟨pm, code, doc, x.gh k⟩
theorem ReOk.gh (R : ReOk G) {H : Heap} (k : G.hT.StaysIn H) (hP : H.get? G.P = none) : ReOk (G.gh H) where
  map := by
    obtain ⟨dm, f, t1, t2, a, b, c, d⟩ := R.map
    exact ⟨dm, f, t1, t2, a, fun h x => b h fun p o e => x p o (k p o e), c, d⟩
  re := by
    obtain ⟨pa, ca, t0, t1, P, sl1, sl2, n1, a, b, c⟩ := R.re
    exact ⟨pa, ca, t0, t1, P, sl1, sl2, n1, a, k _ _ b, k _ _ c⟩
  head := R.head.keeps k
  blt := bltAt_keeps R.blt k
  low := R.low
  tabT := hP

noncomputable def isStar : Expr → Bool | .Starred .. => true | _ => false
/-- x, y = e1, e2 -/
theorem swapped2 {env : Env} {x y : Str} {px py tp tp2 : Pos} {k0 k2 : Nat} {e1 e2 : Expr} (hb : env.blockKind = .function) (hkx : env.kindOf x = some .local) (hky : env.kindOf y = some .local) (hl : px.line = py.line) (hxy : (x == y) = false)
    (hs1 : isStar e1 = false) (hs2 : isStar e2 = false) (hf : foldedForSure 8 e2 = false) (hc : constantsAlone 8 e2 = false) :
    swappedStores [.Tuple [.Name x px, .Name y py] k0 tp] (.Tuple [e1, e2] k2 tp2) env = pure (some [x, y]) := by
  have hxy' : (y == x) = false := by rw [beq_eq_false_iff_ne] at hxy ⊢; exact Ne.symm hxy
  unfold isStar at hs1 hs2
  unfold swappedStores
  simp [hb, hkx, hky, hl, hs1, hs2, hf, hc, Expr.pos]
  have hd : [x, y].eraseDups.length = 2 := by simp [List.eraseDups, List.eraseDupsBy, List.eraseDupsBy.loop, hxy']
  rw [if_neg (by rintro (h | h); exact Bool.noConfusion (hs1.symm.trans h); exact Bool.noConfusion (hs2.symm.trans h)), if_pos hd]
theorem ex1_unpackD {x y : Str} {e1 e2 : Expr} {px py tp tp2 pos : Pos} {k0 k2 : Nat} {d1 d2 : PyData} {V1 V2 : List (Option VV)} {P : Post} (he1 : Ev G (C.wa acc) V e1 d1) (he2 : Ev G (C.wa acc) V e2 d2) (hy : SetIx C.N V y (.d d2) V1) (hx : SetIx C.N V1 x (.d d1) V2) (h : P .next V2 acc)
    (hkx : C.env.kindOf x = some .local) (hky : C.env.kindOf y = some .local) (hl : px.line = py.line) (hxy : (x == y) = false)
    (hs1 : isStar e1 = false) (hs2 : isStar e2 = false) (hf : foldedForSure 8 e2 = false) (hc : constantsAlone 8 e2 = false) (ho : C.own = C.env.cells := by rfl)
    (hs : ∀ env, swapsWithSole [.Tuple [.Name x px, .Name y py] k0 tp] (.Tuple [e1, e2] k2 tp2) pos.line env = pure false := by intro _; rfl)
    (hse1 : ∀ env, starEach [e1, e2] env = (false, eval e1 env) :: starEach [e2] env := by intro _; rfl) (hse2 : ∀ env, starEach [e2] env = (false, eval e2 env) :: starEach [] env := by intro _; rfl) :
    Ex1 G C V acc (.Assign [.Tuple [.Name x px, .Name y py] k0 tp] (.Tuple [e1, e2] k2 tp2) pos) P := fun B s Q E q k => by
  have hb : C.env.blockKind = .function := by
    unfold Env.blockKind
    rw [show C.env.scope.kind = _ from q.st.cx.kind]; rfl
  have et : Ev G (C.wa acc) V (.Tuple [e1, e2] k2 tp2) (.tuple [d1, d2]) := ev_tuple (evL_cons he1 (evL_cons he2 evL_nil hse2) hse1) (of_decide_eq_true rfl)
  refine Assign_Tuple_swapped (names := [x, y]) (et s _ E q.st fun v s1 k1 r => ?_) (hs _) (swapped2 hb hkx hky hl hxy hs1 hs2 hf hc)
  obtain ⟨a, vs, rfl, ht, r⟩ := r.tuple_inv
  obtain ⟨v1, vs, rfl, r1, r⟩ := r.cons_inv
  obtain ⟨v2, vs, rfl, r2, r⟩ := r.cons_inv
  cases r.nil_inv
  show wpAny _ _ (unpackItems (.ref a) ([v1, v2].toArray.size) none) _ _ _
  refine wpAny_unpackItems_tuple q.st.a.1 ht fun h' ext => ?_
  have up : ∀ b o, s1.heap.get? b = some o → h'.get? b = some o := fun b o e => ext b o (Nat.ne_of_lt (Heap.lt_size e)) e
  have k2 : Kp G s1 { s1 with heap := h' } := Kp.of_keeps G s1.toks up
  show wpAny _ _ (assignInOrder [fun v => bindName C.env y v, fun v => bindName C.env x v] [v2, v1]) _ _ _
  show wpAny _ _ (holding [v1] (bindName C.env y v2) >>= fun _ => assignInOrder [fun v => bindName C.env x v] [v1]) _ _ _
  have qq := (q.keeps k1).keeps k2
  refine wpAny_bind (wpAny_holding (wpAny_bindName (storeVar qq (.inl ho) hy (o := .d d2) (r2.sim k2.heap) fun s3 q3 keep3 _ => ?_)))
  have r1' : Rd (C.wa acc).bad s3.heap v1 d1 := by
    have r1a := r1.sim k2.heap
    obtain ⟨a, ha, hsb⟩ := keep3
    rcases ha with rfl | ⟨z, hz⟩
    · obtain ⟨m, oa, es, ep, e1, dd, _⟩ := qq.ns
      exact r1a.but (.inl qq.own.L) e1 (fun ⟨_, vs, n, z⟩ => by rw [dd] at z; cases z) hsb
    · obtain ⟨u, oa, e1, dd⟩ := qq.cs z a hz
      exact r1a.but (.inl (qq.own.c z a hz)) e1 (fun ⟨_, vs, n, z⟩ => by rw [dd] at z; cases z) hsb
  show wpAny _ _ (holding [] (bindName C.env x v1) >>= fun _ => assignInOrder [] []) _ _ _
  refine wpAny_bind (wpAny_holding (wpAny_bindName (storeVar q3 (.inl ho) hx (o := .d d1) r1' fun s4 q4 _ _ => ?_)))
  exact wpAny_pure (k .next .next _ _ _ h q4 rfl)
end
section
set_option maxRecDepth 100000
variable {G : TopC} {C : Cx} {V : List (Option VV)} {acc : Acc}

theorem escape_ok {fa : Addr} (H : DefAt G (Str.ofString "escape") 11 fa) (B : BltOk G) (R : ReOk G) (c : Nat) (hc : c = 40 ∨ c = 41) : Fn G fa 1 [.str (S [c])] (.str (S [92, c])) := by
  refine fn_at (N := [Str.ofString "pattern"]) (xs := [Str.ofString "pattern"]) (V0 := [some (.d (.str (S [c])))]) (ys := []) H ?_ rfl ?_ rfl rfl ?_
  · walk_at "def"
  · intro pm code doc vs h
    obtain ⟨a, rfl⟩ := len1 h
    rfl
  intro A env bad hk
  refine ex_cons (ex1_ifT (c := true) ?t1 rfl ?a1)
  case t1 => exact tr_ev (ev_isStr (by walk_at "kind") (by walk_at "kind") B (by walk_at "ev") (by intro _ _; exact .inr trivial) (by intro _; rfl)) (by intro _ _; rfl)
  change Ex _ _ _ _ _ _
  refine ex_cons ?_
  refine' ex1_ret ?e2 ?n2
  case e2 => exact ev_escape R hc (by walk_at "kind") (by walk_at "ev") (by intro _; rfl) rfl
  rfl

theorem tr_isNotSV {l r : Expr} {pos : Pos} {a : Str} {b : Addr} (x : Ev G C V l (.str a)) (y : EvV G C V r (.ref b)) (hm : behindInMarks .IsNot r = false := by with_unfolding_all rfl) : Tr G C V (.Compare l [.IsNot] [r] pos) true := fun s Q E q h =>
  wpAny_isTrue_Compare1 (x s _ E q fun u s1 k1 r1 => y s1 _ E (q.keeps k1) fun s2 k2 => by
    obtain ⟨t, rfl⟩ := r1.str_inv
    exact wpAny_isNot_plain rfl (wpAny_truthy_bool (h _ (k1.trans k2)))) hm

noncomputable abbrev nJoin : List Str := [Str.ofString "inp", Str.ofString "STAR", Str.ofString "res", Str.ofString "add", Str.ofString "i", Str.ofString "n", Str.ofString "fixed"]
theorem join_loop (B : BltOk G) (L : List (List Nat)) (hz : L.length ≤ 1000) {st ra m : Addr} (hm : G.hT.get? m = some (appObj ra)) (hfl : L.flatten.length ≤ 1000)
    {A : Around} {env : Env} {bad : Addr → Prop} (hk : ∀ x, env.kindOf x = (pScope 14).names.lookup x) :
    Ex G ⟨A, env, nJoin, bad, 0, env.cells⟩ [some (.d (.list (sL L))), some (.v (.ref st)), some (.v (.ref ra)), some (.v (.ref m)), none, none, none] [(ra, [])] ((pBody 14).drop 2) (fun o _ _ => o = .ret (.str (S ([40, 63, 115, 58] ++ L.flatten ++ [41, 92, 90])))) := by
  have hl : (sL L).length = L.length := by simp [sL]
  have lenL : ∀ (C : Cx) (V : List (Option VV)), C.env.kindOf (Str.ofString "len") = some .globalImplicit → VarIx C.N V (Str.ofString "inp") (.d (.list (sL L))) → ∀ p1 p2 p3, Ev G C V (.Call (.Name (Str.ofString "len") p1) [.Name (Str.ofString "inp") p2] [] p3) (.int (L.length : Nat)) := fun C V hk hv p1 p2 p3 => by
    have := ev_lenL (fp := p1) (pos := p3) hk B.len.1 B.len.2 (ev_name (G := G) (pos := p2) hv) (by rw [hl]; omega) (by intro _; rfl)
    rw [hl] at this
    exact this
  -- i, n = 0, len(inp)
  refine ex_cons (ex1_unpackD (d1 := .int 0) (d2 := .int (L.length : Nat)) (V1 := [some (.d (.list (sL L))), some (.v (.ref st)), some (.v (.ref ra)), some (.v (.ref m)), none, some (.d (.int (L.length : Nat))), none]) (V2 := [some (.d (.list (sL L))), some (.v (.ref st)), some (.v (.ref ra)), some (.v (.ref m)), some (.d (.int 0)), some (.d (.int (L.length : Nat))), none])
    ev_int (lenL _ _ (by walk_at "kind") (by walk_at "var") _ _ _) (by walk_at "set") (by walk_at "set") ?_ (by walk_at "kind") (by walk_at "kind") rfl (by decide) rfl rfl (by with_unfolding_all rfl) (by with_unfolding_all rfl) rfl (by intro _; rfl) (by intro _; rfl) (by intro _; rfl))
  change Ex _ _ _ _ _ _
  -- the first loop
  refine ex_cons (ex1_while (fun n V acc => ∃ i, i ≤ L.length ∧ n = L.length - i ∧ V = [some (.d (.list (sL L))), some (.v (.ref st)), some (.v (.ref ra)), some (.v (.ref m)), some (.d (.int (i : Nat))), some (.d (.int (L.length : Nat))), none] ∧ acc = [(ra, sL (L.take i))]) L.length ⟨0, Nat.zero_le _, rfl, rfl, rfl⟩ ?_)
  rintro n V1 acc1 ⟨i, hi, rfl, rfl, rfl⟩
  by_cases hlt : i < L.length
  · have hd : decide (((i : Nat) : Int) < ((L.length : Nat) : Int)) = true := by simpa using hlt
    refine ⟨true && (true && true), ?_, fun _ => ?_, fun z => nomatch z⟩
    · have g := get_sL hlt
      refine tr_bool (trL_and ?x1 fun _ => trL_and ?y1 fun _ => trL_andNil)
      case x1 => rw [← hd]; walk_at "tr"
      case y1 => exact tr_isNotSV (by walk_at "ev") (evV_name (by walk_at "var")) (by with_unfolding_all rfl)
    · have g := get_sL hlt
      have hsz : (sL (L.take i)).length ≤ 1000000 := by rw [sL, List.length_map, List.length_take]; omega
      refine ex_cons (ex1_add (m := m) (a := ra) (ds := sL (L.take i)) (d := .str (S (L.getD i []))) (acc' := [(ra, sL (L.take i) ++ [.str (S (L.getD i []))])]) (by walk_at "var") hm .head (by walk_at "ev") hsz ?_ (by intro _; rfl))
      rw [sL_snoc, show L.take i ++ [L.getD i []] = L.take (i + 1) by
        rw [List.take_add_one, List.getElem?_eq_getElem hlt]; simp [List.getD, hlt]]
      walk_at "addI"
      refine ex_nil ⟨L.length - (i + 1), by omega, i + 1, hlt, rfl, ?_, rfl⟩
      rw [succ_cast]
  · have hie : i = L.length := by omega
    subst hie
    have hd : decide (((L.length : Nat) : Int) < ((L.length : Nat) : Int)) = false := by simp
    refine ⟨false && true, ?_, fun z => absurd z (by decide), fun _ => ?_⟩
    · refine tr_bool (trL_and (a := false) ?x2 fun z => nomatch z)
      rw [← hd]; walk_at "tr"
    · change Ex _ _ _ _ _ _
      rw [List.take_length]
      -- the second loop does not turn
      refine ex_cons (ex1_while (fun n V acc => V = [some (.d (.list (sL L))), some (.v (.ref st)), some (.v (.ref ra)), some (.v (.ref m)), some (.d (.int (L.length : Nat))), some (.d (.int (L.length : Nat))), none] ∧ acc = [(ra, sL L)]) 0 ⟨rfl, rfl⟩ ?_)
      rintro n V1 acc1 ⟨rfl, rfl⟩
      refine ⟨false, ?_, (fun z => nomatch z), fun _ => ?_⟩
      · rw [← hd]; walk_at "tr"
      change Ex _ _ _ _ _ _
      have he : (((L.length : Nat) : Int) == ((L.length : Nat) : Int)) = true := by simp
      refine ex_cons (ex1_assert (by rw [← he]; walk_at "tr") ?_)
      change Ex _ _ _ _ _ _
      refine' ex_freeze (x := Str.ofString "res") ?gv ?gs ?gx
      case gv => walk_at "var"
      case gs => walk_at "set"
      change Ex _ _ _ _ _ _
      refine ex_cons (ex1_assign (d := .str (S L.flatten)) (V' := [some (.d (.list (sL L))), some (.v (.ref st)), some (.d (.str (S L.flatten))), some (.v (.ref m)), some (.d (.int (L.length : Nat))), some (.d (.int (L.length : Nat))), none]) (ev_joinC cE (by walk_at "ev") (by omega) (by intro _; rfl) rfl (by intro _; rfl)) (by walk_at "set") ?_)
      change Ex _ _ _ _ _ _
      refine ex_cons ?_
      refine' ex1_ret (ev_fstr3 (a := [40, 63, 115, 58]) (c := [41, 92, 90]) cHead cTail (by walk_at "ev") (by show 4 + L.flatten.length + 3 ≤ 1000000; omega)) rfl
theorem join_ok {fa : Addr} (H : DefAt G (Str.ofString "_join_translated_parts") 14 fa) (B : BltOk G) (htab : G.hT.get? G.P = none) (L : List (List Nat)) (hz : L.length ≤ 1000) (hfl : L.flatten.length ≤ 1000) (st : Addr) :
    FnV G fa 1 [.d (.list (sL L)), .v (.ref st)] (.str (S ([40, 63, 115, 58] ++ L.flatten ++ [41, 92, 90]))) := by
  obtain ⟨pm, code, doc, hf⟩ := H
  refine fnV_at (N := nJoin) (xs := [Str.ofString "inp", Str.ofString "STAR"]) (V0 := [some (.d (.list (sL L))), some (.v (.ref st)), none, none, none, none, none]) (ys := [Str.ofString "res", Str.ofString "add", Str.ofString "i", Str.ofString "n", Str.ofString "fixed"]) hf (by walk_at "def") rfl ?_ rfl rfl ?_
  · intro vs h
    obtain ⟨a, b, rfl⟩ := len2 h
    rfl
  intro A env bad hk hd hcq
  refine ex_cons (ex1_acc (fun ra => ⟨[some (.d (.list (sL L))), some (.v (.ref st)), some (.v (.ref ra)), none, none, none, none], by walk_at "set", ?_⟩) rfl (by intro _; rfl))
  change Ex _ _ _ _ _ _
  refine ex_addAppend (a := ra) (ds := []) htab (by walk_at "var") (.head _) (fun H m k1 k2 k3 => ⟨[some (.d (.list (sL L))), some (.v (.ref st)), some (.v (.ref ra)), some (.v (.ref m)), none, none, none], by walk_at "set", ?_⟩) rfl (by intro _; rfl)
  exact join_loop (B.gh H) L hz k3 hfl hk
end
section
set_option maxRecDepth 100000
variable {G : TopC} {C : Cx} {V : List (Option VV)} {acc : Acc}

theorem cmp_geI {a b : Int} : Cmp G C .GtE (.int a) (.int b) (decide (b ≤ a)) := fun V s Q E u v q ru rv h => by
  obtain ⟨t, rfl⟩ := ru.int_inv; obtain ⟨t', rfl⟩ := rv.int_inv
  exact PyProof.Rows.ge_int (h _ (.refl ..))
theorem patP_len (p : Pc) : 1 ≤ (patP p).length ∧ (patP p).length ≤ 4 := by cases p <;> exact ⟨by simp [patP], by simp [patP]⟩
theorem pat_len (ps : List Pc) : (ps.flatMap patP).length ≤ 4 * ps.length := by
  induction ps with
  | nil => exact Nat.zero_le _
  | cons p ps ih => rw [List.flatMap_cons, List.length_append, List.length_cons]; have := (patP_len p).2; omega
theorem pat_split (ps : List Pc) (m : Nat) (p : Pc) (h : ps[m]? = some p) : ps.flatMap patP = (ps.take m).flatMap patP ++ (patP p ++ (ps.drop (m + 1)).flatMap patP) := by
  have hm : m < ps.length := (List.getElem?_eq_some_iff.mp h).1
  have e : ps = ps.take m ++ p :: ps.drop (m + 1) := by
    have := (List.take_append_drop m ps).symm
    rw [List.drop_eq_getElem_cons hm] at this
    rw [(List.getElem?_eq_some_iff.mp h).2] at this; exact this
  conv => lhs; rw [e]
  rw [List.flatMap_append, List.flatMap_cons]
theorem pat_get (ps : List Pc) (m : Nat) (p : Pc) (h : ps[m]? = some p) (j : Nat) (hj : j < (patP p).length) : (ps.flatMap patP)[((ps.take m).flatMap patP).length + j]? = (patP p)[j]? := by
  rw [pat_split ps m p h, List.getElem?_append_right (by omega), Nat.add_sub_cancel_left, List.getElem?_append_left hj]
theorem pat_next (ps : List Pc) (m : Nat) (p : Pc) (h : ps[m]? = some p) : ((ps.take (m + 1)).flatMap patP).length = ((ps.take m).flatMap patP).length + (patP p).length := by
  rw [List.take_add_one, h, Option.toList_some, List.flatMap_append, List.length_append]; simp
theorem pat_pick (l : List Nat) (a b : Nat) (h1 : a ≤ b) (h2 : b ≤ l.length) : pick l (some (a : Int)) (some (b : Int)) = (l.drop a).take (b - a) := by
  unfold pick
  have e1 : PySem.W.kms_lo (some (a : Int)) l.length = a := by unfold PySem.W.kms_lo; dsimp only; rw [if_neg (by omega)]; simp; omega
  have e2 : PySem.W.kms_hi (some (b : Int)) l.length = b := by unfold PySem.W.kms_hi; dsimp only; rw [if_neg (by omega)]; simp; omega
  rw [e1, e2]

noncomputable abbrev nT : List Str := [Str.ofString "pat", Str.ofString "STAR", Str.ofString "QUESTION_MARK", Str.ofString "res", Str.ofString "add", Str.ofString "i", Str.ofString "n", Str.ofString "c", Str.ofString "j", Str.ofString "stuff", Str.ofString "chunks", Str.ofString "k", Str.ofString "chunk"]
noncomputable abbrev vT (pat : List Nat) (st ra m : Addr) (i : Int) (xc xj xs : Option VV) : List (Option VV) := [some (.d (.str (S pat))), some (.v (.ref st)), some (.d (.str (S [46]))), some (.v (.ref ra)), some (.v (.ref m)), some (.d (.int i)), some (.d (.int (pat.length : Nat))), xc, xj, xs, none, none, none]
/-- what holds between the turns -/
noncomputable def jT (ps : List Pc) (st ra m : Addr) (n : Nat) : XPost := fun V acc => ∃ k xc xj xs, k ≤ ps.length ∧ n = ps.length - k ∧ V = vT (ps.flatMap patP) st ra m ((ps.take k).flatMap patP).length xc xj xs ∧ acc = [(ra, sL ((ps.take k).map txtP))]

/-- one sign of the pattern is taken: i and c are set -/
theorem tr_turn {fe : Addr} (He : DefAt G (Str.ofString "escape") 11 fe) (B : BltOk G) (R : ReOk G) (ps : List Pc) (hps : ∀ p ∈ ps, OkP p) (hz : ps.length ≤ 100) {st ra m : Addr} (hm : G.hT.get? m = some (appObj ra))
    {A : Around} {env : Env} {bad : Addr → Prop} (hk : ∀ x, env.kindOf x = (pScope 13).names.lookup x) (T : InT G ⟨A, env, nT, bad, 1, env.cells⟩) (hline : G.line = 113) (hcol : G.col = 39) (k : Nat) (p : Pc) (hp : ps[k]? = some p) (xc xj xs : Option VV) (P : Post)
    (hP : ∀ xc xj xs, P .next (vT (ps.flatMap patP) st ra m ((ps.take (k + 1)).flatMap patP).length xc xj xs) [(ra, sL ((ps.take (k + 1)).map txtP))])
    {t : Expr} {pw : Pos} {body o : List Stmt} (hbody : (pBody 13).getD 3 (.Break ⟨0, 0, 0, 0⟩) = .While t body o pw) :
    Ex G ⟨A, env, nT, bad, 1, env.cells⟩ (vT (ps.flatMap patP) st ra m ((ps.take k).flatMap patP).length xc xj xs) [(ra, sL ((ps.take k).map txtP))] body P := by
  have hpm := List.mem_of_getElem? hp
  have hok := hps p hpm
  have hkl := (List.getElem?_eq_some_iff.mp hp).1
  have hget := pat_get ps k p hp
  have hnext := pat_next ps k p hp
  have hplen := pat_len ps
  have hacc : sL ((ps.take k).map txtP) ++ [.str (S (txtP p))] = sL ((ps.take (k + 1)).map txtP) := by
    rw [List.take_add_one, hp]; simp [sL]
  have hsz : (sL ((ps.take k).map txtP)).length ≤ 1000000 := by rw [sL, List.length_map, List.length_map, List.length_take]; omega
  have hle : ((ps.take k).flatMap patP).length + (patP p).length ≤ (ps.flatMap patP).length := by
    rw [pat_split ps k p hp]; simp only [List.length_append]; omega
  rw [hnext] at hP
  rw [← hacc] at hP
  generalize ps.flatMap patP = pat at *
  generalize ((ps.take k).flatMap patP).length = i0 at *
  generalize sL ((ps.take k).map txtP) = ac at *
  clear hnext hacc hp hpm hkl hps
  have m0 : ((i0 : Nat) : Int) < 1000000 := by omega
  have m1 : ((i0 : Nat) : Int) + 1 < 1000000 := by omega
  have m2 : ((i0 : Nat) : Int) + 1 + 1 < 1000000 := by omega
  have m3 : ((i0 : Nat) : Int) + 1 + 1 + 1 < 1000000 := by omega
  have z0 := zn0 i0
  have z1 := zn1 i0
  have z2 := zn2 i0
  have z3 := zn3 i0
  have hbody' : body = match (pBody 13).getD 3 (.Break ⟨0, 0, 0, 0⟩) with | .While _ b _ _ => b | _ => [] := by rw [hbody]
  subst hbody'
  clear hbody
  have hpl : pat.length < 1000000 := by omega
  have hpl2 : pat.length ≤ 1000000 := by omega
  cases p with
  | q =>
    have g0 : pat[((i0 : Nat) : Int).toNat]? = some 63 := by rw [tn0]; exact hget 0 (by decide)
    have hb : i0 < 1000000 := by simp [patP] at hle; omega
    walk_at "assign"
    walk_at "assign"
    walk_at "ifF"
    walk_at "ifT"
    refine ex_cons (ex1_add (m := m) (a := ra) (ds := ac) (d := .str (S [46])) (acc' := [(ra, ac ++ [.str (S [46])])]) (by walk_at "var") hm .head (by walk_at "ev") hsz ?_ (by intro _; rfl))
    change Ex _ _ _ _ _ _
    walk_at "done"
    walk_at "done"
    exact ex_nil (hP _ _ _)
  | lit c =>
    have hcc : c = 40 ∨ c = 41 := hok
    have g0 : pat[((i0 : Nat) : Int).toNat]? = some c := by rw [tn0]; exact hget 0 (by show 0 < 1; decide)
    have hb : i0 < 1000000 := by simp [patP] at hle; omega
    have h42 : ([c] == [42]) = false := by simp; omega
    have h63 : ([c] == [63]) = false := by simp; omega
    have h91 : ([c] == [91]) = false := by simp; omega
    walk_at "assign"
    walk_at "assign"
    walk_at "ifF"
    walk_at "ifF"
    walk_at "ifF"
    refine ex_cons (ex1_add (m := m) (a := ra) (ds := ac) (d := .str (S [92, c])) (acc' := [(ra, ac ++ [.str (S [92, c])])]) (by walk_at "var") hm .head ?e1 hsz ?_ (by intro _; rfl))
    case e1 => exact ev_callD He (by walk_at "kind") (evL_cons (ev_name (by walk_at "var")) evL_nil) (escape_ok He B R c hcc) (Nat.le_refl _) (by decide) (by intro _; rfl)
    change Ex _ _ _ _ _ _
    walk_at "done"
    walk_at "done"
    walk_at "done"
    exact ex_nil (hP _ _ _)
  | inn c =>
    have hcc : c = 40 ∨ c = 41 := hok
    have g0 : pat[((i0 : Nat) : Int).toNat]? = some 91 := by rw [tn0]; exact hget 0 (by show 0 < 3; decide)
    have g1 : pat[(((i0 : Nat) : Int) + 1).toNat]? = some c := by rw [tn1]; exact hget 1 (by show 1 < 3; decide)
    have g2 : pat[(((i0 : Nat) : Int) + 1 + 1).toNat]? = some 93 := by rw [tn2]; exact hget 2 (by show 2 < 3; decide)
    have hle' : i0 + 3 ≤ pat.length := hle
    have n33 : ([c] == [33]) = false := by simp; omega
    have hb : i0 < 100000 := by omega
    have n93 : ([c] != [93]) = true := by simp; omega
    have n93' : ([c] == [93]) = false := by simp; omega
    have lt1 : decide (((i0 : Nat) : Int) + 1 < ((pat.length : Nat) : Int)) = true := decide_eq_true (by omega)
    have ltj : decide (((i0 : Nat) : Int) + 1 < ((pat.length : Nat) : Int)) = true := decide_eq_true (by omega)
    have ltn : decide (((i0 : Nat) : Int) + 1 + 1 < ((pat.length : Nat) : Int)) = true := decide_eq_true (by omega)
    have hpick : pick pat (some (((i0 : Nat) : Int) + 1)) (some (((i0 : Nat) : Int) + 1 + 1)) = [c] := by
      rw [show ((i0 : Nat) : Int) + 1 = ((i0 + 1 : Nat) : Int) by omega, show ((i0 + 1 : Nat) : Int) + 1 = ((i0 + 2 : Nat) : Int) by omega, pat_pick pat (i0 + 1) (i0 + 2) (by omega) (by omega)]
      have hn : (i0 + 2) - (i0 + 1) = 1 := by omega
      rw [hn]
      rw [tn1] at g1
      rw [List.drop_eq_getElem_cons (show i0 + 1 < pat.length by omega), (List.getElem?_eq_some_iff.mp g1).2]
      rfl
    have hocc : (Builtin.Str.occurrences (S [c]) (Str.ofString "\\") 0 (S [c]).length ((S [c]).length + 1)).isEmpty = true := by
      rcases hcc with rfl | rfl <;> decide +kernel
    have hre : reText [c] = true := by
      rcases hcc with rfl | rfl
      · exact re40
      · exact re41
    have h45 : (!([c] : List Nat).contains 45) = true := by
      rcases hcc with rfl | rfl <;> decide
    walk_at "assign"
    walk_at "assign"
    walk_at "ifF"
    walk_at "ifF"
    walk_at "ifT"
    walk_at "assign"
    refine ex_cons (ex1_ifF (c := decide (((i0 : Nat) : Int) + 1 < ((pat.length : Nat) : Int)) && (([c] == [33]) && true)) (by walk_at "tr") (by rw [n33]; simp) ?_)
    change Ex _ _ _ _ _ _
    walk_at "done"
    refine ex_cons (ex1_ifF (c := decide (((i0 : Nat) : Int) + 1 < ((pat.length : Nat) : Int)) && (([c] == [93]) && true)) (by walk_at "tr") (by rw [n93']; simp) ?_)
    change Ex _ _ _ _ _ _
    walk_at "done"
    refine ex_cons (ex1_while (fun n V acc => acc = [(ra, ac)] ∧ ((n = 1 ∧ V = vT pat st ra m (((i0 : Nat) : Int) + 1) (some (.d (.str (S [91])))) (some (.d (.int (((i0 : Nat) : Int) + 1)))) xs) ∨ (n = 0 ∧ V = vT pat st ra m (((i0 : Nat) : Int) + 1) (some (.d (.str (S [91])))) (some (.d (.int (((i0 : Nat) : Int) + 1 + 1)))) xs))) 1 ⟨rfl, .inl ⟨rfl, rfl⟩⟩ ?_)
    rintro n V1 acc1 ⟨rfl, ⟨rfl, rfl⟩ | ⟨rfl, rfl⟩⟩
    · refine ⟨decide (((i0 : Nat) : Int) + 1 < ((pat.length : Nat) : Int)) && (([c] != [93]) && true), (by walk_at "tr"), fun _ => ?_, fun z => absurd z (by rw [ltj, n93]; decide)⟩
      walk_at "assign"
      exact ex_nil ⟨0, by decide, rfl, .inr ⟨rfl, rfl⟩⟩
    · refine ⟨decide (((i0 : Nat) : Int) + 1 + 1 < ((pat.length : Nat) : Int)) && (([93] != [93]) && true), (by walk_at "tr"), fun z => absurd z (by rw [ltn]; decide), fun _ => ?_⟩
      change Ex _ _ _ _ _ _
      refine ex_cons (ex1_ifF (c := decide (((pat.length : Nat) : Int) ≤ ((i0 : Nat) : Int) + 1 + 1)) (tr_cmp (by walk_at "ev") (by walk_at "ev") cmp_geI (by with_unfolding_all rfl)) (decide_eq_false (by omega)) ?_)
      change Ex _ _ _ _ _ _
      refine ex_cons (ex1_assign (d := .str (S [c])) (V' := vT pat st ra m (((i0 : Nat) : Int) + 1) (some (.d (.str (S [91])))) (some (.d (.int (((i0 : Nat) : Int) + 1 + 1)))) (some (.d (.str (S [c]))))) (by rw [← hpick]; walk_at "ev") (by walk_at "set") ?_)
      change Ex _ _ _ _ _ _
      refine ex_cons (ex1_ifT (c := !([c] : List Nat).contains 45) (tr_cmp (by walk_at "ev") (by walk_at "ev") cmp_notInC (by with_unfolding_all rfl)) h45 ?_)
      change Ex _ _ _ _ _ _
      refine ex_cons (ex1_assign (d := .str (S [c])) (V' := vT pat st ra m (((i0 : Nat) : Int) + 1) (some (.d (.str (S [91])))) (some (.d (.int (((i0 : Nat) : Int) + 1 + 1)))) (some (.d (.str (S [c]))))) (ev_replaceNone hocc (by walk_at "ev") (by intro _; rfl) rfl) (by walk_at "set") ?_)
      change Ex _ _ _ _ _ _
      walk_at "done"
      refine ex_cons (ex1_assign (d := .str (S [c])) (V' := vT pat st ra m (((i0 : Nat) : Int) + 1) (some (.d (.str (S [91])))) (some (.d (.int (((i0 : Nat) : Int) + 1 + 1)))) (some (.d (.str (S [c]))))) (ev_reSub (C := Cx.wa ⟨A, env, nT, bad, 1, env.cells⟩ [(ra, ac)]) R ⟨T.code, T.qual⟩ (x := [c]) hre (by simp) (by simp) (by walk_at "kind") (by walk_at "ev") hline.symm hcol.symm (by intro _; rfl) (by intro _; rfl) rfl (by intro _; rfl)) (by walk_at "set") ?_)
      change Ex _ _ _ _ _ _
      refine ex_cons (ex1_assign (d := .int (((i0 : Nat) : Int) + 1 + 1 + 1)) (V' := vT pat st ra m (((i0 : Nat) : Int) + 1 + 1 + 1) (some (.d (.str (S [91])))) (some (.d (.int (((i0 : Nat) : Int) + 1 + 1)))) (some (.d (.str (S [c]))))) (by walk_at "ev") (by walk_at "set") ?_)
      change Ex _ _ _ _ _ _
      refine ex_cons (ex1_ifF (c := !(!([c] : List Nat).isEmpty)) (tr_not (tr_str (ev_name (by walk_at "var")) (by simp) (by intro _ _; rfl))) rfl ?_)
      change Ex _ _ _ _ _ _
      refine ex_cons (ex1_ifF (c := (([c] : List Nat) == [33])) (by walk_at "tr") (by simp; omega) ?_)
      change Ex _ _ _ _ _ _
      have gg : ([c] : List Nat)[(0 : Int).toNat]? = some c := rfl
      refine ex_cons (ex1_ifF (c := ([c] == [33])) (by walk_at "tr") n33 ?_)
      change Ex _ _ _ _ _ _
      have hin : ([[94], [91]] : List (List Nat)).contains [c] = false := by
        rcases hcc with rfl | rfl <;> decide
      refine ex_cons (ex1_ifF (c := ([[94], [91]] : List (List Nat)).contains [c]) (tr_cmp (by walk_at "ev") (ev_tuple (evL_cons (evc c94) (evL_cons (evc c91) evL_nil)) (of_decide_eq_true rfl)) (cmp_inT_strs (l := [[94], [91]]) (fun y hy d hd => ?_) (fun d hd => ?_)) (by with_unfolding_all rfl)) hin ?_)
      · simp only [List.mem_cons, List.not_mem_nil, or_false] at hy
        rcases hy with rfl | rfl <;> (cases List.mem_singleton.mp hd; decide)
      · cases List.mem_singleton.mp hd; omega
      change Ex _ _ _ _ _ _
      walk_at "done"
      walk_at "done"
      refine ex_cons (ex1_add (m := m) (a := ra) (ds := ac) (d := .str (S ([91] ++ [c] ++ [93]))) (acc' := [(ra, ac ++ [.str (S ([91] ++ [c] ++ [93]))])]) (by walk_at "var") hm .head (ev_fstr3 c91 c93 (by walk_at "ev") (by simp)) hsz ?_ (by intro _; rfl))
      change Ex _ _ _ _ _ _
      walk_at "done"
      walk_at "done"
      walk_at "done"
      walk_at "done"
      walk_at "done"
      walk_at "done"
      have hi : ((i0 : Nat) : Int) + 1 + 1 + 1 = ((i0 + 3 : Nat) : Int) := by omega
      rw [hi]
      exact ex_nil (hP _ _ _)
  | out c =>
    have hcc : c = 40 ∨ c = 41 := hok
    have g0 : pat[((i0 : Nat) : Int).toNat]? = some 91 := by rw [tn0]; exact hget 0 (by show 0 < 4; decide)
    have g1 : pat[(((i0 : Nat) : Int) + 1).toNat]? = some 33 := by rw [tn1]; exact hget 1 (by show 1 < 4; decide)
    have g2 : pat[(((i0 : Nat) : Int) + 1 + 1).toNat]? = some c := by rw [tn2]; exact hget 2 (by show 2 < 4; decide)
    have g3 : pat[(((i0 : Nat) : Int) + 1 + 1 + 1).toNat]? = some 93 := by rw [tn3]; exact hget 3 (by show 3 < 4; decide)
    have hle' : i0 + 4 ≤ pat.length := hle
    have hb : i0 < 100000 := by omega
    have n93 : ([c] != [93]) = true := by simp; omega
    have n93' : ([c] == [93]) = false := by simp; omega
    have lt1 : decide (((i0 : Nat) : Int) + 1 < ((pat.length : Nat) : Int)) = true := decide_eq_true (by omega)
    have ltj : decide (((i0 : Nat) : Int) + 1 + 1 < ((pat.length : Nat) : Int)) = true := decide_eq_true (by omega)
    have ltn : decide (((i0 : Nat) : Int) + 1 + 1 + 1 < ((pat.length : Nat) : Int)) = true := decide_eq_true (by omega)
    have hpick : pick pat (some (((i0 : Nat) : Int) + 1)) (some (((i0 : Nat) : Int) + 1 + 1 + 1)) = [33, c] := by
      rw [show ((i0 : Nat) : Int) + 1 = ((i0 + 1 : Nat) : Int) by omega, show ((i0 + 1 : Nat) : Int) + 1 + 1 = ((i0 + 3 : Nat) : Int) by omega, pat_pick pat (i0 + 1) (i0 + 3) (by omega) (by omega)]
      have hn : (i0 + 3) - (i0 + 1) = 2 := by omega
      rw [hn]
      rw [tn1] at g1
      rw [tn2] at g2
      rw [List.drop_eq_getElem_cons (show i0 + 1 < pat.length by omega), List.drop_eq_getElem_cons (show i0 + 1 + 1 < pat.length by omega), (List.getElem?_eq_some_iff.mp g1).2, (List.getElem?_eq_some_iff.mp (show pat[i0 + 1 + 1]? = some c from g2)).2]
      rfl
    have hocc : (Builtin.Str.occurrences (S [33, c]) (Str.ofString "\\") 0 (S [33, c]).length ((S [33, c]).length + 1)).isEmpty = true := by
      rcases hcc with rfl | rfl <;> decide +kernel
    have hre : reText [33, c] = true := by
      rcases hcc with rfl | rfl
      · exact re3340
      · exact re3341
    have h45 : (!([33, c] : List Nat).contains 45) = true := by
      rcases hcc with rfl | rfl <;> decide
    walk_at "assign"
    walk_at "assign"
    walk_at "ifF"
    walk_at "ifF"
    walk_at "ifT"
    walk_at "assign"
    refine ex_cons (ex1_ifT (c := decide (((i0 : Nat) : Int) + 1 < ((pat.length : Nat) : Int)) && (([33] == [33]) && true)) (by walk_at "tr") (by rw [lt1]; rfl) ?_)
    change Ex _ _ _ _ _ _
    walk_at "assign"
    walk_at "done"
    refine ex_cons (ex1_ifF (c := decide (((i0 : Nat) : Int) + 1 + 1 < ((pat.length : Nat) : Int)) && (([c] == [93]) && true)) (by walk_at "tr") (by rw [n93']; simp) ?_)
    change Ex _ _ _ _ _ _
    walk_at "done"
    refine ex_cons (ex1_while (fun n V acc => acc = [(ra, ac)] ∧ ((n = 1 ∧ V = vT pat st ra m (((i0 : Nat) : Int) + 1) (some (.d (.str (S [91])))) (some (.d (.int (((i0 : Nat) : Int) + 1 + 1)))) xs) ∨ (n = 0 ∧ V = vT pat st ra m (((i0 : Nat) : Int) + 1) (some (.d (.str (S [91])))) (some (.d (.int (((i0 : Nat) : Int) + 1 + 1 + 1)))) xs))) 1 ⟨rfl, .inl ⟨rfl, rfl⟩⟩ ?_)
    rintro n V1 acc1 ⟨rfl, ⟨rfl, rfl⟩ | ⟨rfl, rfl⟩⟩
    · refine ⟨decide (((i0 : Nat) : Int) + 1 + 1 < ((pat.length : Nat) : Int)) && (([c] != [93]) && true), (by walk_at "tr"), fun _ => ?_, fun z => absurd z (by rw [ltj, n93]; decide)⟩
      walk_at "assign"
      exact ex_nil ⟨0, by decide, rfl, .inr ⟨rfl, rfl⟩⟩
    · refine ⟨decide (((i0 : Nat) : Int) + 1 + 1 + 1 < ((pat.length : Nat) : Int)) && (([93] != [93]) && true), (by walk_at "tr"), fun z => absurd z (by rw [ltn]; decide), fun _ => ?_⟩
      change Ex _ _ _ _ _ _
      refine ex_cons (ex1_ifF (c := decide (((pat.length : Nat) : Int) ≤ ((i0 : Nat) : Int) + 1 + 1 + 1)) (tr_cmp (by walk_at "ev") (by walk_at "ev") cmp_geI (by with_unfolding_all rfl)) (decide_eq_false (by omega)) ?_)
      change Ex _ _ _ _ _ _
      refine ex_cons (ex1_assign (d := .str (S [33, c])) (V' := vT pat st ra m (((i0 : Nat) : Int) + 1) (some (.d (.str (S [91])))) (some (.d (.int (((i0 : Nat) : Int) + 1 + 1 + 1)))) (some (.d (.str (S [33, c]))))) (by rw [← hpick]; walk_at "ev") (by walk_at "set") ?_)
      change Ex _ _ _ _ _ _
      refine ex_cons (ex1_ifT (c := !([33, c] : List Nat).contains 45) (tr_cmp (by walk_at "ev") (by walk_at "ev") cmp_notInC (by with_unfolding_all rfl)) h45 ?_)
      change Ex _ _ _ _ _ _
      refine ex_cons (ex1_assign (d := .str (S [33, c])) (V' := vT pat st ra m (((i0 : Nat) : Int) + 1) (some (.d (.str (S [91])))) (some (.d (.int (((i0 : Nat) : Int) + 1 + 1 + 1)))) (some (.d (.str (S [33, c]))))) (ev_replaceNone hocc (by walk_at "ev") (by intro _; rfl) rfl) (by walk_at "set") ?_)
      change Ex _ _ _ _ _ _
      walk_at "done"
      refine ex_cons (ex1_assign (d := .str (S [33, c])) (V' := vT pat st ra m (((i0 : Nat) : Int) + 1) (some (.d (.str (S [91])))) (some (.d (.int (((i0 : Nat) : Int) + 1 + 1 + 1)))) (some (.d (.str (S [33, c]))))) (ev_reSub (C := Cx.wa ⟨A, env, nT, bad, 1, env.cells⟩ [(ra, ac)]) R ⟨T.code, T.qual⟩ (x := [33, c]) hre (by simp) (by simp) (by walk_at "kind") (by walk_at "ev") hline.symm hcol.symm (by intro _; rfl) (by intro _; rfl) rfl (by intro _; rfl)) (by walk_at "set") ?_)
      change Ex _ _ _ _ _ _
      refine ex_cons (ex1_assign (d := .int (((i0 : Nat) : Int) + 1 + 1 + 1 + 1)) (V' := vT pat st ra m (((i0 : Nat) : Int) + 1 + 1 + 1 + 1) (some (.d (.str (S [91])))) (some (.d (.int (((i0 : Nat) : Int) + 1 + 1 + 1)))) (some (.d (.str (S [33, c]))))) (by walk_at "ev") (by walk_at "set") ?_)
      change Ex _ _ _ _ _ _
      refine ex_cons (ex1_ifF (c := !(!([33, c] : List Nat).isEmpty)) (tr_not (tr_str (ev_name (by walk_at "var")) (by simp) (by intro _ _; rfl))) rfl ?_)
      change Ex _ _ _ _ _ _
      refine ex_cons (ex1_ifF (c := (([33, c] : List Nat) == [33])) (by walk_at "tr") (by simp) ?_)
      change Ex _ _ _ _ _ _
      have gg : ([33, c] : List Nat)[(0 : Int).toNat]? = some 33 := rfl
      have hpk : pick [33, c] (some 1) none = [c] := rfl
      refine ex_cons (ex1_ifT (c := ([33] == [33])) (by walk_at "tr") rfl ?_)
      change Ex _ _ _ _ _ _
      have hz9 : ([33, c] : List Nat).length ≤ 1000000 := by show 2 ≤ 1000000; decide
      have hv9 : ∀ p1 p2 p3 p4 p5 p6 p7, Ev G (Cx.wa ⟨A, env, nT, bad, 1, env.cells⟩ [(ra, ac)]) (vT pat st ra m (((i0 : Nat) : Int) + 1 + 1 + 1 + 1) (some (.d (.str (S [91])))) (some (.d (.int (((i0 : Nat) : Int) + 1 + 1 + 1)))) (some (.d (.str (S [33, c]))))) (.BinOp (.Constant (.str (Str.ofString "^")) p6 p1) .Add (.Subscript (.Name (Str.ofString "stuff") p2) (.Slice (some (.Constant (.int 1) p7 p3)) none none p4) p4) p5) (.str (S ([94] ++ pick [33, c] (some 1) none))) := fun p1 p2 p3 p4 p5 p6 p7 => ev_binop (evc c94) (ev_slc (ev_name (by walk_at "var")) (evP_some ev_int) evP_none (slc_S hz9)) (bin_addT (by show 1 + 1 ≤ 1000000; decide))
      refine ex_cons (ex1_assign (d := .str (S [94, c])) (V' := vT pat st ra m (((i0 : Nat) : Int) + 1 + 1 + 1 + 1) (some (.d (.str (S [91])))) (some (.d (.int (((i0 : Nat) : Int) + 1 + 1 + 1)))) (some (.d (.str (S [94, c]))))) ?vv (by walk_at "set") ?_)
      case vv => exact ev_binop (evc c94) (ev_slc (ev_name (by walk_at "var")) (evP_some ev_int) evP_none (slc_S hz9)) (bin_addT (a := [94]) (by show 1 + 1 ≤ 1000000; decide))
      change Ex _ _ _ _ _ _
      walk_at "done"
      refine ex_cons (ex1_add (m := m) (a := ra) (ds := ac) (d := .str (S ([91] ++ [94, c] ++ [93]))) (acc' := [(ra, ac ++ [.str (S ([91] ++ [94, c] ++ [93]))])]) (by walk_at "var") hm .head (ev_fstr3 c91 c93 (by walk_at "ev") (by simp)) hsz ?_ (by intro _; rfl))
      change Ex _ _ _ _ _ _
      walk_at "done"
      walk_at "done"
      walk_at "done"
      walk_at "done"
      walk_at "done"
      walk_at "done"
      have hi : ((i0 : Nat) : Int) + 1 + 1 + 1 + 1 = ((i0 + 4 : Nat) : Int) := by omega
      rw [hi]
      exact ex_nil (hP _ _ _)
end
section
set_option maxRecDepth 100000
variable {G : TopC} {C : Cx} {V : List (Option VV)} {acc : Acc}

/-- the lambda's place, the name of its def -/
structure LamOk (G : TopC) : Prop where
  line : G.line = 113
  col : G.col = 39
  qual : (Str.ofString "_translate" ++ ".<locals>.") ++ "<lambda>" = G.qual

theorem tr_loop {fe : Addr} (He : DefAt G (Str.ofString "escape") 11 fe) (B : BltOk G) (R : ReOk G) (Lm : LamOk G) (ps : List Pc) (hps : ∀ p ∈ ps, OkP p) (hz : ps.length ≤ 100) {st ra m : Addr} (hm : G.hT.get? m = some (appObj ra))
    {A : Around} {env : Env} {bad : Addr → Prop} (hk : ∀ x, env.kindOf x = (pScope 13).names.lookup x) (T : InT G ⟨A, env, nT, bad, 1, env.cells⟩) :
    Ex G ⟨A, env, nT, bad, 1, env.cells⟩ [some (.d (.str (S (ps.flatMap patP)))), some (.v (.ref st)), some (.d (.str (S [46]))), some (.v (.ref ra)), some (.v (.ref m)), none, none, none, none, none, none, none, none] [(ra, [])] ((pBody 13).drop 2) (fun o _ _ => o = .ret (.list (sL (ps.map txtP)))) := by
  have hplen := pat_len ps
  have lenP : ∀ (C : Cx) (V : List (Option VV)), C.env.kindOf (Str.ofString "len") = some .globalImplicit → VarIx C.N V (Str.ofString "pat") (.d (.str (S (ps.flatMap patP)))) → ∀ p1 p2 p3, Ev G C V (.Call (.Name (Str.ofString "len") p1) [.Name (Str.ofString "pat") p2] [] p3) (.int ((ps.flatMap patP).length : Nat)) := fun C V hk hv p1 p2 p3 =>
    ev_lenS (fp := p1) (pos := p3) hk B.len.1 B.len.2 (ev_name (G := G) (pos := p2) hv) (by omega) (by intro _; rfl)
  refine ex_cons (ex1_unpackD (d1 := .int 0) (d2 := .int ((ps.flatMap patP).length : Nat)) (V1 := [some (.d (.str (S (ps.flatMap patP)))), some (.v (.ref st)), some (.d (.str (S [46]))), some (.v (.ref ra)), some (.v (.ref m)), none, some (.d (.int ((ps.flatMap patP).length : Nat))), none, none, none, none, none, none]) (V2 := vT (ps.flatMap patP) st ra m 0 none none none)
    ev_int (lenP _ _ (by walk_at "kind") (by walk_at "var") _ _ _) (by walk_at "set") (by walk_at "set") ?_ (by walk_at "kind") (by walk_at "kind") rfl (by decide) rfl rfl (by with_unfolding_all rfl) (by with_unfolding_all rfl) rfl (by intro _; rfl) (by intro _; rfl) (by intro _; rfl))
  change Ex _ _ _ _ _ _
  refine ex_cons (ex1_while (jT ps st ra m) ps.length ⟨0, none, none, none, Nat.zero_le _, rfl, rfl, rfl⟩ ?_)
  rintro n V1 acc1 ⟨k, xc, xj, xs, hk9, rfl, rfl, rfl⟩
  cases hp : ps[k]? with
  | some p =>
    have hkl := (List.getElem?_eq_some_iff.mp hp).1
    have hle : ((ps.take k).flatMap patP).length + (patP p).length ≤ (ps.flatMap patP).length := by
      rw [pat_split ps k p hp]; simp only [List.length_append]; omega
    have hd : decide ((((ps.take k).flatMap patP).length : Int) < ((ps.flatMap patP).length : Int)) = true := by
      have := (patP_len p).1
      exact decide_eq_true (by omega)
    refine ⟨true, (by rw [← hd]; walk_at "tr"), fun _ => ?_, fun z => nomatch z⟩
    refine tr_turn (o := []) He B R ps hps hz hm hk T Lm.line Lm.col k p hp xc xj xs _ (fun xc xj xs => ?_) rfl
    exact ⟨ps.length - (k + 1), by omega, k + 1, xc, xj, xs, hkl, rfl, rfl, rfl⟩
  | none =>
    have hkl : k = ps.length := by have := List.getElem?_eq_none_iff.mp hp; omega
    subst hkl
    rw [List.take_length]
    have hd : decide (((ps.flatMap patP).length : Int) < ((ps.flatMap patP).length : Int)) = false := by simp
    refine ⟨false, (by rw [← hd]; walk_at "tr"), (fun z => nomatch z), fun _ => ?_⟩
    change Ex _ _ _ _ _ _
    have he : (((ps.flatMap patP).length : Int) == ((ps.flatMap patP).length : Int)) = true := by simp
    refine ex_cons (ex1_assert (by rw [← he]; walk_at "tr") ?_)
    change Ex _ _ _ _ _ _
    exact ex_cons (ex1_retAcc (ds := sL (ps.map txtP)) (by walk_at "var") (.head _) rfl)
theorem translateI_ok {fa fe : Addr} {pm doc : Value} (H : FnIs G (Str.ofString "_translate") fa (docDef (Str.ofString "_translate") (pArgs 13) (pBody 13) (pScope 13) pm (.ref G.pc) doc)) (He : DefAt G (Str.ofString "escape") 11 fe) (B : BltOk G) (R : ReOk G) (Lm : LamOk G) (ps : List Pc) (hps : ∀ p ∈ ps, OkP p) (hz : ps.length ≤ 100) (st : Addr) :
    FnV G fa 2 [.d (.str (S (ps.flatMap patP))), .v (.ref st), .d (.str (S [46]))] (.list (sL (ps.map txtP))) := by
  refine fnV_at (N := nT) (xs := [Str.ofString "pat", Str.ofString "STAR", Str.ofString "QUESTION_MARK"]) (V0 := [some (.d (.str (S (ps.flatMap patP)))), some (.v (.ref st)), some (.d (.str (S [46]))), none, none, none, none, none, none, none, none, none, none]) (ys := [Str.ofString "res", Str.ofString "add", Str.ofString "i", Str.ofString "n", Str.ofString "c", Str.ofString "j", Str.ofString "stuff", Str.ofString "chunks", Str.ofString "k", Str.ofString "chunk"]) H (by walk_at "def") rfl ?_ rfl rfl ?_
  · intro vs h
    obtain ⟨a, b, c, rfl⟩ := len3 h
    rfl
  intro A env bad hk hd hcq
  refine ex_cons (ex1_acc (fun ra => ⟨[some (.d (.str (S (ps.flatMap patP)))), some (.v (.ref st)), some (.d (.str (S [46]))), some (.v (.ref ra)), none, none, none, none, none, none, none, none, none], by walk_at "set", ?_⟩) rfl (by intro _; rfl))
  change Ex _ _ _ _ _ _
  refine ex_addAppend (a := ra) (ds := []) R.tabT (by walk_at "var") (.head _) (fun H m k1 k2 k3 => ⟨[some (.d (.str (S (ps.flatMap patP)))), some (.v (.ref st)), some (.d (.str (S [46]))), some (.v (.ref ra)), some (.v (.ref m)), none, none, none, none, none, none, none, none], by walk_at "set", ?_⟩) rfl (by intro _; rfl)
  exact tr_loop (G := G.gh H) (He.gh k1) (B.gh H) (R.gh k1 k2) ⟨Lm.line, Lm.col, Lm.qual⟩ ps hps hz k3 hk ⟨hcq.1, by show env.qual ++ _ = _; rw [hcq.2]; exact Lm.qual⟩
theorem translate_ok {fa fi fj fe : Addr} {pm doc : Value} (H : DefAt G (Str.ofString "translate") 8 fa) (Hi : FnIs G (Str.ofString "_translate") fi (docDef (Str.ofString "_translate") (pArgs 13) (pBody 13) (pScope 13) pm (.ref G.pc) doc)) (Hj : DefAt G (Str.ofString "_join_translated_parts") 14 fj) (He : DefAt G (Str.ofString "escape") 11 fe) (B : BltOk G) (R : ReOk G) (Lm : LamOk G) (ps : List Pc) (hps : ∀ p ∈ ps, OkP p) (hz : ps.length ≤ 100) :
    Fn G fa 3 [.str (S (ps.flatMap patP))] (.str (S (txtOf ps))) := by
  refine fn_at (N := [Str.ofString "pat", Str.ofString "STAR", Str.ofString "parts"]) (xs := [Str.ofString "pat"]) (V0 := [some (.d (.str (S (ps.flatMap patP)))), none, none]) (ys := [Str.ofString "STAR", Str.ofString "parts"]) H ?_ rfl ?_ rfl rfl ?_
  · walk_at "def"
  · intro pm code doc vs h
    obtain ⟨a, rfl⟩ := len1 h
    rfl
  intro A env bad hk
  refine ex_cons (ex1_assignObj B rfl (by walk_at "kind") (fun st => ⟨[some (.d (.str (S (ps.flatMap patP)))), some (.v (.ref st)), none], by walk_at "set", ?_⟩) rfl (by intro _; rfl))
  change Ex _ _ _ _ _ _
  refine ex_cons (ex1_assign (d := .list (sL (ps.map txtP))) (V' := [some (.d (.str (S (ps.flatMap patP)))), some (.v (.ref st)), some (.d (.list (sL (ps.map txtP))))]) ?e1 (by walk_at "set") ?_)
  case e1 => exact ev_callV Hi (by walk_at "kind") (evLV_d (ev_name (by walk_at "var")) (evLV_v (evV_name (by walk_at "var")) (evLV_d (evc c46) evLV_nil (by intro _; rfl)) (by intro _; rfl)) (by intro _; rfl)) (translateI_ok Hi He B R Lm ps hps hz st) (Nat.le_refl _) (by decide) (by intro _; rfl)
  change Ex _ _ _ _ _ _
  obtain ⟨pmj, codej, docj, Hj'⟩ := id Hj
  have hfl : (ps.map txtP).flatten = ps.flatMap txtP := by rw [List.flatMap_def]
  have hfz : (ps.map txtP).flatten.length ≤ 1000 := by rw [hfl]; have := flat_len ps; omega
  have F := join_ok Hj B R.tabT (ps.map txtP) (by rw [List.length_map]; omega) hfz st
  rw [hfl] at F
  refine ex_cons ?_
  refine' ex1_ret (d := .str (S (txtOf ps))) ?e2 rfl
  exact ev_callV Hj' (by walk_at "kind") (evLV_d (ev_name (by walk_at "var")) (evLV_v (evV_name (by walk_at "var")) evLV_nil (by intro _; rfl)) (by intro _; rfl)) F (by show 1 ≤ 2; decide) (by decide) (by intro _; rfl)
end
section
/-! the plain law of two rows -/
noncomputable def strictB (a : List Int) : Bool := (List.range a.length).all fun i => match a[i]?, a[i + 1]? with | some x, some y => y != x | _, _ => true
theorem strict_of {a : List Int} (h : strictB a = true) : Strict a := fun i x y hx hy => by
  have hi := (List.getElem?_eq_some_iff.mp hx).1
  have := List.all_eq_true.mp h i (List.mem_range.mpr hi)
  rw [hx, hy] at this
  simpa using this
noncomputable def partsB (a b : List Int) : Bool := match a, b with | [], [] => true | x :: _, y :: _ => x != y | _, _ => false
theorem parts_of {a b : List Int} (h : partsB a b = true) : Parts a b := by
  match a, b with
  | [], [] => exact .inl ⟨rfl, rfl⟩
  | [], _ :: _ => cases h
  | _ :: _, [] => cases h
  | x :: a, y :: b => exact .inr ⟨x, y, a, b, rfl, rfl, by simpa [partsB] using h⟩
noncomputable def way (p q : Bool) : Int := (if p then 1 else 0) - (if q then 1 else 0)
noncomputable def pairOk (a b : List Nat) : Bool :=
  strictB (rPlaces a) && (sld (rPlaces a) (rPlaces b) ((rPlaces a).length + (rPlaces b).length + 1) 0 0 [] [] == (rTold a b, rTold b a)) &&
  partsB (rTold a b) (rTold b a) && (way (decide (b < a)) (decide (a < b)) == rFirst a b) && (way (lexLt (rTold b a) (rTold a b)) (lexLt (rTold a b) (rTold b a)) == rFirst a b) && (rFirst a b == - rFirst b a) && decide ((rPlaces a).length ≤ 100)
set_option maxRecDepth 100000 in
theorem pairs_all : (rClosed.all fun a => rClosed.all fun b => pairOk a b) = true := by decide +kernel
theorem pair_ok {a b : List Nat} (ha : a ∈ rClosed) (hb : b ∈ rClosed) : pairOk a b = true := List.all_eq_true.mp (List.all_eq_true.mp pairs_all a ha) b hb
theorem exch_ok {a b : List Nat} (ha : a ∈ rClosed) (hb : b ∈ rClosed) : exch a b = true := List.all_eq_true.mp (List.all_eq_true.mp exch_all a ha) b hb
/-- all changed rows are rows of eight -/
noncomputable def chRow (a b : List Nat) : Bool := (rTold a b).all fun i => (rTold b a).all fun j => (rChanged a i j).length == 8 && (rChanged a i j).all (fun c => c == 40 || c == 41) && (rChanged b j i).length == 8 && (rChanged b j i).all (fun c => c == 40 || c == 41)
set_option maxRecDepth 100000 in
theorem ch_all : (rClosed.all fun a => rClosed.all fun b => chRow a b) = true := by decide +kernel
theorem ch_ok {a b : List Nat} (ha : a ∈ rClosed) (hb : b ∈ rClosed) : ∀ i ∈ rTold a b, ∀ j ∈ rTold b a, Row8 (rChanged a i j) ∧ Row8 (rChanged b j i) := fun i hi j hj => by
  have h := List.all_eq_true.mp (List.all_eq_true.mp (List.all_eq_true.mp (List.all_eq_true.mp ch_all a ha) b hb) i hi) j hj
  simp only [Bool.and_eq_true, beq_iff_eq, List.all_eq_true, Bool.or_eq_true] at h
  exact ⟨⟨h.1.1.1, h.1.1.2⟩, ⟨h.1.2, h.2⟩⟩
end
section
/-! the listing -/
theorem heads_ok {row : List Nat} (hr : Row8 row) (kept : List Int) : ∀ m, m ≤ 6 → ∀ h ∈ rHeads row kept m, h.length = m + 1 ∧ (∀ c ∈ h, c = 40 ∨ c = 41) ∧ h.getD 0 0 = 40 ∧ ∀ k : Nat, 1 ≤ k → k ≤ m → kept.contains (k : Int) = true → h.getD k 0 = row.getD k 0
  | 0, _ => by
    intro h hh
    cases List.mem_singleton.mp hh
    exact ⟨rfl, by simp, rfl, fun k h1 h2 _ => by omega⟩
  | m + 1, hm => by
    intro h hh
    unfold rHeads at hh
    obtain ⟨a, ha, hb⟩ := List.mem_flatMap.mp hh
    obtain ⟨c, hc, rfl⟩ := List.mem_map.mp hb
    obtain ⟨h1, h2, h3, h4⟩ := heads_ok hr kept m (by omega) a ha
    have hcc : c = 40 ∨ c = 41 := by
      unfold rSigns at hc
      split at hc
      · cases List.mem_singleton.mp hc
        exact hr.get (by omega)
      · simpa using hc
    refine ⟨by simp [h1], fun d hd => ?_, ?_, fun k hk1 hk2 hk => ?_⟩
    · rcases List.mem_append.mp hd with hd | hd
      · exact h2 d hd
      · cases List.mem_singleton.mp hd; exact hcc
    · rw [List.getD, List.getElem?_append_left (by omega)]; exact h3
    · by_cases he : k = m + 1
      · subst he
        have hx : (a ++ [c]).getD (m + 1) 0 = c := by
          rw [List.getD, List.getElem?_append_right (by omega), h1]; simp
        rw [hx]
        unfold rSigns at hc
        rw [Nat.add_comm 1 m, if_pos hk] at hc
        exact List.mem_singleton.mp hc
      · rw [List.getD, List.getElem?_append_left (by omega)]
        exact h4 k hk1 (by omega) hk
theorem listing_ok {row : List Nat} (hr : Row8 row) (h0 : row.getD 0 0 = 40) (h7 : row.getD 7 0 = 41) (kept : List Int) : ∀ r ∈ rListing row kept, Row8 r ∧ r.getD 0 0 = 40 ∧ r.getD 7 0 = 41 ∧ ∀ k : Nat, k < 8 → kept.contains (k : Int) = true → r.getD k 0 = row.getD k 0 := by
  intro r hm
  obtain ⟨h, hh, rfl⟩ := List.mem_map.mp hm
  obtain ⟨a1, a2, a3, a4⟩ := heads_ok hr kept 6 (Nat.le_refl _) h hh
  have e7 : (h ++ [41]).getD 7 0 = 41 := by rw [List.getD, List.getElem?_append_right (by omega), a1]; rfl
  have el : ∀ k, k < 7 → (h ++ [41]).getD k 0 = h.getD k 0 := fun k hk => by
    rw [List.getD, List.getElem?_append_left (by omega)]; rfl
  refine ⟨⟨by simp [a1], fun d hd => ?_⟩, by rw [el 0 (by decide)]; exact a3, e7, fun k hk hc => ?_⟩
  · rcases List.mem_append.mp hd with hd | hd
    · exact a2 d hd
    · exact .inr (List.mem_singleton.mp hd)
  · by_cases k0 : k = 0
    · subst k0; rw [el 0 (by decide), a3, h0]
    · by_cases k7 : k = 7
      · subst k7; rw [e7, h7]
      · rw [el k (by omega)]; exact a4 k (by omega) (by omega) hc
theorem listing_len (row : List Nat) (kept : List Int) : (rListing row kept).length ≤ 64 := by
  rw [rListing, List.length_map]; exact rHeads_len row kept 6
theorem takes_of {row r : List Nat} (h : Row8 row) (hr : Row8 r) (kept : List Int) (kind : Int) (hk : ∀ k : Nat, k < 8 → kept.contains (k : Int) = true → r.getD k 0 = row.getD k 0) : rTakes ((psOf row kept kind).map itemP) r = true := by
  unfold rTakes
  rw [List.all_eq_true]
  intro k hk8
  have h8 := List.mem_range.mp hk8
  rw [items_tk h hr kept kind h8]
  cases hc : kept.contains (k : Int) with
  | false => rfl
  | true => rw [hk k h8 hc]; simp
theorem takes_not {row r : List Nat} (h : Row8 row) (hr : Row8 r) (kept : List Int) (kind : Int) {k : Nat} (h8 : k < 8) (hc : kept.contains (k : Int) = true) (hne : r.getD k 0 ≠ row.getD k 0) : rTakes ((psOf row kept kind).map itemP) r = false := by
  unfold rTakes
  rw [List.all_eq_false]
  refine ⟨k, List.mem_range.mpr h8, ?_⟩
  rw [items_tk h hr kept kind h8, hc]
  simpa using hne
theorem turnC_ne {c : Nat} (h : c = 40 ∨ c = 41) : turnC c ≠ c ∧ (turnC c = 40 ∨ turnC c = 41) := by
  rcases h with rfl | rfl <;> decide
theorem turn1_eq (r : List Nat) (n : Nat) (hn : n < r.length) : rTurn1 r (n : Int) = r.take n ++ [turnC (r.getD n 0)] ++ r.drop (n + 1) := by
  unfold rTurn1
  have e1 : pick r none (some (n : Int)) = r.take n := by
    unfold pick
    have e1 : PySem.W.kms_lo none r.length = 0 := rfl
    have e2 : PySem.W.kms_hi (some (n : Int)) r.length = n := by unfold PySem.W.kms_hi; dsimp only; rw [if_neg (by omega)]; simp; omega
    rw [e1, e2]; simp
  have e2 : pick r (some ((n : Int) + 1)) none = r.drop (n + 1) := by
    rw [show (n : Int) + 1 = ((n + 1 : Nat) : Int) by omega]
    exact pick_drop r (n + 1) (by omega)
  rw [e1, e2]; simp
theorem turn1_ok {r : List Nat} (hr : Row8 r) {n : Nat} (hn : n < 8) : Row8 (rTurn1 r (n : Int)) ∧ (rTurn1 r (n : Int)).getD n 0 = turnC (r.getD n 0) := by
  have hl : n < r.length := by rw [hr.1]; exact hn
  rw [turn1_eq r n hl]
  have ht : (r.take n).length = n := by rw [List.length_take]; omega
  refine ⟨⟨?_, fun c hc => ?_⟩, ?_⟩
  · simp only [List.length_append, List.length_take, List.length_drop, List.length_cons, List.length_nil]
    have := hr.1; omega
  · rcases List.mem_append.mp hc with hc | hc
    · rcases List.mem_append.mp hc with hc | hc
      · exact hr.2 c (List.mem_of_mem_take hc)
      · cases List.mem_singleton.mp hc
        exact (turnC_ne (hr.get hn)).2
    · exact hr.2 c (List.mem_of_mem_drop hc)
  · rw [List.getD, List.append_assoc, List.getElem?_append_right (by omega), ht]
    simp
/-- the changed rows stay -/
theorem stay_ok {a b : List Nat} (ha : a ∈ rClosed) (hb : b ∈ rClosed) (kept : List Int) (kind : Int) {hid : List Nat} (hh : hid ∈ hids) {p : Nat} (hp : p < 9) (hk : ∀ k : Nat, k < 8 → kept.contains (k : Int) = true → b.getD k 0 = a.getD k 0) :
    ∀ i ∈ rTold a b, ∃ j ∈ rTold b a, rStay (rChanged a i j) (rChanged b j i) ((psOf a kept kind).map itemP) hid (p : Int) = true := by
  intro i hi
  have h := List.all_eq_true.mp (exch_ok ha hb) i hi
  obtain ⟨j, hj, hx⟩ := List.any_eq_true.mp h
  simp only [Bool.and_eq_true] at hx
  obtain ⟨⟨⟨c0, c1⟩, g0⟩, g1⟩ := hx
  obtain ⟨r0, r1⟩ := ch_ok ha hb i hi j hj
  have m0 : rChanged a i j ∈ rClosed := by simpa using c0
  have m1 : rChanged b j i ∈ rClosed := by simpa using c1
  have k0 : rChk (rWr hid (p : Int) (rChanged a i j)) = true := by rw [chk_row hh hp r0 (closed8 _ m0).2.1 (closed8 _ m0).2.2]; exact c0
  have k1 : rChk (rWr hid (p : Int) (rChanged b j i)) = true := by rw [chk_row hh hp r1 (closed8 _ m1).2.1 (closed8 _ m1).2.2]; exact c1
  have ra := (closed8 a ha).1
  have ag : ∀ x, agree a b x = true → ∀ k : Nat, k < 8 → kept.contains (k : Int) = true → x.getD k 0 = a.getD k 0 := fun x hx k h8 hc => by
    have := List.all_eq_true.mp hx k (List.mem_range.mpr h8)
    rw [hk k h8 hc] at this
    simpa using this
  refine ⟨j, hj, ?_⟩
  unfold rStay
  have e : rPre [rWr hid (p : Int) (rChanged a i j), rWr hid (p : Int) (rChanged b j i)] = [rWr hid (p : Int) (rChanged a i j), rWr hid (p : Int) (rChanged b j i)] := by
    simp [rPre, k0, k1]
  rw [e]
  simp only [bne_self_eq_false, Bool.false_eq_true, if_false, Bool.and_eq_true]
  exact ⟨takes_of ra r0 kept kind (ag _ g0), takes_of ra r1 kept kind (ag _ g1)⟩
end
section
variable {G : TopC} {C : Cx} {V : List (Option VV)} {acc : Acc}

/-- a slice with a step -/
noncomputable def stepPick {α : Type} (l : List α) (lo hi st : Option Int) : List α := (sliceRange (sliceBounds lo hi st l.length).1 (sliceBounds lo hi st l.length).2.1 (sliceBounds lo hi st l.length).2.2).filterMap (l[·]?)
theorem stepPick_map {α β : Type} (f : α → β) (l : List α) (lo hi st : Option Int) : stepPick (l.map f) lo hi st = (stepPick l lo hi st).map f := by
  unfold stepPick
  rw [List.length_map, List.map_filterMap]
  congr 1
  funext i
  rw [List.getElem?_map]
theorem rdAll_fm {bad : Addr → Prop} {h : Heap} {vs : List Value} {ds : List PyData} (r : RdAll bad h vs ds) : ∀ is : List Nat, RdAll bad h (is.filterMap (vs[·]?)) (is.filterMap (ds[·]?))
  | [] => .nil
  | i :: is => by
    have ih := rdAll_fm r is
    cases hd : ds[i]? with
    | none =>
      have : vs[i]? = none := by rw [List.getElem?_eq_none_iff] at hd ⊢; rw [r.length]; exact hd
      rw [List.filterMap_cons_none this, List.filterMap_cons_none hd]; exact ih
    | some d =>
      obtain ⟨v, hv, rv⟩ := r.get hd
      rw [List.filterMap_cons_some hv, List.filterMap_cons_some hd]
      exact .cons rv ih
theorem ev_stepL {v st : Expr} {lo hi : Option Expr} {p pos : Pos} {l : List PyData} {a b : Option Int} {k : Int} (x : Ev G C V v (.list l)) (y : EvP G C V lo a) (z : EvP G C V hi b) (w : Ev G C V st (.int k)) (hk : k ≠ 0) (hz : l.length ≤ sizeLine) :
    Ev G C V (.Subscript v (.Slice lo hi (some st) p) pos) (.list (stepPick l a b (some k))) := fun s Q E q h =>
  Subscript_ (x s _ E q fun u s1 k1 r1 => wpAny_Slice (evP_wp y (q.keeps k1) fun vl s2 k2 p2 => evP_wp z ((q.keeps k1).keeps k2) fun vu s3 k3 p3 => w s3 _ E (((q.keeps k1).keeps k2).keeps k3) fun vt s4 k4 r4 => (by
    obtain ⟨tt, rfl⟩ := r4.int_inv
    have kk := (((k1.trans k2).trans k3).trans k4).trans (Kp.of_push G s4.toks { cls := .type "slice", data := .fields #[vl, vu, .int k tt] })
    have r2 := r1.sim ((((k2.trans k3).trans k4).trans (Kp.of_push G s4.toks { cls := .type "slice", data := .fields #[vl, vu, .int k tt] })).heap)
    obtain ⟨D, vs, rfl, hl, hb, r⟩ := r2.list_inv
    have q' := q.keeps kk
    refine tail_any hl.typeIs slot_list_getitem.lookup (wpAny_getItem_list_slice hl (lo := a) (hi := b) (st := some k) ⟨_, Heap.get?_push_size _ rfl, rfl, rfl⟩ p2 p3 (.int _ _) (by simpa using hk) ?_ (by rw [List.size_toArray, r.length]; exact hz)) (ops := [.ref D, .ref s4.heap.objs.size]) (by rfl)
    refine h _ _ (kk.trans (Kp.of_push G _ _)) ?_
    have e : slicePick vs.toArray a b (some k) = (stepPick vs a b (some k)).toArray := by
      unfold slicePick stepPick
      rw [List.size_toArray]
      congr 2
      funext i
      exact List.getElem?_toArray ..
    rw [e]
    refine .list (push_lst _ _) (q'.new (get_size _)) ((?_ : RdAll C.bad _ (stepPick vs a b (some k)) (stepPick l a b (some k))).sim (.of_keeps fun _ _ e => Heap.get?_push_of_some _ e))
    unfold stepPick
    rw [r.length]
    exact rdAll_fm r _)))
theorem ev_stepI {v st : Expr} {lo hi : Option Expr} {p pos : Pos} {l : List Int} {a b : Option Int} {k : Int} (x : Ev G C V v (.list (iL l))) (y : EvP G C V lo a) (z : EvP G C V hi b) (w : Ev G C V st (.int k)) (hk : k ≠ 0) (hz : l.length ≤ sizeLine) :
    Ev G C V (.Subscript v (.Slice lo hi (some st) p) pos) (.list (iL (stepPick l a b (some k)))) := by
  have := ev_stepL (p := p) (pos := pos) x y z w hk (by rw [iL, List.length_map]; exact hz)
  rw [iL, stepPick_map] at this
  exact this

/-! the plain law at the top -/
noncomputable def Kp8 (kept : List Int) : Prop := kept ≠ [] ∧ kept.length ≤ 100 ∧ Kept kept
theorem hids_asc : ∀ hid ∈ hids, Asc hid ∧ hid.length ≤ 10 := by
  have : hids.all (fun h => h.all (fun c => decide (c < 128)) && decide (h.length ≤ 10)) = true := by decide +kernel
  intro hid hh
  have h := List.all_eq_true.mp this hid hh
  simp only [Bool.and_eq_true, List.all_eq_true, decide_eq_true_eq] at h
  exact h
section
variable {drawn : List Nat} (hd : drawn ∈ rClosed) {kept : List Int} (hk : Kp8 kept) (kind : Int)
include hd
theorem lst_ok : ∀ r ∈ rListing drawn kept, Row8 r ∧ r.getD 0 0 = 40 ∧ r.getD 7 0 = 41 ∧ ∀ k : Nat, k < 8 → kept.contains (k : Int) = true → r.getD k 0 = drawn.getD k 0 :=
  have c := closed8 _ hd
  listing_ok c.1 c.2.1 c.2.2 kept
theorem all_take : ∀ r ∈ rListing drawn kept, rTakes ((psOf drawn kept kind).map itemP) r = true := fun r hr =>
  have o := lst_ok hd r hr
  takes_of (closed8 _ hd).1 o.1 kept kind o.2.2.2
include hk
theorem no_turned : ∀ r ∈ rTurned (rListing drawn kept) kept, Row8 r ∧ rTakes ((psOf drawn kept kind).map itemP) r = false := by
  intro r hr
  obtain ⟨k, hk1, rfl⟩ := List.mem_map.mp hr
  have hk2 := List.mem_range.mp hk1
  have hm : (rListing drawn kept).getD k [] ∈ rListing drawn kept := by
    rw [List.getD_eq_getElem?_getD, List.getElem?_eq_getElem hk2]; exact List.getElem_mem _
  have o := lst_ok hd _ hm
  have hl : k % kept.length < kept.length := Nat.mod_lt _ (List.length_pos_iff.mpr hk.1)
  have hc : kept.getD (k % kept.length) 0 ∈ kept := by
    rw [List.getD_eq_getElem?_getD, List.getElem?_eq_getElem hl]; exact List.getElem_mem _
  obtain ⟨b1, b2⟩ := hk.2.2 _ hc
  unfold rTurnAt
  generalize kept.getD (k % kept.length) 0 = x at hc b1 b2
  obtain ⟨n, rfl⟩ := Int.eq_ofNat_of_zero_le b1
  have hn : n < 8 := by omega
  have hcc : kept.contains (n : Int) = true := by simpa using hc
  obtain ⟨t1, t2⟩ := turn1_ok o.1 hn
  refine ⟨t1, takes_not (closed8 _ hd).1 t1 kept kind hn hcc ?_⟩
  rw [t2]
  have e := o.2.2.2 n hn hcc
  rw [← e]
  exact (turnC_ne (o.1.get hn)).1
end
end
section
variable {G : TopC} {C : Cx} {V : List (Option VV)} {acc : Acc}

/-- the program's defs, each at its place -/
structure Defs (G : TopC) : Prop where
  x2 : ∃ a, DefAt G (Str.ofString "_iter_escaped_chars") 2 a
  x3 : ∃ a, DefAt G (Str.ofString "_strip_quoted_realnames") 3 a
  x4 : ∃ a, DefAt G (Str.ofString "_check_parenthesis") 4 a
  x5 : ∃ a, DefAt G (Str.ofString "_pre_parse_validation") 5 a
  x8 : ∃ a, DefAt G (Str.ofString "translate") 8 a
  x11 : ∃ a, DefAt G (Str.ofString "escape") 11 a
  x14 : ∃ a, DefAt G (Str.ofString "_join_translated_parts") 14 a
  x16 : ∃ a, DefAt G (Str.ofString "sorted_list_difference") 16 a
  x17 : ∃ a, DefAt G (Str.ofString "unorderable_list_difference") 17 a
  x18 : ∃ a, DefAt G (Str.ofString "three_way_cmp") 18 a
  x20 : ∃ a, DefAt G (Str.ofString "_law_closed") 20 a
  x21 : ∃ a, DefAt G (Str.ofString "_law_listing") 21 a
  x22 : ∃ a, DefAt G (Str.ofString "_law_turned") 22 a
  x23 : ∃ a, DefAt G (Str.ofString "_law_cell") 23 a
  x24 : ∃ a, DefAt G (Str.ofString "_law_pattern") 24 a
  x25 : ∃ a, DefAt G (Str.ofString "_law_item") 25 a
  x26 : ∃ a, DefAt G (Str.ofString "_law_read") 26 a
  x27 : ∃ a, DefAt G (Str.ofString "_law_takes") 27 a
  x28 : ∃ a, DefAt G (Str.ofString "_law_places") 28 a
  x29 : ∃ a, DefAt G (Str.ofString "_law_changed") 29 a
  x30 : ∃ a, DefAt G (Str.ofString "_law_way") 30 a
  x31 : ∃ a, DefAt G (Str.ofString "_law_stay") 31 a
  x32 : ∃ a, DefAt G (Str.ofString "_law_first") 32 a
  x33 : ∃ a, DefAt G (Str.ofString "_law_two") 33 a
  x34 : ∃ a, DefAt G (Str.ofString "_law_left") 34 a
  x13 : ∃ a pm doc, FnIs G (Str.ofString "_translate") a (docDef (Str.ofString "_translate") (pArgs 13) (pBody 13) (pScope 13) pm (.ref G.pc) doc)
noncomputable def Defs.a2 (D : Defs G) : Addr := D.x2.choose
theorem Defs.h2 (D : Defs G) : DefAt G (Str.ofString "_iter_escaped_chars") 2 D.a2 := D.x2.choose_spec
noncomputable def Defs.a3 (D : Defs G) : Addr := D.x3.choose
theorem Defs.h3 (D : Defs G) : DefAt G (Str.ofString "_strip_quoted_realnames") 3 D.a3 := D.x3.choose_spec
noncomputable def Defs.a4 (D : Defs G) : Addr := D.x4.choose
theorem Defs.h4 (D : Defs G) : DefAt G (Str.ofString "_check_parenthesis") 4 D.a4 := D.x4.choose_spec
noncomputable def Defs.a5 (D : Defs G) : Addr := D.x5.choose
theorem Defs.h5 (D : Defs G) : DefAt G (Str.ofString "_pre_parse_validation") 5 D.a5 := D.x5.choose_spec
noncomputable def Defs.a8 (D : Defs G) : Addr := D.x8.choose
theorem Defs.h8 (D : Defs G) : DefAt G (Str.ofString "translate") 8 D.a8 := D.x8.choose_spec
noncomputable def Defs.a11 (D : Defs G) : Addr := D.x11.choose
theorem Defs.h11 (D : Defs G) : DefAt G (Str.ofString "escape") 11 D.a11 := D.x11.choose_spec
noncomputable def Defs.a14 (D : Defs G) : Addr := D.x14.choose
theorem Defs.h14 (D : Defs G) : DefAt G (Str.ofString "_join_translated_parts") 14 D.a14 := D.x14.choose_spec
noncomputable def Defs.a16 (D : Defs G) : Addr := D.x16.choose
theorem Defs.h16 (D : Defs G) : DefAt G (Str.ofString "sorted_list_difference") 16 D.a16 := D.x16.choose_spec
noncomputable def Defs.a17 (D : Defs G) : Addr := D.x17.choose
theorem Defs.h17 (D : Defs G) : DefAt G (Str.ofString "unorderable_list_difference") 17 D.a17 := D.x17.choose_spec
noncomputable def Defs.a18 (D : Defs G) : Addr := D.x18.choose
theorem Defs.h18 (D : Defs G) : DefAt G (Str.ofString "three_way_cmp") 18 D.a18 := D.x18.choose_spec
noncomputable def Defs.a20 (D : Defs G) : Addr := D.x20.choose
theorem Defs.h20 (D : Defs G) : DefAt G (Str.ofString "_law_closed") 20 D.a20 := D.x20.choose_spec
noncomputable def Defs.a21 (D : Defs G) : Addr := D.x21.choose
theorem Defs.h21 (D : Defs G) : DefAt G (Str.ofString "_law_listing") 21 D.a21 := D.x21.choose_spec
noncomputable def Defs.a22 (D : Defs G) : Addr := D.x22.choose
theorem Defs.h22 (D : Defs G) : DefAt G (Str.ofString "_law_turned") 22 D.a22 := D.x22.choose_spec
noncomputable def Defs.a23 (D : Defs G) : Addr := D.x23.choose
theorem Defs.h23 (D : Defs G) : DefAt G (Str.ofString "_law_cell") 23 D.a23 := D.x23.choose_spec
noncomputable def Defs.a24 (D : Defs G) : Addr := D.x24.choose
theorem Defs.h24 (D : Defs G) : DefAt G (Str.ofString "_law_pattern") 24 D.a24 := D.x24.choose_spec
noncomputable def Defs.a25 (D : Defs G) : Addr := D.x25.choose
theorem Defs.h25 (D : Defs G) : DefAt G (Str.ofString "_law_item") 25 D.a25 := D.x25.choose_spec
noncomputable def Defs.a26 (D : Defs G) : Addr := D.x26.choose
theorem Defs.h26 (D : Defs G) : DefAt G (Str.ofString "_law_read") 26 D.a26 := D.x26.choose_spec
noncomputable def Defs.a27 (D : Defs G) : Addr := D.x27.choose
theorem Defs.h27 (D : Defs G) : DefAt G (Str.ofString "_law_takes") 27 D.a27 := D.x27.choose_spec
noncomputable def Defs.a28 (D : Defs G) : Addr := D.x28.choose
theorem Defs.h28 (D : Defs G) : DefAt G (Str.ofString "_law_places") 28 D.a28 := D.x28.choose_spec
noncomputable def Defs.a29 (D : Defs G) : Addr := D.x29.choose
theorem Defs.h29 (D : Defs G) : DefAt G (Str.ofString "_law_changed") 29 D.a29 := D.x29.choose_spec
noncomputable def Defs.a30 (D : Defs G) : Addr := D.x30.choose
theorem Defs.h30 (D : Defs G) : DefAt G (Str.ofString "_law_way") 30 D.a30 := D.x30.choose_spec
noncomputable def Defs.a31 (D : Defs G) : Addr := D.x31.choose
theorem Defs.h31 (D : Defs G) : DefAt G (Str.ofString "_law_stay") 31 D.a31 := D.x31.choose_spec
noncomputable def Defs.a32 (D : Defs G) : Addr := D.x32.choose
theorem Defs.h32 (D : Defs G) : DefAt G (Str.ofString "_law_first") 32 D.a32 := D.x32.choose_spec
noncomputable def Defs.a33 (D : Defs G) : Addr := D.x33.choose
theorem Defs.h33 (D : Defs G) : DefAt G (Str.ofString "_law_two") 33 D.a33 := D.x33.choose_spec
noncomputable def Defs.a34 (D : Defs G) : Addr := D.x34.choose
theorem Defs.h34 (D : Defs G) : DefAt G (Str.ofString "_law_left") 34 D.a34 := D.x34.choose_spec

theorem psOf_len (row : List Nat) (kept : List Int) (kind : Int) : (psOf row kept kind).length = 8 := by simp [psOf]
theorem items_ok {row : List Nat} (h : Row8 row) (kept : List Int) (kind : Int) : ItemsOk ((psOf row kept kind).map itemP) := by
  intro x hx
  obtain ⟨p, hp, rfl⟩ := List.mem_map.mp hx
  have := ps_ok h kept kind p hp
  cases p with
  | q => exact .inl rfl
  | lit c => exact .inr (by rcases (this : c = 40 ∨ c = 41) with h | h <;> simp [itemP, h])
  | inn c => exact .inr (by rcases (this : c = 40 ∨ c = 41) with h | h <;> simp [itemP, h])
  | out c => exact .inr (by rcases (this : c = 40 ∨ c = 41) with h | h <;> simp [itemP, h])

theorem two_fn (Df : Defs G) (B : BltOk G) {a b : List Nat} (ha : a ∈ rClosed) (hb : b ∈ rClosed) (kept : List Int) (kind : Int) {hid : List Nat} (hh : hid ∈ hids) {p : Nat} (hp : p < 9) (hk : ∀ k : Nat, k < 8 → kept.contains (k : Int) = true → b.getD k 0 = a.getD k 0) :
    Fn G Df.a33 6 [.str (S a), .str (S b), itemsD ((psOf a kept kind).map itemP), .str (S hid), .int (p : Int)] (.bool true) := by
  have P1 := pair_ok ha hb
  have P2 := pair_ok hb ha
  unfold pairOk at P1 P2
  simp only [Bool.and_eq_true, beq_iff_eq, decide_eq_true_eq] at P1 P2
  obtain ⟨⟨⟨⟨⟨⟨s1, d1⟩, p1⟩, w1⟩, x1⟩, y1⟩, l1⟩ := P1
  obtain ⟨⟨⟨⟨⟨⟨s2, d2⟩, p2⟩, w2⟩, x2⟩, y2⟩, l2⟩ := P2
  have hs := hids_asc hid hh
  unfold way at w1 w2 x1 x2
  refine law_two_ok Df.h33 B Df.h28 Df.h16 Df.h32 Df.h30 Df.h18 Df.h31 Df.h29 Df.h2 Df.h3 Df.h4 Df.h5 Df.h27 a b _ hid (p : Int) (closed8 _ ha).1 (closed8 _ hb).1 (by rw [List.length_map, psOf_len]) (items_ok (closed8 _ ha).1 kept kind) hs.1 hs.2 ?_ (parts_of p1) (parts_of p2) w1 ?_ x1 ?_ (stay_ok ha hb kept kind hh hp hk) (ch_ok ha hb)
  · have := sld_ok Df.h16 B (rPlaces a) (rPlaces b) l1 l2 (strict_of s1) (strict_of s2) _ d1
    exact this
  · rw [w2, y2]
  · rw [x2, y2]

noncomputable abbrev nLaw : List Str := [Str.ofString "script", Str.ofString "total", Str.ofString "drawn", Str.ofString "where", Str.ofString "kept", Str.ofString "items", Str.ofString "listing", Str.ofString "hidden", Str.ofString "place", Str.ofString "left"]

theorem fmod_nat (a : Int) {n : Nat} (h : 0 < n) : ∃ k : Nat, k < n ∧ a.fmod (n : Int) = (k : Int) := by
  have e : a.fmod (n : Int) = a % (n : Int) := Int.fmod_eq_emod_of_nonneg a (by omega)
  have h0 : (0 : Int) ≤ a % (n : Int) := Int.emod_nonneg a (by omega)
  have h1 : a % (n : Int) < n := Int.emod_lt_of_pos a (by omega)
  rw [e]
  exact ⟨(a % (n : Int)).toNat, by omega, by omega⟩

set_option maxHeartbeats 4000000 in
theorem law_ok (Df : Defs G) (B : BltOk G) (R : ReOk G) (Lm : LamOk G) (A : Around) (env : Env) (bad : Addr → Prop) (hk : ∀ x, env.kindOf x = (pScope 35).names.lookup x) (ns : List Int) (hn : ns.length ≤ 1000) :
    Ex G ⟨A, env, nLaw, bad, 6, env.cells⟩ [some (.d (.list (iL ns))), none, none, none, none, none, none, none, none, none] [] (pBody 35) (fun o _ _ => o = .ret (.bool true)) := by
  have hz : ns.length ≤ sizeLine := Nat.le_trans hn (by decide)
  refine' ex_cons (ex1_assign (ev_sum (l := ns) ?k1 B.sum.1 B.sum.2 ?e1 (by intro _; rfl)) ?s1 ?n1)
  case k1 => walk_at "kind"
  case e1 => walk_at "ev"
  case s1 => walk_at "set"
  change Ex _ _ _ _ _ _
  generalize ns.sum = total
  obtain ⟨i14, hi14, e14⟩ := fmod_nat (total + 7) (n := 14) (by decide)
  have e14' : (total + 7).fmod 14 = (i14 : Int) := e14
  have hdr : rClosed.getD i14 [] ∈ rClosed := by
    have : i14 < rClosed.length := hi14
    rw [List.getD_eq_getElem?_getD, List.getElem?_eq_getElem this]; exact List.getElem_mem _
  have hdg : (sL rClosed)[((i14 : Int)).toNat]? = some (.str (S (rClosed.getD i14 []))) := by
    have : i14 < rClosed.length := hi14
    rw [Int.toNat_natCast, sL, List.getElem?_map, List.getElem?_eq_getElem this, List.getD_eq_getElem?_getD, List.getElem?_eq_getElem this]
    rfl
  generalize rClosed.getD i14 [] = drawn at hdr hdg
  refine' ex_cons (ex1_assign (d := .str (S drawn)) (ev_idxT (l := sL rClosed) (k := (i14 : Int)) (ev_callD0 Df.h20 ?k2 (law_closed_ok Df.h20) ?m2 (by decide)) ?e2 (by omega) (by omega) hdg (by intro _ _; rfl)) ?s2 ?n2)
  case k2 => walk_at "kind"
  case m2 => show 1 ≤ 6; decide
  case e2 =>
    rw [← e14']
    walk_at "ev"
  case s2 => walk_at "set"
  change Ex _ _ _ _ _ _
  have hid8 := (closed8 _ hdr).1
  -- where
  generalize hsa : (stepPick ns none none (some 2)).sum = sa
  obtain ⟨w6, hw6, ew6⟩ := fmod_nat sa (n := 6) (by decide)
  have ew6' : sa.fmod 6 = (w6 : Int) := ew6
  refine' ex_cons (ex1_assign (d := .int (1 + (w6 : Int))) ?e3 ?s3 ?n3)
  case e3 =>
    rw [← ew6', ← hsa]
    refine' ev_binop ev_int (ev_binop (ev_sum ?k3 B.sum.1 B.sum.2 (ev_stepI ?a3 evP_none evP_none ?b3 (by decide) hz) (by intro _; rfl)) ev_int (bin_modI (by decide))) bin_addI
    case k3 => walk_at "kind"
    case a3 => walk_at "ev"
    case b3 => walk_at "ev"
  case s3 => walk_at "set"
  change Ex _ _ _ _ _ _
  -- kept
  generalize hsb : (stepPick ns (some 1) none (some 2)).sum = sb
  obtain ⟨w5, hw5, ew5⟩ := fmod_nat (sb + 1) (n := 5) (by decide)
  have ew5' : (sb + 1).fmod 5 = (w5 : Int) := ew5
  obtain ⟨v6, hv6, ev6⟩ := fmod_nat ((1 + (w6 : Int)) + (w5 : Int)) (n := 6) (by decide)
  have ev6' : ((1 + (w6 : Int)) + (w5 : Int)).fmod 6 = (v6 : Int) := ev6
  obtain ⟨t2, ht2, et2⟩ := fmod_nat (total.fdiv 14) (n := 2) (by decide)
  have et2' : (total.fdiv 14).fmod 2 = (t2 : Int) := et2
  have hkl : ∃ kept : List Int, Kp8 kept ∧ iL kept = [.int (1 + (w6 : Int)), .int (1 + (v6 : Int))] ++ (List.replicate ((t2 : Int)).toNat [PyData.int 0, .int 7]).flatten := by
    rw [Int.toNat_natCast]
    have : t2 = 0 ∨ t2 = 1 := by omega
    rcases this with rfl | rfl
    · refine ⟨[1 + (w6 : Int), 1 + (v6 : Int)], ⟨by simp, by simp, ?_⟩, rfl⟩
      intro k hk
      simp only [List.mem_cons, List.not_mem_nil, or_false] at hk
      rcases hk with rfl | rfl <;> omega
    · refine ⟨[1 + (w6 : Int), 1 + (v6 : Int), 0, 7], ⟨by simp, by simp, ?_⟩, rfl⟩
      intro k hk
      simp only [List.mem_cons, List.not_mem_nil, or_false] at hk
      rcases hk with rfl | rfl | rfl | rfl <;> omega
  obtain ⟨kept, hkp, hke⟩ := hkl
  refine' ex_cons (ex1_assign (d := .list (iL kept)) ?e4 ?s4 ?n4)
  case e4 =>
    rw [hke, ← ev6', ← ew5', ← et2', ← hsb]
    refine' ev_binop (ev_list (evL_cons ?a4 (evL_cons ?b4 evL_nil)) (of_decide_eq_true rfl)) (ev_binop (ev_list (evL_cons ?c4 (evL_cons ?d4 evL_nil)) (of_decide_eq_true rfl)) ?t4 (bin_mulL ?p4 ?q4 ?r4)) (bin_addL ?z4)
    case a4 => walk_at "ev"
    case b4 =>
      refine' ev_binop ev_int (ev_binop (ev_binop ?x4 (ev_binop (ev_binop (ev_sum ?k4 B.sum.1 B.sum.2 (ev_stepI ?y4 (evP_some ?l4) evP_none ?w4 (by decide) hz) (by intro _; rfl)) ev_int bin_addI) ev_int (bin_modI (by decide))) bin_addI) ev_int (bin_modI (by decide))) bin_addI
      case x4 => walk_at "ev"
      case k4 => walk_at "kind"
      case y4 => walk_at "ev"
      case l4 => walk_at "ev"
      case w4 => walk_at "ev"
    case c4 => walk_at "ev"
    case d4 => walk_at "ev"
    case t4 => walk_at "ev"
    case p4 => rw [et2']; omega
    case q4 => rw [et2']; omega
    case r4 => decide
    case z4 =>
      rw [et2', Int.toNat_natCast]
      have : t2 = 0 ∨ t2 = 1 := by omega
      rcases this with rfl | rfl <;> simp
  case s4 => walk_at "set"
  change Ex _ _ _ _ _ _
  clear hke
  -- items
  obtain ⟨kd, hkd, ekd⟩ := fmod_nat (total.fdiv 28) (n := 3) (by decide)
  have ekd' : (total.fdiv 28).fmod 3 = (kd : Int) := ekd
  obtain ⟨_, _, _, h13⟩ := Df.x13
  have htr := translate_ok Df.h8 h13 Df.h14 Df.h11 B R Lm (psOf drawn kept (kd : Int)) (ps_ok hid8 kept _) (by rw [psOf_len]; decide)
  have hrd := law_read_ok Df.h26 B Df.h25 (psOf drawn kept (kd : Int)) (ps_ok hid8 kept _) (by rw [psOf_len]; decide)
  have hpt := law_pattern_ok Df.h24 B Df.h23 drawn kept (kd : Int) hid8
  rw [pat_ps] at hpt
  refine' ex_cons (ex1_assign (d := itemsD ((psOf drawn kept (kd : Int)).map itemP)) (ev_callD Df.h26 ?k5 (evL_cons (ev_callD Df.h8 ?k6 (evL_cons (ev_callD Df.h24 ?k7 (evL_cons ?a7 (evL_cons ?b7 (evL_cons ?c7 evL_nil))) hpt ?m7 (by decide) (by intro _; rfl)) evL_nil) htr ?m6 (by decide) (by intro _; rfl)) evL_nil) hrd ?m5 (by decide) (by intro _; rfl)) ?s5 ?n5)
  case k5 => walk_at "kind"
  case k6 => walk_at "kind"
  case k7 => walk_at "kind"
  case m5 => show 2 ≤ 6; decide
  case m6 => show 3 ≤ 6; decide
  case m7 => show 2 ≤ 6; decide
  case a7 => walk_at "ev"
  case b7 => walk_at "ev"
  case c7 => rw [← ekd']; walk_at "ev"
  case s5 => walk_at "set"
  change Ex _ _ _ _ _ _
  clear htr hrd hpt
  have hio := items_ok hid8 kept (kd : Int)
  have hil : ((psOf drawn kept (kd : Int)).map itemP).length = 8 := by rw [List.length_map, psOf_len]
  have hlo := lst_ok hdr (kept := kept)
  have hll := listing_len drawn kept
  have hat := all_take hdr (kept := kept) (kd : Int)
  have hnt := no_turned hdr hkp (kd : Int)
  have htl : (rTurned (rListing drawn kept) kept).length ≤ 64 := by unfold rTurned; rw [List.length_map, List.length_range]; exact hll
  have htn := law_turned_ok Df.h22 B (rListing drawn kept) kept (by omega) (fun r hr => (hlo r hr).1) hkp.1 hkp.2.1 hkp.2.2
  have htwo : ∀ hid ∈ hids, ∀ p : Nat, p < 9 → ∀ b ∈ (rListing drawn kept).filter fun r => rClosed.contains r, Fn G Df.a33 6 [.str (S drawn), .str (S b), itemsD ((psOf drawn kept (kd : Int)).map itemP), .str (S hid), .int (p : Int)] (.bool true) := fun hid hh p hp b hb => by
    obtain ⟨b1, b2⟩ := List.mem_filter.mp hb
    exact two_fn Df B hdr (by simpa using b2) kept (kd : Int) hh hp (hlo b b1).2.2.2
  generalize (psOf drawn kept (kd : Int)).map itemP = items at hio hil hat hnt htwo
  -- listing
  refine' ex_cons (ex1_assign (ev_callD Df.h21 ?k8 (evL_cons ?a8 (evL_cons ?b8 evL_nil)) (law_listing_ok Df.h21 B drawn kept hid8) ?m8 (by decide) (by intro _; rfl)) ?s8 ?n8)
  case k8 => walk_at "kind"
  case m8 => show 1 ≤ 6; decide
  case a8 => walk_at "ev"
  case b8 => walk_at "ev"
  case s8 => walk_at "set"
  change Ex _ _ _ _ _ _
  generalize rListing drawn kept = listing at hlo hll hat hnt htwo htl htn
  -- the first test
  have hall : ((listing.filter fun _ => true).map fun r => rTakes items r).all id = true := by
    rw [List.all_map, List.all_eq_true]
    intro r hr
    exact hat r (List.mem_filter.mp hr).1
  refine ex_cons ?_
  refine' ex1_ifF (c := false || (!true || false)) ?t9 rfl ?a9
  case t9 =>
    refine' tr_bool (trL_or ?x9 fun _ => trL_or (tr_not ?y9) fun _ => trL_orNil)
    case x9 =>
      refine' tr_cmp (a := itemsD items) (b := .none) (ev_name ?p9) ev_none cmp_isNone (by with_unfolding_all rfl)
      case p9 => walk_at "var"
    case y9 =>
      refine' tr_ev ?q9 (by intro _ _; rfl)
      case q9 =>
        rw [← hall]
        refine' ev_all ?k10 B.all.1 B.all.2 ?e10 (by intro _; rfl)
        case k10 => walk_at "kind"
        case e10 =>
          refine' ev_compB (src := listing) (inj := fun r => .str (S r)) (p := fun _ => true) (g := fun r => rTakes items r) (fr := [Str.ofString "items"]) (Vf := [some (.d (itemsD items))]) (kinds := fun y => (pScope 35).names.lookup y) ?it10 hk ?D10 ?v10 ?z10 ?turn10 ?ss10
          case it10 => exact itEv_sL (by walk_at "ev")
          case D10 => walk_at "comp"
          case v10 => walk_at "vf"
          case z10 => exact Nat.le_trans hll (by decide)
          case ss10 => intro _ _; rfl
          case turn10 =>
            intro env' bad' hK r hr
            refine ⟨rfl, fun hp => ?_⟩
            refine' ev_callD Df.h27 ?k11 (evL_cons ?a11 (evL_cons ?b11 evL_nil)) (law_takes_ok Df.h27 B items r hil hio (hlo r hr).1) ?m11 (by decide) (by intro _; rfl)
            case k11 => walk_at "kind"
            case m11 => show 1 ≤ 6; decide
            case a11 => walk_at "ev"
            case b11 => walk_at "ev"
  change Ex _ _ _ _ _ _
  walk_at "done"
  -- the turned ones
  have hnone : ((rTurned listing kept).filter fun r => rTakes items r) = [] := by
    rw [List.filter_eq_nil_iff]
    intro r hr
    rw [(hnt r hr).2]; decide
  refine ex_cons ?_
  refine' ex1_ifF (c := false) ?t12 rfl ?a12
  case t12 =>
    refine' tr_cmp (a := .list (sL (((rTurned listing kept).filter fun r => rTakes items r).map fun v => v))) (b := .list []) ?x12 (ev_list evL_nil (of_decide_eq_true rfl)) ?y12 (by with_unfolding_all rfl)
    case y12 =>
      rw [hnone]
      exact cmp_neNilS (l := []) (fun _ z => nomatch z)
    case x12 =>
      refine' ev_compS (src := rTurned listing kept) (inj := fun r => .str (S r)) (p := fun r => rTakes items r) (g := fun v => v) (fr := [Str.ofString "items"]) (Vf := [some (.d (itemsD items))]) (kinds := fun y => (pScope 35).names.lookup y) ?it12 hk ?D12 ?v12 ?z12 ?turn12 ?ss12
      case it12 =>
        refine itEv_sL ?_
        refine' ev_callD Df.h22 ?k13 (evL_cons ?a13 (evL_cons ?b13 evL_nil)) htn ?m13 (by decide) (by intro _; rfl)
        case k13 => walk_at "kind"
        case m13 => show 1 ≤ 6; decide
        case a13 => walk_at "ev"
        case b13 => walk_at "ev"
      case D12 => walk_at "comp"
      case v12 => walk_at "vf"
      case z12 => exact Nat.le_trans htl (by decide)
      case ss12 => intro _ _; rfl
      case turn12 =>
        intro env' bad' hK r hr
        refine ⟨?_, fun hp => ?_⟩
        · show Tr _ _ _ _ _
          refine' tr_ev (b := rTakes items r) ?q14 ?g14
          case g14 => intro _ _; rfl
          case q14 =>
            refine' ev_callD Df.h27 ?k14 (evL_cons ?a14 (evL_cons ?b14 evL_nil)) (law_takes_ok Df.h27 B items r hil hio (hnt r hr).1) ?m14 (by decide) (by intro _; rfl)
            case k14 => walk_at "kind"
            case m14 => show 1 ≤ 6; decide
            case a14 => walk_at "ev"
            case b14 => walk_at "ev"
        · walk_at "ev"
  change Ex _ _ _ _ _ _
  walk_at "done"
  -- hidden
  obtain ⟨h7, hh7, eh7⟩ := fmod_nat total (n := 7) (by decide)
  have eh7' : total.fmod 7 = (h7 : Int) := eh7
  have hhm : hids.getD h7 [] ∈ hids := by
    have : h7 < hids.length := hh7
    rw [List.getD_eq_getElem?_getD, List.getElem?_eq_getElem this]; exact List.getElem_mem _
  have hhg : (sL hids)[((h7 : Int)).toNat]? = some (.str (S (hids.getD h7 []))) := by
    have : h7 < hids.length := hh7
    rw [Int.toNat_natCast, sL, List.getElem?_map, List.getElem?_eq_getElem this, List.getD_eq_getElem?_getD, List.getElem?_eq_getElem this]
    rfl
  generalize hids.getD h7 [] = hid at hhm hhg
  have c0 : S [92, 41] = Str.ofString "\\)" := rfl
  have c1 : S [92, 34] = Str.ofString "\\\"" := rfl
  have c2 : S [34, 41, 34] = Str.ofString "\")\"" := rfl
  have c3 : S [34, 40, 40, 34] = Str.ofString "\"((\"" := rfl
  have c4 : S [92, 92] = Str.ofString "\\\\" := rfl
  have c5 : S [34, 92, 34, 41, 34] = Str.ofString "\"\\\")\"" := rfl
  have c6 : S [92, 40] = Str.ofString "\\(" := rfl
  refine' ex_cons (ex1_assign (d := .str (S hid)) (ev_idxT (l := sL hids) (k := (h7 : Int)) ?a15 ?e15 (by omega) (by omega) hhg (by intro _ _; rfl)) ?s15 ?n15)
  case a15 =>
    exact ev_tuple (evL_cons (evc c0) (evL_cons (evc c1) (evL_cons (evc c2) (evL_cons (evc c3) (evL_cons (evc c4) (evL_cons (evc c5) (evL_cons (evc c6) evL_nil))))))) (of_decide_eq_true rfl)
  case e15 =>
    rw [← eh7']
    walk_at "ev"
  case s15 => walk_at "set"
  change Ex _ _ _ _ _ _
  -- place
  obtain ⟨p9, hp9, ep9⟩ := fmod_nat (total.fdiv 7) (n := 9) (by decide)
  have ep9' : (total.fdiv 7).fmod 9 = (p9 : Int) := ep9
  refine' ex_cons (ex1_assign (d := .int (p9 : Int)) ?e16 ?s16 ?n16)
  case e16 =>
    rw [← ep9']
    walk_at "ev"
  case s16 => walk_at "set"
  change Ex _ _ _ _ _ _
  -- left
  have hha := hids_asc hid hhm
  have hlf := law_left_ok Df.h34 B Df.h2 Df.h3 Df.h4 Df.h5 Df.h17 Df.h20 listing hid (p9 : Int) (fun r hr => (hlo r hr).1) (fun r hr => chk_row hhm hp9 (hlo r hr).1 (hlo r hr).2.1 (hlo r hr).2.2.1) hha.1 hha.2 (by omega)
  refine' ex_cons (ex1_assign (ev_callD Df.h34 ?k17 (evL_cons ?a17 (evL_cons ?b17 (evL_cons ?c17 evL_nil))) hlf ?m17 (by decide) (by intro _; rfl)) ?s17 ?n17)
  case k17 => walk_at "kind"
  case m17 => show 5 ≤ 6; decide
  case a17 => walk_at "ev"
  case b17 => walk_at "ev"
  case c17 => walk_at "ev"
  case s17 => walk_at "set"
  change Ex _ _ _ _ _ _
  have htw := htwo hid hhm p9 hp9
  have hfl : (listing.filter fun r => rClosed.contains r).length ≤ 64 := Nat.le_trans (List.length_filter_le _ _) hll
  generalize (listing.filter fun r => rClosed.contains r) = left at htw hfl
  refine ex_cons ?_
  refine' ex1_ifF (c := false) ?t18 rfl ?a18
  case t18 =>
    refine' tr_cmp (a := .list (sL left)) (b := .none) (ev_name ?p18) ev_none cmp_isNone (by with_unfolding_all rfl)
    case p18 => walk_at "var"
  change Ex _ _ _ _ _ _
  walk_at "done"
  -- the end
  have hend : ((left.filter fun _ => true).map fun _ => true).all id = true := by
    rw [List.all_map, List.all_eq_true]
    intro r hr; rfl
  refine ex_cons ?_
  refine' ex1_ret (d := .bool true) ?e19 rfl
  case e19 =>
    rw [← hend]
    refine' ev_all ?k19 B.all.1 B.all.2 ?x19 (by intro _; rfl)
    case k19 => walk_at "kind"
    case x19 =>
      refine' ev_compB (src := left) (inj := fun r => .str (S r)) (p := fun _ => true) (g := fun r => true) (fr := [Str.ofString "drawn", Str.ofString "hidden", Str.ofString "items", Str.ofString "place"]) (Vf := [some (.d (.str (S drawn))), some (.d (.str (S hid))), some (.d (itemsD items)), some (.d (.int (p9 : Int)))]) (kinds := fun y => (pScope 35).names.lookup y) ?it19 hk ?D19 ?v19 ?z19 ?turn19 ?ss19
      case it19 => exact itEv_sL (by walk_at "ev")
      case D19 => walk_at "comp"
      case v19 => walk_at "vf"
      case z19 => exact Nat.le_trans hfl (by decide)
      case ss19 => intro _ _; rfl
      case turn19 =>
        intro env' bad' hK r hr
        refine ⟨rfl, fun hp => ?_⟩
        refine' ev_callD Df.h33 ?k20 (evL_cons ?a20 (evL_cons ?b20 (evL_cons ?c20 (evL_cons ?d20 (evL_cons ?f20 evL_nil))))) (htw r hr) ?m20 (by decide) (by intro _; rfl)
        case k20 => walk_at "kind"
        case m20 => show 6 ≤ 6; decide
        case a20 => walk_at "ev"
        case b20 => walk_at "ev"
        case c20 => walk_at "ev"
        case d20 => walk_at "ev"
        case f20 => walk_at "ev"
end
section
open PySem.W
set_option maxRecDepth 100000
/-! a small head of our own: of the module's objects only six are told -/
noncomputable def heapS (P : Params) : Frag :=
  [(3,
      { cls := Value.type "dict",
        data :=
          Data.dict
            #[{ hash := PyData.keyHash P (Str.ofString "__name__"), key := Value.str (Str.ofString "__name__") 165,
                val := Value.str (Str.ofString "law_kt0034_01") 597 },
              { hash := PyData.keyHash P (Str.ofString "__doc__"), key := Value.str (Str.ofString "__doc__") 166,
                val := Value.none },
              { hash := PyData.keyHash P (Str.ofString "__package__"),
                key := Value.str (Str.ofString "__package__") 167, val := Value.none },
              { hash := PyData.keyHash P (Str.ofString "__loader__"), key := Value.str (Str.ofString "__loader__") 168,
                val := Value.builtin "__main__.__loader__#opaque" },
              { hash := PyData.keyHash P (Str.ofString "__spec__"), key := Value.str (Str.ofString "__spec__") 169,
                val := Value.none },
              { hash := PyData.keyHash P (Str.ofString "__annotations__"),
                key := Value.str (Str.ofString "__annotations__") 170, val := Value.ref 6 },
              { hash := PyData.keyHash P (Str.ofString "__builtins__"),
                key := Value.str (Str.ofString "__builtins__") 171, val := Value.ref 4 },
              { hash := PyData.keyHash P (Str.ofString "__file__"), key := Value.str (Str.ofString "__file__") 173,
                val := Value.str (Str.ofString "/claim/cut.py") 172 },
              { hash := PyData.keyHash P (Str.ofString "__cached__"), key := Value.str (Str.ofString "__cached__") 174,
                val := Value.none },
              { hash := PyData.keyHash P (Str.ofString "_sre"), key := Value.str (Str.ofString "_sre") 275,
                val := Value.ref 12 },
              { hash := PyData.keyHash P (Str.ofString "_iter_escaped_chars"),
                key := Value.str (Str.ofString "_iter_escaped_chars") 293, val := Value.ref 38 },
              { hash := PyData.keyHash P (Str.ofString "_strip_quoted_realnames"),
                key := Value.str (Str.ofString "_strip_quoted_realnames") 305, val := Value.ref 45 },
              { hash := PyData.keyHash P (Str.ofString "_check_parenthesis"),
                key := Value.str (Str.ofString "_check_parenthesis") 315, val := Value.ref 52 },
              { hash := PyData.keyHash P (Str.ofString "_pre_parse_validation"),
                key := Value.str (Str.ofString "_pre_parse_validation") 324, val := Value.ref 59 },
              { hash := PyData.keyHash P (Str.ofString "_twin_re_1"), key := Value.str (Str.ofString "_twin_re_1") 364,
                val := Value.ref 64 },
              { hash := PyData.keyHash P (Str.ofString "translate"), key := Value.str (Str.ofString "translate") 373,
                val := Value.ref 71 },
              { hash := PyData.keyHash P (Str.ofString "_special_chars_map"),
                key := Value.str (Str.ofString "_special_chars_map") 521, val := Value.ref 73 },
              { hash := PyData.keyHash P (Str.ofString "escape"), key := Value.str (Str.ofString "escape") 528,
                val := Value.ref 83 },
              { hash := PyData.keyHash P (Str.ofString "_translate"), key := Value.str (Str.ofString "_translate") 549,
                val := Value.ref 90 },
              { hash := PyData.keyHash P (Str.ofString "_join_translated_parts"),
                key := Value.str (Str.ofString "_join_translated_parts") 562, val := Value.ref 97 },
              { hash := PyData.keyHash P (Str.ofString "sorted_list_difference"),
                key := Value.str (Str.ofString "sorted_list_difference") 578, val := Value.ref 104 },
              { hash := PyData.keyHash P (Str.ofString "unorderable_list_difference"),
                key := Value.str (Str.ofString "unorderable_list_difference") 588, val := Value.ref 111 },
              { hash := PyData.keyHash P (Str.ofString "three_way_cmp"),
                key := Value.str (Str.ofString "three_way_cmp") 596, val := Value.ref 118 },
              { hash := PyData.keyHash P (Str.ofString "_law_closed"),
                key := Value.str (Str.ofString "_law_closed") 604, val := Value.ref 125 },
              { hash := PyData.keyHash P (Str.ofString "_law_listing"),
                key := Value.str (Str.ofString "_law_listing") 610, val := Value.ref 130 },
              { hash := PyData.keyHash P (Str.ofString "_law_turned"),
                key := Value.str (Str.ofString "_law_turned") 622, val := Value.ref 137 },
              { hash := PyData.keyHash P (Str.ofString "_law_cell"), key := Value.str (Str.ofString "_law_cell") 630,
                val := Value.ref 144 },
              { hash := PyData.keyHash P (Str.ofString "_law_pattern"),
                key := Value.str (Str.ofString "_law_pattern") 636, val := Value.ref 149 },
              { hash := PyData.keyHash P (Str.ofString "_law_item"), key := Value.str (Str.ofString "_law_item") 646,
                val := Value.ref 156 },
              { hash := PyData.keyHash P (Str.ofString "_law_read"), key := Value.str (Str.ofString "_law_read") 656,
                val := Value.ref 163 },
              { hash := PyData.keyHash P (Str.ofString "_law_takes"), key := Value.str (Str.ofString "_law_takes") 667,
                val := Value.ref 170 },
              { hash := PyData.keyHash P (Str.ofString "_law_places"),
                key := Value.str (Str.ofString "_law_places") 673, val := Value.ref 175 },
              { hash := PyData.keyHash P (Str.ofString "_law_changed"),
                key := Value.str (Str.ofString "_law_changed") 683, val := Value.ref 182 },
              { hash := PyData.keyHash P (Str.ofString "_law_way"), key := Value.str (Str.ofString "_law_way") 694,
                val := Value.ref 189 },
              { hash := PyData.keyHash P (Str.ofString "_law_stay"), key := Value.str (Str.ofString "_law_stay") 700,
                val := Value.ref 194 },
              { hash := PyData.keyHash P (Str.ofString "_law_first"), key := Value.str (Str.ofString "_law_first") 706,
                val := Value.ref 199 },
              { hash := PyData.keyHash P (Str.ofString "_law_two"), key := Value.str (Str.ofString "_law_two") 712,
                val := Value.ref 204 },
              { hash := PyData.keyHash P (Str.ofString "_law_left"), key := Value.str (Str.ofString "_law_left") 718,
                val := Value.ref 209 },
              { hash := PyData.keyHash P (Str.ofString "law"), key := Value.str (Str.ofString "law") 724,
                val := Value.ref 214 }]
            39 }),
   (63,
      { cls := Value.type "tuple",
        data :=
          Data.seq
            #[Value.int 14 0, Value.int 14 0, Value.int 4 0, Value.int 1 0, Value.int 1 0, Value.int 9 0, Value.int 0 0,
              Value.int 64 0, Value.int 0 0, Value.int 1342177280 0, Value.int 0 0, Value.int 0 0, Value.int 0 0,
              Value.int 0 0, Value.int 0 0, Value.int 17 0, Value.int 0 0, Value.int 13 0, Value.int 11 0,
              Value.int 9 0, Value.int 0 0, Value.int 64 0, Value.int 0 0, Value.int 1342177280 0, Value.int 0 0,
              Value.int 0 0, Value.int 0 0, Value.int 0 0, Value.int 0 0, Value.int 17 0, Value.int 1 0,
              Value.int 1 0] }),
   (64,
      { cls := Value.type "re.Pattern",
        data :=
          Data.fields
            #[Value.str (Str.ofString "([&~|])") 328, Value.int 32 363, Value.int 1 0, Value.none, Value.none,
              Value.ref 63, Value.int 0 0] }),
   (73,
      { cls := Value.type "dict",
        data :=
          Data.dict
            #[{ hash := 40, key := Value.int 40 377, val := Value.str (Str.ofString "\\(") 381 },
              { hash := 41, key := Value.int 41 383, val := Value.str (Str.ofString "\\)") 387 },
              { hash := 91, key := Value.int 91 389, val := Value.str (Str.ofString "\\[") 393 },
              { hash := 93, key := Value.int 93 395, val := Value.str (Str.ofString "\\]") 399 },
              { hash := 123, key := Value.int 123 401, val := Value.str (Str.ofString "\\{") 405 },
              { hash := 125, key := Value.int 125 407, val := Value.str (Str.ofString "\\}") 411 },
              { hash := 63, key := Value.int 63 413, val := Value.str (Str.ofString "\\?") 417 },
              { hash := 42, key := Value.int 42 419, val := Value.str (Str.ofString "\\*") 423 },
              { hash := 43, key := Value.int 43 425, val := Value.str (Str.ofString "\\+") 429 },
              { hash := 45, key := Value.int 45 431, val := Value.str (Str.ofString "\\-") 435 },
              { hash := 124, key := Value.int 124 437, val := Value.str (Str.ofString "\\|") 441 },
              { hash := 94, key := Value.int 94 443, val := Value.str (Str.ofString "\\^") 447 },
              { hash := 36, key := Value.int 36 449, val := Value.str (Str.ofString "\\$") 453 },
              { hash := 92, key := Value.int 92 455, val := Value.str (Str.ofString "\\\\") 459 },
              { hash := 46, key := Value.int 46 461, val := Value.str (Str.ofString "\\.") 465 },
              { hash := 38, key := Value.int 38 467, val := Value.str (Str.ofString "\\&") 471 },
              { hash := 126, key := Value.int 126 473, val := Value.str (Str.ofString "\\~") 477 },
              { hash := 35, key := Value.int 35 479, val := Value.str (Str.ofString "\\#") 483 },
              { hash := 32, key := Value.int 32 485, val := Value.str (Str.ofString "\\ ") 489 },
              { hash := 9, key := Value.int 9 491, val := Value.str (Str.ofString "\\\t") 495 },
              { hash := 10, key := Value.int 10 497, val := Value.str (Str.ofString "\\\n") 501 },
              { hash := 13, key := Value.int 13 503, val := Value.str (Str.ofString "\\\x0d") 507 },
              { hash := 11, key := Value.int 11 509, val := Value.str (Str.ofString "\\\x0b") 513 },
              { hash := 12, key := Value.int 12 515, val := Value.str (Str.ofString "\\\x0c") 519 }]
            24 }),
   (89,
      { cls := Value.type "code",
        data :=
          Data.fields
            #[Value.str (Str.ofString "_translate") 531, Value.str (Str.ofString "_translate") 532,
              Value.str (Str.ofString "/claim/cut.py") 533, Value.int 67 0, Value.int 3 0, Value.int 0 0, Value.int 0 0,
              Value.int 3 0, Value.ref 84, Value.bool true, Value.int 276 0, Value.ref 85, Value.none, Value.ref 86,
              Value.ref 87, Value.ref 88, Value.int 547 0, Value.int 67 0,
              Value.str (Str.ofString "/claim/cut.py") 548] }),
   (90, { cls := .type "function", data := .func (docDef (Str.ofString "_translate") (pArgs 13) (pBody 13) (pScope 13) (.str (Str.ofString "cpy313.fnmatch") 529) (.ref 89) .none) })]
noncomputable def keepL : List Nat := [0, 2, 3, 4, 5, 8, 11, 13, 14, 16, 17, 18, 20, 21, 22, 23, 24, 25, 26, 27, 28, 29, 30, 31, 32, 33, 34, 35]
noncomputable def viewL : Program := view PySem.Challenge.pw_kt0034_01 keepL
noncomputable def looseL : List Str := [Str.ofString "_twin_re_1", Str.ofString "_special_chars_map"]
noncomputable def hookS : Hook := kmHook heapS [3, 63, 64, 73, 89, 90] (fun _ => rfl) [85]
noncomputable abbrev XtS (s : Shared) : Bool := xlAt viewL [] s && recOk PySem.Challenge.rw_kt0034_01.row.toRowW.records s
noncomputable abbrev EndS (w : World) : Prop := (openEnds treeTable PySem.Challenge.rw_kt0034_01.row.prog w 4550).map (fun s => (openSeen viewL looseL (importedModules PySem.Challenge.rw_kt0034_01.row.prog.main.body) XtS true s, hookS.obs s)) = some (openGood viewL looseL, hookS.val w)
theorem end_ff (w : World) : EndS ((w.withFollow "special-get-raises" false).withFollow "comprehension-iter-twice" false) := by
  unfold EndS openEnds fencedOpening topFrom
  rw [PySem.W.Fast.te10274390034422433532, PySem.W.Fast.te14289696077712309145, PySem.W.Fast.te14082659384304107361, PySem.W.Fast.te14364793385576792824, PySem.W.Fast.te4187177175401517315]
  kernel_rfl
theorem end_ft (w : World) : EndS ((w.withFollow "special-get-raises" true).withFollow "comprehension-iter-twice" false) := by
  unfold EndS openEnds fencedOpening topFrom
  rw [PySem.W.Fast.te10274390034422433532, PySem.W.Fast.te14289696077712309145, PySem.W.Fast.te14082659384304107361, PySem.W.Fast.te14364793385576792824, PySem.W.Fast.te4187177175401517315]
  kernel_rfl
theorem end_tf (w : World) : EndS ((w.withFollow "special-get-raises" false).withFollow "comprehension-iter-twice" true) := by
  unfold EndS openEnds fencedOpening topFrom
  rw [PySem.W.Fast.te10274390034422433532, PySem.W.Fast.te14289696077712309145, PySem.W.Fast.te14082659384304107361, PySem.W.Fast.te14364793385576792824, PySem.W.Fast.te4187177175401517315]
  kernel_rfl
theorem end_tt (w : World) : EndS ((w.withFollow "special-get-raises" true).withFollow "comprehension-iter-twice" true) := by
  unfold EndS openEnds fencedOpening topFrom
  rw [PySem.W.Fast.te10274390034422433532, PySem.W.Fast.te14289696077712309145, PySem.W.Fast.te14082659384304107361, PySem.W.Fast.te14364793385576792824, PySem.W.Fast.te4187177175401517315]
  kernel_rfl
theorem left_S : LeftO PySem.Challenge.rw_kt0034_01.row.prog viewL looseL XtS hookS.obs hookS.val 4550 := fun w =>
  byRow2 "comprehension-iter-twice" (P := EndS) (byRow2 "special-get-raises" (P := fun w => EndS (w.withFollow "comprehension-iter-twice" false)) end_ff end_ft)
    (byRow2 "special-get-raises" (P := fun w => EndS (w.withFollow "comprehension-iter-twice" true)) end_tf end_tt) w
end
section
open PySem.W
set_option maxRecDepth 100000
noncomputable def defLaw : DefRec := ⟨Str.ofString "law", pArgs 35, pBody 35, pScope 35, match pStmt 35 with | .FunctionDef _ _ _ _ _ _ _ _ _ p => p | _ => ⟨0, 0, 0, 0⟩⟩
set_option maxHeartbeats 4000000 in
theorem hd_S (walk : WalkO viewL looseL (XL viewL []) hookS.says PySem.Challenge.rw_kt0034_01.row.toRowW defLaw [] (fun f vs => PySem.call f vs)) : PySem.Challenge.rw_kt0034_01.Holds := by
  w_on
  refine holds_law (l := PySem.Challenge.rw_kt0034_01) (by rw [PySem.W.Fast.te9446332074065402090]; kernel_rfl) fun said => ?_
  refine holds_open (q := viewL) (loose := looseL) (Xt := XtS) (XP := XL viewL []) (Yf := hookS.obs) (Ya := hookS.val) (YP := hookS.says) (d := defLaw) (kwd := []) (N := 4550) left_S hookS.of hookS.keeps (fun s e => xl_of s (Bool.and_eq_true_iff.mp e).1) XL.keeps (by kernel_rfl) (by kernel_rfl) (by kernel_rfl) (fun s e => recFacts_of (Bool.and_eq_true_iff.mp e).2) (by kernel_rfl) (by assumption) (by decide +kernel) ⟨rfl, rfl, rfl, rfl, rfl, by decide +kernel⟩ ?hw walk
  case hw => w_witness2
end
section
open PySem.W (Frag TabsAt ghostOf ghost_ne ghost_get mg_of nsIn CodeHd tabObj GrownAll)

/-! the glue -/
noncomputable def topG (w : World) (h : Heap) (mg mb : Str → Option Value) : TopC where
  prog := PySem.Challenge.rw_kt0034_01.row.prog
  w := w
  hT := ghostOf h [(89, 85)]
  P := 85
  pc := 89
  line := 113
  col := 39
  qual := (Str.ofString "_translate" ++ ".<locals>.") ++ "<lambda>"
  mg := mg
  mb := mb

section
variable {w : World} {h : Heap} {mg mb : Str → Option Value} (hT : TabsAt [(89, 85)] h)
include hT
theorem ghost_codeRec {cd : Value} {q : Str} (x : h.CodeRec cd q) : (ghostOf h [(89, 85)]).CodeRec cd q := by
  obtain ⟨c, o, vs, t, e, g, d, r⟩ := x
  refine ⟨c, o, vs, t, e, ghost_get hT g fun z => ?_, d, r⟩
  subst z
  cases d
  simp at r
variable {loose : List Str} {mean : ExcName → Option Value} {view : Program}
noncomputable def pPos (i : Nat) : Pos := match pStmt i with | .FunctionDef _ _ _ _ _ _ _ _ _ p => p | _ => ⟨0, 0, 0, 0⟩
theorem fn_top (T : Top view loose mean mg mb h) {f : Str} {i k : Nat} (hd : (recsOf view)[k]? = some ⟨f, pArgs i, pBody i, pScope i, pPos i⟩) :
    ∃ fa pm code doc, FnIs (topG w h mg mb) f fa (docDef f (pArgs i) (pBody i) (pScope i) pm code doc) := by
  obtain ⟨a, o, pm, code, doc, h1, h2, h3, h4⟩ := T.fn _ (List.mem_of_getElem? hd)
  refine ⟨a, pm, code, doc, h1, ⟨o, ghost_get hT h2 fun z => ?_, h3⟩, ghost_codeRec hT h4⟩
  subst z; cases h3
end
set_option maxRecDepth 100000
theorem rec2 : (recsOf viewL)[0]? = some ⟨Str.ofString "_iter_escaped_chars", pArgs 2, pBody 2, pScope 2, pPos 2⟩ := by kernel_rfl
theorem rec3 : (recsOf viewL)[1]? = some ⟨Str.ofString "_strip_quoted_realnames", pArgs 3, pBody 3, pScope 3, pPos 3⟩ := by kernel_rfl
theorem rec4 : (recsOf viewL)[2]? = some ⟨Str.ofString "_check_parenthesis", pArgs 4, pBody 4, pScope 4, pPos 4⟩ := by kernel_rfl
theorem rec5 : (recsOf viewL)[3]? = some ⟨Str.ofString "_pre_parse_validation", pArgs 5, pBody 5, pScope 5, pPos 5⟩ := by kernel_rfl
theorem rec8 : (recsOf viewL)[4]? = some ⟨Str.ofString "translate", pArgs 8, pBody 8, pScope 8, pPos 8⟩ := by kernel_rfl
theorem rec11 : (recsOf viewL)[5]? = some ⟨Str.ofString "escape", pArgs 11, pBody 11, pScope 11, pPos 11⟩ := by kernel_rfl
theorem rec13 : (recsOf viewL)[6]? = some ⟨Str.ofString "_translate", pArgs 13, pBody 13, pScope 13, pPos 13⟩ := by kernel_rfl
theorem rec14 : (recsOf viewL)[7]? = some ⟨Str.ofString "_join_translated_parts", pArgs 14, pBody 14, pScope 14, pPos 14⟩ := by kernel_rfl
theorem rec16 : (recsOf viewL)[8]? = some ⟨Str.ofString "sorted_list_difference", pArgs 16, pBody 16, pScope 16, pPos 16⟩ := by kernel_rfl
theorem rec17 : (recsOf viewL)[9]? = some ⟨Str.ofString "unorderable_list_difference", pArgs 17, pBody 17, pScope 17, pPos 17⟩ := by kernel_rfl
theorem rec18 : (recsOf viewL)[10]? = some ⟨Str.ofString "three_way_cmp", pArgs 18, pBody 18, pScope 18, pPos 18⟩ := by kernel_rfl
theorem rec20 : (recsOf viewL)[11]? = some ⟨Str.ofString "_law_closed", pArgs 20, pBody 20, pScope 20, pPos 20⟩ := by kernel_rfl
theorem rec21 : (recsOf viewL)[12]? = some ⟨Str.ofString "_law_listing", pArgs 21, pBody 21, pScope 21, pPos 21⟩ := by kernel_rfl
theorem rec22 : (recsOf viewL)[13]? = some ⟨Str.ofString "_law_turned", pArgs 22, pBody 22, pScope 22, pPos 22⟩ := by kernel_rfl
theorem rec23 : (recsOf viewL)[14]? = some ⟨Str.ofString "_law_cell", pArgs 23, pBody 23, pScope 23, pPos 23⟩ := by kernel_rfl
theorem rec24 : (recsOf viewL)[15]? = some ⟨Str.ofString "_law_pattern", pArgs 24, pBody 24, pScope 24, pPos 24⟩ := by kernel_rfl
theorem rec25 : (recsOf viewL)[16]? = some ⟨Str.ofString "_law_item", pArgs 25, pBody 25, pScope 25, pPos 25⟩ := by kernel_rfl
theorem rec26 : (recsOf viewL)[17]? = some ⟨Str.ofString "_law_read", pArgs 26, pBody 26, pScope 26, pPos 26⟩ := by kernel_rfl
theorem rec27 : (recsOf viewL)[18]? = some ⟨Str.ofString "_law_takes", pArgs 27, pBody 27, pScope 27, pPos 27⟩ := by kernel_rfl
theorem rec28 : (recsOf viewL)[19]? = some ⟨Str.ofString "_law_places", pArgs 28, pBody 28, pScope 28, pPos 28⟩ := by kernel_rfl
theorem rec29 : (recsOf viewL)[20]? = some ⟨Str.ofString "_law_changed", pArgs 29, pBody 29, pScope 29, pPos 29⟩ := by kernel_rfl
theorem rec30 : (recsOf viewL)[21]? = some ⟨Str.ofString "_law_way", pArgs 30, pBody 30, pScope 30, pPos 30⟩ := by kernel_rfl
theorem rec31 : (recsOf viewL)[22]? = some ⟨Str.ofString "_law_stay", pArgs 31, pBody 31, pScope 31, pPos 31⟩ := by kernel_rfl
theorem rec32 : (recsOf viewL)[23]? = some ⟨Str.ofString "_law_first", pArgs 32, pBody 32, pScope 32, pPos 32⟩ := by kernel_rfl
theorem rec33 : (recsOf viewL)[24]? = some ⟨Str.ofString "_law_two", pArgs 33, pBody 33, pScope 33, pPos 33⟩ := by kernel_rfl
theorem rec34 : (recsOf viewL)[25]? = some ⟨Str.ofString "_law_left", pArgs 34, pBody 34, pScope 34, pPos 34⟩ := by kernel_rfl
end
section
open PySem.W (Frag TabsAt ghostOf ghost_ne ghost_get mg_of nsIn CodeHd tabObj GrownAll law_code tabIn topProg)
set_option maxRecDepth 100000

theorem DefAt.of {G : TopC} {f : Str} {i : Nat} (h : ∃ fa pm code doc, FnIs G f fa (docDef f (pArgs i) (pBody i) (pScope i) pm code doc)) : ∃ fa, DefAt G f i fa := by
  obtain ⟨fa, pm, code, doc, h⟩ := h
  exact ⟨fa, pm, code, doc, h⟩
section
variable {w : World} {h : Heap} {mg mb : Str → Option Value} {loose loose' : List Str} {mean : ExcName → Option Value}
theorem defs_top (hT : TabsAt [(89, 85)] h) (T : Top viewL loose mean mg mb h) (X : (heapS w.params).In h) : Defs (topG w h mg mb) where
  x2 := DefAt.of (fn_top (w := w) hT T rec2)
  x3 := DefAt.of (fn_top (w := w) hT T rec3)
  x4 := DefAt.of (fn_top (w := w) hT T rec4)
  x5 := DefAt.of (fn_top (w := w) hT T rec5)
  x8 := DefAt.of (fn_top (w := w) hT T rec8)
  x11 := DefAt.of (fn_top (w := w) hT T rec11)
  x14 := DefAt.of (fn_top (w := w) hT T rec14)
  x16 := DefAt.of (fn_top (w := w) hT T rec16)
  x17 := DefAt.of (fn_top (w := w) hT T rec17)
  x18 := DefAt.of (fn_top (w := w) hT T rec18)
  x20 := DefAt.of (fn_top (w := w) hT T rec20)
  x21 := DefAt.of (fn_top (w := w) hT T rec21)
  x22 := DefAt.of (fn_top (w := w) hT T rec22)
  x23 := DefAt.of (fn_top (w := w) hT T rec23)
  x24 := DefAt.of (fn_top (w := w) hT T rec24)
  x25 := DefAt.of (fn_top (w := w) hT T rec25)
  x26 := DefAt.of (fn_top (w := w) hT T rec26)
  x27 := DefAt.of (fn_top (w := w) hT T rec27)
  x28 := DefAt.of (fn_top (w := w) hT T rec28)
  x29 := DefAt.of (fn_top (w := w) hT T rec29)
  x30 := DefAt.of (fn_top (w := w) hT T rec30)
  x31 := DefAt.of (fn_top (w := w) hT T rec31)
  x32 := DefAt.of (fn_top (w := w) hT T rec32)
  x33 := DefAt.of (fn_top (w := w) hT T rec33)
  x34 := DefAt.of (fn_top (w := w) hT T rec34)
  x13 := by
    obtain ⟨a13, pm13, cd13, doc13, h13⟩ := fn_top (w := w) hT T rec13
    have hc : cd13 = .ref 89 := by
      obtain ⟨e1, ⟨o, e2, e3⟩, e4⟩ := id h13
      exact law_code (x := Str.ofString "_translate") (c := 89) (P := 85) X T.g (by kernel_rfl) e1 (PySem.W.of_hideAll _ e2) e3
    subst hc
    exact ⟨a13, pm13, doc13, h13⟩

theorem topOk_top (T : Top topProg loose' mean mg mb (ghostOf h [(89, 85)])) : TopOk (topG w h mg mb) := ⟨T.g, T.b, T.nolimit⟩
theorem blt_top (T : Top topProg loose' mean mg mb (ghostOf h [(89, 85)])) (X : (heapS w.params).In (ghostOf h [(89, 85)])) : BltOk (topG w h mg mb) := by
  have g : ∀ n : Str, nsIn (heapS w.params) mainGlobals n = some none → mg n = none := fun n e => PySem.W.mg_none_of X T.g e
  have b : ∀ n v, n ≠ Str.ofString "__name__" → bootBuiltins n = v → mb n = v := fun n v h1 h2 => (T.builtins n h1).trans h2
  exact ⟨⟨g _ (by kernel_rfl), b _ _ (by decide) (by kernel_rfl)⟩, ⟨g _ (by kernel_rfl), b _ _ (by decide) (by kernel_rfl)⟩, ⟨g _ (by kernel_rfl), b _ _ (by decide) (by kernel_rfl)⟩, ⟨g _ (by kernel_rfl), b _ _ (by decide) (by kernel_rfl)⟩, ⟨g _ (by kernel_rfl), b _ _ (by decide) (by kernel_rfl)⟩, ⟨g _ (by kernel_rfl), b _ _ (by decide) (by kernel_rfl)⟩, ⟨g _ (by kernel_rfl), b _ _ (by decide) (by kernel_rfl)⟩, ⟨g _ (by kernel_rfl), b _ _ (by decide) (by kernel_rfl)⟩, ⟨g _ (by kernel_rfl), b _ _ (by decide) (by kernel_rfl)⟩, ⟨g _ (by kernel_rfl), b _ _ (by decide) (by kernel_rfl)⟩, ⟨g _ (by kernel_rfl), b _ _ (by decide) (by kernel_rfl)⟩, ⟨g _ (by kernel_rfl), b _ _ (by decide) (by kernel_rfl)⟩, ⟨g _ (by kernel_rfl), b _ _ (by decide) (by kernel_rfl)⟩⟩
/-- a dict of numbers, known by a look -/
noncomputable def keysB : List DictEntry → Bool
  | [] => true
  | e :: r => (match e.key with | .int k _ => e.hash == hashInt k | _ => false) && keysB r
noncomputable def strB (o : Option Value) (l : List Nat) : Bool := match o with | some (.str x _) => x.cps == l.toArray | _ => false
noncomputable def mapB (o : Option Obj) : Bool := match o with
  | some ⟨.type "dict", none, .dict es _, sl⟩ => sl.isEmpty && keysB es.toList && strB (findBy Value.isInt es 40) [92, 40] && strB (findBy Value.isInt es 41) [92, 41]
  | _ => false
theorem keys_of {l : List DictEntry} : keysB l = true → ∀ e ∈ l, ∃ k t, e.key = .int k t ∧ e.hash = hashInt k := by
  induction l with
  | nil => intro _ x hx; cases hx
  | cons e r ih =>
    intro h x hx
    unfold keysB at h
    rw [Bool.and_eq_true] at h
    rcases List.mem_cons.mp hx with rfl | hx
    · have h1 := h.1
      split at h1
      · rename_i k t hk; exact ⟨k, t, hk, eq_of_beq h1⟩
      · cases h1
    · exact ih h.2 x hx
theorem str_of {o : Option Value} {l : List Nat} (h : strB o l = true) : ∃ t, o = some (.str (S l) t) := by
  unfold strB at h
  split at h
  · rename_i x t
    refine ⟨t, ?_⟩
    have : x = S l := by
      have := eq_of_beq h
      cases x; cases this; rfl
    rw [this]
  · cases h
theorem map_of {o : Option Obj} (h : mapB o = true) : ∃ es n, o = some ⟨.type "dict", none, .dict es n, #[]⟩ ∧ IntKeys es ∧ (∃ t, findBy Value.isInt es ((40 : Nat) : Int) = some (.str (S [92, 40]) t)) ∧ ∃ t, findBy Value.isInt es ((41 : Nat) : Int) = some (.str (S [92, 41]) t) := by
  unfold mapB at h
  split at h
  · rename_i es n sl
    simp only [Bool.and_eq_true] at h
    obtain ⟨⟨⟨h1, h2⟩, h3⟩, h4⟩ := h
    have e : sl = #[] := by simpa using h1
    subst e
    exact ⟨es, n, rfl, fun e he => keys_of h2 e (Array.mem_toList_iff.mpr he), str_of h3, str_of h4⟩
  · cases h
theorem lam_top : LamOk (topG w h mg mb) := ⟨rfl, rfl, rfl⟩
theorem low85 : mainGlobals ≠ (85 : Addr) := by decide
theorem re_top (hT : TabsAt [(89, 85)] h) (T : Top topProg loose' mean mg mb (ghostOf h [(89, 85)])) (X : (heapS w.params).In (ghostOf h [(89, 85)])) (C : CodeHd (ghostOf h [(89, 85)]) 89 85) : ReOk (topG w h mg mb) where
  map := by
    have e1 : mg (Str.ofString "_special_chars_map") = some (.ref 73) := mg_of X T.g (by kernel_rfl)
    obtain ⟨es, n, q, hk, ⟨t1, f1⟩, t2, f2⟩ := map_of (o := (heapS w.params).lookup 73) (by kernel_rfl)
    refine ⟨73, fun k => findBy Value.isInt es k, t1, t2, e1, fun h' st => ?_, f1, f2⟩
    exact ⟨_, es, n, st _ _ (X 73 _ q), ⟨rfl, rfl, rfl⟩, rfl, fun e he => by
      obtain ⟨k, t, e1, e2⟩ := hk e he
      exact ⟨k, by rw [e1]; simp [intKind, Value.isInt], e2⟩, fun _ => rfl⟩
  re := ⟨64, 63, 328, 363, Str.ofString "([&~|])", #[], #[], 0, mg_of X T.g (by kernel_rfl), X 64 _ (by kernel_rfl), X 63 _ (by kernel_rfl)⟩
  head := C
  blt := by
    obtain ⟨bm, ob, h1, h2, h3, h4, h5, h6⟩ := T.bmain
    refine ⟨bm, ob, h1, h2, fun z => ?_, fun z => ?_, h3, h4, h5, h6⟩
    · obtain ⟨o, es, ep, ho, hd, _⟩ := T.g
      have h3' : (ghostOf h [(89, 85)]).get? mainGlobals = some ob := z ▸ h3
      rw [ho] at h3'; cases h3'
      rw [hd] at h6; cases h6
    · have z' : bm = 85 := z
      have h3' : (ghostOf h [(89, 85)]).get? 85 = some ob := z' ▸ h3
      rw [show (ghostOf h [(89, 85)]).get? 85 = none from PySem.W.hideAll_none _ (.head _)] at h3'
      cases h3'
  low := low85
  tabT := PySem.W.hideAll_none _ (.head _)
end
end
section
open PySem.W (Frag TabsAt ghostOf ghost_ne ghost_get tabObj)
set_option maxRecDepth 100000

theorem ints_rd {bad : Addr → Prop} {h : Heap} {vs : List Value} {ns : List Int} (x : IntsAre vs ns) : RdAll bad h vs (iL ns) := by
  induction x with
  | nil => exact .nil
  | cons => rename_i ih; exact .cons (.int _ _) ih
theorem lt4 (n : Nat) : n < n + 1 ∧ n < n + 1 + 1 ∧ n < n + 1 + 1 + 1 ∧ n < n + 1 + 1 + 1 + 1 := by omega
theorem ne4 (n : Nat) : n + 1 + 1 + 1 + 1 ≠ n + 1 + 1 + 1 ∧ n + 1 + 1 + 1 + 1 ≠ n + 1 + 1 ∧ n + 1 + 1 + 1 + 1 ≠ n + 1 ∧ n + 1 + 1 + 1 ≠ n + 1 + 1 ∧ n + 1 + 1 + 1 ≠ n + 1 ∧ n + 1 + 1 ≠ n + 1 := by omega
noncomputable def envLaw (L fa : Addr) (cd : Value) : Env := envOfC (Str.ofString "law") (pScope 35) L fa cd
theorem law_cells (L fa : Addr) (cd : Value) : (envLaw L fa cd).cells = [(Str.ofString "place", L + 1 + 1 + 1 + 1), (Str.ofString "hidden", L + 1 + 1 + 1), (Str.ofString "items", L + 1 + 1), (Str.ofString "drawn", L + 1)] := rfl
noncomputable def badLaw (L fa : Addr) (cd : Value) (b : Addr) : Prop := b = L ∨ ∃ y, (y, b) ∈ (envLaw L fa cd).cells
noncomputable def cxLaw (L fa : Addr) (cd : Value) : Cx := ⟨callerA.deeper (envLaw L fa cd), envLaw L fa cd, nLaw, badLaw L fa cd, 6, (envLaw L fa cd).cells⟩

section
variable {w : World} {h h₁ : Heap} {mg mb m : Str → Option Value} {L fa a : Addr} {cd : Value} {o1 o2 o3 o4 : Obj} {v1 v2 v3 v4 : Option Value} {vs : List Value} {ns : List Int} {tk : Nat} {gens : Array GenState} {dr : Nat} {os : OsState}
theorem frame_top (g : TopOk (topG w h mg mb)) (F : Fr (ghostOf h [(89, 85)]) L h₁ m) (hm : m (Str.ofString "script") = some (.ref a)) (N : News (ghostOf h [(89, 85)]) L h₁ [(L + 1 + 1 + 1 + 1, o4), (L + 1 + 1 + 1, o3), (L + 1 + 1, o2), (L + 1, o1), (85, tabObj #[])])
    (e1 : o1.data = .cell v1) (e2 : o2.data = .cell v2) (e3 : o3.data = .cell v3) (e4 : o4.data = .cell v4) (hl : (ghostOf h [(89, 85)]).IsList a vs.toArray) (hi : IntsAre vs ns) (s : Shared) (hs : s.heap = h₁) (hgs : s.gens = gens) (hos : s.os = os) :
    FS (topG w h mg mb) ⟨ghostOf h [(89, 85)], gens, os, fun _ => False⟩ (cxLaw L fa cd) [some (.d (.list (iL ns))), none, none, none, none, none, none, none, none, none] [] s := by
  subst hs hgs hos
  have above := F.above
  have fresh : ∀ b, L ≤ b → (ghostOf h [(89, 85)]).get? b = none := fun b hb => by
    cases e : (ghostOf h [(89, 85)]).get? b with
    | none => rfl
    | some o => exact absurd (Nat.lt_of_lt_of_le (Heap.lt_size e) above) (Nat.not_lt.mpr hb)
  have cellAt : ∀ y c, (y, c) ∈ (envLaw L fa cd).cells → (∃ v, s.heap.IsCell c v) ∧ L < c := fun y c hc => by
    rw [law_cells] at hc
    simp only [List.mem_cons, Prod.mk.injEq, List.not_mem_nil, or_false] at hc
    rcases hc with ⟨_, rfl⟩ | ⟨_, rfl⟩ | ⟨_, rfl⟩ | ⟨_, rfl⟩
    · exact ⟨⟨_, o4, (N _ (.head _)).1, e4⟩, (lt4 L).2.2.2⟩
    · exact ⟨⟨_, o3, (N _ (.tail _ (.head _))).1, e3⟩, (lt4 L).2.2.1⟩
    · exact ⟨⟨_, o2, (N _ (.tail _ (.tail _ (.head _)))).1, e2⟩, (lt4 L).2.1⟩
    · exact ⟨⟨_, o1, (N _ (.tail _ (.tail _ (.tail _ (.head _))))).1, e1⟩, (lt4 L).1⟩
  have hlr : ∀ b, badLaw L fa cd b → L ≤ b := fun b hb => by
    rcases hb with rfl | ⟨y, hy⟩
    · exact Nat.le_refl _
    · exact Nat.le_of_lt (cellAt y b hy).2
  have tab : TabI (topG w h mg mb) s.heap := ⟨#[], (N _ (.tail _ (.tail _ (.tail _ (.tail _ (.head _)))))).1, .inl rfl⟩
  refine { st := ⟨⟨rfl, rfl, rfl, ?_, ?_, ?_⟩, ⟨rfl, ?_, ?_⟩, ⟨g, F.keep, tab, ?_⟩, fun y o hy => ?_, fun b hb => ?_⟩,
           base := .of_keeps F.keep, ownL := fresh _ (Nat.le_refl _), ownC := fun y c hc => fresh c (Nat.le_of_lt (cellAt y c hc).2), ns := ⟨m, F.ns⟩, cs := fun y c hc => (cellAt y c hc).1, apart := ?_, gens := ⟨#[], by simp, by simp⟩, os := rfl,
           accN := .nil, accB := fun _ _ z => (nomatch z), acc := fun _ _ z => (nomatch z), obad := fun b hb => hb.elim, own := ⟨.inl rfl, fun y c hc => .inr ⟨y, hc⟩⟩, hT := fun _ _ e => e }
  · show nLaw.Nodup; decide +kernel
  · show ∀ x ∈ nLaw, _; decide +kernel
  · intro x hx
    show (pScope 35).names.lookup x = _ ∨ ((pScope 35).names.lookup x = _ ∧ ∃ c, (envLaw L fa cd).cells.lookup x = _)
    simp only [cxLaw, nLaw, List.mem_cons, List.not_mem_nil, or_false] at hx
    rcases hx with rfl | rfl | rfl | rfl | rfl | rfl | rfl | rfl | rfl | rfl
    · exact .inl (by decide +kernel)
    · exact .inl (by decide +kernel)
    · exact .inr ⟨by decide +kernel, L + 1, by kernel_rfl⟩
    · exact .inl (by decide +kernel)
    · exact .inl (by decide +kernel)
    · exact .inr ⟨by decide +kernel, L + 1 + 1, by kernel_rfl⟩
    · exact .inl (by decide +kernel)
    · exact .inr ⟨by decide +kernel, L + 1 + 1 + 1, by kernel_rfl⟩
    · exact .inr ⟨by decide +kernel, L + 1 + 1 + 1 + 1, by kernel_rfl⟩
    · exact .inl (by decide +kernel)
  · show 1 + claimMargin + 1 + 6 < recursionLimit; decide +kernel
  · show 4 + 3 + 4 * 6 + 100 < cLine; decide +kernel
  · refine ⟨[envLaw L fa cd], rfl, ?_⟩
    exact Heap.FunFrames.cons (by intro z; cases z) rfl F.ns (fresh _ (Nat.le_refl _)) trivial
  · cases hy with
    | tail hy => exact absurd hy (varIx_none (ys := [_, _, _, _, _, _, _, _, _]))
    | head =>
      refine ⟨.ref a, .inl ⟨by show (pScope 35).names.lookup _ = _; decide +kernel, m, F.ns, hm⟩, ?_⟩
      have r : Rd (fun _ => False) (ghostOf h [(89, 85)]) (.ref a) (.list (iL ns)) := .list hl id (ints_rd hi)
      obtain ⟨as, rr, _⟩ := r
      refine ⟨as, reads_sim (.of_keeps F.keep) rr, fun b hb hbb => ?_⟩
      have lt := reads_lt rr b hb
      rcases hbb with hbb | hbb
      · exact absurd (Nat.lt_of_lt_of_le lt above) (Nat.not_lt.mpr (hlr b hbb))
      · cases hbb
  · rcases hb with (rfl | ⟨z, hz⟩) | hb
    · obtain ⟨o, es, ep, e, d, _⟩ := F.ns
      exact ⟨o, Plain.of_data (fun vs q => by rw [d] at q; cases q), e⟩
    · obtain ⟨⟨v, o, e, d⟩, _⟩ := cellAt z b hz
      exact ⟨o, Plain.of_data (fun vs q => by rw [d] at q; cases q), e⟩
    · cases hb
  · show (envLaw L fa cd).cells.Pairwise _
    rw [law_cells]
    obtain ⟨n1, n2, n3, n4, n5, n6⟩ := ne4 L
    refine .cons ?_ (.cons ?_ (.cons ?_ (.cons ?_ .nil)))
    · intro x hx
      simp only [List.mem_cons, List.not_mem_nil, or_false] at hx
      rcases hx with rfl | rfl | rfl
      · exact n1
      · exact n2
      · exact n3
    · intro x hx
      simp only [List.mem_cons, List.not_mem_nil, or_false] at hx
      rcases hx with rfl | rfl
      · exact n4
      · exact n5
    · intro x hx
      simp only [List.mem_cons, List.not_mem_nil, or_false] at hx
      subst hx; exact n6
    · intro x hx; cases hx
end
end
section
open PySem.W (Frag TabsAt ghostOf ghost_ne ghost_get tabObj GoodWG ClaimW WData CodeHd topProg)
set_option maxRecDepth 100000

theorem good_end {cw : ClaimW} {cl : Str → Option Addr} {mean : ExcName → Option Value} {args : List WData} {s₁ s' : Shared} (hT : TabsAt [(89, 85)] s₁.heap) (hn : ∀ c, cw.raises args c = false) (hp : cw.post args (.bool true) args = true)
    (top : (ghostOf s₁.heap [(89, 85)]).StaysIn s'.heap) (tab : ∃ ps, s'.heap.get? 85 = some (tabObj ps)) (hg : AllBare s'.gens) (hos : s'.os = s₁.os) : GoodWG cw cl mean args s₁ (.ok (.ret (.bool true))) s' := by
  obtain ⟨ps, hps⟩ := tab
  have h9 := hT (89, 85) (.head _)
  have old : ∀ b o, s₁.heap.get? b = some o → (b = 85 ∧ o = tabObj #[]) ∨ s'.heap.get? b = some o := fun b o e => by
    by_cases hb : b = 85
    · subst hb
      exact .inl ⟨rfl, Option.some.inj (e.symm.trans h9.2)⟩
    · exact .inr (top b o (ghost_ne e fun z => hb (by simpa using z)))
  refine ⟨.inl ⟨_, .bool true, [], rfl, hn, .bool true, hp, fun _ => ⟨.nil, fun _ z => nomatch z⟩⟩, ⟨fun b o e => ?_, fun b o e => ?_⟩, hos, hg⟩
  · rcases old b o e with ⟨rfl, rfl⟩ | e'
    · exact .inr (.inl ⟨(h9.1.tab h9.2).isCodeTable, rfl, #[], ps, rfl, by simpa using hps⟩)
    · exact .inl e'
  · rcases old b o e with ⟨rfl, rfl⟩ | e'
    · exact ⟨_, hps⟩
    · exact ⟨_, e'⟩

section
variable {w : World} {mg mb m : Str → Option Value} {L fa a : Addr} {cd : Value} {o1 o2 o3 o4 : Obj} {v1 v2 v3 v4 : Option Value} {vs : List Value} {ns : List Int} {loose loose' : List Str} {mean mean' : ExcName → Option Value}
  {cw : ClaimW} {cl : Str → Option Addr} {args : List WData}
/-- the whole of law's body, from the top to its end -/
theorem law_end {s₁ : Shared} {s : Shared} {E : Value → Shared → Prop} (hT : TabsAt [(89, 85)] s₁.heap) (T : Top viewL loose mean mg mb s₁.heap) (X : (heapS w.params).In s₁.heap) (hg : s₁.gens = #[])
    (T' : Top topProg loose' mean mg mb (ghostOf s₁.heap [(89, 85)])) (X' : (heapS w.params).In (ghostOf s₁.heap [(89, 85)])) (C : CodeHd (ghostOf s₁.heap [(89, 85)]) 89 85)
    (F : Fr (ghostOf s₁.heap [(89, 85)]) L s.heap m) (hm : m (Str.ofString "script") = some (.ref a)) (N : News (ghostOf s₁.heap [(89, 85)]) L s.heap [(L + 1 + 1 + 1 + 1, o4), (L + 1 + 1 + 1, o3), (L + 1 + 1, o2), (L + 1, o1), (85, tabObj #[])])
    (e1 : o1.data = .cell v1) (e2 : o2.data = .cell v2) (e3 : o3.data = .cell v3) (e4 : o4.data = .cell v4) (hl : (ghostOf s₁.heap [(89, 85)]).IsList a vs.toArray) (hi : IntsAre vs ns) (hlen : ns.length ≤ 1000)
    (hgs : s.gens = s₁.gens) (hos : s.os = s₁.os) (hn : ∀ c, cw.raises args c = false) (hp : cw.post args (.bool true) args = true) :
    wpAny (model PySem.Challenge.rw_kt0034_01.row.prog w) (callerA.deeper (envLaw L fa cd)) (execs (pBody 35) (envLaw L fa cd))
      (fun f s' => GoodWG cw cl mean' args s₁ (.ok (.ret (match f with | .ret v => v | _ => .none))) s') E s := by
  have Df := defs_top (w := w) hT T X
  have B := blt_top (w := w) T' X'
  have g := topOk_top (w := w) T'
  have R := re_top hT T' X' C
  have FS0 := frame_top (cd := cd) (fa := fa) g F hm N e1 e2 e3 e4 hl hi s rfl hgs hos
  refine law_ok Df B R lam_top (callerA.deeper (envLaw L fa cd)) (envLaw L fa cd) (badLaw L fa cd) (fun x => rfl) ns hlen _ s _ E FS0 fun o f V acc s' p q hf => ?_
  subst p
  obtain ⟨v, rfl, r⟩ := hf
  cases r.bool_inv
  refine good_end hT hn hp q.st.ok.top ?_ ?_ q.os
  · obtain ⟨ps, e, _⟩ := q.st.ok.tab
    exact ⟨ps, e⟩
  · obtain ⟨gs, e, hb⟩ := q.gens
    rw [e]
    intro y hy
    have e0 : s₁.gens ++ gs = gs := by rw [hg]; simp
    exact hb y (e0 ▸ hy)
end
end
end Mine
open PySem.W
set_option maxRecDepth 100000 in
set_option maxHeartbeats 8000000 in
theorem PySem.Challenge.cw_kt0034_01_holds : PySem.Challenge.rw_kt0034_01.Holds := by
  refine Mine.hd_S ?_
  intro w s₀ s₁ mg mb G Y fa o pm cd doc dV kV ho hd hcd hD hmg hg args vals as hpre hlay hrd hwl hlo
  have KX : (Mine.heapS w.params).In s₁.heap := km_in_of Y
  have hT8 : ∀ P ∈ [85], s₁.heap.get? P = some (tabObj #[]) := km_tabs_of Y
  have X := (Ground.X G).1
  have V := (Ground.X G).2
  refine Ground.open G ?_
  intro T B D TE TW
  try (refine guard_noD D (by decide +kernel) ?_; clear D)
  have hT9 : TabsAt [(89, 85)] s₁.heap := List.forall_mem_cons.mpr ⟨⟨codeHd_of_K (c := 89) (P := 85) KX (by kernel_rfl), hT8 85 (.head _)⟩, fun _ z => nomatch z⟩
  clear hmg
  wrow_args hpre hlay hrd hwl hlo
  all_goals (
    first | refine callC_kw (enter_call ?_) | refine enter_call ?_
    w_top on
    w_call any ho hd hcd hD T F
    clear hd
    kn_ghosts F T
    k_drop
    skip)
  rename_i o4 o3 o2 o1 e4 e3 e2 e1 X0 X' T' K' F' N' l0
  have hc63 := ‹¬ ((63 : Int) < _)›
  refine Mine.law_end (L := s₁.heap.objs.size) (fa := fa) (cd := cd) hT9 T (km_in_of Y) hg T' X' codeHd F' (by rfl) N' e1 e2 e3 e4 lifted ‹IntsAre _ _› (by omega) rfl rfl (fun _ => rfl) ?_
  first | rfl | kernel_rfl | decide +kernel
