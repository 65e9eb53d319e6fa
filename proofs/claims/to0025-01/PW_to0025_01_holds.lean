import PyProof.Rows.All
import Wide.All
import OpenK.AllK
import Wide.FinOn
import PySem.Challenge.RW_to0025_01
set_option Elab.async false
section
open PySem PySem.W PyProof.Rows
namespace Mine
set_option maxRecDepth 100000
set_option maxHeartbeats 8000000
inductive IsProg : Program → Prop
  | mk : IsProg PySem.Challenge.pw_to0025_01
theorem IsProg.of {p : Program} (h : PySem.Challenge.pw_to0025_01 = p) : IsProg p := h ▸ .mk
noncomputable def prog : Program := by
  refine (fun (_ : IsProg ?p) => ?p) (IsProg.of ?e)
  case e => conv => lhs; reduce
open_top hd for ((by
  refine (fun (_ : prog = ?p) => OpenLaw.row { prog := ?p, name := ⟨⟨[108, 97, 119]⟩⟩, about := [⟨⟨[104, 115, 118, 95, 116, 111, 95, 114, 103, 98]⟩⟩], foot := 11, most := some 63, bound := none, writes := false }) ?e
  case e => conv => lhs; delta prog; whnf
  : OpenRow) :)
theorem said_of (h : PySem.Challenge.rw_to0025_01.row.Holds) : PySem.Challenge.rw_to0025_01.Holds := by
  refine ⟨?_, h⟩
  unfold OpenLaw.wellSaid
  rw [PySem.W.Fast.named_eq]
  iterate 18 (refine Bool.and_eq_true_iff.mpr ⟨?_, by decide +kernel⟩)
  exact h.1
end Mine
end
section
open PySem PySem.W PySem.Calls PyProof.Rows
set_option maxRecDepth 100000
set_option linter.unusedVariables false
set_option genInjectivity false
set_option genSizeOf false
namespace Mine
noncomputable section
abbrev VP := Value → Prop
abbrev Led := List (Addr × Obj)
noncomputable def isI (i : Int) : VP := fun v => ∃ t, v = .int i t
noncomputable def isF (x : UInt64) : VP := fun v => ∃ t : Nat, v = .float x t ∧ t ≠ 0
noncomputable def isS (x : Str) : VP := fun v => ∃ t, v = .str x t
noncomputable def isB (b : Bool) : VP := fun v => v = .bool b
noncomputable def isR (a : Addr) : VP := fun v => v = .ref a
/-- the place of a call: everything that stays as it is while its body runs -/
structure Cx where
  w : World
  prog : Program
  p : Program
  loose : List Str
  mean : ExcName → Option Value
  mg : Str → Option Value
  mb : Str → Option Value
  gd : Option (List Code)
  dp : Nat
  un : Nat
  cn : Str
  a : Addr
  ccd : Value
  cl : List (Str × Addr)
  outer : List Env
  A₀ : Around
  base : Heap
  h₀ : Heap
  L : Addr
  gens : Array GenState
  drawn : Drawn
  os : OsState
  t : Nat
/-- a comprehension's own frame -/
structure Lay where
  sc : Scope
  cl : List (Str × Addr)
  C : Addr
  m : List (Str × VP)
/-- what is known at a step: its place, its scope, the depth to spare, the names, the ledger -/
structure G where
  c : Cx
  cs : Scope
  k : Nat
  t : Nat
  m : List (Str × VP)
  n : Led
  y : List Lay
abbrev Cx.K (c : Cx) : Frag := Mine.hd.heap_1 c.w.params
noncomputable def lays (env : Env) : List Lay → Env
  | [] => env
  | l :: r => compEnvC l.sc l.cl l.C (lays env r)
abbrev Cx.env (c : Cx) (cs : Scope) : Env := envX c.cn cs c.L c.a c.ccd c.cl
abbrev G.env (g : G) : Env := lays (g.c.env g.cs) g.y
abbrev Cx.A (c : Cx) (cs : Scope) : Around := ktrTop c.dp c.un c.gd c.cn cs c.L c.a c.ccd c.cl c.outer
abbrev G.A (g : G) : Around := g.c.A g.cs
abbrev G.M (g : G) : Model := model g.c.prog g.c.w
/-- what a name holds -/
noncomputable def Rd (cl : List (Str × Addr)) (cs : Scope) (mf cm : Str → Option Value) (x : Str) (v : Value) : Prop :=
  (cs.names.lookup x = some .local ∧ mf x = some v) ∨ (cs.names.lookup x = some .cell ∧ (cl.lookup x).isSome = true ∧ cm x = some v)
noncomputable def Rds (cl : List (Str × Addr)) (cs : Scope) (mf cm : Str → Option Value) (m : List (Str × VP)) : Prop := ∀ x V, m.lookup x = some V → ∃ v, Rd cl cs mf cm x v ∧ V v
/-- the frame, its cells, the ledger -/
inductive Fz (c : Cx) (cs : Scope) (h : Heap) (m : List (Str × VP)) (n : Led) : Prop
  | mk (mf cm : Str → Option Value) (cells : Led) (F : Fr c.h₀ c.L h mf) (N : News c.h₀ c.L h (n ++ cells)) (hc : ∀ x a, c.cl.lookup x = some a → ∃ o, (a, o) ∈ cells ∧ o.data = .cell (cm x))
    (hi : ∀ q ∈ cells, (∃ x, c.cl.lookup x = some q.1) ∧ ∀ p ∈ n, p.1 ≠ q.1) (r : Rds c.cl cs mf cm m) : Fz c cs h m n
/-- the frame of a comprehension stands in the ledger -/
inductive LayAt (env : Env) (n : Led) (l : Lay) : Prop
  | mk (kd : l.sc.kind = .function) (oC : Obj) (mC : Str → Option Value) (mem : (l.C, oC) ∈ n) (ns : ∀ h : Heap, h.get? l.C = some oC → h.Ns l.C mC)
    (rd : ∀ x V, l.m.lookup x = some V → (relabel l.sc env).names.lookup x = some .local ∧ ∃ v, mC x = some v ∧ V v) : LayAt env n l
noncomputable def LayOk (env : Env) (n : Led) : List Lay → Prop
  | [] => True
  | l :: r => LayAt (lays env r) n l ∧ LayOk env n r
/-- what never changes -/
structure Stc (c : Cx) (cs : Scope) (k : Nat) : Prop where
  B : Below c.A₀ c.base c.outer c.h₀
  X : c.K.In c.h₀
  T : Top c.p c.loose c.mean c.mg c.mb c.h₀
  kd : cs.kind = .function
  d : c.dp + 5 * k < recursionLimit
  u : c.un + 40 * k < cLine
  inj : ∀ x y a, c.cl.lookup x = some a → c.cl.lookup y = some a → x = y
  z : 0 < c.t
noncomputable def Dy (c : Cx) (s : Shared) : Prop := s.gens = c.gens ∧ s.drawn = c.drawn ∧ s.os = c.os
structure St (g : G) (s : Shared) : Prop where
  P : Stc g.c g.cs g.k
  F : Fz g.c g.cs s.heap g.m g.n
  D : Dy g.c s
  t : g.t ≤ s.toks
  t0 : g.c.t ≤ g.t
  y : LayOk (g.c.env g.cs) g.n g.y
theorem St.pos {g : G} {s : Shared} (S : St g s) : s.toks ≠ 0 := Nat.ne_of_gt (Nat.lt_of_lt_of_le S.P.z (Nat.le_trans S.t0 S.t))
theorem St.at {g : G} {s : Shared} (S : St g s) {h : Heap} {tk : Nat} (F : Fz g.c g.cs h g.m g.n) (ht : s.toks ≤ tk) : St g { s with heap := h, toks := tk } := ⟨S.P, F, S.D, Nat.le_trans S.t ht, S.t0, S.y⟩
theorem St.toks {g : G} {s : Shared} (S : St g s) {n : Nat} (h : s.toks ≤ n) : St g { s with toks := n } := S.at S.F h
theorem St.tok {g : G} {s : Shared} (S : St g s) : St g { s with toks := s.toks + 1 } := S.toks (Nat.le_succ _)
abbrev G.PO (g : G) (E : Value → Shared → Prop) : Prop := g.y = [] → PassesOwn g.M g.A g.env E
/-- an expression: what it comes to -/
noncomputable def EvG (g : G) (e : Expr) (R : Value → Shared → Prop) : Prop :=
  ∀ (Q E : Value → Shared → Prop) s, g.PO E → St g s → (∀ v s', R v s' → Q v s') → wpAny g.M g.A (eval e g.env) Q E s
/-- .. that changes nothing -/
noncomputable def Ev (g : G) (e : Expr) (V : VP) : Prop := EvG g e fun v s' => V v ∧ St g s'
/-- statements, and the statements behind them -/
noncomputable def seqW (M : Model) (A : Around) (env : Env) : List (List Stmt) → (Flow → Shared → Prop) → (Value → Shared → Prop) → Shared → Prop
  | [], Q, _, s => Q .next s
  | ss :: r, Q, E, s => wpAny M A (execs ss env) (fun f s' => match f with | .next => seqW M A env r Q E s' | f => Q f s') E s
noncomputable def Ex (g : G) (ss : List (List Stmt)) (P : Flow → Shared → Prop) : Prop :=
  ∀ (Q : Flow → Shared → Prop) (E : Value → Shared → Prop) s, g.PO E → St g s → (∀ f s', P f s' → Q f s') → seqW g.M g.A g.env ss Q E s
theorem seq_cons {M : Model} {A : Around} {env : Env} {st : Stmt} {rest : List Stmt} {r : List (List Stmt)} {Q : Flow → Shared → Prop} {E : Value → Shared → Prop} {s : Shared}
    (h : wpAny M A (exec st env) (fun f s' => match f with | .next => seqW M A env (rest :: r) Q E s' | f => Q f s') E s) : seqW M A env ((st :: rest) :: r) Q E s :=
  wpAny_execs_cons (wpAny_mono h (fun f s' q => by cases f <;> exact q) fun _ _ e => e)
/-- an expression as a test -/
noncomputable def Tr (g : G) (e : Expr) (b : Bool) : Prop :=
  ∀ (Q : Bool → Shared → Prop) (E : Value → Shared → Prop) s, g.PO E → St g s → (∀ s', St g s' → Q b s') → wpAny g.M g.A (isTrue e g.env (eval e g.env)) Q E s
/-- an operation upon two values -/
noncomputable def Bi (g : G) (op : Operator) (V U W : VP) : Prop :=
  ∀ v u, V v → U u → ∀ (Q E : Value → Shared → Prop) s, s.toks ≠ 0 → (∀ r k, W r → s.toks ≤ k → Q r { s with toks := k }) → wpAny g.M g.A (binaryOp op v u) Q E s
noncomputable def Cm (g : G) (op : CmpOp) (V U : VP) (b : Bool) : Prop :=
  ∀ v u, V v → U u → ∀ (Q E : Value → Shared → Prop) s, St g s → (∀ k, s.toks ≤ k → Q (.bool b) { s with toks := k }) → wpAny g.M g.A (compareOp op v u) Q E s
noncomputable def Tv (g : G) (V : VP) (b : Bool) : Prop := ∀ v, V v → ∀ (Q : Bool → Shared → Prop) (E : Value → Shared → Prop) s, St g s → Q b s → wpAny g.M g.A (truthy v) Q E s
variable {g : G}
theorem EvG.mono {e : Expr} {R R' : Value → Shared → Prop} (h : EvG g e R) (k : ∀ v s, R v s → R' v s) : EvG g e R' := fun Q E s p S q => h Q E s p S fun v s' r => q v s' (k v s' r)
theorem Ev.conv {e : Expr} {V U : VP} (h : Ev g e V) (k : V = U) : Ev g e U := k ▸ h
theorem Ev.name {c : Cx} {cs : Scope} {k t : Nat} {m : List (Str × VP)} {n : Led} {x : Str} {pos : Pos} {V : VP} (h : m.lookup x = some V) (hd : (x == ("__debug__" : Str)) = false) : Ev ⟨c, cs, k, t, m, n, []⟩ (.Name x pos) V := fun Q E s _ S q => by
  cases S.F with | mk mf cm cells F N hc hi r =>
  obtain ⟨v, hv, hV⟩ := r x V h
  cases hv with
  | inl e => exact nameX_L F e.2 (q _ _ ⟨hV, S⟩) S.P.kd e.1 hd
  | inr e =>
    obtain ⟨a, ha⟩ := Option.isSome_iff_exists.mp e.2.1
    obtain ⟨o, ho, hdt⟩ := hc x a ha
    exact nameX_C N ha (List.mem_append_right _ ho) (hdt.trans (congrArg _ e.2.2)) (q _ _ ⟨hV, S⟩) S.P.kd e.1 hd
/-- a name of the comprehension's own -/
theorem Ev.nameL {c : Cx} {cs : Scope} {k t : Nat} {m : List (Str × VP)} {n : Led} {l : Lay} {r : List Lay} {x : Str} {pos : Pos} {V : VP} (h : l.m.lookup x = some V) (hd : (x == ("__debug__" : Str)) = false) : Ev ⟨c, cs, k, t, m, n, l :: r⟩ (.Name x pos) V := fun Q E s _ S q => by
  cases S.y.1 with | mk kd oC mC mem ns rd =>
  cases S.F with | mk mf cm cells F N hc hi r =>
  obtain ⟨hx, v, hv, hV⟩ := rd x V h
  exact wpAny_Name (wpAny_loadName_local kd hx (ns _ (N _ (List.mem_append_left _ mem)).1) hv (q _ _ ⟨hV, S⟩)) hd
/-- a name that the comprehension has from the def -/
theorem Ev.nameC {c : Cx} {cs : Scope} {k t : Nat} {m : List (Str × VP)} {n : Led} {l : Lay} {r : List Lay} {x : Str} {pos : Pos} {V : VP} (h : m.lookup x = some V) (hk : cs.names.lookup x = some .cell) (hx : (relabel l.sc (lays (c.env cs) r)).names.lookup x = some .cell) (hl : l.cl.lookup x = c.cl.lookup x) (hd : (x == ("__debug__" : Str)) = false) :
    Ev ⟨c, cs, k, t, m, n, l :: r⟩ (.Name x pos) V := fun Q E s _ S q => by
  cases S.y.1 with | mk kd oC mC mem ns rd =>
  cases S.F with | mk mf cm cells F N hc hi r =>
  obtain ⟨v, hv, hV⟩ := r x V h
  cases hv with
  | inl e => exact absurd (hk.symm.trans e.1) (fun h => nomatch h)
  | inr e =>
    obtain ⟨a, ha⟩ := Option.isSome_iff_exists.mp e.2.1
    obtain ⟨o, ho, hdt⟩ := hc x a ha
    exact wpAny_Name (wpAny_loadName_cell kd hx (hl.trans ha) ⟨o, (N _ (List.mem_append_right _ ho)).1, hdt.trans (congrArg _ e.2.2)⟩ (q _ _ ⟨hV, S⟩)) hd
theorem env_fn {env : Env} {n : Led} : ∀ {y : List Lay}, env.scope.kind = .function → LayOk env n y → (lays env y).scope.kind = .function
  | [], h, _ => h
  | _ :: _, _, h => by cases h.1 with | mk kd => exact kd
theorem env_top {env : Env} : ∀ {y : List Lay}, (lays env y).globals = env.globals ∧ (lays env y).builtins = env.builtins
  | [] => ⟨rfl, rfl⟩
  | _ :: r => env_top (y := r)
theorem Ev.glob {x : Str} {pos : Pos} {v : Value} (hx : g.env.kindOf x = some .globalImplicit) (e : nsIn g.c.K mainGlobals x = some (some v)) (hd : (x == ("__debug__" : Str)) = false) : Ev g (.Name x pos) (fun u => u = v) := fun Q E s _ S q => by
  cases S.F with | mk mf cm cells F =>
  exact nameG_K F S.P.X (topRead_of S.P.T) e (q _ _ ⟨rfl, S⟩) env_top.1 (env_fn S.P.kd S.y) hx hd
theorem Ev.globI {x : Str} {pos : Pos} {i : Int} {t : Tok} (hx : g.env.kindOf x = some .globalImplicit) (e : nsIn g.c.K mainGlobals x = some (some (.int i t))) (hd : (x == ("__debug__" : Str)) = false) : Ev g (.Name x pos) (isI i) :=
  EvG.mono (Ev.glob hx e hd) fun v s r => ⟨⟨t, r.1⟩, r.2⟩
theorem Ev.globR {x : Str} {pos : Pos} {a : Addr} (hx : g.env.kindOf x = some .globalImplicit) (e : nsIn g.c.K mainGlobals x = some (some (.ref a))) (hd : (x == ("__debug__" : Str)) = false) : Ev g (.Name x pos) (isR a) := Ev.glob hx e hd
theorem Ev.built {x : Str} {pos : Pos} {v : Value} (hx : g.env.kindOf x = some .globalImplicit) (e : nsIn g.c.K mainGlobals x = some none) (hv : bootBuiltins x = some v) (hn : x ≠ "__name__") (hd : (x == ("__debug__" : Str)) = false) : Ev g (.Name x pos) (fun u => u = v) := fun Q E s _ S q => by
  cases S.F with | mk mf cm cells F =>
  have T := topRead_of S.P.T
  exact Name_function_global (env_fn S.P.kd S.y) hx (loadGlobal_builtin (by rw [env_top.1]; exact T.g.keeps F.keep) (mg_none_of S.P.X T.g e) (by rw [env_top.2]; exact T.b.keeps F.keep) ((T.builtins x hn).trans hv) (q _ _ ⟨rfl, S⟩)) hd
theorem Ev.int {i : Int} {k : Nat} {pos : Pos} : Ev g (.Constant (.int i) k pos) (isI i) := fun Q E s _ S q => wpAny_Constant_int (q _ _ ⟨⟨_, rfl⟩, S.tok⟩)
theorem Ev.flt {x : UInt64} {k : Nat} {pos : Pos} : Ev g (.Constant (.float x) k pos) (isF x) := fun Q E s _ S q => AutoFloatOps.wpAny_Constant_float (q _ _ ⟨⟨_, rfl, S.pos⟩, S.tok⟩)
theorem Ev.str {x : Str} {k : Nat} {pos : Pos} : Ev g (.Constant (.str x) k pos) (isS x) := fun Q E s _ S q => wpAny_Constant_str (q _ _ ⟨⟨_, rfl⟩, S.tok⟩)
theorem Ev.bool {b : Bool} {k : Nat} {pos : Pos} : Ev g (.Constant (.bool b) k pos) (isB b) := fun Q E s _ S q => wpAny_Constant_bool (q _ _ ⟨rfl, S⟩)
theorem Ev.bin {l r : Expr} {op : Operator} {pos : Pos} {V U W : VP} (h1 : Ev g l V) (h2 : Ev g r U) (h3 : Bi g op V U W) : Ev g (.BinOp l op r pos) W := fun Q E s p S q =>
  wpAny_BinOp (h1 _ _ _ p S fun v s1 a => h2 _ _ _ p a.2 fun u s2 b => h3 v u a.1 b.1 _ _ _ b.2.pos fun r k hr hk => q _ _ ⟨hr, b.2.toks hk⟩)
theorem Ev.cmp {l r : Expr} {op : CmpOp} {pos : Pos} {V U : VP} {b : Bool} (h1 : Ev g l V) (h2 : Ev g r U) (h3 : Cm g op V U b) (hm : behindInMarks op r = false) : Ev g (.Compare l [op] [r] pos) (isB b) := fun Q E s p S q =>
  wpAny_Compare1 (h1 _ _ _ p S fun v s1 a => h2 _ _ _ p a.2 fun u s2 b => h3 v u a.1 b.1 _ _ _ b.2 fun k hk => q _ _ ⟨rfl, b.2.toks hk⟩) hm
theorem Tr.cmp {l r : Expr} {op : CmpOp} {pos : Pos} {V U : VP} {b : Bool} (h1 : Ev g l V) (h2 : Ev g r U) (h3 : Cm g op V U b) (hm : behindInMarks op r = false) : Tr g (.Compare l [op] [r] pos) b := fun Q E s p S q =>
  wpAny_isTrue_Compare1 (h1 _ _ _ p S fun v s1 a => h2 _ _ _ p a.2 fun u s2 b => h3 v u a.1 b.1 _ _ _ b.2 fun k hk => wpAny_truthy_bool (q _ (b.2.toks hk))) hm
theorem Tr.of {e : Expr} {b b' : Bool} (h : Tr g e b) (e' : b = b') : Tr g e b' := e' ▸ h
theorem Ev.ite {t x y : Expr} {pos : Pos} {b : Bool} {V : VP} (h : Tr g t b) (h1 : b = true → Ev g x V) (h2 : b = false → Ev g y V) : Ev g (.IfExp t x y pos) V := fun Q E s p S q =>
  wpAny_IfExp (h _ _ _ p S fun s' S' => by
    cases b with
    | true => exact h1 rfl _ _ _ p S' q
    | false => exact h2 rfl _ _ _ p S' q)
theorem Ex.nil {P : Flow → Shared → Prop} (h : ∀ s, St g s → P .next s) : Ex g [] P := fun Q E s _ S q => q _ _ (h s S)
theorem Ex.pop {r : List (List Stmt)} {P : Flow → Shared → Prop} (h : Ex g r P) : Ex g ([] :: r) P := fun Q E s p S q => wpAny_execs_nil (h Q E s p S q)
theorem Ex.ret {e : Expr} {pos : Pos} {rest : List Stmt} {r : List (List Stmt)} {R : Value → Shared → Prop} {P : Flow → Shared → Prop} (h : EvG g e R) (k : ∀ v s, R v s → P (.ret v) s) : Ex g ((.Return (some e) pos :: rest) :: r) P := fun Q E s p S q =>
  seq_cons (wpAny_Return_some (h _ _ _ p S fun v s' r => q _ _ (k v s' r)))
theorem lookup_put {x y : Str} {U V : VP} {m : List (Str × VP)} (e : ((x, V) :: m).lookup y = some U) : (y = x ∧ V = U) ∨ (y ≠ x ∧ m.lookup y = some U) := by
  by_cases q : y = x
  · subst q
    rw [List.lookup_cons, beq_self_eq_true] at e
    exact .inl ⟨rfl, Option.some.inj e⟩
  · rw [List.lookup_cons, beq_eq_false_iff_ne.mpr q] at e
    exact .inr ⟨q, e⟩
theorem Rds.put {cl : List (Str × Addr)} {cs : Scope} {mf cm mf' cm' : Str → Option Value} {m : List (Str × VP)} (r : Rds cl cs mf cm m) {x : Str} {V : VP} {v : Value} (hx : Rd cl cs mf' cm' x v) (h1 : ∀ y, y ≠ x → mf' y = mf y ∧ cm' y = cm y) (hv : V v) :
    Rds cl cs mf' cm' ((x, V) :: m) := fun y U e => by
  rcases lookup_put e with ⟨rfl, rfl⟩ | ⟨q, e⟩
  · exact ⟨v, hx, hv⟩
  · obtain ⟨u, hu, hU⟩ := r y U e
    refine ⟨u, ?_, hU⟩
    unfold Rd
    rw [(h1 y q).1, (h1 y q).2]
    exact hu
/-- a name that may be stored -/
noncomputable def Sto (cs : Scope) (cl : List (Str × Addr)) (x : Str) : Prop := cs.names.lookup x = some .local ∨ (cs.names.lookup x = some .cell ∧ (cl.lookup x).isSome = true)
noncomputable def setC (a : Addr) (o : Obj) (q : Addr × Obj) : Addr × Obj := if q.1 = a then (a, o) else q
theorem setC_fst {a : Addr} {o : Obj} {q : Addr × Obj} : (setC a o q).1 = q.1 := by
  unfold setC
  split
  · exact Eq.symm ‹_›
  · rfl
theorem Fz.cell {c : Cx} {cs : Scope} {h h' : Heap} {m : List (Str × VP)} {n cells : Led} {mf cm : Str → Option Value} {x : Str} {V : VP} {v : Value} {a : Addr} {o o' : Obj} (F : Fr c.h₀ c.L h mf) (N : News c.h₀ c.L h (n ++ cells)) (hc : ∀ x a, c.cl.lookup x = some a → ∃ o, (a, o) ∈ cells ∧ o.data = .cell (cm x))
    (hi : ∀ q ∈ cells, (∃ x, c.cl.lookup x = some q.1) ∧ ∀ p ∈ n, p.1 ≠ q.1) (r : Rds c.cl cs mf cm m) (inj : ∀ x y a, c.cl.lookup x = some a → c.cl.lookup y = some a → x = y) (hx : cs.names.lookup x = some .cell) (ha : c.cl.lookup x = some a) (ho : (a, o) ∈ cells) (hv : V v)
    (ho' : h'.get? a = some o') (hd' : o'.data = .cell (some v)) (hs : Heap.SameBut a h h') : Fz c cs h' ((x, V) :: m) n := by
  have M := N (a, o) (List.mem_append_right _ ho)
  refine ⟨mf, fun y => if y = x then some v else cm y, cells.map (setC a o'), ⟨F.ns.sameBut hs (Ne.symm M.2.1), fun b ob e => (hs.2 b fun q => ?_).trans (F.keep b ob e), F.above⟩, fun p hp => ?_, fun y b hy => ?_, fun q hq => ?_, r.put (.inr ⟨hx, by rw [ha]; rfl, if_pos rfl⟩) (fun y h => ⟨rfl, if_neg h⟩) hv⟩
  · rw [q, M.2.2] at e; cases e
  · rcases List.mem_append.mp hp with hp | hp
    · have := N p (List.mem_append_left _ hp)
      exact ⟨(hs.2 _ ((hi _ ho).2 p hp)).trans this.1, this.2⟩
    · obtain ⟨q, hq, rfl⟩ := List.mem_map.mp hp
      have := N q (List.mem_append_right _ hq)
      unfold setC
      split
      · exact ⟨ho', M.2⟩
      · exact ⟨(hs.2 _ ‹_›).trans this.1, this.2⟩
  · obtain ⟨ob, hb, hdb⟩ := hc y b hy
    by_cases e : b = a
    · subst e
      cases inj y x b hy ha
      exact ⟨o', List.mem_map.mpr ⟨_, hb, if_pos rfl⟩, hd'.trans (congrArg _ (if_pos rfl).symm)⟩
    · refine ⟨ob, List.mem_map.mpr ⟨_, hb, if_neg e⟩, hdb.trans (congrArg _ (if_neg fun q => e ?_).symm)⟩
      subst q
      exact Option.some.inj (hy.symm.trans ha)
  · obtain ⟨q', hq', rfl⟩ := List.mem_map.mp hq
    rw [setC_fst]
    exact hi q' hq'
theorem store_ok {x : Str} {v : Value} {V : VP} {s : Shared} {Q : Unit → Shared → Prop} {E : Value → Shared → Prop} (hx : Sto g.cs g.c.cl x) (S : St g s) (hv : V v) (hy : g.y = []) (q : ∀ s', St { g with m := (x, V) :: g.m } s' → Q () s') :
    wpAny g.M g.A (storeName g.env x v) Q E s := by
  have he : g.env = g.c.env g.cs := by show lays _ _ = _; rw [hy]; rfl
  rw [he]
  cases S.F with | mk mf cm cells F N hc hi r =>
  cases hx with
  | inl hx => exact storeX_L F N (fun h' F' N' => q _ ⟨S.P, ⟨_, cm, cells, F', N', hc, hi, r.put (.inl ⟨hx, if_pos rfl⟩) (fun y h => ⟨if_neg h, rfl⟩) hv⟩, S.D, Nat.le_succ_of_le S.t, S.t0, S.y⟩) S.P.kd hx
  | inr hx =>
    obtain ⟨a, ha⟩ := Option.isSome_iff_exists.mp hx.2
    obtain ⟨o, ho, hd⟩ := hc x a ha
    exact wpAny_storeName_cell S.P.kd hx.1 ha ⟨o, (N _ (List.mem_append_right _ ho)).1, hd⟩ fun h' ⟨o', ho', hd'⟩ hs => q _ ⟨S.P, Fz.cell F N hc hi r S.P.inj hx.1 ha ho hv ho' hd' hs, S.D, S.t, S.t0, S.y⟩
variable {c : Cx} {cs : Scope} {k0 t0 : Nat} {m : List (Str × VP)} {n : Led}
theorem Ex.asgG {x : Str} {e : Expr} {p0 pos : Pos} {rest : List Stmt} {r : List (List Stmt)} {R : Value → Shared → Prop} {P : Flow → Shared → Prop} (h : EvG ⟨c, cs, k0, t0, m, n, []⟩ e R) (hx : Sto cs c.cl x)
    (k : ∀ v s, R v s → ∃ (V : VP) (t' : Nat) (n' : Led), V v ∧ St ⟨c, cs, k0, t', m, n', []⟩ s ∧ Ex ⟨c, cs, k0, t', (x, V) :: m, n', []⟩ (rest :: r) P)
    (hs : swapsWith e (some (.Name x p0)) pos.line (c.env cs) = pure false) : Ex ⟨c, cs, k0, t0, m, n, []⟩ ((.Assign [.Name x p0] e pos :: rest) :: r) P := fun Q E s p S q =>
  seq_cons (wpAny_Assign_Name (h _ _ _ p S fun v s1 r => by
    obtain ⟨V, t', n, hv, S1, hr⟩ := k v s1 r
    exact store_ok (g := ⟨c, cs, k0, t', m, n, []⟩) hx S1 hv rfl fun s' S' => hr _ _ _ p S' q) hs)
theorem Ex.asg {x : Str} {e : Expr} {p0 pos : Pos} {rest : List Stmt} {r : List (List Stmt)} {V : VP} {P : Flow → Shared → Prop} (h : Ev ⟨c, cs, k0, t0, m, n, []⟩ e V) (hx : Sto cs c.cl x)
    (hs : swapsWith e (some (.Name x p0)) pos.line (c.env cs) = pure false) (k : Ex ⟨c, cs, k0, t0, (x, V) :: m, n, []⟩ (rest :: r) P) : Ex ⟨c, cs, k0, t0, m, n, []⟩ ((.Assign [.Name x p0] e pos :: rest) :: r) P :=
  Ex.asgG h hx (fun _ _ r => ⟨V, t0, n, r.1, r.2, k⟩) hs
/-- an if that is decided -/
theorem Ex.iff {t : Expr} {x y rest : List Stmt} {r : List (List Stmt)} {pos : Pos} {b : Bool} {P : Flow → Shared → Prop} (h : Tr g t b) (k : Ex g ((bif b then x else y) :: rest :: r) P) : Ex g ((.If t x y pos :: rest) :: r) P := fun Q E s p S q =>
  seq_cons (wpAny_If (h _ _ _ p S fun s' S' => by
    have := k Q E s' p S' q
    cases b <;> exact wpAny_mono this (fun f s2 r => by cases f <;> exact r) fun _ _ e => e))
theorem St.sub {g : G} {s : Shared} (S : St g s) {m : List (Str × VP)} (h : ∀ x V, m.lookup x = some V → g.m.lookup x = some V) : St { g with m := m } s :=
  ⟨S.P, by cases S.F with | mk mf cm cells F N hc hi r => exact ⟨mf, cm, cells, F, N, hc, hi, fun x V e => r x V (h x V e)⟩, S.D, S.t, S.t0, S.y⟩
end
end Mine
end
section
open PySem PySem.W PySem.Calls PyProof.Rows
set_option maxRecDepth 100000
set_option linter.unusedVariables false
namespace Mine
variable {g : G} {a b : Int} {x y : UInt64}
theorem Bi.ofII {op : Operator} {z : Int} (h : ∀ (t u : Tok) (Q E : Value → Shared → Prop) s, Q (.int z s.toks) { s with toks := s.toks + 1 } → wpAny g.M g.A (binaryOp op (.int a t) (.int b u)) Q E s) : Bi g op (isI a) (isI b) (isI z) := by
  rintro v u ⟨t, rfl⟩ ⟨t, rfl⟩ Q E s hs q
  exact h _ _ _ _ _ (q _ _ ⟨_, rfl⟩ (Nat.le_succ _))
theorem Bi.ofFF {op : Operator} {z : UInt64} (h : ∀ (t u : Tok) (Q E : Value → Shared → Prop) s, Q (.float z s.toks) { s with toks := s.toks + 1 } → wpAny g.M g.A (binaryOp op (.float x t) (.float y u)) Q E s) : Bi g op (isF x) (isF y) (isF z) := by
  rintro v u ⟨t, rfl, _⟩ ⟨t, rfl, _⟩ Q E s hs q
  exact h _ _ _ _ _ (q _ _ ⟨_, rfl, hs⟩ (Nat.le_succ _))
theorem Bi.ofFI {op : Operator} {z : UInt64} (h : ∀ (t u : Tok) (Q E : Value → Shared → Prop) s, Q (.float z s.toks) { s with toks := s.toks + 1 } → wpAny g.M g.A (binaryOp op (.float x t) (.int b u)) Q E s) : Bi g op (isF x) (isI b) (isF z) := by
  rintro v u ⟨t, rfl, _⟩ ⟨t, rfl⟩ Q E s hs q
  exact h _ _ _ _ _ (q _ _ ⟨_, rfl, hs⟩ (Nat.le_succ _))
theorem Bi.ofIF {op : Operator} {z : UInt64} (h : ∀ (t u : Tok) (Q E : Value → Shared → Prop) s, Q (.float z s.toks) { s with toks := s.toks + 1 } → wpAny g.M g.A (binaryOp op (.int a t) (.float y u)) Q E s) : Bi g op (isI a) (isF y) (isF z) := by
  rintro v u ⟨t, rfl⟩ ⟨t, rfl, _⟩ Q E s hs q
  exact h _ _ _ _ _ (q _ _ ⟨_, rfl, hs⟩ (Nat.le_succ _))
theorem Bi.ofIIF {op : Operator} {z : UInt64} (h : ∀ (t u : Tok) (Q E : Value → Shared → Prop) s, Q (.float z s.toks) { s with toks := s.toks + 1 } → wpAny g.M g.A (binaryOp op (.int a t) (.int b u)) Q E s) : Bi g op (isI a) (isI b) (isF z) := by
  rintro v u ⟨t, rfl⟩ ⟨t, rfl⟩ Q E s hs q
  exact h _ _ _ _ _ (q _ _ ⟨_, rfl, hs⟩ (Nat.le_succ _))
theorem Bi.addI : Bi g .Add (isI a) (isI b) (isI (a + b)) := .ofII fun _ _ _ _ _ q => by walk1; exact q
theorem Bi.subI : Bi g .Sub (isI a) (isI b) (isI (a - b)) := .ofII fun _ _ _ _ _ q => by walk1; exact q
theorem Bi.modI (h : ¬ (b == 0) = true) : Bi g .Mod (isI a) (isI b) (isI (a.fmod b)) := .ofII fun _ _ _ _ _ q => AutoIntOps.mod_1 h q
theorem Bi.divI (h : ¬ (b == 0) = true) (hp : ¬ (Builtin.divisionGoesByPylong a b) = true) : Bi g .FloorDiv (isI a) (isI b) (isI (a.fdiv b)) := .ofII fun _ _ _ _ _ q => AutoIntOps.floordiv_1 h hp q
theorem Bi.addF : Bi g .Add (isF x) (isF y) (isF (Float64.add x y)) := .ofFF fun _ _ _ _ _ q => add_float q
theorem Bi.subF : Bi g .Sub (isF x) (isF y) (isF (Float64.sub x y)) := .ofFF fun _ _ _ _ _ q => sub_float q
theorem Bi.mulF : Bi g .Mult (isF x) (isF y) (isF (Float64.mul x y)) := .ofFF fun _ _ _ _ _ q => mul_float q
theorem Bi.divF (h : ¬ Float64.isZero y = true) : Bi g .Div (isF x) (isF y) (isF (Float64.div x y)) := .ofFF fun _ _ _ _ _ q => truediv_float_or rfl (fun h' => absurd h' h) fun _ => q
theorem Bi.modF (h : ¬ Float64.isZero y = true) : Bi g .Mod (isF x) (isF y) (isF (Float64.divmod x y).snd) := .ofFF fun _ _ _ _ _ q => by walk1 <;> first | exact q | exact absurd (by assumption) h
theorem Bi.subFI (h : b.natAbs < 2 ^ 1024 - 2 ^ 970) : Bi g .Sub (isF x) (isI b) (isF (Float64.sub x (Float64.ofInt b))) := .ofFI fun _ _ _ _ _ q => by walk1 <;> first | exact q | exact absurd h (Nat.not_lt_of_le (by assumption))
theorem Bi.mulIF (h : a.natAbs < 2 ^ 1024 - 2 ^ 970) : Bi g .Mult (isI a) (isF y) (isF (Float64.mul (Float64.ofInt a) y)) := .ofIF fun _ _ _ _ _ q => by walk1 <;> first | exact q | exact absurd h (Nat.not_lt_of_le (by assumption))
theorem Bi.divFI (h : ¬ Flt.Over b) (h0 : b ≠ 0) : Bi g .Div (isF x) (isI b) (isF (Float64.div x (Float64.ofInt b))) := .ofFI fun _ _ _ _ _ q => by walk1 <;> first | exact q | exact absurd (by assumption) h | exact absurd (by assumption) h0
theorem Bi.divII (h0 : b ≠ 0) (h : ¬ Float64.isInf (Float64.ofFrac (decide (a < 0) != decide (b < 0)) a.natAbs b.natAbs) = true) : Bi g .Div (isI a) (isI b) (isF (Float64.ofFrac (decide (a < 0) != decide (b < 0)) a.natAbs b.natAbs)) := .ofIIF fun _ _ _ _ _ q => by walk1 <;> first | exact q | exact absurd (by assumption) h | exact absurd (by assumption) h0
theorem Bi.shl (h0 : 0 ≤ b) (h1 : b ≤ 1000000) (ha : a.natAbs < 2 ^ 64) : Bi g .LShift (isI a) (isI b) (isI (a * 2 ^ b.toNat)) := .ofII fun _ _ _ _ _ q => lshift_int_small h0 h1 ha q
theorem Bi.shr (h0 : 0 ≤ b) : Bi g .RShift (isI a) (isI b) (isI (a.fdiv (2 ^ b.toNat))) := .ofII fun _ _ _ _ _ q => by walk1 <;> first | exact q | exact absurd h0 (Int.not_le.mpr (by assumption))
theorem Bi.and : Bi g .BitAnd (isI a) (isI b) (isI (Builtin.bitAnd a b)) := .ofII fun _ _ _ _ _ q => by walk1; exact q
theorem Bi.or : Bi g .BitOr (isI a) (isI b) (isI (Builtin.bitOr a b)) := .ofII fun _ _ _ _ _ q => by walk1; exact q
theorem Bi.addS {x y : Str} (h : x.length + y.length ≤ sizeLine) : Bi g .Add (isS x) (isS y) (isS (x ++ y)) := by
  rintro v u ⟨t, rfl⟩ ⟨t', rfl⟩ Q E s _ q
  exact wpAny_with_toks (n := s.toks) (Nat.le_refl _) (SB.add (E := fun e s' => s.toks ≤ s'.toks → E e s') (fun t' k le => q _ _ ⟨t', rfl⟩ le) h)
theorem Cm.ofII {op : CmpOp} {z c : Bool} (hc : z = c) (h : ∀ (t u : Tok) (Q E : Value → Shared → Prop) s, Q (.bool z) s → wpAny g.M g.A (compareOp op (.int a t) (.int b u)) Q E s) : Cm g op (isI a) (isI b) c := by
  rintro v u ⟨t, rfl⟩ ⟨t, rfl⟩ Q E s _ q
  exact h _ _ _ _ _ (hc ▸ q _ (Nat.le_refl _))
theorem Cm.ofFF {op : CmpOp} {z c : Bool} (hc : z = c) (h : ∀ (t u : Tok) (Q E : Value → Shared → Prop) s, Q (.bool z) s → wpAny g.M g.A (compareOp op (.float x t) (.float y u)) Q E s) : Cm g op (isF x) (isF y) c := by
  rintro v u ⟨t, rfl, _⟩ ⟨t, rfl, _⟩ Q E s _ q
  exact h _ _ _ _ _ (hc ▸ q _ (Nat.le_refl _))
theorem Cm.ofFI {op : CmpOp} {z c : Bool} (hc : z = c) (h : ∀ (t u : Tok) (Q E : Value → Shared → Prop) s, Q (.bool z) s → wpAny g.M g.A (compareOp op (.float x t) (.int b u)) Q E s) : Cm g op (isF x) (isI b) c := by
  rintro v u ⟨t, rfl, _⟩ ⟨t, rfl⟩ Q E s _ q
  exact h _ _ _ _ _ (hc ▸ q _ (Nat.le_refl _))
theorem Cm.ofIF {op : CmpOp} {z c : Bool} (hc : z = c) (h : ∀ (t u : Tok) (Q E : Value → Shared → Prop) s, Q (.bool z) s → wpAny g.M g.A (compareOp op (.int a t) (.float y u)) Q E s) : Cm g op (isI a) (isF y) c := by
  rintro v u ⟨t, rfl⟩ ⟨t, rfl, _⟩ Q E s _ q
  exact h _ _ _ _ _ (hc ▸ q _ (Nat.le_refl _))
theorem Cm.ofSS {p r : Str} {op : CmpOp} {z c : Bool} (hc : z = c) (h : ∀ (t u : Tok) (Q E : Value → Shared → Prop) s, Q (.bool z) s → wpAny g.M g.A (compareOp op (.str p t) (.str r u)) Q E s) : Cm g op (isS p) (isS r) c := by
  rintro v u ⟨t, rfl⟩ ⟨t, rfl⟩ Q E s _ q
  exact h _ _ _ _ _ (hc ▸ q _ (Nat.le_refl _))
theorem Cm.eqF {c : Bool} (h : (Float64.cmp x y == some Ordering.eq) = c) : Cm g .Eq (isF x) (isF y) c := .ofFF h fun _ _ _ _ _ q => AutoFloatOps.eq_0 q
theorem Cm.leF {c : Bool} (h : (Float64.cmp x y == some Ordering.lt || Float64.cmp x y == some Ordering.eq) = c) : Cm g .LtE (isF x) (isF y) c := .ofFF h fun _ _ _ _ _ q => by walk1; exact q
theorem Cm.eqI {c : Bool} (h : (a == b) = c) : Cm g .Eq (isI a) (isI b) c := .ofII h fun _ _ _ _ _ q => by walk1; exact q
theorem Cm.neI {c : Bool} (h : (a != b) = c) : Cm g .NotEq (isI a) (isI b) c := .ofII h fun _ _ _ _ _ q => by walk1; exact q
theorem Cm.ltI {c : Bool} (h : decide (a < b) = c) : Cm g .Lt (isI a) (isI b) c := .ofII h fun _ _ _ _ _ q => by walk1; exact q
theorem Cm.leI {c : Bool} (h : decide (a ≤ b) = c) : Cm g .LtE (isI a) (isI b) c := .ofII h fun _ _ _ _ _ q => by walk1; exact q
theorem Cm.gtI {c : Bool} (h : decide (a > b) = c) : Cm g .Gt (isI a) (isI b) c := .ofII h fun _ _ _ _ _ q => by walk1; exact q
theorem Cm.geI {c : Bool} (h : decide (a ≥ b) = c) : Cm g .GtE (isI a) (isI b) c := .ofII h fun _ _ _ _ _ q => by walk1; exact q
theorem Cm.gtIF {c : Bool} (h : (Float64.cmpInt y a == some Ordering.lt) = c) : Cm g .Gt (isI a) (isF y) c := .ofIF h fun _ _ _ _ _ q => by walk1; exact q
theorem Cm.eqFI {c : Bool} (h : (Float64.cmpInt x b == some Ordering.eq) = c) : Cm g .Eq (isF x) (isI b) c := .ofFI h fun _ _ _ _ _ q => by walk1; exact q
theorem Cm.neIF {c : Bool} (h : (Float64.cmpInt y a != some Ordering.eq) = c) : Cm g .NotEq (isI a) (isF y) c := .ofIF h fun _ _ _ _ _ q => by walk1; exact q
theorem Cm.inSS {p r : Str} {c : Bool} (h : (!(Builtin.Str.occurrences r p 0 r.length 1).isEmpty) = c) : Cm g .In (isS p) (isS r) c := .ofSS h fun _ _ _ _ _ q => by walk1; exact q
theorem Cm.eqSS {p r : Str} {c : Bool} (h : (p == r) = c) : Cm g .Eq (isS p) (isS r) c := .ofSS h fun _ _ _ _ _ q => by walk1; exact q
theorem Tv.bool {b : Bool} : Tv g (isB b) b := by
  rintro v rfl Q E s _ q
  exact wpAny_truthy_bool q
theorem Tv.int : Tv g (isI a) (a != 0) := by
  rintro v ⟨t, rfl⟩ Q E s _ q
  exact truthy_int q
theorem Tr.val {e : Expr} {V : VP} {b : Bool} (h : Ev g e V) (k : Tv g V b) (he : isTrue e g.env (eval e g.env) = (do let v ← eval e g.env; standAt e.pos; holding [v] (truthy v))) : Tr g e b := fun Q E s p S q =>
  wpAny_isTrue_value (h _ _ _ p S fun v s' r => k v r.1 Q E s' r.2 (q _ r.2)) he
theorem Tr.not {e : Expr} {pos : Pos} {b : Bool} (h : Tr g e b) : Tr g (.UnaryOp .Not e pos) (!b) := fun Q E s p S q => isTrue_not (h _ _ _ p S fun s' S' => q _ S')
theorem Tr.and {x : Expr} {rest : List Expr} {pos : Pos} {b c : Bool} (h : Tr g x b) (k : b = true → Tr g (.BoolOp .And rest pos) c) : Tr g (.BoolOp .And (x :: rest) pos) (b && c) := fun Q E s p S q =>
  isTrue_and (h _ _ _ p S fun s' S' => by
    cases b with
    | true => exact k rfl _ _ _ p S' q
    | false => exact q _ S')
theorem Tr.andNil {pos : Pos} : Tr g (.BoolOp .And [] pos) true := fun Q E s p S q => isTrue_and_nil (q _ S)
theorem Tr.or {x : Expr} {rest : List Expr} {pos : Pos} {b c : Bool} (h : Tr g x b) (k : b = false → Tr g (.BoolOp .Or rest pos) c) : Tr g (.BoolOp .Or (x :: rest) pos) (b || c) := fun Q E s p S q =>
  isTrue_or (h _ _ _ p S fun s' S' => by
    cases b with
    | true => exact q _ S'
    | false => exact k rfl _ _ _ p S' q)
theorem Tr.orNil {pos : Pos} : Tr g (.BoolOp .Or [] pos) false := fun Q E s p S q => isTrue_or_nil (q _ S)
end Mine
end
section
open PySem PySem.W PySem.Calls PyProof.Rows
set_option maxRecDepth 100000
set_option linter.unusedVariables false
set_option genInjectivity false
set_option genSizeOf false
namespace Mine
noncomputable section
noncomputable def All2 : List VP → List Value → Prop
  | [], vs => vs = []
  | V :: Vs, vs => ∃ v r, vs = v :: r ∧ V v ∧ All2 Vs r
theorem All2.length : ∀ {Vs : List VP} {vs : List Value}, All2 Vs vs → vs.length = Vs.length
  | [], _, h => congrArg List.length h
  | _ :: _, _, ⟨_, _, e, _, h⟩ => (congrArg List.length e).trans (congrArg Nat.succ (All2.length h))
theorem All2.at {W : VP} : ∀ {Vs : List VP} {vs : List Value} {i : Nat}, All2 Vs vs → Vs[i]? = some W → ∃ v, vs[i]? = some v ∧ W v
  | V :: Vs, _, 0, ⟨v, _, e, h, _⟩, q => ⟨v, e ▸ rfl, Option.some.inj q ▸ h⟩
  | V :: Vs, _, i + 1, ⟨_, _, e, _, h⟩, q => by
    subst e
    have := All2.at (i := i) h q
    exact this
theorem LayOk.sub {env : Env} {n n' : Led} (k : ∀ p ∈ n, p ∈ n') : ∀ {y : List Lay}, LayOk env n y → LayOk env n' y
  | [], _ => trivial
  | _ :: _, h => ⟨by cases h.1 with | mk kd oC mC mem ns rd => exact ⟨kd, oC, mC, k _ mem, ns, rd⟩, h.2.sub k⟩
variable {g : G}
theorem St.above {s : Shared} (S : St g s) : ∀ p ∈ g.n, p.1 < s.heap.objs.size := fun p hp => by
  cases S.F with | mk mf cm cells F N => exact Heap.lt_size (N p (List.mem_append_left _ hp)).1
/-- a new object -/
theorem St.push {s : Shared} (S : St g s) (o : Obj) (hfree : o.isFreed = false) : St { g with n := (s.heap.objs.size, o) :: g.n } { s with heap := s.heap.push o } :=
  ⟨S.P, by
    cases S.F with | mk mf cm cells F N hc hi r =>
    refine ⟨mf, cm, cells, F.push o, News.push F N o hfree, hc, fun q hq => ⟨(hi q hq).1, fun p hp => ?_⟩, r⟩
    cases hp with
    | head => exact Nat.ne_of_gt (Heap.lt_size (N q (List.mem_append_right _ hq)).1)
    | tail _ hp => exact (hi q hq).2 p hp, S.D, S.t, S.t0, S.y.sub fun p hp => .tail _ hp⟩
/-- an address beside the frame, its cells and the ledger -/
structure Apart (c : Cx) (n : Led) (X : Addr) : Prop where
  l : c.L ≠ X
  h : c.h₀.get? X = none
  n : ∀ p ∈ n, p.1 ≠ X
  c : ∀ x, c.cl.lookup x ≠ some X
/-- what is written beside it leaves all as it was -/
theorem Fz.off {c : Cx} {cs : Scope} {h h' : Heap} {m : List (Str × VP)} {n : Led} (F : Fz c cs h m n) {X Y : Addr} (a : Apart c n X) (b : Apart c n Y) (k : ∀ b o, b ≠ X → b ≠ Y → h.get? b = some o → h'.get? b = some o) : Fz c cs h' m n := by
  cases F with | mk mf cm cells F N hc hi r =>
  refine ⟨mf, cm, cells, ⟨F.ns.at' fun o e => k _ o a.l b.l e, fun z o e => k z o (fun q => ?_) (fun q => ?_) (F.keep z o e), F.above⟩, fun p hp => ⟨k _ _ ?_ ?_ (N p hp).1, (N p hp).2⟩, hc, hi, r⟩
  · rw [q, a.h] at e; cases e
  · rw [q, b.h] at e; cases e
  · rcases List.mem_append.mp hp with hp | hp
    · exact a.n p hp
    · obtain ⟨⟨x, e⟩, _⟩ := hi p hp
      exact fun q => a.c x (q ▸ e)
  · rcases List.mem_append.mp hp with hp | hp
    · exact b.n p hp
    · obtain ⟨⟨x, e⟩, _⟩ := hi p hp
      exact fun q => b.c x (q ▸ e)
theorem St.off {s : Shared} (S : St g s) {X : Addr} (a : Apart g.c g.n X) {h' : Heap} {tk : Nat} (k : ∀ b o, b ≠ X → s.heap.get? b = some o → h'.get? b = some o) (ht : s.toks ≤ tk) : St g { s with heap := h', toks := tk } :=
  S.at (S.F.off a a fun b o h _ e => k b o h e) ht
theorem St.fresh {s : Shared} (S : St g s) {X : Addr} (hX : s.heap.objs.size ≤ X) : Apart g.c g.n X := by
  cases S.F with | mk mf cm cells F N hc hi r =>
  have no : ∀ {b o}, s.heap.get? b = some o → b ≠ X := fun e => Nat.ne_of_lt (Nat.lt_of_lt_of_le (Heap.lt_size e) hX)
  refine ⟨Nat.ne_of_lt (Nat.lt_of_lt_of_le F.ns.lt hX), ?_, fun p hp => no (N p (List.mem_append_left _ hp)).1, fun x e => ?_⟩
  · cases e : g.c.h₀.get? X with
    | none => rfl
    | some o => exact absurd rfl (no (F.keep _ _ e))
  · obtain ⟨o, ho, _⟩ := hc x X e
    exact no (N _ (List.mem_append_right _ ho)).1 rfl
/-- a heap that has grown -/
theorem St.grow {s : Shared} (S : St g s) {h' : Heap} {tk : Nat} (k : ∀ b o, s.heap.get? b = some o → h'.get? b = some o) (ht : s.toks ≤ tk) : St g { s with heap := h', toks := tk } := S.off (S.fresh (Nat.le_refl _)) (fun b o _ e => k b o e) ht
theorem St.pushed {s : Shared} (S : St g s) (o : Obj) : St g { s with heap := s.heap.push o } := S.grow (fun _ _ e => Heap.get?_push_of_some _ e) (Nat.le_refl _)
/-- more in the ledger -/
theorem St.more {s : Shared} (S : St g s) {p : Addr × Obj} (a : Apart g.c g.n p.1) (hp : s.heap.get? p.1 = some p.2) : St { g with n := p :: g.n } s :=
  ⟨S.P, by
    cases S.F with | mk mf cm cells F N hc hi r =>
    refine ⟨mf, cm, cells, F, fun q hq => ?_, hc, fun q hq => ⟨(hi q hq).1, fun p' hp' => ?_⟩, r⟩
    · rcases List.mem_cons.mp hq with rfl | hq
      · exact ⟨hp, Ne.symm a.l, a.h⟩
      · exact N q hq
    · rcases List.mem_cons.mp hp' with rfl | hp'
      · obtain ⟨⟨x, e⟩, _⟩ := hi q hq
        exact fun q => a.c x (q ▸ e)
      · exact (hi q hq).2 p' hp', S.D, S.t, S.t0, S.y.sub fun q hq => .tail _ hq⟩
/-- less in the ledger -/
theorem St.lessY {s : Shared} (S : St g s) {n : Led} {y : List Lay} (h : ∀ p ∈ n, p ∈ g.n) (hy : LayOk (g.c.env g.cs) n y) : St { g with n := n, y := y } s :=
  ⟨S.P, by
    cases S.F with | mk mf cm cells F N hc hi r =>
    refine ⟨mf, cm, cells, F, fun q hq => ?_, hc, fun q hq => ⟨(hi q hq).1, fun p hp => (hi q hq).2 p (h p hp)⟩, r⟩
    rcases List.mem_append.mp hq with hq | hq
    · exact N q (List.mem_append_left _ (h q hq))
    · exact N q (List.mem_append_right _ hq), S.D, S.t, S.t0, hy⟩
theorem St.less {s : Shared} (S : St g s) {n : Led} (h : ∀ p ∈ n, p ∈ g.n) (hy : LayOk (g.c.env g.cs) n g.y) : St { g with n := n } s := S.lessY h hy
theorem St.get {s : Shared} (S : St g s) {a : Addr} {o : Obj} (h : (a, o) ∈ g.n) : s.heap.get? a = some o := by
  cases S.F with | mk mf cm cells F N => exact (N _ (List.mem_append_left _ h)).1
/-- the arguments of a call -/
noncomputable def Evs (g : G) (es : List Expr) (R : List Value → Shared → Prop) : Prop := ∀ (pos : Pos) (Q : List Value → Shared → Prop) (E : Value → Shared → Prop) s, g.PO E → St g s → (∀ vs s', R vs s' → Q vs s') → wpAny g.M g.A (spliced (backTo pos (starEach es g.env))) Q E s
/-- .. that make nothing -/
abbrev Pure (g : G) (Vs : List VP) (vs : List Value) (s : Shared) : Prop := All2 Vs vs ∧ St g s
theorem Evs.nil : Evs g [] (Pure g []) := fun _ Q E s _ S q => spliced_nil (q _ _ ⟨rfl, S⟩)
theorem Evs.cons {e : Expr} {es : List Expr} {V : VP} {Vs : List VP} (h : Ev g e V) (k : Evs g es (Pure g Vs)) (he : starEach (e :: es) g.env = (false, eval e g.env) :: starEach es g.env) : Evs g (e :: es) (Pure g (V :: Vs)) := fun pos Q E s p S q => by
  rw [he]
  exact spliced_cons (h _ _ _ p S fun v s1 a => k pos _ _ _ p a.2 fun vs s2 b => q _ _ ⟨⟨_, _, rfl, a.1, b.1⟩, b.2⟩)
theorem Evs.one {e : Expr} {R : Value → Shared → Prop} (h : EvG g e R) (he : starEach [e] g.env = [(false, eval e g.env)]) : Evs g [e] (fun vs s => ∃ v, vs = [v] ∧ R v s) := fun pos Q E s p S q => by
  rw [he]
  exact spliced_cons (h _ _ _ p S fun v s1 a => spliced_nil (q _ _ ⟨_, rfl, a⟩))
theorem Evs.two {e e2 : Expr} {V : VP} {R : Value → Shared → Prop} (h : Ev g e V) (h2 : EvG g e2 R) (he : starEach [e, e2] g.env = [(false, eval e g.env), (false, eval e2 g.env)]) : Evs g [e, e2] (fun vs s => ∃ u v, vs = [u, v] ∧ V u ∧ R v s) := fun pos Q E s p S q => by
  rw [he]
  exact spliced_cons (h _ _ _ p S fun u s1 a => spliced_cons (h2 _ _ _ p a.2 fun v s1 b => spliced_nil (q _ _ ⟨_, _, rfl, a.1, b⟩)))
/-- plain arguments -/
noncomputable def Pl (g : G) (es : List Expr) : Prop := ∀ pos, ∃ x r, backTo pos (starEach es g.env) = (false, x) :: r ∧ r.any (·.1) = false
theorem Pl.any {es : List Expr} (h : Pl g es) (pos : Pos) : (backTo pos (starEach es g.env)).any (·.1) = false := by
  obtain ⟨x, r, e, k⟩ := h pos
  rw [e]
  exact k
theorem args_ok {es : List Expr} {R : List Value → Shared → Prop} (ha : Evs g es R) (hp : Pl g es) {f : Value} {pos : Pos} {Q : Args → Shared → Prop} {E : Value → Shared → Prop} {s : Shared} (p : g.PO E) (S : St g s) (q : ∀ vs s', R vs s' → Q ⟨vs, []⟩ s') :
    wpAny g.M g.A (evalArgs f true (backTo pos (starEach es g.env)) []) Q E s := by
  have h := ha pos (fun vs s' => Q ⟨vs, []⟩ s') E s p S q
  obtain ⟨x, r, e, k⟩ := hp pos
  rw [e] at h ⊢
  exact evalArgs_plain h
/-- a def of the text -/
noncomputable def isFn (c : Cx) (f : Addr) : Bool := match c.K.lookup f with
  | some ⟨_, _, .func _, _⟩ => true
  | _ => false
theorem isFn.of {c : Cx} {f : Addr} (h : isFn c f = true) : ∃ o fd, c.K.lookup f = some o ∧ o.data = .func fd := by
  unfold isFn at h
  split at h
  · exact ⟨_, _, ‹_›, rfl⟩
  · cases h
/-- a def, called at these values -/
noncomputable def RunC (g : G) (f : Addr) (vs : List Value) (R : Value → Shared → Prop) (s : Shared) : Prop :=
  ∀ (Q E : Value → Shared → Prop), (∀ v s', R v s' → Q v s') → wpAny g.M g.A (PySem.call (.ref f) vs) Q E s
noncomputable def CallAt (g : G) (f : Addr) (vs : List Value) (R : Value → Shared → Prop) : Prop := ∀ s, St g s → RunC g f vs R s
theorem EvG.callG {x : Str} {p pos : Pos} {args : List Expr} {f : Addr} {R : List Value → Shared → Prop} {R' : Value → Shared → Prop} (hf : Ev g (.Name x p) (isR f)) (ha : Evs g args R) (hp : Pl g args) (hfn : isFn g.c f = true)
    (C : ∀ vs s, R vs s → (∃ n', St { g with n := n' } s) ∧ RunC g f vs R' s) : EvG g (.Call (.Name x p) args [] pos) R' := fun Q E s po S q =>
  wpAny_Call_NameR (hf _ _ _ po S fun u s1 a => by
    cases a.1
    obtain ⟨o, fd, h1, h2⟩ := isFn.of hfn
    refine Calls.callWith_function (o := o) (fd := fd) (args_ok ha hp po a.2 fun vs s2 b => ?_)
    obtain ⟨⟨n', S2⟩, h⟩ := C vs s2 b
    cases S2.F with | mk mf cm cells F =>
    exact ⟨⟨F.keep _ _ (S2.P.X _ _ h1), h2⟩, h Q E q⟩)
theorem EvG.call {x : Str} {p pos : Pos} {args : List Expr} {f : Addr} {Vs : List VP} {R' : Value → Shared → Prop} (hf : Ev g (.Name x p) (isR f)) (ha : Evs g args (Pure g Vs)) (hp : Pl g args) (hfn : isFn g.c f = true)
    (C : ∀ vs, All2 Vs vs → CallAt g f vs R') : EvG g (.Call (.Name x p) args [] pos) R' := EvG.callG hf ha hp hfn fun vs s a => ⟨⟨g.n, a.2⟩, C vs a.1 s a.2⟩
/-- a call of a builtin -/
theorem EvG.callB {x : Str} {p pos : Pos} {args : List Expr} {id : String} {R : List Value → Shared → Prop} {R' : Value → Shared → Prop} (hf : Ev g (.Name x p) (fun u => u = .builtin id)) (ha : Evs g args R) (hp : Pl g args)
    (C : ∀ vs s, R vs s → ∀ (Q E : Value → Shared → Prop), (∀ v s', R' v s' → Q v s') → wpAny g.M g.A (PySem.call (.builtin id) vs) Q E s) : EvG g (.Call (.Name x p) args [] pos) R' := fun Q E s po S q =>
  wpAny_Call_NameR (hf _ _ _ po S fun u s1 a => by
    cases a.1
    exact Calls.callWith_builtin (hp.any _) (args_ok ha hp po a.2 fun vs s2 b => C vs s2 b Q E q))
theorem EvG.callT {x : Str} {p pos : Pos} {args : List Expr} {id : String} {R : List Value → Shared → Prop} {R' : Value → Shared → Prop} (hf : Ev g (.Name x p) (fun u => u = .type id)) (ha : Evs g args R) (hp : Pl g args)
    (C : ∀ vs s, R vs s → ∀ (Q E : Value → Shared → Prop), (∀ v s', R' v s' → Q v s') → wpAny g.M g.A (PySem.call (.type id) vs) Q E s) : EvG g (.Call (.Name x p) args [] pos) R' := fun Q E s po S q =>
  wpAny_Call_NameR (hf _ _ _ po S fun u s1 a => by
    cases a.1
    exact PyProof.Rows.callWith_type (hp.any _) (args_ok ha hp po a.2 fun vs s2 b => C vs s2 b Q E q))
/-- what a call leaves -/
inductive Called (g : G) (Ret : Nat → Nat → Led → Value → Prop) (v : Value) (s : Shared) : Prop
  | mk (tl : Led) (n0 n1 : Nat) (h0 : g.t ≤ n0) (h1 : n0 ≤ n1) (h2 : n1 ≤ s.toks) (S : St { g with n := tl ++ g.n } s) (o : ∀ q ∈ g.n, ∀ p ∈ tl, q.1 < p.1) (R : Ret n0 n1 tl v) : Called g Ret v s
abbrev Val (W : VP) : Nat → Nat → Led → Value → Prop := fun _ _ tl r => tl = [] ∧ W r
theorem Called.val {W : VP} {v : Value} {s : Shared} (h : Called g (Val W) v s) : W v ∧ St g s := by
  cases h with | mk tl n0 n1 h0 h1 h2 S o R =>
  obtain ⟨rfl, hW⟩ := R
  exact ⟨hW, S⟩
theorem Ev.call {x : Str} {p pos : Pos} {args : List Expr} {f : Addr} {Vs : List VP} {W : VP} (hf : Ev g (.Name x p) (isR f)) (ha : Evs g args (Pure g Vs)) (hp : Pl g args) (hfn : isFn g.c f = true)
    (C : ∀ vs, All2 Vs vs → CallAt g f vs (Called g (Val W))) : Ev g (.Call (.Name x p) args [] pos) W := (EvG.call hf ha hp hfn C).mono fun _ _ r => r.val
/-- how a body ends -/
inductive Back (c : Cx) (scope : Scope) (k : Nat) (news : Led) (Ret : Nat → Nat → Led → Value → Prop) : Flow → Shared → Prop
  | mk {s : Shared} (r : Value) (tl : Led) (m : List (Str × VP)) (t : Nat) (S : St ⟨c, scope, k, t, m, tl ++ news, []⟩ s) (o : ∀ q ∈ news, ∀ p ∈ tl, q.1 < p.1) (R : Ret c.t s.toks tl r) : Back c scope k news Ret (.ret r) s
theorem cells_list {h : Heap} {cs : List (Str × Addr)} {cm : Str → Option Value} (cell : ∀ n c, cs.lookup n = some c → h.IsCell c (cm n)) :
    ∃ cells : Led, (∀ x a, cs.lookup x = some a → ∃ o, (a, o) ∈ cells ∧ o.data = .cell (cm x)) ∧ ∀ q ∈ cells, (∃ x, cs.lookup x = some q.1) ∧ h.get? q.1 = some q.2 := by
  refine ⟨cs.filterMap fun q => if cs.lookup q.1 = some q.2 then (h.get? q.2).map (q.2, ·) else none, fun x a e => ?_, fun q hq => ?_⟩
  · obtain ⟨o, ho, hd⟩ := cell x a e
    exact ⟨o, List.mem_filterMap.mpr ⟨(x, a), mem_of_lookup e, by rw [if_pos e, ho]; rfl⟩, hd⟩
  · obtain ⟨u, _, e⟩ := List.mem_filterMap.mp hq
    split at e
    · obtain ⟨o, ho, rfl⟩ := Option.map_eq_some_iff.mp e
      exact ⟨⟨_, ‹_›⟩, ho⟩
    · cases e
/-- the place of a call within this one -/
abbrev Cx.inner (c : Cx) (cs : Scope) (qual : Str) (scope : Scope) (f : Addr) (cdv : Value) (h : Heap) (L : Addr) (t : Nat) : Cx :=
  { w := c.w, prog := c.prog, p := c.p, loose := c.loose, mean := c.mean, mg := c.mg, mb := c.mb, gd := c.gd, dp := c.dp + 1, un := c.un + 3, cn := qual, a := f, ccd := cdv, cl := cellsFrom (L + 1) scope.names [], outer := c.env cs :: c.outer, A₀ := c.A cs, base := c.base, h₀ := h, L := L, gens := c.gens, drawn := c.drawn, os := c.os, t := t }
/-- a def's contract, from its body -/
theorem CallAt.of {f : Addr} {vs : List Value} {Ret : Nat → Nat → Led → Value → Prop} {name qual : Str} {params : Arguments} {body : List Stmt} {scope : Scope} {dV kV doc pm cdv ct oc : Value} {an od : Option Addr} {osl : Array (Option Value)} {binds : List (Str × Value)}
    (ho : g.c.K.lookup f = some ⟨oc, od, .func (fnOf name qual params body scope dV kV doc pm an cdv ct), osl⟩) (hcd : codeIn g.c.K cdv qual = true)
    (hbind : ∀ s, BindsTo s (fnOf name qual params body scope dV kV doc pm an cdv ct) ⟨vs, []⟩ binds) (hkind : (binds.all fun y => scope.names.lookup y.1 == some .local || scope.names.lookup y.1 == some .cell) = true)
    (hg : scope.isCoroutine = false ∧ scope.isGenerator = false ∧ scope.kind = .function) (hk : 1 ≤ g.k)
    (ms : List (Str × VP)) (hms : ∀ L', Rds (cellsFrom (L' + 1) scope.names []) scope (bindL (envOfC qual scope L' f cdv).kindOf binds fun _ => none) (bindC (envOfC qual scope L' f cdv).kindOf binds fun _ => none) ms)
    (h : ∀ (c : Cx) (cells : Led), g.t ≤ c.t → (∀ b o, g.c.h₀.get? b = some o → c.h₀.get? b = some o) → c.cl = cellsFrom (c.L + 1) scope.names [] → Ex ⟨c, scope, g.k - 1, c.t, ms, g.n ++ cells, []⟩ [body] (Back c scope (g.k - 1) (g.n ++ cells) Ret)) :
    CallAt g f vs (Called g Ret) := fun s S Q E q => wpAny_call (by
  cases S.F with | mk mf cm cells F N hc hi r =>
  obtain ⟨FG, BG, st, lv⟩ := groundX (R := fun r s' => match r with | .ok (.ret v) => Q v s' | .ok _ => False | .error e => E e s') S.P.B F N (A := g.A) rfl rfl S.P.kd
  have hd := S.P.d
  refine codeAny_call_function (by show g.c.dp < _; omega) (F.keep _ _ (S.P.X _ _ ho)) rfl hg.1 hg.2.1 rfl (codeRec_of (S.P.X.keeps F.keep) hcd) (hbind s _ _ _ _ ?_)
  refine wpAny_with_toks (n := s.toks) (Nat.le_refl _) (wpAny_newFunctionEnv_cells hg.2.2 (kindsX hkind _) fun env' he s' x le => ?_)
  subst he
  refine ⟨((S.P.T.nolimit).keeps F.keep).keeps x.toInCall.keep, codeAny_func ?_⟩
  obtain ⟨h₁, tk, rfl, _⟩ := x.done
  obtain ⟨cells2, hc2, hi2⟩ := cells_list x.cell
  have hk₁ := x.toInCall.keep
  have lt2 : ∀ u ∈ cells2, s.heap.objs.size < u.1 := fun u hu => by
    obtain ⟨⟨y, e⟩, _⟩ := hi2 u hu
    exact x.above y _ (mem_of_lookup e)
  have gone : ∀ {b}, s.heap.objs.size ≤ b ∨ b ∈ (g.n ++ cells).map (·.1) → (hideAll s.heap ((g.n ++ cells).map (·.1))).get? b = none := fun {b} hb => by
    cases e : (hideAll s.heap ((g.n ++ cells).map (·.1))).get? b with
    | none => rfl
    | some o =>
      cases hb with
      | inl hb => exact absurd (Heap.lt_size (of_hideAll _ e)) (Nat.not_lt_of_le hb)
      | inr hb => rw [hideAll_none _ hb] at e; cases e
  refine wpAny_mono (h (g.c.inner g.cs qual scope f cdv _ s.heap.objs.size tk) cells (Nat.le_trans S.t le) st rfl _ (fun e s' => wpAny g.M (g.A.deeper (envOfC qual scope s.heap.objs.size f cdv)) (leaving (envOfC qual scope s.heap.objs.size f cdv) e) (fun _ s'' => E e s'') (fun e' s'' => E e' s'') s') _ (fun _ => by show PassesOwn _ (g.A.deeper (envOfC qual scope s.heap.objs.size f cdv)) (envOfC qual scope s.heap.objs.size f cdv) _; passes_own)
    ⟨⟨BG, S.P.X.keeps st, S.P.T.keeps st, hg.2.2, by show g.c.dp + 1 + 5 * (g.k - 1) < _; omega, by have := S.P.u; show g.c.un + 3 + 40 * (g.k - 1) < _; omega, fun x' y' a h1 h2 => name_of_addr x.apart (mem_of_lookup h1) (mem_of_lookup h2), Nat.lt_of_lt_of_le (Nat.pos_of_ne_zero S.pos) le⟩,
      ⟨_, _, cells2, ⟨x.toInCall.ns, fun b o e => hk₁ b o (of_hideAll _ e), Nat.le_of_eq (hideAll_size _ _)⟩, fun p hp => ?_, hc2, fun u hu => ⟨(hi2 u hu).1, fun p hp => Nat.ne_of_lt (Nat.lt_trans (Heap.lt_size (N p hp).1) (lt2 u hu))⟩, hms _⟩, S.D, Nat.le_refl _, Nat.le_refl _, trivial⟩ fun f s' r => r) (fun fl s' b => ?_) fun _ _ e => e
  · rcases List.mem_append.mp hp with hp | hp
    · exact ⟨hk₁ _ _ (N p hp).1, Nat.ne_of_lt (Heap.lt_size (N p hp).1), gone (.inr (List.mem_map_of_mem hp))⟩
    · exact ⟨(hi2 p hp).2, Nat.ne_of_gt (lt2 p hp), gone (.inl (Nat.le_of_lt (lt2 p hp)))⟩
  · have b : Back (g.c.inner g.cs qual scope f cdv (hideAll s.heap ((g.n ++ cells).map (·.1))) s.heap.objs.size tk) scope (g.k - 1) (g.n ++ cells) Ret fl s' := by cases fl <;> exact b
    cases b with | mk r' tl m' t' S' o R =>
    cases S'.F with | mk mf2 cm2 cells3 F2 N2 hc3 hi3 r3 =>
    refine lv _ _ (leaveK_ F2 (fun p hp => N2 p (List.mem_append_left _ hp)) fun F3 N3 => q _ _ ⟨tl, tk, s'.toks, Nat.le_trans S.t le, Nat.le_trans S'.t0 S'.t, Nat.le_refl _, ⟨S.P, ⟨mf, cm, cells, F3, List.append_assoc tl g.n cells ▸ N3, hc, fun u hu => ⟨(hi u hu).1, fun p hp => ?_⟩, r⟩, S'.D, Nat.le_trans (Nat.le_trans S.t le) (Nat.le_trans S'.t0 S'.t), S.t0, S.y.sub fun p hp => List.mem_append_right _ hp⟩, fun a ha b hb => o a (List.mem_append_left _ ha) b hb, R⟩)
    rcases List.mem_append.mp hp with hp | hp
    · exact Nat.ne_of_gt (o u (List.mem_append_right _ hu) p hp)
    · exact (hi u hu).2 p hp)
end
end Mine
end
section
open PySem PySem.W PySem.Spec PySem.Calls PyProof.Rows
set_option maxRecDepth 100000
set_option linter.unusedVariables false
set_option genInjectivity false
set_option genSizeOf false
namespace Mine
noncomputable section
abbrev tupOf (vs : List Value) : Obj := { cls := .type "tuple", data := .seq vs.toArray }
variable {g : G}
/-- an iterator and what it will yield -/
inductive Itr (g : G) (N : Nat) (V : Nat → VP) (fl : Led) (x : Value) (s : Shared) : Prop
  | mk (I : Addr) (fp : List Addr) (Pv : Nat → Value → Prop) (Z : Nat → Heap → Prop) (hx : x = .ref I) (W : Walks g.c.prog g.c.w g.A I fp [I] N Pv Z) (st : Z 0 s.heap) (S : St g s) (a : Apart g.c g.n I) (lt : I < s.heap.objs.size)
    (live : ∀ i h, Z i h → ∃ o, h.get? I = some o) (hfp : ∀ b ∈ fp, b = I ∨ ∃ o, (b, o) ∈ fl) (hV : ∀ i v, Pv i v → V i v) : Itr g N V fl x s
noncomputable def Iters (g : G) (iter : Expr) (N : Nat) (V : Nat → VP) (fl : Led) : Prop :=
  ∀ (K : Value → Shared → Prop) (E : Value → Shared → Prop) s, g.PO E → St g s → (∀ x s', Itr g N V fl x s' → K x s') → wpAny g.M g.A (eval iter g.env) (fun x s₁ => wpAny g.M g.A (pyIter x) K E s₁) E s
theorem iter_list {s : Shared} (S : St g s) {l : Addr} {vs : List Value} {nn : Nat} {V : Nat → VP} (hl : (l, listOf vs.toArray nn) ∈ g.n) (hV : ∀ i v, vs[i]? = some v → V i v) {K E : Value → Shared → Prop} (k : ∀ x s', Itr g vs.length V [(l, listOf vs.toArray nn)] x s' → K x s') :
    wpAny g.M g.A (pyIter (.ref l)) K E s := by
  have hol := S.get hl
  have hls : s.heap.IsList l vs.toArray := ⟨_, hol, rfl, nn, rfl⟩
  have W := Walks.list (prog := g.c.prog) (w := g.c.w) (A := g.A) rfl s.heap.objs.size l (Nat.ne_of_lt (Heap.lt_size hol)) vs.toArray
  rw [List.size_toArray] at W
  refine wpAny_pyIter_list hls (k _ _ ⟨_, _, _, _, rfl, W, ⟨⟨_, Heap.get?_push_size _ rfl, rfl, rfl⟩, hls.at fun o e => Heap.get?_push_of_some _ e⟩, S.pushed _, S.fresh (Nat.le_refl _), Heap.lt_size (Heap.get?_push_size _ rfl), fun i h st => let ⟨o, ho, _⟩ := st.1; ⟨o, ho⟩, fun b hb => ?_, fun i v hv => hV i v (by simpa using hv)⟩)
  cases hb with
  | head => exact .inl rfl
  | tail _ hb => cases hb with
    | head => exact .inr ⟨_, .head _⟩
    | tail _ hb => cases hb
theorem Iters.list {iter : Expr} {l : Addr} {vs : List Value} {nn : Nat} {V : Nat → VP} (h : Ev g iter (isR l)) (hl : (l, listOf vs.toArray nn) ∈ g.n) (hV : ∀ i v, vs[i]? = some v → V i v) : Iters g iter vs.length V [(l, listOf vs.toArray nn)] := fun K E s po S k =>
  h _ _ _ po S fun u s1 a => by
    cases a.1
    exact iter_list a.2 hl hV k
theorem Iters.range {fx : Str} {fp cp : Pos} {e : Expr} {N : Nat} (hf : Ev g (.Name fx fp) (fun u => u = .type "range")) (he : Ev g e (isI (N : Int))) (hp : Pl g [e]) (h1 : starEach [e] g.env = [(false, eval e g.env)]) (hN : (N : Int) < 2 ^ 62) : Iters g (.Call (.Name fx fp) [e] [] cp) N (fun i => isI (i : Int)) [] := fun K E s po S k =>
  EvG.callT hf (Evs.one he h1) hp (R' := fun x s₁ => ∀ (K E : Value → Shared → Prop), (∀ x s', Itr g N (fun i => isI (i : Int)) [] x s' → K x s') → wpAny g.M g.A (pyIter x) K E s₁) (fun vs s2 h Q E q => by
    obtain ⟨_, rfl, ⟨tt, rfl⟩, S2⟩ := h
    refine call_range_1 (q _ _ fun K E k => ?_)
    have S3 : St g { s2 with heap := s2.heap.push { cls := .type "range", data := .fields #[.int 0 s2.toks, .int (N : Int) tt, .int 1 (s2.toks + 1)] }, toks := s2.toks + 1 + 1 } := S2.grow (fun b o e => Heap.get?_push_of_some _ e) (Nat.le_add_right _ 2)
    have hn : Builtin.Range.rangeSize 0 (N : Int) 1 = (N : Int) := by
      rw [rangeSize_one, Int.sub_zero]
      split
      · rfl
      · exact Int.le_antisymm (Int.natCast_nonneg N) (Int.not_lt.mp ‹_›)
    have hg := Heap.get?_push_size (s2.heap.push { cls := .type "range", data := .fields #[.int 0 s2.toks, .int (N : Int) tt, .int 1 (s2.toks + 1)] }) (o := { cls := .type "range_iterator", data := .fields #[rawInt 0, rawInt (N : Int), rawInt 1] }) rfl
    refine wpAny_pyIter_range (IsRange.new ..) (small_one (by decide) (by decide) (Int.le_trans (by decide) (Int.natCast_nonneg N)) hN) (k _ _ ⟨_, _, _, _, rfl, Walks.range (prog := g.c.prog) (w := g.c.w) (A := g.A) rfl _ 0 1 N, ?_, S3.pushed _, S3.fresh (Nat.le_refl _), Heap.lt_size (Heap.get?_push_size _ rfl), fun i h st => ⟨_, st⟩, fun b hb => .inl (List.mem_singleton.mp hb), fun i v hv => ?_⟩)
    · show IsRangeIter _ _ _ _ _
      rw [hn]
      simpa using hg
    · obtain ⟨t, rfl⟩ := hv
      exact ⟨t, by rw [Int.zero_add, Int.mul_one]⟩) _ _ _ po S fun x s₁ h => h K E k
theorem St.apart {s : Shared} (S : St g s) {X : Addr} {o : Obj} {n : Led} (hX : (X, o) ∈ g.n) (ne : ∀ p ∈ n, p.1 ≠ X) : Apart g.c n X := by
  cases S.F with | mk mf cm cells F N hc hi r =>
  have M := N _ (List.mem_append_left _ hX)
  refine ⟨Ne.symm M.2.1, M.2.2, ne, fun x e => ?_⟩
  obtain ⟨ob, hb, _⟩ := hc x X e
  exact (hi _ hb).2 _ hX rfl
/-- one entry of the ledger has been written anew -/
theorem St.swap {s : Shared} (S : St g s) {X : Addr} {o o' : Obj} {n : Led} (hX : (X, o) ∈ g.n) (sub : ∀ p ∈ n, p ∈ g.n) (ne : ∀ p ∈ n, p.1 ≠ X) (hy : LayOk (g.c.env g.cs) n g.y) {h' : Heap} {tk : Nat} (k : ∀ b o, b ≠ X → s.heap.get? b = some o → h'.get? b = some o) (ho : h'.get? X = some o') (ht : s.toks ≤ tk) :
    St { g with n := (X, o') :: n } { s with heap := h', toks := tk } :=
  St.more (p := (X, o')) ((S.less sub hy).off (tk := tk) (S.apart hX ne) k ht) (S.apart hX ne) ho
/-- how a turn goes on -/
inductive Went (c : Cx) (cs : Scope) (k0 : Nat) (It : Addr) (o : Obj) (J : List (Str × VP) → Led → Nat → Prop) (s : Shared) : Prop
  | mk (m : List (Str × VP)) (n : Led) (t : Nat) (S : St ⟨c, cs, k0, t, m, (It, o) :: n, []⟩ s) (off : ∀ p ∈ n, p.1 ≠ It) (j : J m n t) : Went c cs k0 It o J s
inductive Left (c : Cx) (cs : Scope) (k0 : Nat) (J : List (Str × VP) → Led → Nat → Prop) (s : Shared) : Prop
  | mk (m : List (Str × VP)) (n : Led) (t : Nat) (S : St ⟨c, cs, k0, t, m, n, []⟩ s) (j : J m n t) : Left c cs k0 J s
/-- how a turn ends -/
noncomputable def TurnP (c : Cx) (cs : Scope) (k0 : Nat) (It : Addr) (o : Obj) (J Bk : List (Str × VP) → Led → Nat → Prop) (P : Flow → Shared → Prop) (f : Flow) (s : Shared) : Prop := match f with
  | .ret v => P (.ret v) s
  | .brk => Left c cs k0 Bk s
  | _ => Went c cs k0 It o J s
/-- what stands between the turns of a loop -/
inductive Mid (c : Cx) (cs : Scope) (k0 : Nat) (It : Addr) (Z : Nat → Heap → Prop) (J : Nat → List (Str × VP) → Led → Nat → Prop) (i : Nat) (s : Shared) : Prop
  | mk (m : List (Str × VP)) (n : Led) (t : Nat) (S : St ⟨c, cs, k0, t, m, n, []⟩ s) (a : Apart c n It) (st : Z i s.heap) (j : J i m n t) : Mid c cs k0 It Z J i s
theorem fp_stay {fp : List Addr} {It : Addr} {fl n1 n2 : Led} {oI : Obj} {h1 h2 : Heap} (hfp : ∀ b ∈ fp, b = It ∨ ∃ o, (b, o) ∈ fl) (g1 : ∀ p ∈ fl, h1.get? p.1 = some p.2) (g2 : ∀ p ∈ fl, h2.get? p.1 = some p.2) (i1 : h1.get? It = some oI) (i2 : h2.get? It = some oI) :
    ∀ b ∈ fp, ∀ o, h1.get? b = some o → h2.get? b = some o := fun b hb o e => by
  rcases hfp b hb with rfl | ⟨o₀, ho⟩
  · rw [i1] at e; cases e; exact i2
  · have := g1 _ ho
    dsimp only at this
    rw [this] at e; cases e; exact g2 _ ho
theorem Ex.for {c : Cx} {cs : Scope} {k0 t0 : Nat} {m : List (Str × VP)} {n : Led} {x : Str} {px pos : Pos} {iter : Expr} {body rest : List Stmt} {r : List (List Stmt)} {P : Flow → Shared → Prop} {N : Nat} {V : Nat → VP} {fl : Led} (J : Nat → List (Str × VP) → Led → Nat → Prop) (Bk : List (Str × VP) → Led → Nat → Prop)
    (it : Iters ⟨c, cs, k0, t0, m, n, []⟩ iter N V fl) (hfl : ∀ i m n t, J i m n t → ∀ p ∈ fl, p ∈ n) (h0 : J 0 m n t0) (hx : Sto cs c.cl x) (hs : ∀ v, foldedSetIterable iter (c.env cs) v = pure v)
    (turn : ∀ i m n t It o, i < N → J i m n t → (∀ p ∈ n, p.1 ≠ It) → Ex ⟨c, cs, k0, t, (x, V i) :: m, (It, o) :: n, []⟩ [body] (TurnP c cs k0 It o (J (i + 1)) Bk P))
    (brk : ∀ m n t, Bk m n t → Ex ⟨c, cs, k0, t, m, n, []⟩ (rest :: r) P) (done : ∀ m n t, J N m n t → Ex ⟨c, cs, k0, t, m, n, []⟩ (rest :: r) P) : Ex ⟨c, cs, k0, t0, m, n, []⟩ ((.For (.Name x px) iter body [] pos :: rest) :: r) P := fun Q E s p S q =>
  seq_cons (wpAny_For (it _ _ _ p S fun v s1 h => by
    cases h with | mk It fp Pv Z hv W st S1 a lt live hfp hV =>
    subst hv
    refine codeAny_forLoop (fun k s' => ∃ i, i ≤ N ∧ k = N - i ∧ Mid c cs k0 It Z J i s') ?_ N ⟨0, Nat.zero_le _, rfl, m, n, t0, S1, a, st, h0⟩
    rintro k s' ⟨i, hi, rfl, M⟩
    cases M with | mk m' n' t' S' a' st' j =>
    cases Nat.lt_or_eq_of_le hi with
    | inl hlt =>
      refine wpAny_passesOwn (p rfl) (wpAny_with_toks (Nat.le_refl s'.toks) (W.item i _ _ _ hlt st' fun v h₁ tk₁ hP st₁ k₁ ht₁ => ?_))
      obtain ⟨o, ho⟩ := live _ _ st₁
      have S0 := S'.off (tk := tk₁) a' (fun b ob hb e => k₁ b ob (fun q => hb (List.mem_singleton.mp q)) e) ht₁
      have S2 := S0.more (p := (It, o)) a' ho
      refine wpAny_assign_Name (store_ok (g := ⟨c, cs, k0, t', m', (It, o) :: n', []⟩) hx S2 (hV i v hP) rfl fun s3 S3 => wpAny_passesOwn (p rfl) ?_)
      refine wpAny_mono (turn i m' n' t' It o hlt j a'.n _ E s3 p S3 fun f s' r => r) (fun f s4 r => ?_) fun _ _ e => e
      have go : Went c cs k0 It o (J (i + 1)) s4 → ∃ k, k < N - i ∧ ∃ i, i ≤ N ∧ k = N - i ∧ Mid c cs k0 It Z J i s4 := fun w => by
        cases w with | mk m4 n4 t4 S4 off j4 =>
        refine ⟨_, Nat.sub_lt_sub_left hlt (Nat.lt_succ_self _), i + 1, hlt, rfl, m4, n4, t4, S4.less (fun p hp => .tail _ hp) trivial, ⟨a'.l, a'.h, off, a'.c⟩, W.frame _ _ _ st₁ (fp_stay hfp (n1 := n') (n2 := n') (fun p hp => S0.get (hfl _ _ _ _ j p hp)) (fun p hp => S4.get (.tail _ (hfl _ _ _ _ j4 p hp))) ho (S4.get (.head _))), j4⟩
      cases f with
      | ret v => exact q _ _ r
      | brk =>
        cases r with | mk m5 n5 t5 S5 j5 =>
        exact brk m5 n5 t5 j5 Q E s4 p S5 q
      | cont => exact go r
      | next => exact go r
    | inr hin =>
      subst hin
      refine wpAny_passesOwn (p rfl) (wpAny_with_toks (Nat.le_refl s'.toks) (W.done _ _ _ st' fun h₁ tk₁ k₁ ht₁ => wpAny_execs_nil ?_))
      exact done m' n' t' j Q E _ p (S'.off a' (fun b ob hb e => k₁ b ob (fun q => hb (List.mem_singleton.mp q)) e) ht₁) q) hs)
end
end Mine
end
section
open PySem PySem.W PySem.Spec PySem.Calls PyProof.Rows
set_option maxRecDepth 100000
set_option linter.unusedVariables false
set_option genInjectivity false
set_option genSizeOf false
namespace Mine
noncomputable section
variable {g : G}
/-- the tests of a comprehension -/
noncomputable def Tests (g : G) (ifs : List Expr) (b : Bool) : Prop := ∀ (Q : Bool → Shared → Prop) (E : Value → Shared → Prop) s, g.PO E → St g s → (∀ s', St g s' → Q b s') →
  wpAny g.M g.A (forIn ifs true fun c r => if r = true then do let ok ← isTrue c g.env (eval c g.env); pure (ForInStep.yield ok) else pure (ForInStep.yield r)) Q E s
theorem Tests.nil : Tests g [] true := fun Q E s _ S q => by
  rw [List.forIn_nil]
  exact wpAny_pure (q s S)
theorem Tests.one {e : Expr} {b : Bool} (h : Tr g e b) : Tests g [e] b := fun Q E s p S q => by
  rw [List.forIn_cons]
  refine wpAny_bind ?_
  rw [if_pos rfl]
  refine wpAny_bind (h _ _ _ p S fun s' S' => wpAny_pure ?_)
  show wpAny _ _ (forIn [] b _) Q E s'
  rw [List.forIn_nil]
  exact wpAny_pure (q s' S')
/-- the frame of one turn -/
abbrev G.inner (g : G) (scope : Scope) (cl : List (Str × Addr)) (C : Addr) (x : Str) (V : VP) (t : Nat) (n : Led) : G := ⟨g.c, g.cs, g.k, t, g.m, n, ⟨scope, cl, C, [(x, V)]⟩ :: g.y⟩
/-- what a turn makes -/
inductive MadeT (g : G) (J : List Value → Led → Nat → Prop) (ys : List Value) (n : Led) (y : Value) (s : Shared) : Prop
  | mk (tl : Led) (t : Nat) (S : St ⟨g.c, g.cs, g.k, t, g.m, tl ++ g.n, g.y⟩ s) (o : ∀ q ∈ g.n, ∀ p ∈ tl, q.1 < p.1) (j : J (ys ++ [y]) (tl ++ n) t) : MadeT g J ys n y s
/-- how a turn of a comprehension goes on from what has been made -/
noncomputable def Turns (g : G) (elt : Expr) (ifs : List Expr) (scope : Scope) (cl : List (Str × Addr)) (x : Str) (V : VP) (J J' : List Value → Led → Nat → Prop) : Prop :=
  ∀ (ys : List Value) (n : Led) (t : Nat) (C D It : Addr) (oC oD oI : Obj), J ys n t → (∀ p ∈ g.n, p ∈ n) →
    ∃ b, Tests (g.inner scope cl C x V t ((C, oC) :: (D, oD) :: (It, oI) :: n)) ifs b ∧ (b = false → J' ys n t) ∧
      (b = true → EvG (g.inner scope cl C x V t ((C, oC) :: (D, oD) :: (It, oI) :: n)) elt (MadeT (g.inner scope cl C x V t ((C, oC) :: (D, oD) :: (It, oI) :: n)) J' ys n))
/-- what stands between the turns -/
inductive MidC (g : G) (J : Nat → List Value → Led → Nat → Prop) (C D It : Addr) (Z : Nat → Heap → Prop) (i : Nat) (s : Shared) : Prop
  | mk (ys : List Value) (n : Led) (t nD : Nat) (oC : Obj) (mC : Str → Option Value) (S : St ⟨g.c, g.cs, g.k, t, g.m, (D, listOf ys.toArray nD) :: (C, oC) :: n, g.y⟩ s) (hC : ∀ h : Heap, h.get? C = some oC → h.Ns C mC)
    (off : ∀ p ∈ n, p.1 ≠ D ∧ p.1 ≠ C ∧ p.1 ≠ It) (sub : ∀ p ∈ g.n, p ∈ n) (le : ys.length ≤ i) (st : Z i s.heap) (j : J i ys n t) : MidC g J C D It Z i s
/-- .. and at the end -/
inductive DoneC (g : G) (J : List Value → Led → Nat → Prop) (C D : Addr) (N : Nat) (s : Shared) : Prop
  | mk (ys : List Value) (n : Led) (t nD : Nat) (oC : Obj) (mC : Str → Option Value) (S : St ⟨g.c, g.cs, g.k, t, g.m, (D, listOf ys.toArray nD) :: (C, oC) :: n, g.y⟩ s) (hC : ∀ h : Heap, h.get? C = some oC → h.Ns C mC)
    (off : ∀ p ∈ n, p.1 ≠ D ∧ p.1 ≠ C) (sub : ∀ p ∈ g.n, p ∈ n) (le : ys.length ≤ N) (j : J ys n t) : DoneC g J C D N s
theorem perm3 {tl n : Led} {a b c : Addr × Obj} : ∀ p ∈ b :: a :: (tl ++ n), p ∈ tl ++ (a :: b :: c :: n) := fun p hp => by
  cases hp with
  | head => exact List.mem_append_right _ (.tail _ (.head _))
  | tail _ hp => cases hp with
    | head => exact List.mem_append_right _ (.head _)
    | tail _ hp => exact (List.mem_append.mp hp).elim (List.mem_append_left _) fun h => List.mem_append_right _ (.tail _ (.tail _ (.tail _ h)))
theorem ns_obj {h : Heap} {C : Addr} {m : Str → Option Value} (hn : h.Ns C m) : ∃ o, h.get? C = some o ∧ ∀ h' : Heap, h'.get? C = some o → h'.Ns C m := by
  obtain ⟨o, es, ep, ho, r⟩ := hn
  exact ⟨o, ho, fun h' e => ⟨o, es, ep, e, r⟩⟩
theorem compLoopH {elt iter : Expr} {ifs : List Expr} {x : Str} {px pos : Pos} {scope : Scope} {cl : List (Str × Addr)} {C D It : Addr} {N : Nat} {V : Nat → VP} {fl : Led} {fp : List Addr} {Pv : Nat → Value → Prop} {Z : Nat → Heap → Prop} {R : Result → Shared → Prop} {s : Shared}
    (J : Nat → List Value → Led → Nat → Prop) (W : Walks g.c.prog g.c.w g.A It fp [It] N Pv Z) (live : ∀ i h, Z i h → ∃ o, h.get? It = some o) (hfp : ∀ b ∈ fp, b = It ∨ ∃ o, (b, o) ∈ fl) (hfl : ∀ p ∈ fl, p ∈ g.n) (hV : ∀ i v, Pv i v → V i v) (aI : Apart g.c g.n It) (hy : LayOk (g.c.env g.cs) g.n g.y)
    (hx : (relabel scope g.env).names.lookup x = some .local) (hk : scope.kind = .function) (hDC : C ≠ D) (hDI : D ≠ It) (hIC : C ≠ It) (hN : N ≤ sizeLine)
    (turn : ∀ i, i < N → Turns g elt ifs scope cl x (V i) (J i) (J (i + 1)))
    (h0 : MidC g J C D It Z 0 s) (done : ∀ s', DoneC g (J N) C D N s' → R (.ok .next) s') :
    codeAny g.M g.A (.compLoop (.ListComp elt [⟨.Name x px, iter, ifs, 0⟩] scope pos) 0 (.ref It) (.ref D) (compEnvC scope cl C g.env)) R s := by
  refine codeAny_compLoop_tests (fun k s' => ∃ i, i ≤ N ∧ k = N - i ∧ MidC g J C D It Z i s') ?_ N ⟨0, Nat.zero_le _, rfl, h0⟩
  rintro k s' ⟨i, hi, rfl, M⟩
  cases M with | mk ys n t nD oC mC S hC off sub le st j =>
  have aIt : Apart g.c ((D, listOf ys.toArray nD) :: (C, oC) :: n) It := ⟨aI.l, aI.h, fun p hp => by
    cases hp with
    | head => exact hDI
    | tail _ hp => cases hp with
      | head => exact hIC
      | tail _ hp => exact (off p hp).2.2, aI.c⟩
  cases Nat.lt_or_eq_of_le hi with
  | inr hin =>
    subst hin
    refine wpAny_with_toks (Nat.le_refl s'.toks) (W.done _ _ _ st fun h₁ tk₁ k₁ ht₁ => done _ ⟨ys, n, t, nD, oC, mC, S.off (tk := tk₁) aIt (fun b ob hb e => k₁ b ob (fun q => hb (List.mem_singleton.mp q)) e) ht₁, hC, fun p hp => ⟨(off p hp).1, (off p hp).2.1⟩, sub, le, j⟩)
  | inl hlt =>
    refine wpAny_with_toks (Nat.le_refl s'.toks) (W.item i _ _ _ hlt st fun v h₁ tk₁ hP st₁ k₁ ht₁ => ?_)
    obtain ⟨oI, hoI⟩ := live _ _ st₁
    have S1 := (S.off (tk := tk₁) aIt (fun b ob hb e => k₁ b ob (fun q => hb (List.mem_singleton.mp q)) e) ht₁).more (p := (It, oI)) aIt hoI
    refine wpAny_assign_Name (wpAny_storeName_local (env := compEnvC scope cl C g.env) hx (hC _ (S1.get (.tail _ (.tail _ (.head _))))) (fun h₂ hn₂ hs₂ => ?_) (by simp [compEnvC, relabel, hk]))
    obtain ⟨oC', hoC', ns⟩ := ns_obj hn₂
    have S2 := S1.swap (X := C) (tk := tk₁ + 1) (n := (D, listOf ys.toArray nD) :: (It, oI) :: n) (.tail _ (.tail _ (.head _))) (fun p hp => by
      cases hp with
      | head => exact .tail _ (.head _)
      | tail _ hp => cases hp with
        | head => exact .head _
        | tail _ hp => exact .tail _ (.tail _ (.tail _ hp))) (fun p hp => by
      cases hp with
      | head => exact hDC.symm
      | tail _ hp => cases hp with
        | head => exact hIC.symm
        | tail _ hp => exact (off p hp).2.1) (hy.sub fun p hp => .tail _ (.tail _ (sub p hp))) (fun b o hb e => hs₂.extBut b o hb e) hoC' (Nat.le_succ _)
    have S3 : St (g.inner scope cl C x (V i) t ((C, oC') :: (D, listOf ys.toArray nD) :: (It, oI) :: n)) { s' with heap := h₂, toks := tk₁ + 1 } :=
      ⟨S2.P, S2.F, S2.D, S2.t, S2.t0, ⟨hk, oC', _, .head _, ns, fun y U e => by
        rcases lookup_put e with ⟨rfl, rfl⟩ | ⟨_, e⟩
        · exact ⟨hx, v, if_pos rfl, hV i v hP⟩
        · cases e⟩, S2.y⟩
    obtain ⟨b, hb, hf, htr⟩ := turn i hlt ys n t C D It oC' (listOf ys.toArray nD) oI j sub
    have fr : ∀ h' : Heap, (∀ p ∈ g.n, h'.get? p.1 = some p.2) → h'.get? It = some oI → Z (i + 1) h' := fun h' g1 g2 => W.frame _ _ _ st₁ (fp_stay hfp (n1 := n) (n2 := n) (fun p hp => S1.get (.tail _ (.tail _ (.tail _ (sub p (hfl p hp)))))) (fun p hp => g1 p (hfl p hp)) hoI g2)
    refine hb _ _ _ (fun h => nomatch h) S3 fun s₃ S₃ => ?_
    cases b with
    | false =>
      have S4 := S₃.lessY (n := (D, listOf ys.toArray nD) :: (C, oC') :: n) (y := g.y) (perm3 (tl := [])) (hy.sub fun p hp => .tail _ (.tail _ (sub p hp)))
      exact ⟨_, Nat.sub_lt_sub_left hlt (Nat.lt_succ_self _), i + 1, hlt, rfl, ys, n, t, nD, oC', _, S4, ns, off, sub, Nat.le_succ_of_le le, fr _ (fun p hp => S4.get (.tail _ (.tail _ (sub p hp)))) (S₃.get (.tail _ (.tail _ (.head _)))), hf rfl⟩
    | true =>
      refine htr rfl _ _ _ (fun h => nomatch h) S₃ fun y s₄ q => ?_
      cases q with | mk tl t' S₄ o j' =>
      refine wpAny_list_append_plain (items := ys.toArray) (hsz := by rw [List.size_toArray]; exact Nat.le_trans le (Nat.le_trans (Nat.le_of_lt hlt) hN)) ⟨nD, S₄.get (List.mem_append_right _ (.tail _ (.head _)))⟩ fun h₅ hl₅ hs₅ => ?_
      obtain ⟨nD', hD'⟩ := hl₅
      have off' : ∀ p ∈ tl ++ n, p.1 ≠ D ∧ p.1 ≠ C ∧ p.1 ≠ It := fun p hp => (List.mem_append.mp hp).elim (fun hp => ⟨Nat.ne_of_gt (o _ (.tail _ (.head _)) p hp), Nat.ne_of_gt (o _ (.head _) p hp), Nat.ne_of_gt (o _ (.tail _ (.tail _ (.head _))) p hp)⟩) (off p)
      have S5 := (S₄.lessY (y := g.y) perm3 (hy.sub fun p hp => .tail _ (.tail _ (List.mem_append_right _ (sub p hp))))).swap (X := D) (tk := s₄.toks) (n := (C, oC') :: (tl ++ n)) (.head _) (fun p hp => .tail _ hp) (fun p hp => by
        cases hp with
        | head => exact hDC
        | tail _ hp => exact (off' p hp).1) (hy.sub fun p hp => .tail _ (List.mem_append_right _ (sub p hp))) (fun b o hb e => hs₅.extBut b o hb e) hD' (Nat.le_refl _)
      exact ⟨_, Nat.sub_lt_sub_left hlt (Nat.lt_succ_self _), i + 1, hlt, rfl, ys ++ [y], tl ++ n, t', nD', oC', _, by simpa using S5, ns, off', fun p hp => List.mem_append_right _ (sub p hp), by rw [List.length_append]; exact Nat.succ_le_succ le, fr _ (fun p hp => S5.get (.tail _ (.tail _ (List.mem_append_right _ (sub p hp))))) (hs₅.extBut _ _ hDI.symm (S₄.get (List.mem_append_right _ (.tail _ (.tail _ (.head _)))))), j'⟩
/-- what a comprehension leaves -/
inductive Comped (g : G) (N : Nat) (J : List Value → Led → Nat → Prop) (D : Addr) (s : Shared) : Prop
  | mk (ys : List Value) (n : Led) (t nD : Nat) (S : St ⟨g.c, g.cs, g.k, t, g.m, (D, listOf ys.toArray nD) :: n, g.y⟩ s) (j : J ys n t) (sub : ∀ p ∈ g.n, p ∈ n) (lt : ∀ p ∈ g.n, p.1 < D) (off : ∀ p ∈ n, p.1 ≠ D) (le : ys.length ≤ N) : Comped g N J D s
/-- the comprehension's own frame goes -/
theorem frame_goes {c : Cx} {cs : Scope} {k t : Nat} {m : List (Str × VP)} {n n' : Led} {y : List Lay} {C : Addr} {oC : Obj} {mC : Str → Option Value} {s : Shared} {Q : Shared → Prop} (S : St ⟨c, cs, k, t, m, n, y⟩ s) (mem : (C, oC) ∈ n) (hC : ∀ h : Heap, h.get? C = some oC → h.Ns C mC)
    (sub : ∀ p ∈ n', p ∈ n) (ne : ∀ p ∈ n', p.1 ≠ C) (hy : LayOk (c.env cs) n' y) (q : ∀ s', St ⟨c, cs, k, t, m, n', y⟩ s' → Q s') : ∃ m, s.heap.Ns C m ∧ ∀ h', Heap.SameBut C s.heap h' → Q { s with heap := h' } := by
  exact ⟨mC, hC _ (S.get mem), fun h' hs => q _ ((S.less sub hy).off (tk := s.toks) (S.apart mem ne) (fun b o hb e => hs.extBut b o hb e) (Nat.le_refl _))⟩
theorem comp_core {elt iter : Expr} {ifs : List Expr} {x : Str} {px pos : Pos} {scope : Scope} {cl : List (Str × Addr)} {N : Nat} {V : Nat → VP} {fl : Led} {use : Option (Value → Sem Unit)} {Q : Value → Shared → Prop} {E : Value → Shared → Prop} {v : Value} {s2 : Shared}
    (J : Nat → List Value → Led → Nat → Prop) (it : Itr g N V fl v s2) (hfl : ∀ p ∈ fl, p ∈ g.n) (hN : N ≤ sizeLine) (h0 : J 0 [] g.n g.t) (turn : ∀ i, i < N → Turns g elt ifs scope cl x (V i) (J i) (J (i + 1)))
    (hcell : ∀ y ∈ scope.names, y.2 ≠ .cell) (hk : scope.kind = .function) (hx : scope.names.lookup x = some .local)
    (q : ∀ C D s', C ≠ D → (∀ p ∈ g.n, p.1 < D) → DoneC g (J N) C D N s' → compPost g.M g.A E use Q (.ref D) C (.ok .next) s') :
    wpAny g.M g.A (newList []) (fun acc s₃ => wpAny g.M g.A (newFunctionEnv scope g.env.globals cl [] g.env.qual none .none (some g.env)) (fun cenv s₄ =>
        codeAny g.M g.A (.compStart (.ListComp elt [⟨.Name x px, iter, ifs, 0⟩] scope pos) 0 v acc { cenv with scope := relabel scope g.env }) (compPost g.M g.A E use Q acc cenv.locals) s₄) E s₃) E s2 := by
  cases it with | mk It fp Pv Z hv W st S2 aI lt live hfp hV =>
  subst hv
  refine wpAny_newObj_type (wpAny_newFunctionEnv hcell (fun _ h => nomatch h) (fun h₁ hns₁ hsb₁ => ?_) hk)
  have S3 := S2.push { cls := .type "list", data := .seq #[] } rfl
  obtain ⟨C, hC⟩ : ∃ C, (s2.heap.push { cls := .type "list", data := .seq #[] }).objs.size = C := ⟨_, rfl⟩
  dsimp only at hns₁ hsb₁ ⊢
  rw [hC] at hns₁ hsb₁ ⊢
  have hDC : s2.heap.objs.size < C := by rw [← hC, Heap.size_push]; exact Nat.lt_succ_self _
  have aC := S3.fresh (X := C) (Nat.le_of_eq hC)
  have up : ∀ b o, b ≠ C → (s2.heap.push { cls := .type "list", data := .seq #[] }).get? b = some o → h₁.get? b = some o := fun b o hb e => hsb₁.extBut b o hb (Heap.get?_push_of_some _ e)
  obtain ⟨oC, hoC, ns⟩ := ns_obj hns₁
  have S4 := (S3.off (tk := s2.toks + 0) aC up (Nat.le_refl _)).more (p := (C, oC)) aC hoC
  have lt' : It < C := Nat.lt_trans lt hDC
  have st' := W.frame 0 _ h₁ st fun b hb o e => up b o (Nat.ne_of_lt (Nat.lt_trans (Heap.lt_size e) hDC)) (Heap.get?_push_of_some _ e)
  have loop := compLoopH (elt := elt) (iter := iter) (ifs := ifs) (x := x) (px := px) (pos := pos) (cl := cl) (C := C) (D := s2.heap.objs.size) (R := compPost g.M g.A E use Q (.ref s2.heap.objs.size) C) (s := { s2 with heap := h₁, toks := s2.toks + 0 })
    J W live hfp hfl hV aI S2.y (lookup_relabel_local hx) hk (Nat.ne_of_gt hDC) (Nat.ne_of_gt lt) (Nat.ne_of_gt lt') hN turn
    ⟨[], g.n, g.t, 0, oC, _, S4.less (fun p hp => by
      cases hp with
      | head => exact .tail _ (.head _)
      | tail _ hp => cases hp with
        | head => exact .head _
        | tail _ hp => exact .tail _ (.tail _ hp)) (S2.y.sub fun p hp => .tail _ (.tail _ hp)), ns, fun p hp => ⟨Nat.ne_of_lt (S2.above p hp), Nat.ne_of_lt (Nat.lt_trans (S2.above p hp) hDC), aI.n p hp⟩, fun _ h => h, Nat.le_refl _, st', h0⟩ fun s' d => q C s2.heap.objs.size s' (Nat.ne_of_gt hDC) S2.above d
  exact codeAny_compStart_list loop (W.self 0 _ _ _ st' loop)
theorem EvG.compI {elt iter : Expr} {ifs : List Expr} {x : Str} {px pos : Pos} {scope : Scope} {cl : List (Str × Addr)} {R : Value → Shared → Prop}
    (hs : ∀ v, foldedSetIterable iter g.env v = pure v) (hclos : closureFor scope g.env = pure cl) (hk : scope.kind = .function) (hnames : ∀ y ∈ scope.names, y.2 = .local → scope.names.lookup y.1 = some .local)
    (h : ∀ (Q : Value → Shared → Prop) (E : Value → Shared → Prop) s, g.PO E → St g s → (∀ v s', R v s' → Q v s') → wpAny g.M g.A (eval iter g.env) (fun v s₁ => wpAny g.M g.A (pyIter v) (fun it s₂ => wpAny g.M g.A (newList []) (fun acc s₃ => wpAny g.M g.A (newFunctionEnv scope g.env.globals cl [] g.env.qual none .none (some g.env)) (fun cenv s₄ =>
        codeAny g.M g.A (.compStart (.ListComp elt [⟨.Name x px, iter, ifs, 0⟩] scope pos) 0 it acc { cenv with scope := relabel scope g.env }) (compPost g.M g.A E none Q acc cenv.locals) s₄) E s₃) E s₂) E s₁) E s) :
    EvG g (.ListComp elt [⟨.Name x px, iter, ifs, 0⟩] scope pos) R := fun Q E s po S q => by
  rw [eval_ListComp]
  exact wpAny_comprehension_free (use := none) rfl hs hclos hk hnames (h Q E s po S q)
theorem DoneC.goes {c : Cx} {cs : Scope} {k t0 : Nat} {m : List (Str × VP)} {n0 : Led} {y : List Lay} {J : List Value → Led → Nat → Prop} {C D : Addr} {N : Nat} {s : Shared} {Q : Shared → Prop} (hCD : C ≠ D) (lt : ∀ p ∈ n0, p.1 < D) (d : DoneC ⟨c, cs, k, t0, m, n0, y⟩ J C D N s) (hy : LayOk (c.env cs) n0 y) (q : ∀ s', Comped ⟨c, cs, k, t0, m, n0, y⟩ N J D s' → Q s') :
    ∃ m, s.heap.Ns C m ∧ ∀ h', Heap.SameBut C s.heap h' → Q { s with heap := h' } := by
  cases d with | mk ys n t nD oC mC S ns off sub le j =>
  exact frame_goes S (.tail _ (.head _)) ns (fun p hp => by
      cases hp with
      | head => exact .head _
      | tail _ hp => exact .tail _ (.tail _ hp)) (fun p hp => by
      cases hp with
      | head => exact hCD.symm
      | tail _ hp => exact (off p hp).2) (hy.sub fun p hp => .tail _ (sub p hp)) fun s' S' => q s' ⟨ys, n, t, nD, S', j, sub, lt, fun p hp => (off p hp).1, le⟩
/-- what the rules of a comprehension ask of its form -/
structure CompOk (iter : Expr) (scope : Scope) (x : Str) (cl : List (Str × Addr)) (env : Env) : Prop where
  hs : ∀ v, foldedSetIterable iter env v = pure v
  clos : closureFor scope env = pure cl
  kd : scope.kind = .function
  names : ∀ y ∈ scope.names, y.2 = .local → scope.names.lookup y.1 = some .local
  cell : ∀ y ∈ scope.names, y.2 ≠ .cell
  x : scope.names.lookup x = some .local
theorem EvG.comp {elt iter : Expr} {ifs : List Expr} {x : Str} {px pos : Pos} {scope : Scope} {cl : List (Str × Addr)} {N : Nat} {V : Nat → VP} {fl : Led} (J : Nat → List Value → Led → Nat → Prop) (ok : CompOk iter scope x cl g.env) (it : Iters g iter N V fl) (hfl : ∀ p ∈ fl, p ∈ g.n) (hN : N ≤ sizeLine) (h0 : J 0 [] g.n g.t) (turn : ∀ i, i < N → Turns g elt ifs scope cl x (V i) (J i) (J (i + 1))) :
    EvG g (.ListComp elt [⟨.Name x px, iter, ifs, 0⟩] scope pos) (fun u s' => ∃ D, u = .ref D ∧ Comped g N (J N) D s') := fun Q E s po S q => by
  rw [eval_ListComp]
  exact wpAny_comprehension_free (use := none) rfl ok.hs ok.clos ok.kd ok.names (it _ _ _ po S fun v s2 i => by
    have S2 : St g s2 := by cases i with | mk _ _ _ _ _ _ _ S2 => exact S2
    exact comp_core J i hfl hN h0 turn ok.cell ok.kd ok.x fun C D s' hCD lt d => d.goes hCD lt S2.y fun s'' c => q _ _ ⟨D, rfl, c⟩)
/-- .. over a list that has been made for it -/
theorem EvG.compA {elt iter : Expr} {ifs : List Expr} {x : Str} {px pos : Pos} {scope : Scope} {cl : List (Str × Addr)} {vs : List Value} {nn : Nat} {V : Nat → VP} (J : Nat → List Value → Led → Nat → Prop) (ok : CompOk iter scope x cl g.env)
    (he : EvG g iter fun v s => ∃ l, v = .ref l ∧ St { g with n := (l, listOf vs.toArray nn) :: g.n } s) (hN : vs.length ≤ sizeLine) (hV : ∀ i v, vs[i]? = some v → V i v)
    (h0 : ∀ l, J 0 [] ((l, listOf vs.toArray nn) :: g.n) g.t) (turn : ∀ l i, i < vs.length → Turns { g with n := (l, listOf vs.toArray nn) :: g.n } elt ifs scope cl x (V i) (J i) (J (i + 1))) :
    EvG g (.ListComp elt [⟨.Name x px, iter, ifs, 0⟩] scope pos) (fun u s' => ∃ l D, u = .ref D ∧ Comped { g with n := (l, listOf vs.toArray nn) :: g.n } vs.length (J vs.length) D s') := fun Q E s po S q => by
  rw [eval_ListComp]
  exact wpAny_comprehension_free (use := none) rfl ok.hs ok.clos ok.kd ok.names (he _ _ _ po S fun v s1 a => by
    obtain ⟨l, rfl, S1⟩ := a
    exact iter_list S1 (.head _) hV fun x s2 i => by
      have S2 : St { g with n := (l, listOf vs.toArray nn) :: g.n } s2 := by cases i with | mk _ _ _ _ _ _ _ S2 => exact S2
      exact comp_core (g := { g with n := (l, listOf vs.toArray nn) :: g.n }) J i (fun p hp => List.mem_singleton.mp hp ▸ .head _) hN (h0 l) (turn l) ok.cell ok.kd ok.x fun C D s' hCD lt d => d.goes hCD lt S2.y fun s'' c => q _ _ ⟨l, D, rfl, c⟩)
/-- y = [..]: the list goes straight into the name -/
theorem Ex.asgComp {c : Cx} {cs : Scope} {k0 t0 : Nat} {m : List (Str × VP)} {n : Led} {elt iter : Expr} {ifs : List Expr} {x z : Str} {px pz pos spos : Pos} {scope : Scope} {cl : List (Str × Addr)} {N : Nat} {V : Nat → VP} {fl : Led} {rest : List Stmt} {r : List (List Stmt)} {P : Flow → Shared → Prop}
    (J : Nat → List Value → Led → Nat → Prop) (ok : CompOk iter scope x cl (c.env cs)) (it : Iters ⟨c, cs, k0, t0, m, n, []⟩ iter N V fl) (hfl : ∀ p ∈ fl, p ∈ n) (hN : N ≤ sizeLine) (h0 : J 0 [] n t0) (turn : ∀ i, i < N → Turns ⟨c, cs, k0, t0, m, n, []⟩ elt ifs scope cl x (V i) (J i) (J (i + 1)))
    (hz : Sto cs c.cl z) (hsw : swapsWith (.ListComp elt [⟨.Name x px, iter, ifs, 0⟩] scope pos) (some (.Name z pz)) spos.line (c.env cs) = pure true)
    (k : ∀ D ys n' t nD, J N ys n' t → (∀ p ∈ n, p ∈ n') → (∀ p ∈ n, p.1 < D) → (∀ p ∈ n', p.1 ≠ D) → Ex ⟨c, cs, k0, t, (z, isR D) :: m, (D, listOf ys.toArray nD) :: n', []⟩ (rest :: r) P) :
    Ex ⟨c, cs, k0, t0, m, n, []⟩ ((.Assign [.Name z pz] (.ListComp elt [⟨.Name x px, iter, ifs, 0⟩] scope pos) spos :: rest) :: r) P := fun Q E s po S q => seq_cons (by
  show wpAny _ _ (exec _ (c.env cs)) _ _ _
  rw [exec_Assign_Name_used _ _ _ _ hsw]
  refine wpAny_bind (wpAny_standAt (wpAny_bind ?_))
  show wpAny _ _ (do let _ ← comprehension (.ListComp elt [⟨.Name x px, iter, ifs, 0⟩] scope pos) scope _ _ (newList []) false (eval iter _) (some (assign (.Name z pz) _))) _ _ s
  refine wpAny_bind (wpAny_mono (wpAny_comprehension_free (Q := fun _ s' => seqW (model c.prog c.w) (c.A cs) (c.env cs) (rest :: r) Q E s') (use := some (assign (.Name z pz) (c.env cs))) rfl ok.hs ok.clos ok.kd ok.names (it _ _ _ po S fun v s2 i => comp_core J i hfl hN h0 turn ok.cell ok.kd ok.x fun C D s' hCD lt d => ?_)) (fun _ s' hq => wpAny_pure (wpAny_pure hq)) fun _ _ e => e)
  cases d with | mk ys n' t nD oC mC S' ns off sub le j =>
  refine wpAny_assign_Name (store_ok (g := ⟨c, cs, k0, t, m, (D, listOf ys.toArray nD) :: (C, oC) :: n', []⟩) hz S' (V := isR D) rfl rfl fun s3 S3 => DoneC.goes (t0 := t0) (n0 := n) (J := J N) (N := N) hCD lt ⟨ys, n', t, nD, oC, mC, S3, ns, off, sub, le, j⟩ trivial fun s4 cc => ?_)
  cases cc with | mk ys n' t nD S4 j sub lt off le => exact k D ys n' t nD j sub lt off Q E s4 po S4 q)
end
end Mine
end
section
open PySem PySem.W PySem.Calls PyProof.Rows
set_option maxRecDepth 100000
set_option linter.unusedVariables false
set_option genInjectivity false
set_option genSizeOf false
namespace Mine
noncomputable section
variable {g : G}
/-- a made sequence -/
inductive Seq (g : G) (Vs : List VP) (mk : List Value → Obj) (v : Value) (s : Shared) : Prop
  | mk (d : Addr) (vs : List Value) (hv : v = .ref d) (ha : All2 Vs vs) (lt : ∀ p ∈ g.n, p.1 < d) (S : St { g with n := (d, mk vs) :: g.n } s) : Seq g Vs mk v s
theorem EvG.tup {es : List Expr} {k : Nat} {pos : Pos} {Vs : List VP} (h : Evs g es (Pure g Vs)) (hl : Vs.length ≤ sizeLine) : EvG g (.Tuple es k pos) (Seq g Vs tupOf) := fun Q E s p S q =>
  wpAny_Tuple (h pos _ _ _ p S fun vs s1 a => ⟨a.1.length ▸ hl, q _ _ ⟨_, vs, rfl, a.1, a.2.above, a.2.push _ rfl⟩⟩)
theorem EvG.list {es : List Expr} {pos : Pos} {Vs : List VP} (h : Evs g es (Pure g Vs)) (hl : Vs.length ≤ sizeLine) : EvG g (.List es pos) (Seq g Vs fun vs => listOf vs.toArray 0) := fun Q E s p S q =>
  wpAny_List (h pos _ _ _ p S fun vs s1 a => ⟨a.1.length ▸ hl, q _ _ ⟨_, vs, rfl, a.1, a.2.above, a.2.push _ rfl⟩⟩)
/-- a place in a sequence -/
noncomputable def It (g : G) (value slice : Expr) (V I W : VP) : Prop := ∀ o i, V o → I i → ∀ (Q E : Value → Shared → Prop) s, St g s → (∀ r s', W r → St g s' → Q r s') → wpAny g.M g.A (subscriptTail value slice o i) Q E s
theorem Ev.sub {value slice : Expr} {pos : Pos} {V I W : VP} (h1 : Ev g value V) (h2 : Ev g slice I) (h3 : It g value slice V I W) : Ev g (.Subscript value slice pos) W := fun Q E s p S q =>
  Subscript_ (h1 _ _ _ p S fun o s1 a => h2 _ _ _ p a.2 fun i s2 b => h3 o i a.1 b.1 Q E s2 b.2 fun r s' hr S' => q _ _ ⟨hr, S'⟩)
abbrev Subs (slice : Expr) (o i : Value) : Prop := subscripted slice false o i = operate [o, i] (getItem o i)
theorem It.list {value slice : Expr} {l : Addr} {vs : List Value} {nn : Nat} {k : Int} {v : Value} {W : VP} (hl : (l, listOf vs.toArray nn) ∈ g.n) (h0 : 0 ≤ k) (hk : k < 2 ^ 63) (hx : vs[k.toNat]? = some v) (hW : W v) (hs : ∀ u, Subs slice (.ref l) (.int k u)) : It g value slice (isR l) (isI k) W := by
  rintro o i rfl ⟨u, rfl⟩ Q E s S q
  have hL : s.heap.IsList l vs.toArray := ⟨_, S.get hl, rfl, nn, rfl⟩
  exact tail_any hL.typeIs slot_list_getitem.lookup (wpAny_getItem_list hL h0 hk (by rw [List.getElem?_toArray]; exact hx) (q _ _ hW S)) (hs u)
theorem It.tup {value slice : Expr} {l : Addr} {vs : List Value} {k : Int} {v : Value} {W : VP} (hl : (l, tupOf vs) ∈ g.n) (h0 : 0 ≤ k) (hk : k < 2 ^ 63) (hx : vs[k.toNat]? = some v) (hW : W v) (hs : ∀ u, Subs slice (.ref l) (.int k u)) : It g value slice (isR l) (isI k) W := by
  rintro o i rfl ⟨u, rfl⟩ Q E s S q
  have hL : IsTup s.heap l vs.toArray := ⟨_, S.get hl, rfl, 0, rfl⟩
  have hn : k < ((vs.toArray.size : Nat) : Int) := by
    rw [List.size_toArray]
    exact (Int.toNat_lt h0).mp (List.getElem?_eq_some_iff.mp hx).1
  exact tail_any hL.typeIs F.slot_tuple_getitem.lookup (getItem_tuple hL (Int.le_trans (by decide) h0) hk (seqIndex_of h0 hn) (by rw [List.getElem?_toArray]; exact hx) (q _ _ hW S)) (hs u)
/-- l[-1] -/
theorem It.last {value slice : Expr} {l : Addr} {vs : List Value} {nn : Nat} {v : Value} {W : VP} (hl : (l, listOf (vs ++ [v]).toArray nn) ∈ g.n) (hW : W v) (hs : ∀ u, Subs slice (.ref l) (.int (-1) u)) : It g value slice (isR l) (isI (-1)) W := by
  rintro o i rfl ⟨u, rfl⟩ Q E s S q
  have hL : s.heap.IsList l (vs ++ [v]).toArray := ⟨_, S.get hl, rfl, nn, rfl⟩
  have e : ((-1 : Int) + (((vs ++ [v]).toArray.size : Nat) : Int)) = (vs.length : Int) := by
    rw [List.size_toArray, List.length_append, Int.natCast_add, Int.add_left_comm]
    exact Int.add_zero _
  refine tail_any hL.typeIs slot_list_getitem.lookup (wpAny_getItem_list_neg hL (by decide) (by rw [List.size_toArray, List.length_append]; exact Int.neg_le_neg (Int.ofNat_le.mpr (Nat.le_add_left 1 _))) (by decide) ?_ (q _ _ hW S)) (hs u)
  rw [e, Int.toNat_natCast, List.getElem?_toArray, List.getElem?_append_right (Nat.le_refl _), Nat.sub_self]
  rfl
theorem Ev.neg1 {k : Nat} {p1 p2 : Pos} : Ev g (.UnaryOp .USub (.Constant (.int 1) k p1) p2) (isI (-1)) := fun Q E s p S q =>
  wpAny_UnaryOp (Ev.int _ _ _ p S fun v s1 a => by
    obtain ⟨⟨t, rfl⟩, S1⟩ := a
    walk1
    exact q _ _ ⟨⟨_, rfl⟩, S1.tok⟩)
/-- (.., ..)[k] -/
theorem Ev.subTup {es : List Expr} {kk : Nat} {slice : Expr} {p1 pos : Pos} {Vs : List VP} {k : Int} {W : VP} (h : Evs g es (Pure g Vs)) (hl : Vs.length ≤ sizeLine) (h2 : ∀ d o, Ev { g with n := (d, o) :: g.n } slice (isI k)) (h0 : 0 ≤ k) (hk : k < 2 ^ 63) (hW : Vs[k.toNat]? = some W)
    (hs : ∀ l u, Subs slice (.ref l) (.int k u)) : Ev g (.Subscript (.Tuple es kk p1) slice pos) W := fun Q E s p S q =>
  Subscript_ (EvG.tup h hl _ _ _ p S fun o s1 a => by
    cases a with | mk d vs hv ha lt S1 =>
    subst hv
    obtain ⟨v, hx, hWv⟩ := ha.at hW
    exact h2 d (tupOf vs) _ _ _ p S1 fun i s2 b => It.tup (g := { g with n := (d, tupOf vs) :: g.n }) (.head _) h0 hk hx hWv (hs d) _ _ rfl b.1 Q E s2 b.2 fun r s' hr S' => q _ _ ⟨hr, S'.less (fun p hp => .tail _ hp) S.y⟩)
theorem ints_of : ∀ {ns : List Int} {vs : List Value}, All2 (ns.map isI) vs → IntsAre vs ns
  | [], _, e => by cases e; exact .nil
  | _ :: _, _, ⟨_, _, e, ⟨_, h⟩, k⟩ => by subst e; subst h; exact .cons _ _ (ints_of k)
theorem Cm.inTup {ns : List Int} {l : Addr} {vs : List Value} {a : Int} (hl : (l, tupOf vs) ∈ g.n) (hi : IntsAre vs ns) : Cm g .In (isI a) (isR l) (ns.any (· == a)) := by
  rintro v u ⟨t, rfl⟩ rfl Q E s S q
  exact in_tuple_ints ⟨_, S.get hl, rfl, 0, rfl⟩ (by simpa using hi) (q _ (Nat.le_refl _))
/-- len(text) -/
theorem Ev.len {x0 : Str} {p pos : Pos} {e0 : Expr} {x : Str} (hf : Ev g (.Name x0 p) (fun u => u = .builtin "len")) (ha : Evs g [e0] (Pure g [isS x])) (hp : Pl g [e0]) (hl : x.length < 2 ^ 62) : Ev g (.Call (.Name x0 p) [e0] [] pos) (isI (x.length : Int)) :=
  EvG.callB hf ha hp fun vs s a Q E q => by
    obtain ⟨⟨_, _, rfl, ⟨t, rfl⟩, rfl⟩, S⟩ := a
    exact len_str (by omega) (q _ _ ⟨⟨_, rfl⟩, S.toks (Nat.le_add_right _ 2)⟩)
theorem Ev.lenL {x0 : Str} {p pos : Pos} {e0 : Expr} {l : Addr} {vs : List Value} {ns : List Int} {nn : Nat} (hf : Ev g (.Name x0 p) (fun u => u = .builtin "len")) (ha : Evs g [e0] (Pure g [isR l])) (hp : Pl g [e0]) (hl : (l, listOf vs.toArray nn) ∈ g.n) (hi : IntsAre vs ns) (hlen : ns.length < 2 ^ 62) : Ev g (.Call (.Name x0 p) [e0] [] pos) (isI (ns.length : Int)) :=
  EvG.callB hf ha hp fun vs' s a Q E q => by
    obtain ⟨⟨_, _, rfl, rfl, rfl⟩, S⟩ := a
    exact kt_len_nums (h₀ := s.heap) ⟨vs, ⟨_, S.get hl, rfl, nn, rfl⟩, hi⟩ (fun _ _ e => e) (by omega) (q _ _ ⟨⟨_, rfl⟩, S.toks (Nat.le_add_right _ 2)⟩)
/-- a list of ints that is made here -/
inductive Ints (g : G) (ns : List Int) (v : Value) (s : Shared) : Prop
  | mk (n : Led) (t : Nat) (D : Addr) (vs : List Value) (nn : Nat) (hv : v = .ref D) (S : St ⟨g.c, g.cs, g.k, t, g.m, n, g.y⟩ s) (hD : (D, listOf vs.toArray nn) ∈ n) (sub : ∀ p ∈ g.n, p ∈ n) (ht : g.t ≤ t) (ha : All2 (ns.map isI) vs) : Ints g ns v s
theorem St.low {c : Cx} {cs : Scope} {k t t' : Nat} {m : List (Str × VP)} {n : Led} {y : List Lay} {s : Shared} (S : St ⟨c, cs, k, t', m, n, y⟩ s) (h1 : t ≤ t') (h0 : c.t ≤ t) : St ⟨c, cs, k, t, m, n, y⟩ s := ⟨S.P, S.F, S.D, Nat.le_trans h1 S.t, h0, S.y⟩
/-- sum(..) over a list that has been made for it -/
theorem Ev.sum {x0 : Str} {p pos : Pos} {e0 : Expr} {ns : List Int} (hf : Ev g (.Name x0 p) (fun u => u = .builtin "sum")) (he : EvG g e0 (Ints g ns)) (hst : starEach [e0] g.env = [(false, eval e0 g.env)]) (hp : Pl g [e0]) : Ev g (.Call (.Name x0 p) [e0] [] pos) (isI ns.sum) := fun Q E s po S q =>
  EvG.callB hf (Evs.one he hst) hp (R' := fun v s' => isI ns.sum v ∧ St g s') (fun vs s2 a Q E q => by
    obtain ⟨_, rfl, a⟩ := a
    cases a with | mk n t D vs nn hv S2 hD sub ht ha =>
    subst hv
    cases id S2.F with | mk mf cm cells F N hc hi r =>
    exact wpAny_with_toks (n := s2.toks) (Nat.le_refl _) (PyProof.Rows.LSm.sum_ints (E := fun e s' => s2.toks ≤ s'.toks → E e s') F N rfl ⟨_, S2.get hD, rfl, nn, rfl⟩ (ints_of ha) fun h' tk t' F' N' le => q _ _ ⟨⟨_, rfl⟩,
      ((S2.at (g := ⟨g.c, g.cs, g.k, t, g.m, n, g.y⟩) ⟨mf, cm, cells, F', N', hc, hi, r⟩ le).low ht S.t0).less (n := g.n) sub S.y⟩)) Q E s po S q
/-- l[a:b:k] -/
theorem EvG.sliceL {value lo up st : Expr} {p pos : Pos} {S0 : Addr} {svs : List Value} {a b k : Int} (h1 : Ev g value (isR S0)) (hS : g.c.h₀.IsList S0 svs.toArray) (h2 : Ev g lo (isI a)) (h3 : Ev g up (isI b)) (h4 : Ev g st (isI k)) (hk : k ≠ 0) (hsz : svs.length ≤ sizeLine) (ht : ∀ o r, letTemporaryGo value o r = pure ()) :
    EvG g (.Subscript value (.Slice (some lo) (some up) (some st) p) pos) (fun v s' => ∃ l, v = .ref l ∧ St { g with n := (l, listOf (slicePick svs.toArray (some a) (some b) (some k)).toList.toArray 0) :: g.n } s') := fun Q E s po S q => by
  refine wpAny_Subscript_Slice_step (T := "list") list_getitem_lookup (h1 _ _ _ po S fun o s1 a1 => wpAny_Slice (h2 _ _ _ po a1.2 fun vl s2 a2 => h3 _ _ _ po a2.2 fun vu s3 a3 => h4 _ _ _ po a3.2 fun vk s4 a4 => ?_)) ht
  obtain ⟨rfl, S1⟩ := a1
  obtain ⟨⟨u1, rfl⟩, S2⟩ := a2
  obtain ⟨⟨u2, rfl⟩, S3⟩ := a3
  obtain ⟨⟨u3, rfl⟩, S4⟩ := a4
  have hl : s4.heap.IsList S0 svs.toArray := by
    cases S4.F with | mk mf cm cells F =>
    obtain ⟨o, ho, r⟩ := hS
    exact ⟨o, F.keep _ _ ho, r⟩
  have S5 := S4.pushed { cls := .type "slice", data := .fields #[.int a u1, .int b u2, .int k u3] }
  refine ⟨Heap.IsList.typeIs (s := { s4 with heap := s4.heap.push { cls := .type "slice", data := .fields #[.int a u1, .int b u2, .int k u3] } }) (hl.push _), wpAny_getItem_list_slice (hl.push _) (Heap.IsSliceOf.new ..) (.int a u1) (.int b u2) (.int k u3) (fun e => hk (Option.some.inj e)) (q _ _ ⟨_, rfl, ?_⟩) (by rw [List.size_toArray]; exact hsz)⟩
  rw [Array.toArray_toList]
  exact S5.push _ rfl
/-- l.append(e) -/
theorem Ex.append {c : Cx} {cs : Scope} {k0 t0 : Nat} {m : List (Str × VP)} {n : Led} {oe e : Expr} {ap cp pos : Pos} {rest : List Stmt} {r : List (List Stmt)} {R : Value → Shared → Prop} {P : Flow → Shared → Prop} {l : Addr} {vs : List Value} {nn : Nat}
    (ho : Ev ⟨c, cs, k0, t0, m, n, []⟩ oe (isR l)) (hl : (l, listOf vs.toArray nn) ∈ n) (he : EvG ⟨c, cs, k0, t0, m, n, []⟩ e R) (hsz : vs.length ≤ sizeLine)
    (k : ∀ v s, R v s → ∃ t n1 n2, St ⟨c, cs, k0, t, m, n1, []⟩ s ∧ (l, listOf vs.toArray nn) ∈ n1 ∧ (∀ p ∈ n2, p ∈ n1) ∧ (∀ p ∈ n2, p.1 ≠ l) ∧ ∀ nn', Ex ⟨c, cs, k0, t, m, (l, listOf (vs ++ [v]).toArray nn') :: n2, []⟩ (rest :: r) P)
    (hb : ∃ pl, eval (.Call (.Attribute oe "append" ap) [e] [] cp) (c.env cs) = (do
      let ov ← eval oe (c.env cs)
      standAt ap.atName
      let (f, first) ← holding [ov] (getMethod ov "append" pl)
      callWith cp f first (backTo cp (starEach [e] (c.env cs))) []))
    (ht : starEach [e] (c.env cs) = [(false, eval e (c.env cs))]) (hi : interactive (c.env cs) = false) (hs : swapsWith (.Call (.Attribute oe "append" ap) [e] [] cp) none pos.line (c.env cs) = pure false) :
    Ex ⟨c, cs, k0, t0, m, n, []⟩ ((.Expr (.Call (.Attribute oe "append" ap) [e] [] cp) pos :: rest) :: r) P := fun Q E s p S q => seq_cons (by
  obtain ⟨pl, hb⟩ := hb
  refine wpAny_Expr_any (MethodCall_ (pl := pl) (ho _ _ _ p S fun o s1 a => ?_) hb) hi hs
  cases a.1
  refine Calls.getMethod_list_append (a.2.get hl) rfl rfl ?_
  show wpAny _ _ (callWith cp (.builtin "list.append") [.ref l] (backTo cp (starEach [e] (c.env cs))) []) _ _ _
  rw [ht]
  refine Calls.callWith_builtin rfl (evalArgs_plain (spliced_cons (he _ _ _ p a.2 fun v s2 b => spliced_nil ?_)))
  obtain ⟨t, n1, n2, S2, h1, h2, h3, hk⟩ := k v s2 b
  refine wpAny_list_append_plain (hsz := by rw [List.size_toArray]; exact hsz) ⟨nn, S2.get h1⟩ fun h' hp hs => ?_
  obtain ⟨nn', hD⟩ := hp
  exact hk nn' Q E _ p (S2.swap (tk := s2.toks) (o' := listOf (vs ++ [v]).toArray nn') h1 h2 h3 trivial (fun b o hb e => hs.extBut b o hb e) (by rw [hD, List.push_toArray]) (Nat.le_refl _)) q)
/-- sep.join(l) -/
theorem Ev.join {sep : Str} {kk : Nat} {e : Expr} {p1 ap cp : Pos} {l : Addr} {vs : List Value} {nn : Nat} {ys : List Str} (he : Ev g e (isR l)) (hl : (l, listOf vs.toArray nn) ∈ g.n) (hi : StrsAre vs ys) (hsep : sep.length ≤ 16) (hw : (ys.map (·.length)).sum + ys.length ≤ 1048576)
    (hb : ∃ pl, eval (.Call (.Attribute (.Constant (.str sep) kk p1) "join" ap) [e] [] cp) g.env = (do
      let ov ← eval (.Constant (.str sep) kk p1) g.env
      standAt ap.atName
      let (f, first) ← holding [ov] (getMethod ov "join" pl)
      callWith cp f first (backTo cp (starEach [e] g.env)) []))
    (ht : starEach [e] g.env = [(false, eval e g.env)]) : Ev g (.Call (.Attribute (.Constant (.str sep) kk p1) "join" ap) [e] [] cp) (isS (Txt.join sep ys)) := fun Q E s p S q => by
  obtain ⟨pl, hb⟩ := hb
  refine MethodCall_ (pl := pl) (Ev.str _ _ _ p S fun o s1 a => ?_) hb
  obtain ⟨⟨t, rfl⟩, S1⟩ := a
  walk1
  show wpAny _ _ (callWith cp (.builtin "str.join") [.str sep t] (backTo cp (starEach [e] g.env)) []) _ _ _
  rw [ht]
  refine Calls.callWith_builtin rfl (evalArgs_plain (spliced_cons (he _ _ _ p S1 fun v s2 b => spliced_nil ?_)))
  cases b.1
  exact wpAny_with_toks (n := s2.toks) (Nat.le_refl _) (join_listW (E := fun e s' => s2.toks ≤ s'.toks → E e s') ⟨_, b.2.get hl, rfl, nn, rfl⟩ (by simpa using hi) hsep hw fun t' k le => q _ _ ⟨⟨_, rfl⟩, b.2.toks le⟩)
/-- a while loop, by a measure -/
theorem Ex.while {c : Cx} {cs : Scope} {k0 t0 : Nat} {m : List (Str × VP)} {n : Led} {test : Expr} {body rest : List Stmt} {pos : Pos} {r : List (List Stmt)} {P : Flow → Shared → Prop} (J : Nat → List (Str × VP) → Led → Nat → Prop) {z : Nat} (h0 : J z m n t0)
    (turn : ∀ z m n t, J z m n t → ∃ b, Tr ⟨c, cs, k0, t, m, n, []⟩ test b ∧ (b = true → Ex ⟨c, cs, k0, t, m, n, []⟩ [body] fun f s => f = .next ∧ ∃ z', z' < z ∧ Left c cs k0 (J z') s) ∧ (b = false → Ex ⟨c, cs, k0, t, m, n, []⟩ (rest :: r) P)) :
    Ex ⟨c, cs, k0, t0, m, n, []⟩ ((.While test body [] pos :: rest) :: r) P := fun Q E s p S q => seq_cons (wpAny_While (codeAny_whileLoop (fun z s' => Left c cs k0 (J z) s') (by
  intro z s' h
  cases h with | mk m n t S j =>
  obtain ⟨b, hb, ht, hf⟩ := turn z m n t j
  refine wpAny_passesOwn (p rfl) (hb _ E _ p S fun s2 S2 => ?_)
  cases b with
  | true => exact wpAny_passesOwn (p rfl) (wpAny_mono (ht rfl (fun f s => f = .next ∧ ∃ z', z' < z ∧ Left c cs k0 (J z') s) E _ p S2 fun _ _ x => x) (fun f s3 x => by
      cases f with
      | next => exact x.2
      | _ => exact nomatch x.1) fun _ _ e => e)
  | false => exact wpAny_execs_nil (hf rfl _ E _ p S2 q)) z ⟨m, n, t0, S, h0⟩))
/-- if t: x = e -/
theorem Ex.ifAsg {c : Cx} {cs : Scope} {k0 t0 : Nat} {m : List (Str × VP)} {n : Led} {t e : Expr} {x : Str} {p0 p1 pos : Pos} {rest : List Stmt} {r : List (List Stmt)} {b : Bool} {V : VP} {P : Flow → Shared → Prop} (ht : Tr ⟨c, cs, k0, t0, m, n, []⟩ t b)
    (h1 : b = true → Ev ⟨c, cs, k0, t0, m, n, []⟩ e V) (h0 : b = false → m.lookup x = some V) (hx : Sto cs c.cl x) (hs : swapsWith e (some (.Name x p0)) p1.line (c.env cs) = pure false)
    (k : Ex ⟨c, cs, k0, t0, (x, V) :: m, n, []⟩ (rest :: r) P) : Ex ⟨c, cs, k0, t0, m, n, []⟩ ((.If t [.Assign [.Name x p0] e p1] [] pos :: rest) :: r) P :=
  Ex.iff ht (by
    cases b with
    | true => exact Ex.asg (h1 rfl) hx hs (Ex.pop k)
    | false => exact Ex.pop fun Q E s p S q => k Q E s p (S.sub fun y U e => by
        rcases lookup_put e with ⟨rfl, rfl⟩ | ⟨_, e⟩
        · exact h0 rfl
        · exact e) q)
theorem sub_nil {m : List (Str × VP)} : ∀ x V, ([] : List (Str × VP)).lookup x = some V → m.lookup x = some V := fun _ _ e => nomatch e
theorem sub_cons {m r : List (Str × VP)} {y : Str} {U : VP} (h1 : m.lookup y = some U) (h : ∀ x V, r.lookup x = some V → m.lookup x = some V) : ∀ x V, ((y, U) :: r).lookup x = some V → m.lookup x = some V := fun x V e => by
  rcases lookup_put e with ⟨rfl, rfl⟩ | ⟨_, e⟩
  · exact h1
  · exact h x V e
theorem rds_nil {cl : List (Str × Addr)} {cs : Scope} {mf cm : Str → Option Value} : Rds cl cs mf cm [] := fun _ _ e => nomatch e
theorem rds_cons {cl : List (Str × Addr)} {cs : Scope} {mf cm : Str → Option Value} {y : Str} {U : VP} {u : Value} {m : List (Str × VP)} (h1 : Rd cl cs mf cm y u) (h3 : U u) (h : Rds cl cs mf cm m) : Rds cl cs mf cm ((y, U) :: m) := fun x V e => by
  rcases lookup_put e with ⟨rfl, rfl⟩ | ⟨_, e⟩
  · exact ⟨u, h1, h3⟩
  · exact h x V e
/-- the names of a target, filled one by one -/
noncomputable def putAll : List (Str × Pos) → List VP → List (Str × VP) → List (Str × VP)
  | q :: xs, V :: Vs, m => putAll xs Vs ((q.1, V) :: m)
  | _, _, m => m
theorem assign_names {c : Cx} {cs : Scope} {k0 t0 : Nat} {n : Led} {Q : Unit → Shared → Prop} {E : Value → Shared → Prop} {xs : List (Str × Pos)} : ∀ {Vs : List VP} {vs : List Value} {m : List (Str × VP)} {s : Shared}, (∀ q ∈ xs, Sto cs c.cl q.1) → All2 Vs vs → xs.length = Vs.length → St ⟨c, cs, k0, t0, m, n, []⟩ s →
    (∀ s', St ⟨c, cs, k0, t0, putAll xs Vs m, n, []⟩ s' → Q () s') → wpAny (model c.prog c.w) (c.A cs) (assignInOrder ((assignEach (xs.map fun q => Expr.Name q.1 q.2) (c.env cs)).map (·.2)) vs) Q E s := by
  induction xs with
  | nil =>
    intro Vs vs m s _ _ hl S q
    cases Vs with
    | nil =>
      show wpAny _ _ (pure ()) _ _ _
      exact wpAny_pure (q s S)
    | cons => cases hl
  | cons x xs ih =>
    intro Vs vs m s hx ha hl S q
    cases Vs with
    | nil => cases hl
    | cons V Vs =>
      obtain ⟨v, vs, rfl, hv, ha⟩ := ha
      show wpAny _ _ (do holding vs (assign (.Name x.1 x.2) (c.env cs) v); assignInOrder _ vs) _ _ _
      refine wpAny_bind (wpAny_holding (wpAny_assign_Name (store_ok (g := ⟨c, cs, k0, t0, m, n, []⟩) (hx x (.head _)) S hv rfl fun s2 S2 => ?_)))
      exact ih (m := (x.1, V) :: m) (fun q hq => hx q (.tail _ hq)) ha (Nat.succ.inj hl) S2 q
/-- a tuple's items into names -/
theorem assign_tup {c : Cx} {cs : Scope} {k0 t0 : Nat} {m : List (Str × VP)} {n : Led} {xs : List (Str × Pos)} {x1 : Nat} {pt : Pos} {T : Addr} {vs : List Value} {Vs : List VP} {s : Shared} {Q : Unit → Shared → Prop} {E : Value → Shared → Prop} (hx : ∀ q ∈ xs, Sto cs c.cl q.1) (S : St ⟨c, cs, k0, t0, m, n, []⟩ s) (hT : s.heap.get? T = some (tupOf vs)) (ha : All2 Vs vs) (hl : xs.length = Vs.length)
    (hn : (assignEach (xs.map fun q => Expr.Name q.1 q.2) (c.env cs)).length = xs.length ∧ (assignEach (xs.map fun q => Expr.Name q.1 q.2) (c.env cs)).findIdx? (·.1) = none) (q : ∀ s', St ⟨c, cs, k0, t0, putAll xs Vs m, n, []⟩ s' → Q () s') :
    wpAny (model c.prog c.w) (c.A cs) (assign (.Tuple (xs.map fun q => Expr.Name q.1 q.2) x1 pt) (c.env cs) (.ref T)) Q E s :=
  wpAny_assign_Tuple (x1 := x1) (items := vs.toArray) rfl ⟨_, hT, rfl, 0, rfl⟩ (hn.1.trans (by rw [List.size_toArray, ha.length, hl])) hn.2 fun h' kk =>
    assign_names hx ha hl (S.off (h' := h') (tk := s.toks) (S.fresh (Nat.le_refl _)) (fun z o hz e => kk z o hz e) (Nat.le_refl _)) q
/-- a, b, .. = e -/
theorem Ex.asgTup {c : Cx} {cs : Scope} {k0 t0 : Nat} {m : List (Str × VP)} {n : Led} (xs : List (Str × Pos)) {x1 : Nat} {pt pos : Pos} {e : Expr} {rest : List Stmt} {r : List (List Stmt)} {R : Value → Shared → Prop} {P : Flow → Shared → Prop} (h : EvG ⟨c, cs, k0, t0, m, n, []⟩ e R)
    (hx : ∀ q ∈ xs, Sto cs c.cl q.1) (hw : swappedStores [.Tuple (xs.map fun q => Expr.Name q.1 q.2) x1 pt] e (c.env cs) = pure none) (hn : (assignEach (xs.map fun q => Expr.Name q.1 q.2) (c.env cs)).length = xs.length ∧ (assignEach (xs.map fun q => Expr.Name q.1 q.2) (c.env cs)).findIdx? (·.1) = none)
    (k : ∀ v s, R v s → ∃ T vs n' t' Vs, v = .ref T ∧ St ⟨c, cs, k0, t', m, n', []⟩ s ∧ (T, tupOf vs) ∈ n' ∧ All2 Vs vs ∧ xs.length = Vs.length ∧ Ex ⟨c, cs, k0, t', putAll xs Vs m, n', []⟩ (rest :: r) P)
    (hs : swapsWithSole [.Tuple (xs.map fun q => Expr.Name q.1 q.2) x1 pt] e pos.line (c.env cs) = pure false) : Ex ⟨c, cs, k0, t0, m, n, []⟩ ((.Assign [.Tuple (xs.map fun q => Expr.Name q.1 q.2) x1 pt] e pos :: rest) :: r) P := fun Q E s p S q =>
  seq_cons (wpAny_Assign_stores (h _ _ _ p S fun v s1 hr => by
    obtain ⟨T, vs, n', t', Vs, rfl, S1, hT, ha, hl, hk⟩ := k v s1 hr
    exact assign_tup (x1 := x1) hx S1 (S1.get hT) ha hl hn fun s3 S3 => hk _ _ _ p S3 q) hs hw)
end
end Mine
end
section
open PySem PySem.W PySem.Calls PyProof.Rows
set_option maxRecDepth 100000
set_option maxHeartbeats 2000000
set_option linter.unusedVariables false
set_option genInjectivity false
set_option genSizeOf false
namespace Mine
noncomputable section
/-- how an iterator hands out its next -/
structure Nx (prog : Program) (w : World) (hit : Nat) (lo : Nat) (it : Addr) (Z : Nat → Heap → Prop) (V : Nat → VP) (l : Led) : Prop where
  item : ∀ (A : Around) i s (Q E : Value → Shared → Prop), i ≤ hit → Z i s.heap → lo ≤ s.toks → (∀ v h' tk, V i v → Z (i + 1) h' → Heap.SameBut it s.heap h' → s.toks ≤ tk → Q v { s with heap := h', toks := tk }) → wpAny (model prog w) A (Builtin.SmallTypes.nextOf (.ref it)) Q E s
  frame : ∀ i h h', Z i h → (∀ o, h.get? it = some o → h'.get? it = some o) → (∀ p ∈ l, h'.get? p.1 = some p.2) → Z i h'
  live : ∀ i h, Z i h → ∃ o, h.get? it = some o
section
variable {prog : Program} {w : World} {A : Around} {E : Value → Shared → Prop} {s : Shared}
/-- the next pair of an enumerate -/
theorem enum_next {e it : Addr} {hit lo i : Nat} {Z : Nat → Heap → Prop} {V : Nat → VP} {l : Led} {old : Value} {Q : Option Value → Shared → Prop} (nx : Nx prog w hit lo it Z V l) (he : IsEnum s.heap e it i old) (hz : Z i s.heap) (hi : i ≤ hit) (hlo : lo ≤ s.toks) (hne : e ≠ it) (hl : ∀ p ∈ l, s.heap.get? p.1 = some p.2 ∧ p.1 ≠ e ∧ p.1 ≠ it)
    (hQ : ∀ h' v tk, IsEnumOut h' e it ((i : Int) + 1) v s.heap.objs.size → Z (i + 1) h' → V i v → h'.get? s.heap.objs.size = some (tupOf [.int i tk, v]) → s.toks ≤ tk →
      (∀ b o, b ≠ e → b ≠ it → s.heap.get? b = some o → h'.get? b = some o) → Q (some (.ref s.heap.objs.size)) { s with heap := h', toks := tk + 1 }) :
    wpAny (model prog w) A (pyNext (.ref e)) Q E s := by
  have hT : s.TypeIs (.ref e) "enumerate" := ⟨_, he, rfl⟩
  have hlt : e < s.heap.objs.size := Heap.lt_size he
  unfold pyNext
  refine wpAny_bind (wpAny_attempt (wpAny_callSpecial?_slot (name := Str.ofString "__next__") hT F.slot_enumerate_next (wpAny_call_entry F.slot_enumerate_next hT F.entry_enumerate_next ?_ (F.args_enumerate_next_1 _))))
  show wpAny _ _ (field (.ref e) 2 >>= _) _ _ _
  refine wpAny_bind (wpAny_field he rfl (x := .ref it) rfl (wpAny_bind (nx.item _ i _ _ _ hi hz hlo fun v a1 tk hv z1 k1 htk => ?_)))
  have e1 : IsEnum a1 e it i old := (k1.2 e hne).trans he
  refine wpAny_bind (wpAny_field e1 rfl (x := rawInt i) rfl ?_)
  show wpAny _ _ (field (.ref e) 4 >>= _) _ _ _
  refine wpAny_bind (wpAny_field e1 rfl (x := .none) rfl ?_)
  show wpAny _ _ (mkInt i >>= _) _ _ _
  refine wpAny_bind (wpAny_mkInt ?_)
  show wpAny _ _ (setField (.ref e) 3 (rawInt ((i : Int) + 1)) >>= _) _ _ _
  refine wpAny_bind (wpAny_setField_rec e1 (by simp) fun a2 e2 k2 => ?_)
  replace e2 : IsEnum a2 e it ((i : Int) + 1) old := e2
  refine wpAny_bind (wpAny_setField_rec e2 (by simp) fun a3 e3 k3 => ?_)
  replace e3 : IsEnum a3 e it ((i : Int) + 1) old := e3
  refine wpAny_bind (wpAny_newTuple ?_)
  have z : a3.objs.size = s.heap.objs.size := by rw [k3.1, k2.1, k1.1]
  dsimp only
  rw [z]
  have e4 : IsEnum (a3.push (tupOf [.int i tk, v])) e it ((i : Int) + 1) old := Heap.get?_push_of_some _ e3
  have t4 : (a3.push (tupOf [.int i tk, v])).get? s.heap.objs.size = some (tupOf [.int i tk, v]) := by rw [← z]; exact Heap.get?_push_size _ rfl
  have u4 : ∀ b o, b ≠ e → a1.get? b = some o → (a3.push (tupOf [.int i tk, v])).get? b = some o := fun b o h1 g => Heap.get?_push_of_some _ (k3.extBut b o h1 (k2.extBut b o h1 g))
  generalize a3.push (tupOf [.int i tk, v]) = a4 at e4 t4 u4
  refine wpAny_bind ?_
  unfold Builtin.SmallTypes.ownedTupleIsFree
  refine wpAny_bind (wpAny_field e4 rfl (x := .none) rfl (wpAny_pure ?_))
  rw [if_pos rfl]
  refine wpAny_bind (wpAny_rule (wpAny_bind (wpAny_field e4 rfl (x := old) rfl (wpAny_bind (wpAny_setField_rec e4 (by simp) fun a5 e5 k5 => ?_)))))
  replace e5 : IsEnum a5 e it ((i : Int) + 1) v := e5
  refine wpAny_bind ?_
  unfold Builtin.SmallTypes.ownedTupleHandOut
  refine wpAny_bind (wpAny_setField_rec e5 (by simp) fun a6 e6 k6 => ?_)
  replace e6 : IsEnumOut a6 e it ((i : Int) + 1) v s.heap.objs.size := e6
  refine wpAny_setField_rec e6 (by simp) fun a7 e7 k7 => ?_
  refine wpAny_bind (wpAny_letGo (wpAny_pure ⟨_, rfl, wpAny_pure ?_⟩))
  have up : ∀ b o, b ≠ e → a4.get? b = some o → a7.get? b = some o := fun b o h1 g => k7.extBut b o h1 (k6.extBut b o h1 (k5.extBut b o h1 g))
  exact hQ a7 v tk e7 (nx.frame _ _ _ z1 (fun o g => up _ _ (Ne.symm hne) (u4 _ _ (Ne.symm hne) g)) fun p hp => up _ _ (hl p hp).2.1 (u4 _ _ (hl p hp).2.1 (k1.extBut _ _ (hl p hp).2.2 (hl p hp).1))) hv (up _ _ (Nat.ne_of_gt hlt) t4) htk
    fun b o h1 h2 g => up b o h1 (u4 b o h1 (k1.extBut b o h2 g))
end
variable {g : G}
/-- an enumerate, made -/
inductive Enumd (g : G) (hit : Nat) (V : Nat → VP) (l : Led) (v : Value) (s : Shared) : Prop
  | mk (e it : Addr) (Z : Nat → Heap → Prop) (hv : v = .ref e) (en : IsEnum s.heap e it 0 .none) (nx : Nx g.c.prog g.c.w hit g.t it Z V l) (z : Z 0 s.heap) (S : St g s) (aE : Apart g.c g.n e) (aI : Apart g.c g.n it) (ne : e ≠ it) : Enumd g hit V l v s
theorem EvG.enumL {x0 : Str} {p pos : Pos} {e0 : Expr} {l : Addr} {vs : List Value} {nn hit : Nat} (hf : Ev g (.Name x0 p) (fun u => u = .type "enumerate")) (ha : Evs g [e0] (Pure g [isR l])) (hp : Pl g [e0]) (hl : (l, listOf vs.toArray nn) ∈ g.n) (hh : hit < vs.length) :
    EvG g (.Call (.Name x0 p) [e0] [] pos) (Enumd g hit (fun i v => vs[i]? = some v) [(l, listOf vs.toArray nn)]) := EvG.callT hf ha hp fun vs' s a Q E q => by
  obtain ⟨⟨_, _, rfl, rfl, rfl⟩, S⟩ := a
  have hol := S.get hl
  refine call_enumerate_list ⟨_, hol, rfl, nn, rfl⟩ fun h' he hi hz hk => q _ _ ⟨_, _, fun i h => h.IsListIter s.heap.objs.size l i ∧ h.get? l = some (listOf vs.toArray nn), rfl, he, ⟨fun A i s' Q E hle z _ q => ?_, fun i h h' z hk hl => ⟨let ⟨o, h1, r⟩ := z.1; ⟨o, hk o h1, r⟩, hl _ (.head _)⟩, fun i h z => let ⟨o, h1, _⟩ := z.1; ⟨o, h1⟩⟩, ⟨hi, hk _ _ hol⟩, S.grow hk (Nat.le_refl _), S.fresh (Nat.le_succ _), S.fresh (Nat.le_refl _), Nat.succ_ne_self _⟩
  have hlt := Nat.lt_of_le_of_lt hle hh
  exact wpAny_nextOf_list_item z.1 ⟨_, z.2, rfl, nn, rfl⟩ (by rw [List.getElem?_toArray, List.getElem?_eq_getElem hlt]) fun h' z' k => q _ _ s'.toks (List.getElem?_eq_getElem hlt) ⟨z', (k.2 _ (Nat.ne_of_lt (Heap.lt_size hol))).trans z.2⟩ k (Nat.le_refl _)
theorem EvG.enumS {x0 : Str} {p pos : Pos} {e0 : Expr} {x : Str} {hit : Nat} (hf : Ev g (.Name x0 p) (fun u => u = .type "enumerate")) (ha : Evs g [e0] (Pure g [isS x])) (hp : Pl g [e0]) (hasc : x.cps.all (· < 128) = true) (hh : hit < x.cps.size) :
    EvG g (.Call (.Name x0 p) [e0] [] pos) (Enumd g hit (fun i v => ∃ c u, x.cps[i]? = some c ∧ v = .str ⟨#[c]⟩ u ∧ g.t ≤ u) []) := EvG.callT hf ha hp fun vs' s a Q E q => by
  obtain ⟨⟨_, _, rfl, ⟨t, rfl⟩, rfl⟩, S⟩ := a
  refine call_enumerate_str fun h' he hi hz hk => q _ _ ⟨_, _, fun i h => h.IsStrIter s.heap.objs.size "str_ascii_iterator" x t i, rfl, he, ⟨fun A i s' Q E hle z hlo q => ?_, fun i h h' z hk _ => let ⟨o, h1, r⟩ := z; ⟨o, hk o h1, r⟩, fun i h z => let ⟨o, h1, _⟩ := z; ⟨o, h1⟩⟩, by simpa [strIterType, hasc] using hi, S.grow hk (Nat.le_refl _), S.fresh (Nat.le_succ _), S.fresh (Nat.le_refl _), Nat.succ_ne_self _⟩
  have hx : x.cps[i]? = some x.cps[i] := Array.getElem?_eq_getElem (Nat.lt_of_le_of_lt hle hh)
  exact wpAny_nextOf_ascii_item z hx fun h' z' k => q _ _ _ ⟨_, _, hx, rfl, hlo⟩ z' k (Nat.le_succ _)
/-- the state of a search -/
inductive Sea (c : Cx) (cs : Scope) (k0 t0 : Nat) (m : List (Str × VP)) (n : Led) (e it : Addr) (Z : Nat → Heap → Prop) (i : Nat) (s : Shared) : Prop
  | mk (old : Value) (S : St ⟨c, cs, k0, t0, m, n, []⟩ s) (en : IsEnum s.heap e it i old) (z : Z i s.heap) : Sea c cs k0 t0 m n e it Z i s
/-- for i, j in enumerate(x): if test: return e2 -/
theorem Ex.search {c : Cx} {cs : Scope} {k0 t0 : Nat} {m : List (Str × VP)} {n : Led} {xi xj : Str} {pi pj pt rp ip pos : Pos} {x1 : Nat} {e0 e2 test : Expr} {orelse rest : List Stmt} {r : List (List Stmt)} {P : Flow → Shared → Prop} {W : VP} {hit : Nat} {V : Nat → VP} {l : Led}
    (he : EvG ⟨c, cs, k0, t0, m, n, []⟩ e0 (Enumd ⟨c, cs, k0, t0, m, n, []⟩ hit V l)) (hl : ∀ p ∈ l, p ∈ n) (hi : Sto cs c.cl xi) (hj : Sto cs c.cl xj)
    (hm : ∀ y V, m.lookup y = some V → y ≠ xi ∧ y ≠ xj) (hfold : ∀ v, foldedSetIterable e0 (c.env cs) v = pure v)
    (hno : ∀ i v n', i < hit → V i v → Tr ⟨c, cs, k0, t0, (xj, fun u => u = v) :: (xi, isI (i : Int)) :: m, n', []⟩ test false)
    (hyes : ∀ v n', V hit v → Tr ⟨c, cs, k0, t0, (xj, fun u => u = v) :: (xi, isI (hit : Int)) :: m, n', []⟩ test true)
    (hret : ∀ v n', Ev ⟨c, cs, k0, t0, (xj, fun u => u = v) :: (xi, isI (hit : Int)) :: m, n', []⟩ e2 W)
    (k : ∀ v s, W v → St ⟨c, cs, k0, t0, m, n, []⟩ s → P (.ret v) s) (hn : (assignEach [Expr.Name xi pi, Expr.Name xj pj] (c.env cs)).length = 2 ∧ (assignEach [Expr.Name xi pi, Expr.Name xj pj] (c.env cs)).findIdx? (·.1) = none) :
    Ex ⟨c, cs, k0, t0, m, n, []⟩ ((.For (.Tuple [.Name xi pi, .Name xj pj] x1 pt) e0 [.If test [.Return (some e2) rp] [] ip] orelse pos :: rest) :: r) P := fun Q E s p S q =>
  seq_cons (wpAny_For (he _ _ _ p S fun v s2 a => by
    cases a with | mk e it Z hv en nx z S3 aE aI ne =>
    subst hv
    have hv := en
    refine wpAny_pyIter_enum en ?_
    refine codeAny_forLoop_any (fun z s' => ∃ i, i ≤ hit ∧ z = hit - i ∧ Sea c cs k0 t0 m n e it Z i s') ?_ hit ⟨0, Nat.zero_le _, rfl, _, S3, en, z⟩
    rintro _ s' ⟨i, hle, rfl, sea⟩
    cases sea with | mk old S4 e4 z4 =>
    refine wpAny_passesOwn (p rfl) (enum_next nx e4 z4 hle S4.t ne (fun p hp => ⟨S4.get (hl p hp), aE.n p (hl p hp), aI.n p (hl p hp)⟩) fun h5 v tk e5 z5 hV t5 htk k5 => ?_)
    have F5 := S4.F.off aE aI k5
    have S5 : St ⟨c, cs, k0, t0, m, n, []⟩ { s' with heap := h5, toks := tk + 1 } := S4.at F5 (Nat.le_succ_of_le htk)
    refine wpAny_passesOwn (p rfl) (wpAny_letOwnedTupleGo_enum e5 fun h6 e6 k6 => ?_)
    have S6 : St ⟨c, cs, k0, t0, m, n, []⟩ { s' with heap := h6, toks := tk + 1 } := S5.off aE (fun z o hz g => k6.extBut z o hz g) (Nat.le_refl _)
    obtain ⟨oI, hoI⟩ := nx.live _ _ z5
    have oI6 := k6.extBut _ _ (Ne.symm ne) hoI
    have S7 := (S6.more (p := (it, oI)) aI oI6).more (p := (e, _)) ⟨aE.l, aE.h, fun p hp => by
      cases hp with
      | head => exact Ne.symm ne
      | tail _ hp => exact aE.n p hp, aE.c⟩ e6
    have t6 := k6.extBut _ _ (Nat.ne_of_gt (Heap.lt_size e4)) t5
    refine wpAny_passesOwn (p rfl) (assign_tup (xs := [(xi, pi), (xj, pj)]) (Vs := [isI (i : Int), fun u => u = v]) (fun q hq => by
      cases hq with
      | head => exact hi
      | tail _ hq => cases hq with
        | head => exact hj
        | tail _ hq => cases hq) S7 t6 ⟨_, _, rfl, ⟨_, rfl⟩, _, _, rfl, rfl, rfl⟩ rfl hn fun s8 S8 => wpAny_passesOwn (p rfl) (wpAny_execs_cons (wpAny_If ?_)))
    have back : ∀ {s9 oE}, St ⟨c, cs, k0, t0, putAll [(xi, pi), (xj, pj)] [isI (i : Int), fun u => u = v] m, (e, oE) :: (it, oI) :: n, []⟩ s9 → St ⟨c, cs, k0, t0, m, n, []⟩ s9 := fun {s9 oE} S9 => (S9.less (n := n) (fun p hp => .tail _ (.tail _ hp)) trivial).sub fun y V hy => by
      obtain ⟨n1, n2⟩ := hm y V hy
      show List.lookup y ((xj, _) :: (xi, _) :: m) = _
      rw [List.lookup_cons, beq_eq_false_iff_ne.mpr n2, List.lookup_cons, beq_eq_false_iff_ne.mpr n1]
      exact hy
    cases Nat.lt_or_eq_of_le hle with
    | inl hlt =>
      refine hno i v _ hlt hV _ _ _ p S8 fun s9 S9 => wpAny_execs_nil (wpAny_execs_nil ⟨_, Nat.sub_lt_sub_left hlt (Nat.lt_succ_self _), i + 1, hlt, rfl, v, back S9, S9.get (.head _), ?_⟩)
      exact nx.frame _ _ _ z5 (fun o h => (Option.some.inj (hoI.symm.trans h)) ▸ S9.get (.tail _ (.head _))) fun p hp => S9.get (.tail _ (.tail _ (hl p hp)))
    | inr hh =>
      subst hh
      exact hyes v _ hV _ _ _ p S8 fun s9 S9 => wpAny_execs_cons (wpAny_Return_some (hret v _ _ _ _ p S9 fun v s10 a => q _ _ (k v s10 a.1 (back a.2))))) hfold)
end
end Mine
end
section
open PySem PySem.W PySem.Calls PySem.Flt PyProof.Rows
set_option maxRecDepth 100000
set_option maxHeartbeats 2000000
set_option linter.unusedVariables false
set_option genInjectivity false
set_option genSizeOf false
namespace Mine
noncomputable section
theorem All2.get {α : Type} {f : α → VP} {d : α} : ∀ {xs : List α} {vs : List Value} {i : Nat} {v : Value}, All2 (xs.map f) vs → vs[i]? = some v → f (xs.getD i d) v
  | [], _, i, v, h, e => by cases (h : _ = _); cases e
  | x :: xs, _, 0, v, ⟨u, r, h, hu, _⟩, e => by cases h; cases e; exact hu
  | x :: xs, _, i + 1, v, ⟨u, r, h, _, k⟩, e => by
    cases h
    have := All2.get (f := f) (d := d) (i := i) k e
    exact this
/-- which of these floats comes last, or first, in order -/
noncomputable def leastL (l : List UInt64) : Nat := argBest (fun i j => Float64.cmp (l.getD i 0) (l.getD j 0) == some .lt) (l.length - 1)
noncomputable def greatL (l : List UInt64) : Nat := argBest (fun i j => Float64.cmp (l.getD i 0) (l.getD j 0) == some .gt) (l.length - 1)
section
variable {prog : Program} {w : World} {A : Around} {op : CmpOp} {Q : Value → Shared → Prop}
theorem mm_of {o : Ordering} {xs : List UInt64} {vs : List Value} {I l : Addr} {Z : Nat → Heap → Prop} {s₂ : Shared} (cm : ∀ x y t u (Q E : Value → Shared → Prop) s, Q (.bool (Float64.cmp x y == some o)) s → wpAny (model prog w) A.in1 (richCompare op (.float x t) (.float y u)) Q E s)
    (W : Walks prog w A.in1 I [I, l] [I] vs.toArray.size (fun i v => vs.toArray[i]? = some v) Z) (st : Z 0 s₂.heap) (hfp : ∀ b ∈ [I, l], b < s₂.heap.objs.size) (hv : All2 (xs.map isF) vs) (hne : 0 < xs.length)
    (h : ∀ v h' tk, vs[argBest (fun i j => Float64.cmp (xs.getD i 0) (xs.getD j 0) == some o) (xs.length - 1)]? = some v → (∀ b o, b ≠ I → s₂.heap.get? b = some o → h'.get? b = some o) → Q v { s₂ with heap := h', toks := tk }) :
    ∃ J fp wr n P St bt, Value.ref I = .ref J ∧ Walks prog w A.in1 J fp wr n P St ∧ St 0 s₂.heap ∧ (∀ b ∈ fp, b < s₂.heap.objs.size) ∧ 0 < n ∧ CmpOf prog w A.in1 op P bt ∧
      ∀ v h' tk, P (argBest bt (n - 1)) v → (∀ b o, b ∉ wr → s₂.heap.get? b = some o → h'.get? b = some o) → Q v { s₂ with heap := h', toks := tk } := by
  have hl : vs.toArray.size = xs.length := by rw [List.size_toArray, hv.length, List.length_map]
  refine ⟨I, _, _, _, _, Z, fun i j => Float64.cmp (xs.getD i 0) (xs.getD j 0) == some o, rfl, W, st, hfp, hl ▸ hne, fun i j vi vj s Q E hi hj q => ?_, fun v h' tk hP hk => ?_⟩
  · dsimp only at hi hj
    rw [List.getElem?_toArray] at hi hj
    obtain ⟨t, rfl, _⟩ := hv.get (d := 0) hi
    obtain ⟨u, rfl, _⟩ := hv.get (d := 0) hj
    exact cm _ _ _ _ _ _ _ q
  · rw [hl, List.getElem?_toArray] at hP
    exact h v h' tk hP fun b ob hb e => hk b ob (fun q => hb (List.mem_singleton.mp q)) e
end
variable {g : G}
theorem EvG.min1 {x0 : Str} {p pos : Pos} {e0 : Expr} {l : Addr} {vs : List Value} {nn : Nat} {xs : List UInt64} (hf : Ev g (.Name x0 p) (fun u => u = .builtin "min")) (ha : Evs g [e0] (Pure g [isR l])) (hp : Pl g [e0]) (hl : (l, listOf vs.toArray nn) ∈ g.n) (hv : All2 (xs.map isF) vs) (hne : 0 < xs.length) :
    Ev g (.Call (.Name x0 p) [e0] [] pos) (fun v => vs[leastL xs]? = some v) := EvG.callB hf ha hp fun vs' s a Q E q => by
  obtain ⟨⟨_, _, rfl, rfl, rfl⟩, S⟩ := a
  refine wpAny_with_toks (Nat.le_refl s.toks) (call_min_walk (iter_list_ ⟨_, S.get hl, rfl, nn, rfl⟩ fun s₂ e st hfp hlI => ?_))
  subst e
  exact mm_of (Q := fun v s' => s.toks ≤ s'.toks → Q v s') (fun _ _ _ _ _ _ _ q => AutoFloatOps.lt_0 q) (Walks.list (A := g.A.in1) rfl _ l hlI _) st hfp hv hne fun v h' tk hP hk ht => q _ _ ⟨hP, S.grow (fun b o e => hk b o (Nat.ne_of_lt (Heap.lt_size e)) (Heap.get?_push_of_some _ e)) ht⟩
theorem EvG.max1 {x0 : Str} {p pos : Pos} {e0 : Expr} {l : Addr} {vs : List Value} {nn : Nat} {xs : List UInt64} (hf : Ev g (.Name x0 p) (fun u => u = .builtin "max")) (ha : Evs g [e0] (Pure g [isR l])) (hp : Pl g [e0]) (hl : (l, listOf vs.toArray nn) ∈ g.n) (hv : All2 (xs.map isF) vs) (hne : 0 < xs.length) :
    Ev g (.Call (.Name x0 p) [e0] [] pos) (fun v => vs[greatL xs]? = some v) := EvG.callB hf ha hp fun vs' s a Q E q => by
  obtain ⟨⟨_, _, rfl, rfl, rfl⟩, S⟩ := a
  refine wpAny_with_toks (Nat.le_refl s.toks) (call_max_walk (iter_list_ ⟨_, S.get hl, rfl, nn, rfl⟩ fun s₂ e st hfp hlI => ?_))
  subst e
  exact mm_of (Q := fun v s' => s.toks ≤ s'.toks → Q v s') (fun _ _ _ _ _ _ _ q => AutoFloatOps.gt_0 q) (Walks.list (A := g.A.in1) rfl _ l hlI _) st hfp hv hne fun v h' tk hP hk ht => q _ _ ⟨hP, S.grow (fun b o e => hk b o (Nat.ne_of_lt (Heap.lt_size e)) (Heap.get?_push_of_some _ e)) ht⟩
noncomputable def mx3 (x y z : UInt64) : UInt64 := [x, y, z].getD (greatL [x, y, z]) 0
noncomputable def mn3 (x y z : UInt64) : UInt64 := [x, y, z].getD (leastL [x, y, z]) 0
theorem three_iter {A : Around} {s : Shared} (S : St g s) {vs : List Value} {xs : List UInt64} {op : CmpOp} {o : Ordering} (hA : A.handled = none) (cm : ∀ x y t u (Q E : Value → Shared → Prop) s, Q (.bool (Float64.cmp x y == some o)) s → wpAny g.M A.in1 (richCompare op (.float x t) (.float y u)) Q E s) (hv : All2 (xs.map isF) vs) (hne : 0 < xs.length) (k : Nat) (hk : argBest (fun i j => Float64.cmp (xs.getD i 0) (xs.getD j 0) == some o) (xs.length - 1) = k) {Q : Value → Shared → Prop} {E : Value → Shared → Prop}
    (q : ∀ v s', isF (xs.getD k 0) v → St g s' → Q v s') :
    wpAny g.M A.in1 (pyIter (.ref s.heap.objs.size)) (fun it s₂ => ∃ J fp wr n P St bt, it = .ref J ∧ Walks g.c.prog g.c.w A.in1 J fp wr n P St ∧ St 0 s₂.heap ∧ (∀ b ∈ fp, b < s₂.heap.objs.size) ∧ 0 < n ∧ CmpOf g.c.prog g.c.w A.in1 op P bt ∧
      ∀ v h' tk, P (argBest bt (n - 1)) v → (∀ b o, b ∉ wr → s₂.heap.get? b = some o → h'.get? b = some o) → s.toks ≤ ({ s₂ with heap := h', toks := tk } : Shared).toks → Q v { s₂ with heap := h', toks := tk }) E { s with heap := s.heap.push (tupOf vs) } := by
  have hT : (s.heap.push (tupOf vs)).IsTuple s.heap.objs.size vs.toArray := ⟨_, Heap.get?_push_size _ rfl, rfl, 0, rfl⟩
  have hsz : (s.heap.push (tupOf vs)).objs.size = s.heap.objs.size + 1 := Heap.size_push ..
  refine wpAny_pyIter_tuple hT (mm_of (Q := fun v s' => s.toks ≤ s'.toks → Q v s') cm (Walks.tuple (A := A.in1) hA _ s.heap.objs.size (by rw [hsz]; exact Nat.ne_of_lt (Nat.lt_succ_self _)) _) ⟨⟨_, Heap.get?_push_size _ rfl, rfl, rfl⟩, hT.push _⟩ (fun b hb => ?_) hv hne fun v h' tk hP hh ht => q _ _ (hk ▸ hv.get hP) (S.grow (fun b o e => hh b o (fun q => ?_) (Heap.get?_push_of_some _ (Heap.get?_push_of_some _ e))) ht))
  · show b < ((s.heap.push _).push _).objs.size
    rw [Heap.size_push, hsz]
    cases hb with
    | head => rw [hsz]; exact Nat.lt_succ_self _
    | tail _ hb => cases hb with
      | head => exact Nat.lt_succ_of_lt (Nat.lt_succ_self _)
      | tail _ hb => cases hb
  · have := Heap.lt_size e
    rw [q, hsz] at this
    exact Nat.lt_irrefl _ (Nat.lt_of_succ_lt this)
theorem Ev.max3 {x0 : Str} {p pos : Pos} {es : List Expr} {x y z : UInt64} (hf : Ev g (.Name x0 p) (fun u => u = .builtin "max")) (ha : Evs g es (Pure g [isF x, isF y, isF z])) (hp : Pl g es) : Ev g (.Call (.Name x0 p) es [] pos) (isF (mx3 x y z)) := EvG.callB hf ha hp fun vs s a Q E q => by
  obtain ⟨hv, S⟩ := a
  obtain ⟨v1, _, rfl, h1, v2, _, rfl, h2, v3, _, rfl, h3, rfl⟩ := id hv
  have := three_iter (A := g.A) (op := .Gt) (o := .gt) (E := fun e s' => s.toks ≤ s'.toks → E e s') (Q := Q) S (vs := [v1, v2, v3]) (xs := [x, y, z]) rfl (fun _ _ _ _ _ _ _ q => AutoFloatOps.gt_0 q) hv (Nat.succ_pos _) (greatL [x, y, z]) (by unfold greatL; rfl) (fun v s' h S' => q _ _ ⟨h, S'⟩)
  exact wpAny_with_toks (Nat.le_refl s.toks) (call_max_three this)
theorem Ev.min3 {x0 : Str} {p pos : Pos} {es : List Expr} {x y z : UInt64} (hf : Ev g (.Name x0 p) (fun u => u = .builtin "min")) (ha : Evs g es (Pure g [isF x, isF y, isF z])) (hp : Pl g es) : Ev g (.Call (.Name x0 p) es [] pos) (isF (mn3 x y z)) := EvG.callB hf ha hp fun vs s a Q E q => by
  obtain ⟨hv, S⟩ := a
  obtain ⟨v1, _, rfl, h1, v2, _, rfl, h2, v3, _, rfl, h3, rfl⟩ := id hv
  have := three_iter (A := g.A) (op := .Lt) (o := .lt) (E := fun e s' => s.toks ≤ s'.toks → E e s') (Q := Q) S (vs := [v1, v2, v3]) (xs := [x, y, z]) rfl (fun _ _ _ _ _ _ _ q => AutoFloatOps.lt_0 q) hv (Nat.succ_pos _) (leastL [x, y, z]) (by unfold leastL; rfl) (fun v s' h S' => q _ _ ⟨h, S'⟩)
  exact wpAny_with_toks (Nat.le_refl s.toks) (call_min_three this)
end
end Mine
end
section
open PySem PySem.W PySem.Calls PyProof.Rows
set_option maxRecDepth 100000
set_option maxHeartbeats 1000000
set_option linter.unusedVariables false
set_option genInjectivity false
set_option genSizeOf false
namespace Mine
noncomputable section
section
variable {prog : Program} {w : World} {A : Around} {E : Value → Shared → Prop} {s : Shared}
theorem told_none {ps : Params} {t : Tok} {Q : Bool → Shared → Prop} (X : (Mine.hd.heap_1 ps).In s.heap) (h : Q false s) : wpAny (model prog w) A (sharingNotTold t) Q E s := by
  unfold sharingNotTold
  exact wpAny_bind ((looks_nsIn (M := model prog w) X (ns := cStatics) (name := sharingNotToldKey) (r := none) (by kernel_rfl)) A _ E s (fun _ _ e => e) (wpAny_pure h))
theorem created_is {ps : Params} {c : Bool} {t u : Tok} {Q : Bool → Shared → Prop} (X : (Mine.hd.heap_1 ps).In s.heap) (ht : t ≠ 0) (hu : u ≠ 0) (h : ∀ b, (c = false → t ≠ u → b = false) → Q b s) : wpAny (model prog w) A (isSame.created c t u) Q E s := by
  have h0 : ¬ (t == 0 || u == 0) = true := by rw [Bool.or_eq_true, beq_iff_eq, beq_iff_eq]; exact not_or.mpr ⟨ht, hu⟩
  unfold isSame.created
  rw [if_neg h0]
  by_cases e : (t == u) = true
  · rw [if_pos e]
    exact wpAny_pure (h _ fun _ k => absurd (beq_iff_eq.mp e) k)
  rw [if_neg e]
  cases c with
  | false =>
    refine wpAny_ite ?_
    rw [if_pos (by decide)]
    exact wpAny_pure (h _ fun _ _ => rfl)
  | true =>
    refine wpAny_ite ?_
    rw [if_neg (by decide)]
    refine wpAny_bind (told_none X ?_)
    simp only [Bool.false_eq_true, if_false]
    refine wpAny_bind (told_none X ?_)
    simp only [Bool.false_eq_true, if_false]
    exact wpAny_bind (wpAny_rule (wpAny_bind (wpAny_askSetting (wpAny_pure (h _ fun q => nomatch q)))))
end
variable {g : G}
theorem St.in {s : Shared} (S : St g s) : g.c.K.In s.heap := by
  cases S.F with | mk mf cm cells F => exact S.P.X.keeps F.keep
/-- is it this object: some answer; no, where they differ -/
noncomputable def IsB (g : G) (v u : Value) (c : Bool) : Prop := ∀ (Q E : Value → Shared → Prop) s, St g s → (∀ b, (c = false → b = false) → Q (.bool b) s) → wpAny g.M g.A (compareOp .Is v u) Q E s
theorem IsB.flt {x y : UInt64} {t u : Nat} {c : Bool} (ht : t ≠ 0) (hu : u ≠ 0) (h : c = false → x ≠ y ∧ t ≠ u) : IsB g (.float x t) (.float y u) c := fun Q E s S q => by
  show wpAny _ _ (do return .bool (← isSame.created (x == y && !Float64.isNaN x) t u)) Q E s
  exact wpAny_bind (created_is S.in ht hu fun b hb => wpAny_pure (q b fun e => hb (by rw [beq_eq_false_iff_ne.mpr (h e).1]; rfl) (h e).2))
theorem IsB.str {x y : Str} {t u : Nat} {c : Bool} (ht : t ≠ 0) (hu : u ≠ 0) (h : c = false → x ≠ y ∧ t ≠ u) : IsB g (.str x t) (.str y u) c := fun Q E s S q => by
  show wpAny _ _ (do return .bool (← isSame.created (x == y) t u)) Q E s
  exact wpAny_bind (created_is S.in ht hu fun b hb => wpAny_pure (q b fun e => hb (beq_eq_false_iff_ne.mpr (h e).1) (h e).2))
/-- l is r or .. -/
theorem Tr.isOr {l r : Expr} {rest : List Expr} {pos p2 : Pos} {v u : Value} {c : Bool} (hl : Ev g l (fun x => x = v)) (hr : Ev g r (fun x => x = u)) (h : IsB g v u c) (hm : behindInMarks .Is r = false) (k : Tr g (.BoolOp .Or rest pos) c) : Tr g (.BoolOp .Or (.Compare l [.Is] [r] p2 :: rest) pos) c := fun Q E s p S q =>
  isTrue_or (wpAny_isTrue_Compare1 (hl _ _ _ p S fun v1 s1 a => hr _ _ _ p a.2 fun v2 s2 b => by
    cases a.1; cases b.1
    refine h _ _ _ b.2 fun d hd => wpAny_truthy_bool ?_
    cases d with
    | true =>
      cases c with
      | true => exact q _ b.2
      | false => exact nomatch hd rfl
    | false => exact k _ _ _ p b.2 q) hm)
/-- a def that is called where the toks have come so far -/
theorem St.raise {s : Shared} (S : St g s) : St { g with t := s.toks } s := ⟨S.P, S.F, S.D, Nat.le_refl _, Nat.le_trans S.t0 S.t, S.y⟩
theorem Called.low {t : Nat} {Ret : Nat → Nat → Led → Value → Prop} {v : Value} {s : Shared} (h : Called { g with t := t } Ret v s) (ht : g.t ≤ t) (h0 : g.c.t ≤ g.t) : Called g Ret v s := by
  cases h with | mk tl n0 n1 a0 a1 a2 S o R => exact ⟨tl, n0, n1, Nat.le_trans ht a0, a1, a2, S.low ht h0, o, R⟩
/-- text[k] -/
theorem getStr {M : Program} {w : World} {A : Around} {s : Shared} {x : Str} {t u : Tok} {k c : Nat} {Q E : Value → Shared → Prop} {value slice : Expr} (hk : k < 2 ^ 62) (hx : x.cps.toList[k]? = some c) (hs : Subs slice (.str x t) (.int (k : Int) u)) (q : Q (.str ⟨#[c]⟩ s.toks) { s with toks := s.toks + 1 }) :
    wpAny (model M w) A (subscriptTail value slice (.str x t) (.int (k : Int) u)) Q E s := by
  have hlt : k < x.cps.size := by rw [← Array.length_toList]; exact (List.getElem?_eq_some_iff.mp hx).1
  refine subscriptTail_builtin_flat (typeIs_str s x t) slot_str_getitem.lookup (getItem_str (c := c) ?_ ?_ ⟨(fun a h => nomatch h), q⟩) hs
  · simp only [Bool.or_eq_false_iff, decide_eq_false_iff_not]; omega
  · unfold seqIndex?
    rw [if_neg (Int.not_lt.mpr (Int.natCast_nonneg k)), if_pos (by rw [Bool.and_eq_true, decide_eq_true_eq, decide_eq_true_eq]; exact ⟨Int.natCast_nonneg k, Int.ofNat_lt.mpr hlt⟩)]
    simpa using hx
theorem EvG.chr {value slice : Expr} {pos : Pos} {x : Str} {k c : Nat} (h1 : Ev g value (isS x)) (h2 : Ev g slice (isI (k : Int))) (hk : k < 2 ^ 62) (hx : x.cps.toList[k]? = some c) (hs : ∀ t u, Subs slice (.str x t) (.int (k : Int) u)) :
    EvG g (.Subscript value slice pos) (fun v s' => (∃ u : Nat, v = .str ⟨#[c]⟩ u ∧ u ≠ 0 ∧ u < s'.toks) ∧ St g s') := fun Q E s p S q =>
  Subscript_ (h1 _ _ _ p S fun o s1 a => h2 _ _ _ p a.2 fun i s2 b => by
    obtain ⟨t, rfl⟩ := a.1
    obtain ⟨u, rfl⟩ := b.1
    exact getStr hk hx (hs t u) (q _ _ ⟨⟨_, rfl, b.2.pos, Nat.lt_succ_self _⟩, b.2.tok⟩))
theorem Ev.chr {value slice : Expr} {pos : Pos} {x : Str} {k c : Nat} (h1 : Ev g value (isS x)) (h2 : Ev g slice (isI (k : Int))) (hk : k < 2 ^ 62) (hx : x.cps.toList[k]? = some c) (hs : ∀ t u, Subs slice (.str x t) (.int (k : Int) u)) : Ev g (.Subscript value slice pos) (isS ⟨#[c]⟩) :=
  (EvG.chr h1 h2 hk hx hs).mono fun v s r => ⟨let ⟨u, h, _⟩ := r.1; ⟨u, h⟩, r.2⟩
theorem slice_clip {x : Str} {a b : Nat} (h : a ≤ b) (ha : a ≤ x.length) : Txt.slice x (some (a : Int)) (some (b : Int)) = ⟨((x.cps.toList.drop a).take (b - a)).toArray⟩ := by
  have e : Txt.slice x (some (a : Int)) (some (b : Int)) = Txt.slice x (some (a : Int)) (some ((min b x.length : Nat) : Int)) := by
    unfold Txt.slice
    have : PySem.Builtin.Str.strSliceIndices (some (a : Int)) (some (b : Int)) 1 x.length = PySem.Builtin.Str.strSliceIndices (some (a : Int)) (some ((min b x.length : Nat) : Int)) 1 x.length := by
      unfold PySem.Builtin.Str.strSliceIndices
      simp only [show ¬ ((a : Int) < 0) by omega, show ¬ ((b : Int) < 0) by omega, show ¬ (((min b x.length : Nat) : Int) < 0) by omega, if_false, show (1 : Int) > 0 by decide, if_true]
      congr 1
      omega
    rw [this]
  rw [e]
  have := slice_closesL (x := x) (i := (a : Int)) (j := ((min b x.length : Nat) : Int)) (by omega) (by omega) (by omega)
  rw [beq_iff_eq.mp this]
  congr 2
  have hl : x.cps.toList.length = x.length := Array.length_toList
  rw [show ((a : Int)).toNat = a by omega, show ((((min b x.length : Nat) : Int)) - (a : Int)).toNat = min b x.length - a by omega]
  by_cases q : b ≤ x.length
  · rw [Nat.min_eq_left q]
  · rw [Nat.min_eq_right (by omega), List.take_of_length_le (by rw [List.length_drop, hl]; exact Nat.le_refl _), List.take_of_length_le (by rw [List.length_drop, hl]; omega)]
/-- text[a:b] -/
theorem Ev.slice {value lo up : Expr} {p pos : Pos} {x : Str} {a b : Nat} (h1 : Ev g value (isS x)) (h2 : Ev g lo (isI (a : Int))) (h3 : Ev g up (isI (b : Int))) (h : a ≤ b) (ha : a ≤ x.length) (hl : x.length ≤ sizeLine) (ht : ∀ o r, letTemporaryGo value o r = pure ()) :
    Ev g (.Subscript value (.Slice (some lo) (some up) none p) pos) (isS ⟨((x.cps.toList.drop a).take (b - a)).toArray⟩) := fun Q E s po S q => by
  refine wpAny_Subscript_str_slice (h1 _ _ _ po S fun o s1 a1 => h2 _ _ _ po a1.2 fun vl s2 a2 => h3 _ _ _ po a2.2 fun vu s3 a3 => ?_) ht
  obtain ⟨⟨t, rfl⟩, S1⟩ := a1
  obtain ⟨⟨u1, rfl⟩, S2⟩ := a2
  obtain ⟨⟨u2, rfl⟩, S3⟩ := a3
  refine ⟨x, t, some ((a : Int), u1), some ((b : Int), u2), rfl, rfl, rfl, ?_⟩
  have S4 := S3.pushed { cls := .type "slice", data := .fields #[.int (a : Int) u1, .int (b : Int) u2, .none] }
  have e := slice_clip h ha
  unfold sliceMade
  unfold Txt.slice at e
  by_cases c : ((1 : Int) == 1 && (PySem.Builtin.Str.strSliceIndices (some (a : Int)) (some (b : Int)) 1 x.length).length == x.length) = true
  · rw [if_pos c] at e
    rw [if_pos (by exact c)]
    exact q _ _ ⟨⟨t, by rw [← e]⟩, S4⟩
  · rw [if_neg c] at e
    rw [if_neg (by exact c)]
    have e' : (⟨((slicePicked x (some ((a : Int), u1)) (some ((b : Int), u2)) none).filterMap (x.cps[·]?)).toArray⟩ : Str) = ⟨((x.cps.toList.drop a).take (b - a)).toArray⟩ := e
    rw [e']
    refine ⟨?_, q _ _ ⟨⟨_, rfl⟩, S4.tok⟩⟩
    show (((x.cps.toList.drop a).take (b - a)).toArray).size ≤ sizeLine
    rw [List.size_toArray, List.length_take]
    exact Nat.le_trans (Nat.min_le_right _ _) (Nat.le_trans (by rw [List.length_drop]; exact Nat.sub_le _ _) (Nat.le_trans (Nat.le_of_eq Array.length_toList) hl))
noncomputable def tokL : List (List Nat × Int) := [([33], 54), ([33, 61], 28), ([37], 24), ([37, 61], 40), ([38], 19), ([38, 61], 41), ([40], 7), ([41], 8), ([42], 16), ([42, 42], 35), ([42, 42, 61], 46), ([42, 61], 38), ([43], 14), ([43, 61], 36), ([44], 12), ([45], 15), ([45, 61], 37), ([45, 62], 51), ([46], 23), ([46, 46, 46], 52), ([47], 17), ([47, 47], 47), ([47, 47, 61], 48), ([47, 61], 39), ([58], 11), ([58, 61], 53), ([59], 13), ([60], 20), ([60, 60], 33), ([60, 60, 61], 44), ([60, 61], 29), ([61], 22), ([61, 61], 27), ([62], 21), ([62, 61], 30), ([62, 62], 34), ([62, 62, 61], 45), ([64], 49), ([64, 61], 50), ([91], 9), ([93], 10), ([94], 32), ([94, 61], 43), ([123], 25), ([124], 18), ([124, 61], 42), ([125], 26), ([126], 31)]
noncomputable def tokD : List (Str × KTD.Dat) := tokL.map fun p => (⟨p.1.toArray⟩, .flat (.int p.2))
theorem tok_tab {w : World} {h : Heap} (X : (Mine.hd.heap_1 w.params).In h) : KTD.TextTab h 99 tokD := kt_text_in X (by rfl)
theorem at_L {l : List Nat} : ∀ {T : List (List Nat × Int)}, KTD.datumAt (⟨l.toArray⟩ : Str) (T.map fun p => ((⟨p.1.toArray⟩ : Str), KTD.Dat.flat (.int p.2))) = (T.lookup l).map fun i => KTD.Dat.flat (.int i)
  | [] => rfl
  | (x, i) :: T => by
    show (if decide ((⟨l.toArray⟩ : Str) = ⟨x.toArray⟩) = true then some (KTD.Dat.flat (.int i)) else KTD.datumAt _ (T.map _)) = _
    by_cases q : l = x
    · subst q
      rw [if_pos (by simp), List.lookup_cons, beq_self_eq_true]; rfl
    · rw [if_neg (by simpa using q), List.lookup_cons, beq_eq_false_iff_ne.mpr q]; exact at_L
theorem here99 {s : Shared} (S : St g s) : KTD.Here g.c.h₀ s.heap 99 tokD := by
  cases S.F with | mk mf cm cells F => exact ⟨tok_tab S.P.X, F.keep⟩
theorem Cm.inDict {l : List Nat} : Cm g .In (isS ⟨l.toArray⟩) (isR 99) (tokL.lookup l).isSome := by
  rintro v u ⟨t, rfl⟩ rfl Q E s S q
  refine KTD.in_text (here99 S) ?_
  rw [← KTD.isSome_datumAt, show tokD = tokL.map _ from rfl, at_L, Option.isSome_map]
  exact q _ (Nat.le_succ _)
theorem each_L {h₀ : Heap} {P : Value → Prop} {l : List Nat} {i : Int} : ∀ {T : List (List Nat × Int)}, T.lookup l = some i → (∀ t, P (.int i t)) → KTD.EachL h₀ (⟨l.toArray⟩ : Str) P (T.map fun p => ((⟨p.1.toArray⟩ : Str), KTD.Dat.flat (.int p.2)))
  | (x, j) :: T, e, H => by
    by_cases q : l = x
    · subst q
      rw [List.lookup_cons, beq_self_eq_true] at e
      cases e
      exact KTD.eachL_hit rfl H
    · rw [List.lookup_cons, beq_eq_false_iff_ne.mpr q] at e
      exact KTD.eachL_miss (by simpa using q) (each_L e H)
theorem It.dict {value slice : Expr} {l : List Nat} {i : Int} (hi : tokL.lookup l = some i) (hs : ∀ u, Subs slice (.ref 99) (.str ⟨l.toArray⟩ u)) : It g value slice (isR 99) (isS ⟨l.toArray⟩) (isI i) := by
  rintro o u rfl ⟨tk, rfl⟩ Q E s S q
  refine KTD.item_textA (here99 S) (by rfl) ?_ (each_L hi fun t => q _ _ ⟨t, rfl⟩ S.tok) (hs tk)
  rw [← KTD.isSome_datumAt, show tokD = tokL.map _ from rfl, at_L, hi]
  rfl
/-- x op= e over ints -/
theorem Ex.augI {c : Cx} {cs : Scope} {k0 t0 : Nat} {m : List (Str × VP)} {n : Led} {op : Operator} {x : Str} {e : Expr} {p0 pos : Pos} {rest : List Stmt} {r : List (List Stmt)} {a b z : Int} {P : Flow → Shared → Prop} (h0 : m.lookup x = some (isI a)) (h : Ev ⟨c, cs, k0, t0, m, n, []⟩ e (isI b)) (hx : cs.names.lookup x = some .local)
    (ho : ∀ (t u : Tok) (Q E : Value → Shared → Prop) s, Q (.int z s.toks) { s with toks := s.toks + 1 } → wpAny (model c.prog c.w) (c.A cs) (inplaceOp op (.int a t) (.int b u)) Q E s)
    (k : Ex ⟨c, cs, k0, t0, (x, isI z) :: m, n, []⟩ (rest :: r) P) : Ex ⟨c, cs, k0, t0, m, n, []⟩ ((.AugAssign (.Name x p0) op e pos :: rest) :: r) P := fun Q E s p S q =>
  seq_cons (wpAny_AugAssign_Name (by
    cases S.F with | mk mf cm cells F N hc hi rr =>
    obtain ⟨v, hv, t, rfl⟩ := rr x _ h0
    cases hv with
    | inr e => exact absurd (hx.symm.trans e.1) (fun h => nomatch h)
    | inl e1 =>
    refine wpAny_loadName_local (env := c.env cs) S.P.kd hx F.ns e1.2 (h _ _ _ p S fun v2 s2 b => ?_)
    obtain ⟨⟨u, rfl⟩, S2⟩ := b
    exact ho t u _ _ _ (store_ok (g := ⟨c, cs, k0, t0, m, n, []⟩) (.inl hx) S2.tok ⟨_, rfl⟩ rfl fun s' S' => k _ _ _ p S' q)))
/-- l + [..] -/
theorem EvG.addL {l : Expr} {es : List Expr} {p2 pos : Pos} {a : Addr} {vs : List Value} {nn : Nat} {Vs : List VP} (h1 : Ev g l (isR a)) (h2 : Evs g es (Pure g Vs)) (ha : (a, listOf vs.toArray nn) ∈ g.n) (hl : Vs.length ≤ sizeLine) (hl2 : vs.length + Vs.length ≤ sizeLine) :
    EvG g (.BinOp l .Add (.List es p2) pos) (fun v s' => ∃ D ws, v = .ref D ∧ All2 Vs ws ∧ (∀ p ∈ g.n, p.1 < D) ∧ St { g with n := (D, listOf (vs ++ ws).toArray 0) :: g.n } s') := fun Q E s p S q =>
  wpAny_BinOp (h1 _ _ _ p S fun o s1 b => EvG.list h2 hl _ _ _ p b.2 fun o2 s2 sq => by
    cases b.1
    cases sq with | mk d ws hv hws hd S2 =>
    subst hv
    cases id S2.F with | mk mf cm cells F N hc hi r =>
    refine kmk_add_lit F N ⟨_, S2.get (.tail _ ha), rfl, nn, rfl⟩ ⟨_, S2.get (.head _), rfl, 0, rfl⟩ rfl (fun D h' F' N' lt => ?_) (by show vs.length + ws.length ≤ _; rw [hws.length]; exact hl2)
    refine q _ _ ⟨D, ws, rfl, hws, fun p hp => lt p (.tail _ (List.mem_append_left _ hp)), S.P, ⟨mf, cm, cells, F', fun p hp => ?_, hc, fun u hu => ⟨(hi u hu).1, fun p hp => ?_⟩, r⟩, S2.D, S2.t, S.t0, S.y.sub fun p hp => .tail _ hp⟩
    · cases hp with
      | head => simpa using N' _ (.head _)
      | tail _ hp => exact N' p (.tail _ (.tail _ hp))
    · cases hp with
      | head => exact Nat.ne_of_gt (lt u (.tail _ (List.mem_append_right _ hu)))
      | tail _ hp => exact (hi u hu).2 p (.tail _ hp))
end
end Mine
end
section
open PySem PySem.W PySem.Calls PyProof.Rows
set_option maxRecDepth 100000
set_option linter.unusedVariables false
namespace Mine
variable {g : G}
theorem back_val {c : Cx} {cs : Scope} {k t : Nat} {m : List (Str × VP)} {news : Led} {W : VP} {v : Value} {s : Shared} (r : W v ∧ St ⟨c, cs, k, t, m, news, []⟩ s) : Back c cs k news (Val W) (.ret v) s := ⟨v, [], m, t, r.2, (fun _ _ _ h => nomatch h), rfl, r.1⟩
/-- a def of one line: what a call of it comes to -/
theorem Ex.retV {c : Cx} {cs : Scope} {k t : Nat} {m : List (Str × VP)} {news : Led} {e : Expr} {pos : Pos} {rest : List Stmt} {r : List (List Stmt)} {W : VP} (h : Ev ⟨c, cs, k, t, m, news, []⟩ e W) : Ex ⟨c, cs, k, t, m, news, []⟩ ((.Return (some e) pos :: rest) :: r) (Back c cs k news (Val W)) := Ex.ret h fun v s a => back_val a
theorem Ex.retW {c : Cx} {cs : Scope} {k t : Nat} {m : List (Str × VP)} {news : Led} {e : Expr} {pos : Pos} {rest : List Stmt} {r : List (List Stmt)} {W W' : VP} (h : Ev ⟨c, cs, k, t, m, news, []⟩ e W') (hW : W' = W) : Ex ⟨c, cs, k, t, m, news, []⟩ ((.Return (some e) pos :: rest) :: r) (Back c cs k news (Val W)) := Ex.retV (hW ▸ h)
theorem add_says {V U W : VP} {vs : List Value} (h : ∀ g : G, Bi g .Add V U W) (hk : 1 ≤ g.k) (hv : All2 [V, U] vs) : CallAt g 49 vs (Called g (Val W)) := by
  obtain ⟨x, _, rfl, hV, y, _, rfl, hU, rfl⟩ := hv
  refine' CallAt.of ?ho ?hcd ?hb ?hkind ?hg ?hk [("a", V), ("b", U)] ?hms ?h; (case ho => exact rfl); (case hcd => exact rfl); (case hb => exact fun s => BindsTo.of_eq rfl); (case hkind => exact rfl); (case hg => exact ⟨rfl, rfl, rfl⟩); (case hk => exact Nat.le_trans (by decide) hk); (case hms => (intro L'; (repeat' (first | exact rds_nil | refine' rds_cons (.inl ⟨rfl, rfl⟩) ?_ ?_ | refine' rds_cons (.inr ⟨rfl, rfl, rfl⟩) ?_ ?_)); all_goals first | assumption | exact rfl | exact ⟨_, rfl⟩)); (case' h => intro c cells hlo keep hcl)
  case h => exact Ex.retV (Ev.bin (Ev.name rfl rfl) (Ev.name rfl rfl) (h _))
theorem mul_says {V U W : VP} {vs : List Value} (h : ∀ g : G, Bi g .Mult V U W) (hk : 1 ≤ g.k) (hv : All2 [V, U] vs) : CallAt g 63 vs (Called g (Val W)) := by
  obtain ⟨x, _, rfl, hV, y, _, rfl, hU, rfl⟩ := hv
  refine' CallAt.of ?ho ?hcd ?hb ?hkind ?hg ?hk [("a", V), ("b", U)] ?hms ?h; (case ho => exact rfl); (case hcd => exact rfl); (case hb => exact fun s => BindsTo.of_eq rfl); (case hkind => exact rfl); (case hg => exact ⟨rfl, rfl, rfl⟩); (case hk => exact Nat.le_trans (by decide) hk); (case hms => (intro L'; (repeat' (first | exact rds_nil | refine' rds_cons (.inl ⟨rfl, rfl⟩) ?_ ?_ | refine' rds_cons (.inr ⟨rfl, rfl, rfl⟩) ?_ ?_)); all_goals first | assumption | exact rfl | exact ⟨_, rfl⟩)); (case' h => intro c cells hlo keep hcl)
  case h => exact Ex.retV (Ev.bin (Ev.name rfl rfl) (Ev.name rfl rfl) (h _))
theorem truediv_says {V U W : VP} {vs : List Value} (h : ∀ g : G, Bi g .Div V U W) (hk : 1 ≤ g.k) (hv : All2 [V, U] vs) : CallAt g 77 vs (Called g (Val W)) := by
  obtain ⟨x, _, rfl, hV, y, _, rfl, hU, rfl⟩ := hv
  refine' CallAt.of ?ho ?hcd ?hb ?hkind ?hg ?hk [("a", V), ("b", U)] ?hms ?h; (case ho => exact rfl); (case hcd => exact rfl); (case hb => exact fun s => BindsTo.of_eq rfl); (case hkind => exact rfl); (case hg => exact ⟨rfl, rfl, rfl⟩); (case hk => exact Nat.le_trans (by decide) hk); (case hms => (intro L'; (repeat' (first | exact rds_nil | refine' rds_cons (.inl ⟨rfl, rfl⟩) ?_ ?_ | refine' rds_cons (.inr ⟨rfl, rfl, rfl⟩) ?_ ?_)); all_goals first | assumption | exact rfl | exact ⟨_, rfl⟩)); (case' h => intro c cells hlo keep hcl)
  case h => exact Ex.retV (Ev.bin (Ev.name rfl rfl) (Ev.name rfl rfl) (h _))
theorem or_says {V U W : VP} {vs : List Value} (h : ∀ g : G, Bi g .BitOr V U W) (hk : 1 ≤ g.k) (hv : All2 [V, U] vs) : CallAt g 70 vs (Called g (Val W)) := by
  obtain ⟨x, _, rfl, hV, y, _, rfl, hU, rfl⟩ := hv
  refine' CallAt.of ?ho ?hcd ?hb ?hkind ?hg ?hk [("a", V), ("b", U)] ?hms ?h; (case ho => exact rfl); (case hcd => exact rfl); (case hb => exact fun s => BindsTo.of_eq rfl); (case hkind => exact rfl); (case hg => exact ⟨rfl, rfl, rfl⟩); (case hk => exact Nat.le_trans (by decide) hk); (case hms => (intro L'; (repeat' (first | exact rds_nil | refine' rds_cons (.inl ⟨rfl, rfl⟩) ?_ ?_ | refine' rds_cons (.inr ⟨rfl, rfl, rfl⟩) ?_ ?_)); all_goals first | assumption | exact rfl | exact ⟨_, rfl⟩)); (case' h => intro c cells hlo keep hcl)
  case h => exact Ex.retV (Ev.bin (Ev.name rfl rfl) (Ev.name rfl rfl) (h _))
theorem and_says {V U W : VP} {vs : List Value} (h : ∀ g : G, Bi g .BitAnd V U W) (hk : 1 ≤ g.k) (hv : All2 [V, U] vs) : CallAt g 56 vs (Called g (Val W)) := by
  obtain ⟨x, _, rfl, hV, y, _, rfl, hU, rfl⟩ := hv
  refine' CallAt.of ?ho ?hcd ?hb ?hkind ?hg ?hk [("a", V), ("b", U)] ?hms ?h; (case ho => exact rfl); (case hcd => exact rfl); (case hb => exact fun s => BindsTo.of_eq rfl); (case hkind => exact rfl); (case hg => exact ⟨rfl, rfl, rfl⟩); (case hk => exact Nat.le_trans (by decide) hk); (case hms => (intro L'; (repeat' (first | exact rds_nil | refine' rds_cons (.inl ⟨rfl, rfl⟩) ?_ ?_ | refine' rds_cons (.inr ⟨rfl, rfl, rfl⟩) ?_ ?_)); all_goals first | assumption | exact rfl | exact ⟨_, rfl⟩)); (case' h => intro c cells hlo keep hcl)
  case h => exact Ex.retV (Ev.bin (Ev.name rfl rfl) (Ev.name rfl rfl) (h _))
theorem gt_says {V U : VP} {b : Bool} {vs : List Value} (h : ∀ g : G, Cm g .Gt V U b) (hk : 1 ≤ g.k) (hv : All2 [V, U] vs) : CallAt g 42 vs (Called g (Val (isB b))) := by
  obtain ⟨x, _, rfl, hV, y, _, rfl, hU, rfl⟩ := hv
  refine' CallAt.of ?ho ?hcd ?hb ?hkind ?hg ?hk [("a", V), ("b", U)] ?hms ?h; (case ho => exact rfl); (case hcd => exact rfl); (case hb => exact fun s => BindsTo.of_eq rfl); (case hkind => exact rfl); (case hg => exact ⟨rfl, rfl, rfl⟩); (case hk => exact Nat.le_trans (by decide) hk); (case hms => (intro L'; (repeat' (first | exact rds_nil | refine' rds_cons (.inl ⟨rfl, rfl⟩) ?_ ?_ | refine' rds_cons (.inr ⟨rfl, rfl, rfl⟩) ?_ ?_)); all_goals first | assumption | exact rfl | exact ⟨_, rfl⟩)); (case' h => intro c cells hlo keep hcl)
  case h => exact Ex.retV (Ev.cmp (Ev.name rfl rfl) (Ev.name rfl rfl) (h _) rfl)
theorem contains_says {V U : VP} {b : Bool} {vs : List Value} (h : ∀ g' : G, (∀ p ∈ g.n, p ∈ g'.n) → Cm g' .In U V b) (hk : 1 ≤ g.k) (hv : All2 [V, U] vs) : CallAt g 84 vs (Called g (Val (isB b))) := by
  obtain ⟨x, _, rfl, hV, y, _, rfl, hU, rfl⟩ := hv
  refine' CallAt.of ?ho ?hcd ?hb ?hkind ?hg ?hk [("a", V), ("b", U)] ?hms ?h; (case ho => exact rfl); (case hcd => exact rfl); (case hb => exact fun s => BindsTo.of_eq rfl); (case hkind => exact rfl); (case hg => exact ⟨rfl, rfl, rfl⟩); (case hk => exact Nat.le_trans (by decide) hk); (case hms => (intro L'; (repeat' (first | exact rds_nil | refine' rds_cons (.inl ⟨rfl, rfl⟩) ?_ ?_ | refine' rds_cons (.inr ⟨rfl, rfl, rfl⟩) ?_ ?_)); all_goals first | assumption | exact rfl | exact ⟨_, rfl⟩)); (case' h => intro c cells hlo keep hcl)
  case h => exact Ex.retV (Ev.cmp (Ev.name rfl rfl) (Ev.name rfl rfl) (h _ fun _ h => List.mem_append_left _ h) rfl)
theorem getitem_says {V U W : VP} {vs : List Value} (h : ∀ (g' : G) (x y : Str) (p q : Pos), (∀ p ∈ g.n, p ∈ g'.n) → It g' (.Name x p) (.Name y q) V U W) (hk : 1 ≤ g.k) (hv : All2 [V, U] vs) : CallAt g 91 vs (Called g (Val W)) := by
  obtain ⟨x, _, rfl, hV, y, _, rfl, hU, rfl⟩ := hv
  refine' CallAt.of ?ho ?hcd ?hb ?hkind ?hg ?hk [("a", V), ("b", U)] ?hms ?h; (case ho => exact rfl); (case hcd => exact rfl); (case hb => exact fun s => BindsTo.of_eq rfl); (case hkind => exact rfl); (case hg => exact ⟨rfl, rfl, rfl⟩); (case hk => exact Nat.le_trans (by decide) hk); (case hms => (intro L'; (repeat' (first | exact rds_nil | refine' rds_cons (.inl ⟨rfl, rfl⟩) ?_ ?_ | refine' rds_cons (.inr ⟨rfl, rfl, rfl⟩) ?_ ?_)); all_goals first | assumption | exact rfl | exact ⟨_, rfl⟩)); (case' h => intro c cells hlo keep hcl)
  case h => exact Ex.retV (Ev.sub (Ev.name rfl rfl) (Ev.name rfl rfl) (h _ _ _ _ _ fun _ h => List.mem_append_left _ h))
theorem ISTERMINAL_says {a : Int} {vs : List Value} (hk : 1 ≤ g.k) (hv : All2 [isI a] vs) : CallAt g 108 vs (Called g (Val (isB (decide (a < 256))))) := by
  obtain ⟨x, _, rfl, hV, rfl⟩ := hv
  refine' CallAt.of ?ho ?hcd ?hb ?hkind ?hg ?hk [("x", isI a)] ?hms ?h; (case ho => exact rfl); (case hcd => exact rfl); (case hb => exact fun s => BindsTo.of_eq rfl); (case hkind => exact rfl); (case hg => exact ⟨rfl, rfl, rfl⟩); (case hk => exact Nat.le_trans (by decide) hk); (case hms => (intro L'; (repeat' (first | exact rds_nil | refine' rds_cons (.inl ⟨rfl, rfl⟩) ?_ ?_ | refine' rds_cons (.inr ⟨rfl, rfl, rfl⟩) ?_ ?_)); all_goals first | assumption | exact rfl | exact ⟨_, rfl⟩)); (case' h => intro c cells hlo keep hcl)
  case h => exact Ex.retV (Ev.cmp (Ev.name rfl rfl) (Ev.globI rfl rfl rfl) (Cm.ltI rfl) rfl)
theorem ISEOF_says {a : Int} {vs : List Value} (hk : 1 ≤ g.k) (hv : All2 [isI a] vs) : CallAt g 115 vs (Called g (Val (isB (a == 0)))) := by
  obtain ⟨x, _, rfl, hV, rfl⟩ := hv
  refine' CallAt.of ?ho ?hcd ?hb ?hkind ?hg ?hk [("x", isI a)] ?hms ?h; (case ho => exact rfl); (case hcd => exact rfl); (case hb => exact fun s => BindsTo.of_eq rfl); (case hkind => exact rfl); (case hg => exact ⟨rfl, rfl, rfl⟩); (case hk => exact Nat.le_trans (by decide) hk); (case hms => (intro L'; (repeat' (first | exact rds_nil | refine' rds_cons (.inl ⟨rfl, rfl⟩) ?_ ?_ | refine' rds_cons (.inr ⟨rfl, rfl, rfl⟩) ?_ ?_)); all_goals first | assumption | exact rfl | exact ⟨_, rfl⟩)); (case' h => intro c cells hlo keep hcl)
  case h => exact Ex.retV (Ev.cmp (Ev.name rfl rfl) (Ev.globI rfl rfl rfl) (Cm.eqI rfl) rfl)
noncomputable def waysF (k : Nat) (n : Int) : Int := 1 + n.fmod ([3, 7, 15, 15].getD k 1)
theorem four {P : Nat → Prop} (h0 : P 0) (h1 : P 1) (h2 : P 2) (h3 : P 3) : ∀ {k : Nat}, k < 4 → P k
  | 0, _ => h0
  | 1, _ => h1
  | 2, _ => h2
  | 3, _ => h3
  | k + 4, h => absurd h (Nat.not_lt_of_le (Nat.le_add_left 4 k))
theorem small63 {k : Nat} (h : k < 4) : (k : Int) < 2 ^ 63 := Int.lt_trans (Int.ofNat_lt.mpr h) (by decide)
/-- a made list of four ints -/
noncomputable def Four (ns : List Int) (vs : List Value) : Prop := ∀ i, i < 4 → ∃ v, vs[i]? = some v ∧ isI (ns.getD i 0) v
theorem ways_says {D : Addr} {ns : List Int} {nv : List Value} {nn k : Nat} {vs : List Value} (hD : (D, listOf nv.toArray nn) ∈ g.n) (hn : Four ns nv) (hi : k < 4) (hk : 1 ≤ g.k) (hv : All2 [isR D, isI (k : Int)] vs) : CallAt g 134 vs (Called g (Val (isI (waysF k (ns.getD k 0))))) := by
  obtain ⟨x, _, rfl, hV, y, _, rfl, hU, rfl⟩ := hv
  obtain ⟨v, hv, hI⟩ := hn k hi
  refine' CallAt.of ?ho ?hcd ?hb ?hkind ?hg ?hk [("numbers", isR D), ("k", isI (k : Int))] ?hms ?h; (case ho => exact rfl); (case hcd => exact rfl); (case hb => exact fun s => BindsTo.of_eq rfl); (case hkind => exact rfl); (case hg => exact ⟨rfl, rfl, rfl⟩); (case hk => exact Nat.le_trans (by decide) hk); (case hms => (intro L'; (repeat' (first | exact rds_nil | refine' rds_cons (.inl ⟨rfl, rfl⟩) ?_ ?_ | refine' rds_cons (.inr ⟨rfl, rfl, rfl⟩) ?_ ?_)); all_goals first | assumption | exact rfl | exact ⟨_, rfl⟩)); (case' h => intro c cells hlo keep hcl)
  case h =>
    refine Ex.retV (Ev.bin Ev.int (Ev.bin (Ev.sub (Ev.name rfl rfl) (Ev.name rfl rfl) (It.list (k := (k : Int)) (List.mem_append_left _ hD) (Int.natCast_nonneg k) (small63 hi) hv hI fun u => by with_unfolding_all rfl))
      (Ev.subTup (k := (k : Int)) (W := isI ([3, 7, 15, 15].getD k 1)) (Evs.cons Ev.int (Evs.cons Ev.int (Evs.cons Ev.int (Evs.cons Ev.int Evs.nil rfl) rfl) rfl) rfl) (Nat.le_of_ble_eq_true rfl) (fun d o => Ev.name rfl rfl) (Int.natCast_nonneg k) (small63 hi) (four (P := fun k => [isI 3, isI 7, isI 15, isI 15][((k : Nat) : Int).toNat]? = some (isI ([3, 7, 15, 15].getD k 1))) rfl rfl rfl rfl hi) fun l u => by with_unfolding_all rfl) (Bi.modI (four (P := fun k => ¬ (([3, 7, 15, 15] : List Int).getD k 1 == 0) = true) (by decide) (by decide) (by decide) (by decide) hi))) Bi.addI)
/-- operator.indexOf -/
theorem indexOf_says {va vb : Value} {hit : Nat} {V : Nat → VP} {l : Led} (hl : ∀ p ∈ l, p ∈ g.n) (hen : ∀ g' : G, (∀ p ∈ g.n, p ∈ g'.n) → g.t ≤ g'.t → ∀ {x0 : Str} {p pos : Pos} {e0 : Expr}, Ev g' (.Name x0 p) (fun u => u = .type "enumerate") → Ev g' e0 (fun u => u = va) → starEach [e0] g'.env = [(false, eval e0 g'.env)] → Pl g' [e0] → EvG g' (.Call (.Name x0 p) [e0] [] pos) (Enumd g' hit V l))
    (hno : ∀ (g' : G) i v, i < hit → g.t ≤ g'.c.t → V i v → IsB g' v vb false ∧ Cm g' .Eq (fun u => u = v) (fun u => u = vb) false) (hyes : ∀ (g' : G) v, V hit v → IsB g' v vb true ∧ Cm g' .Eq (fun u => u = v) (fun u => u = vb) true) (hk : 1 ≤ g.k) :
    CallAt g 98 [va, vb] (Called g (Val (isI (hit : Int)))) := by
  refine' CallAt.of ?ho ?hcd ?hb ?hkind ?hg ?hk [("a", fun u => u = va), ("b", fun u => u = vb)] ?hms ?h; (case ho => exact rfl); (case hcd => exact rfl); (case hb => exact fun s => BindsTo.of_eq rfl); (case hkind => exact rfl); (case hg => exact ⟨rfl, rfl, rfl⟩); (case hk => exact Nat.le_trans (by decide) hk); (case hms => (intro L'; (repeat' (first | exact rds_nil | refine' rds_cons (.inl ⟨rfl, rfl⟩) ?_ ?_ | refine' rds_cons (.inr ⟨rfl, rfl, rfl⟩) ?_ ?_)); all_goals first | assumption | exact rfl | exact ⟨_, rfl⟩)); (case' h => intro c cells hlo keep hcl)
  case h =>
    refine Ex.search (W := isI (hit : Int)) (hen _ (fun _ h => List.mem_append_left _ h) hlo (Ev.built rfl rfl rfl (by decide) rfl) (Ev.name rfl rfl) rfl fun _ => ⟨_, _, rfl, rfl⟩) (fun p hp => List.mem_append_left _ (hl p hp)) (.inl rfl) (.inl rfl) ?_ (fun _ => rfl) (fun i v n' hi hV => ?_) (fun v n' hV => ?_) (fun v n' => Ev.name rfl rfl) (fun v s hw S => back_val ⟨hw, S⟩) ⟨rfl, rfl⟩
    · intro z V hz
      constructor
      · rintro rfl; exact nomatch (hz : none = some V)
      · rintro rfl; exact nomatch (hz : none = some V)
    · exact Tr.isOr (Ev.name rfl rfl) (Ev.name rfl rfl) (hno _ i v hi hlo hV).1 rfl (Tr.or (c := false) (Tr.cmp (Ev.name rfl rfl) (Ev.name rfl rfl) (hno _ i v hi hlo hV).2 rfl) fun _ => Tr.orNil)
    · exact Tr.isOr (Ev.name rfl rfl) (Ev.name rfl rfl) (hyes _ v hV).1 rfl (Tr.or (c := false) (Tr.cmp (Ev.name rfl rfl) (Ev.name rfl rfl) (hyes _ v hV).2 rfl) fun _ => Tr.orNil)
end Mine
end
section
open PySem PySem.W PySem.Calls PyProof.Rows
set_option maxRecDepth 100000
set_option maxHeartbeats 4000000
set_option linter.unusedVariables false
set_option genInjectivity false
set_option genSizeOf false
namespace Mine
noncomputable section
noncomputable def line0 (k : Nat) (n : Int) : Str := if (waysF k n).fmod 2 == 1 then ([("<" : Str), "<=", "<<", "<<="]).getD ((n.fdiv 15).fmod 4).toNat "" else ""
noncomputable def line1 (k : Nat) (n : Int) : Str := if ((waysF k n).fdiv 4).fmod 2 == 1 then line0 k n ++ "a" else line0 k n
noncomputable def line2 (k : Nat) (n : Int) : Str := if (waysF k n).fdiv 8 == 1 then line1 k n ++ "b" else line1 k n
noncomputable def lineF (k : Nat) (n : Int) : Str := if ((waysF k n).fdiv 2).fmod 2 == 1 then line2 k n ++ ([(">" : Str), ">=", ">>", ">>="]).getD ((n.fdiv 60).fmod 4).toNat "" else line2 k n
noncomputable def linesF (ns : List Int) (i : Nat) : List Str := (List.range i).map fun k => lineF k (ns.getD k 0)
noncomputable def textF (ns : List Int) : Str := Txt.join "," (linesF ns 4)
theorem no_pylong {a : Int} {d : Int} (h : d.natAbs < 2 ^ 30) : ¬ (Builtin.divisionGoesByPylong a d) = true := by
  unfold Builtin.divisionGoesByPylong
  intro e
  simp only [Bool.and_eq_true, decide_eq_true_eq] at e
  have e := e.1
  split at e
  · omega
  · have : d.natAbs.log2 < 31 := by
      by_cases h0 : d.natAbs = 0
      · rw [h0]; decide
      · exact (Nat.log2_lt h0).mpr (Nat.lt_trans h (by decide))
    omega
theorem fmod4 (x : Int) : 0 ≤ x.fmod 4 ∧ x.fmod 4 < 4 := ⟨Int.fmod_nonneg_of_pos _ (by decide), Int.fmod_lt_of_pos _ (by decide)⟩
theorem getD_len {l : List Str} {j : Nat} {b : Nat} (h : ∀ x ∈ l, x.length ≤ b) : (l.getD j "").length ≤ b := by
  rw [List.getD_eq_getElem?_getD]
  cases e : l[j]? with
  | none => exact Nat.zero_le _
  | some x => exact h x (List.mem_of_getElem? e)
theorem len0 (k : Nat) (n : Int) : (line0 k n).length ≤ 3 := by
  unfold line0
  split
  · exact getD_len (by decide)
  · exact Nat.zero_le _
theorem len1 (k : Nat) (n : Int) : (line1 k n).length ≤ 4 := by
  unfold line1
  have := len0 k n
  split
  · rw [PySem.Str.length_append, show ("a" : Str).length = 1 from rfl]; omega
  · omega
theorem len2 (k : Nat) (n : Int) : (line2 k n).length ≤ 5 := by
  unfold line2
  have := len1 k n
  split
  · rw [PySem.Str.length_append, show ("b" : Str).length = 1 from rfl]; omega
  · omega
theorem len3 (k : Nat) (n : Int) : (lineF k n).length ≤ 8 := by
  unfold lineF
  have := len2 k n
  split
  · rw [PySem.Str.length_append]
    have : (([(">" : Str), ">=", ">>", ">>="]).getD ((n.fdiv 60).fmod 4).toNat "").length ≤ 3 := getD_len (by decide)
    omega
  · omega
theorem linesF_succ (ns : List Int) (i : Nat) : linesF ns (i + 1) = linesF ns i ++ [lineF i (ns.getD i 0)] := by
  unfold linesF
  rw [List.range_succ, List.map_append]; rfl
theorem text_fits (ns : List Int) : ((linesF ns 4).map (·.length)).sum + (linesF ns 4).length ≤ 1048576 := by
  have h : ∀ k, (lineF k (ns.getD k 0)).length ≤ 8 := fun k => len3 _ _
  exact Nat.le_trans (Nat.add_le_add_right (Nat.add_le_add (h 0) (Nat.add_le_add (h 1) (Nat.add_le_add (h 2) (Nat.add_le_add (h 3) (Nat.le_refl 0))))) 4) (by decide)
noncomputable def spotF (a : Int) : Int := if decide (a < 256) then (if [20, 29, 33, 44].any (· == a) then 0 else 1) else a - 256 + 2
noncomputable def lexSz (l : List Nat) : Nat := if (tokL.lookup (l.take 3)).isSome then 3 else if (tokL.lookup (l.take 2)).isSome then 2 else 1
noncomputable def lexOne (l : List Nat) : Option (Nat × Int) := match l with
  | [] => none
  | c :: _ => if c = 97 then some (1, 256) else if c = 98 then some (1, 257) else (tokL.lookup (l.take (lexSz l))).map fun i => (lexSz l, i)
noncomputable def lexN : Nat → List Nat → Option (List Int)
  | 0, _ => none
  | _ + 1, [] => some []
  | f + 1, c :: l => match lexOne (c :: l) with
    | some (z, i) => (lexN f ((c :: l).drop z)).map (i :: ·)
    | none => none
noncomputable def sixC : List Nat := [44, 60, 61, 62, 97, 98]
theorem inAB {c : Nat} (h : c ∈ sixC) : (!(Builtin.Str.occurrences (Str.ofString "ab") ⟨#[c]⟩ 0 (Str.ofString "ab").length 1).isEmpty) = (c == 97 || c == 98) := by
  unfold sixC at h
  simp only [List.mem_cons, List.not_mem_nil, or_false] at h
  rcases h with rfl | rfl | rfl | rfl | rfl | rfl <;> decide +kernel
theorem lexSz_le (l : List Nat) : 1 ≤ lexSz l ∧ lexSz l ≤ 3 := by
  unfold lexSz
  split
  · decide
  · split <;> decide
theorem lexSz_stop {l : List Nat} {s : Nat} (h1 : lexSz l ≤ s) (h3 : s ≤ 3) : (decide ((s : Int) > 1) && !(tokL.lookup (l.take s)).isSome) = false ↔ s = lexSz l := by
  have := lexSz_le l
  have hs : s = 1 ∨ s = 2 ∨ s = 3 := by omega
  revert h1
  unfold lexSz
  rcases hs with rfl | rfl | rfl
  · cases h : (tokL.lookup (l.take 3)).isSome <;> cases h' : (tokL.lookup (l.take 2)).isSome <;> simp
  · cases h : (tokL.lookup (l.take 3)).isSome <;> cases h' : (tokL.lookup (l.take 2)).isSome <;> simp
  · cases h : (tokL.lookup (l.take 3)).isSome <;> cases h' : (tokL.lookup (l.take 2)).isSome <;> simp
noncomputable def rowStep (rr : List (List Int)) (a : Int) : List (List Int) := if a == 12 then [] :: rr else match rr with
  | l :: t => (l ++ [spotF a]) :: t
  | [] => []
noncomputable def rowsR (l : List Int) : List (List Int) := l.foldl rowStep [[]]
theorem rowStep_ne {rr : List (List Int)} {a : Int} (h : rr ≠ []) : rowStep rr a ≠ [] := by
  unfold rowStep
  split
  · exact List.cons_ne_nil _ _
  · cases rr with
    | nil => exact absurd rfl h
    | cons => exact List.cons_ne_nil _ _
theorem rows_ne : ∀ (l : List Int) {rr : List (List Int)}, rr ≠ [] → l.foldl rowStep rr ≠ []
  | [], _, h => h
  | _ :: l, _, h => rows_ne l (rowStep_ne h)
noncomputable def ltC : Nat → List Nat
  | 0 => [60] | 1 => [60, 61] | 2 => [60, 60] | _ => [60, 60, 61]
noncomputable def gtC : Nat → List Nat
  | 0 => [62] | 1 => [62, 61] | 2 => [62, 62] | _ => [62, 62, 61]
noncomputable def ltS : Nat → Int
  | 0 => 20 | 1 => 29 | 2 => 33 | _ => 44
noncomputable def gtS : Nat → Int
  | 0 => 21 | 1 => 30 | 2 => 34 | _ => 45
theorem four4 {i : Nat} (h : i < 4) : i = 0 ∨ i = 1 ∨ i = 2 ∨ i = 3 := by omega
noncomputable def After (ok : List Nat) (R : List Nat) : Prop := R = [] ∨ ∃ c R', R = c :: R' ∧ c ∈ ok
theorem lex_lt {f i : Nat} {R : List Nat} (hi : i < 4) (h : After [97, 98, 62, 44] R) : lexN (f + 1) (ltC i ++ R) = (lexN f R).map (ltS i :: ·) := by
  rcases h with rfl | ⟨c, R', rfl, hc⟩
  · rcases four4 hi with rfl | rfl | rfl | rfl <;> rfl
  · simp only [List.mem_cons, List.not_mem_nil, or_false] at hc
    rcases four4 hi with rfl | rfl | rfl | rfl <;> rcases hc with rfl | rfl | rfl | rfl <;> rfl
theorem lex_gt {f j : Nat} {R : List Nat} (hj : j < 4) (h : After [44] R) : lexN (f + 1) (gtC j ++ R) = (lexN f R).map (gtS j :: ·) := by
  rcases h with rfl | ⟨c, R', rfl, hc⟩
  · rcases four4 hj with rfl | rfl | rfl | rfl <;> rfl
  · cases List.mem_singleton.mp hc
    rcases four4 hj with rfl | rfl | rfl | rfl <;> rfl
theorem lex_a {f : Nat} {R : List Nat} : lexN (f + 1) (97 :: R) = (lexN f R).map (256 :: ·) := rfl
theorem lex_b {f : Nat} {R : List Nat} : lexN (f + 1) (98 :: R) = (lexN f R).map (257 :: ·) := rfl
theorem lex_comma {f : Nat} {R : List Nat} (h : R ≠ []) : lexN (f + 1) (44 :: R) = (lexN f R).map (12 :: ·) := by
  cases R with
  | nil => exact absurd rfl h
  | cons c R => rfl
noncomputable def lineC (b0 b2 b3 b1 : Bool) (i j : Nat) : List Nat := (if b0 then ltC i else []) ++ ((if b2 then [97] else []) ++ ((if b3 then [98] else []) ++ (if b1 then gtC j else [])))
noncomputable def symsB (b0 b2 b3 b1 : Bool) (i j : Nat) : List Int := (if b0 then [ltS i] else []) ++ ((if b2 then [256] else []) ++ ((if b3 then [257] else []) ++ (if b1 then [gtS j] else [])))
theorem map_app {o : Option (List Int)} {s t : List Int} : (o.map (s ++ ·)).map (t ++ ·) = o.map ((t ++ s) ++ ·) := by cases o <;> simp
theorem lex_line {b0 b2 b3 b1 : Bool} {f i j : Nat} {R : List Nat} (hi : i < 4) (hj : j < 4) (h : After [44] R) : lexN (f + 4) (lineC b0 b2 b3 b1 i j ++ R) = (lexN (f + 4 - (symsB b0 b2 b3 b1 i j).length) R).map (symsB b0 b2 b3 b1 i j ++ ·) := by
  have h4 : After [97, 98, 62, 44] R := h.imp id fun ⟨c, R', e, hc⟩ => ⟨c, R', e, by cases List.mem_singleton.mp hc; decide⟩
  have hg : ∀ X, After [97, 98, 62, 44] (gtC j ++ X) := fun X => .inr (by rcases four4 hj with rfl | rfl | rfl | rfl <;> exact ⟨62, _, rfl, by decide⟩)
  have ha : ∀ X, After [97, 98, 62, 44] (97 :: X) := fun X => .inr ⟨97, X, rfl, by decide⟩
  have hb : ∀ X, After [97, 98, 62, 44] (98 :: X) := fun X => .inr ⟨98, X, rfl, by decide⟩
  unfold lineC symsB
  cases b0 <;> cases b2 <;> cases b3 <;> cases b1 <;> simp only [if_true, if_false, Bool.false_eq_true, List.nil_append, List.append_nil, List.append_assoc, List.cons_append, List.length_cons, List.length_nil, Nat.add_sub_cancel] <;>
    first
    | (simp; done)
    | (simp only [lex_lt hi (ha _), lex_lt hi (hb _), lex_lt hi (hg _), lex_lt hi h4, lex_a, lex_b, lex_gt hj h, Option.map_map]; congr 1)
noncomputable def spotsW (b0 b2 b3 b1 : Bool) : List Nat := (if b0 then [0] else []) ++ ((if b2 then [2] else []) ++ ((if b3 then [3] else []) ++ (if b1 then [1] else [])))
theorem syms_all : ∀ i, i < 4 → ∀ j, j < 4 → ∀ b0 b2 b3 b1 : Bool, ((symsB b0 b2 b3 b1 i j).all (fun a => a != 12 && a != 0) && ((symsB b0 b2 b3 b1 i j).map spotF == (spotsW b0 b2 b3 b1).map fun a : Nat => (a : Int)) && Nat.ble (symsB b0 b2 b3 b1 i j).length 4 && (!(b0 || b2 || b3 || b1) || Nat.ble 1 (lineC b0 b2 b3 b1 i j).length)) = true := by decide +kernel
noncomputable def syms4 (s : Nat → List Int) : List Int := s 0 ++ 12 :: (s 1 ++ 12 :: (s 2 ++ 12 :: s 3))
theorem lex_more {f : Nat} {L R : List Nat} {s : List Int} (h : lexN f L = some s) : ∀ d, lexN (f + d) L = some s := by
  induction f generalizing L s with
  | zero => cases h
  | succ f ih =>
    intro d
    cases L with
    | nil => rw [show f + 1 + d = f + d + 1 by omega]; exact h
    | cons c L =>
      rw [show f + 1 + d = f + d + 1 by omega]
      unfold lexN at h ⊢
      cases ho : lexOne (c :: L) with
      | none => rw [ho] at h; cases h
      | some q =>
        obtain ⟨z, i⟩ := q
        rw [ho] at h
        obtain ⟨r, hr, e⟩ := Option.map_eq_some_iff.mp h
        show (lexN (f + d) ((c :: L).drop z)).map (i :: ·) = some s
        rw [ih hr d]; exact congrArg some e
structure LineB where
  b0 : Bool
  b2 : Bool
  b3 : Bool
  b1 : Bool
  i : Nat
  j : Nat
noncomputable def LineB.codes (l : LineB) : List Nat := lineC l.b0 l.b2 l.b3 l.b1 l.i l.j
noncomputable def LineB.syms (l : LineB) : List Int := symsB l.b0 l.b2 l.b3 l.b1 l.i l.j
structure LineB.Ok (l : LineB) : Prop where
  i : l.i < 4
  j : l.j < 4
  any : (l.b0 || l.b2 || l.b3 || l.b1) = true
theorem LineB.Ok.le {l : LineB} (h : l.Ok) : l.syms.length ≤ 4 := by
  have := syms_all _ h.i _ h.j l.b0 l.b2 l.b3 l.b1
  simp only [Bool.and_eq_true] at this
  exact Nat.le_of_ble_eq_true this.1.2
theorem LineB.Ok.ne {l : LineB} (h : l.Ok) {X : List Nat} : l.codes ++ X ≠ [] := fun e => by
  have := syms_all _ h.i _ h.j l.b0 l.b2 l.b3 l.b1
  simp only [Bool.and_eq_true] at this
  have := this.2
  rw [h.any, Bool.not_true, Bool.false_or] at this
  have e' : l.codes = [] := (List.append_eq_nil_iff.mp e).1
  rw [show lineC l.b0 l.b2 l.b3 l.b1 l.i l.j = [] from e'] at this
  cases this
theorem lex_line' {l : LineB} (h : l.Ok) {f : Nat} {R : List Nat} {s : List Int} (hR : After [44] R) (hs : lexN f R = some s) : ∃ f', lexN f' (l.codes ++ R) = some (l.syms ++ s) := by
  refine ⟨f + 4, (lex_line h.i h.j hR).trans ?_⟩
  have := h.le
  rw [show f + 4 - (symsB l.b0 l.b2 l.b3 l.b1 l.i l.j).length = f + (4 - l.syms.length) by show f + 4 - l.syms.length = _; omega, lex_more (R := R) hs]
  rfl
theorem lex_text {l : Nat → LineB} (h : ∀ k, k < 4 → (l k).Ok) : ∃ f, lexN f ((l 0).codes ++ 44 :: ((l 1).codes ++ 44 :: ((l 2).codes ++ 44 :: (l 3).codes))) = some (syms4 fun k => (l k).syms) := by
  have com : ∀ {f : Nat} {R : List Nat} {s : List Int}, R ≠ [] → lexN f R = some s → lexN (f + 1) (44 :: R) = some (12 :: s) := fun hR hs => by rw [lex_comma hR, hs]; rfl
  have af : ∀ R, After [44] (44 :: R) := fun R => .inr ⟨44, R, rfl, by decide⟩
  obtain ⟨f3, h3⟩ := lex_line' (h 3 (by decide)) (f := 1) (R := []) (s := []) (.inl rfl) rfl
  rw [List.append_nil, List.append_nil] at h3
  have n3 := (h 3 (by decide)).ne (X := [])
  rw [List.append_nil] at n3
  obtain ⟨f2, h2⟩ := lex_line' (h 2 (by decide)) (af _) (com n3 h3)
  obtain ⟨f1, h1⟩ := lex_line' (h 1 (by decide)) (af _) (com (h 2 (by decide)).ne h2)
  obtain ⟨f0, h0⟩ := lex_line' (h 0 (by decide)) (af _) (com (h 1 (by decide)).ne h1)
  exact ⟨f0, h0⟩
theorem fold_line : ∀ (s : List Int) (l : List Int) (t : List (List Int)), (∀ a ∈ s, a ≠ 12) → s.foldl rowStep (l :: t) = (l ++ s.map spotF) :: t
  | [], l, t, _ => by simp
  | a :: s, l, t, h => by
    have e : rowStep (l :: t) a = (l ++ [spotF a]) :: t := by unfold rowStep; rw [if_neg (by simpa using h a (.head _))]
    rw [List.foldl_cons, e, fold_line s _ t fun b hb => h b (.tail _ hb)]
    simp
theorem rows4 {s : Nat → List Int} (h : ∀ k, ∀ a ∈ s k, a ≠ 12) : rowsR (syms4 s) = [(s 3).map spotF, (s 2).map spotF, (s 1).map spotF, (s 0).map spotF] := by
  unfold rowsR syms4
  have c : ∀ (t : List (List Int)), rowStep t 12 = [] :: t := fun t => rfl
  rw [List.foldl_append, fold_line _ _ _ (h 0), List.foldl_cons, c, List.foldl_append, fold_line _ _ _ (h 1), List.foldl_cons, c, List.foldl_append, fold_line _ _ _ (h 2), List.foldl_cons, c, fold_line _ _ _ (h 3)]
  simp
theorem syms_spots {b0 b2 b3 b1 : Bool} {i j : Nat} (hi : i < 4) (hj : j < 4) : (symsB b0 b2 b3 b1 i j).map spotF = (spotsW b0 b2 b3 b1).map fun a : Nat => (a : Int) := by
  have := syms_all i hi j hj b0 b2 b3 b1
  simp only [Bool.and_eq_true] at this
  exact beq_iff_eq.mp this.1.1.2
theorem syms_ne {b0 b2 b3 b1 : Bool} {i j : Nat} (hi : i < 4) (hj : j < 4) : ∀ a ∈ symsB b0 b2 b3 b1 i j, a ≠ 12 ∧ a ≠ 0 := fun a ha => by
  have := syms_all i hi j hj b0 b2 b3 b1
  simp only [Bool.and_eq_true] at this
  have := List.all_eq_true.mp this.1.1.1 a ha
  rw [Bool.and_eq_true, bne_iff_ne, bne_iff_ne] at this
  exact this
noncomputable def lineOf (k : Nat) (n : Int) : LineB := ⟨(waysF k n).fmod 2 == 1, ((waysF k n).fdiv 4).fmod 2 == 1, (waysF k n).fdiv 8 == 1, ((waysF k n).fdiv 2).fmod 2 == 1, ((n.fdiv 15).fmod 4).toNat, ((n.fdiv 60).fmod 4).toNat⟩
theorem ways_range {k : Nat} (n : Int) : 1 ≤ waysF k n ∧ waysF k n ≤ ([3, 7, 15, 15].getD k 1 : Int) := by
  unfold waysF
  have hp : (0 : Int) < [3, 7, 15, 15].getD k 1 := by
    rcases Nat.lt_or_ge k 4 with h | h
    · rcases four4 h with rfl | rfl | rfl | rfl <;> decide
    · rw [List.getD_eq_getElem?_getD, List.getElem?_eq_none (by simpa using h)]; decide
  have h1 := Int.fmod_nonneg_of_pos n hp
  have h2 := Int.fmod_lt_of_pos n hp
  omega
theorem ways_nat {k : Nat} (n : Int) (hk : k < 4) : ∃ m : Nat, waysF k n = (m : Int) + 1 ∧ m < ([3, 7, 15, 15].getD k 1 : Nat) := by
  have h := ways_range (k := k) n
  refine ⟨(waysF k n - 1).toNat, by omega, ?_⟩
  have e : ((([3, 7, 15, 15].getD k 1 : Nat) : Nat) : Int) = ([3, 7, 15, 15].getD k 1 : Int) := by rcases four4 hk with rfl | rfl | rfl | rfl <;> rfl
  omega
theorem any_way : ∀ m : Nat, m < 15 → ((((m : Int) + 1).fmod 2 == 1) || ((((m : Int) + 1).fdiv 4).fmod 2 == 1) || (((m : Int) + 1).fdiv 8 == 1) || ((((m : Int) + 1).fdiv 2).fmod 2 == 1)) = true := by decide +kernel
theorem lineOf_ok (k : Nat) (n : Int) (hk : k < 4) : (lineOf k n).Ok := by
  have h1 := fmod4 (n.fdiv 15)
  have h2 := fmod4 (n.fdiv 60)
  obtain ⟨m, e, hm⟩ := ways_nat (k := k) n hk
  refine ⟨(Int.toNat_lt h1.1).mpr h1.2, (Int.toNat_lt h2.1).mpr h2.2, ?_⟩
  show (((waysF k n).fmod 2 == 1) || (((waysF k n).fdiv 4).fmod 2 == 1) || ((waysF k n).fdiv 8 == 1) || (((waysF k n).fdiv 2).fmod 2 == 1)) = true
  rw [e]
  exact any_way m (Nat.lt_of_lt_of_le hm (by rcases four4 hk with rfl | rfl | rfl | rfl <;> decide))
theorem lt_codes {i : Nat} (h : i < 4) : (([("<" : Str), "<=", "<<", "<<="]).getD i "").cps.toList = ltC i := by
  rcases four4 h with rfl | rfl | rfl | rfl <;> decide +kernel
theorem gt_codes {i : Nat} (h : i < 4) : (([(">" : Str), ">=", ">>", ">>="]).getD i "").cps.toList = gtC i := by
  rcases four4 h with rfl | rfl | rfl | rfl <;> decide +kernel
theorem app_codes (a b : Str) : (a ++ b).cps.toList = a.cps.toList ++ b.cps.toList := by
  show (a.cps ++ b.cps).toList = _
  simp
theorem if_codes (b : Bool) (x y : Str) : (if b = true then x ++ y else x).cps.toList = x.cps.toList ++ (if b = true then y.cps.toList else []) := by
  cases b
  · exact (List.append_nil _).symm
  · exact app_codes x y
theorem line_codes (k : Nat) (n : Int) : (lineF k n).cps.toList = (lineOf k n).codes := by
  have h1 := fmod4 (n.fdiv 15)
  have h2 := fmod4 (n.fdiv 60)
  have e1 := lt_codes (i := ((n.fdiv 15).fmod 4).toNat) ((Int.toNat_lt h1.1).mpr h1.2)
  have e2 := gt_codes (i := ((n.fdiv 60).fmod 4).toNat) ((Int.toNat_lt h2.1).mpr h2.2)
  have ea : (Str.ofString "a").cps.toList = [97] := by decide +kernel
  have eb : (Str.ofString "b").cps.toList = [98] := by decide +kernel
  have e0 : (Str.ofString "").cps.toList = [] := by decide +kernel
  have l0 : (line0 k n).cps.toList = if ((waysF k n).fmod 2 == 1) = true then ltC ((n.fdiv 15).fmod 4).toNat else [] := by
    unfold line0
    cases (waysF k n).fmod 2 == 1
    · exact e0
    · exact e1
  unfold lineF line2 line1 LineB.codes lineOf lineC
  rw [if_codes, if_codes, if_codes, l0, ea, eb, e2, List.append_assoc, List.append_assoc]
theorem text_codes (ns : List Int) : (textF ns).cps.toList = (lineOf 0 (ns.getD 0 0)).codes ++ 44 :: ((lineOf 1 (ns.getD 1 0)).codes ++ 44 :: ((lineOf 2 (ns.getD 2 0)).codes ++ 44 :: (lineOf 3 (ns.getD 3 0)).codes)) := by
  have ec : (Str.ofString ",").cps.toList = [44] := by decide +kernel
  show (Builtin.Str.glued (Str.ofString ",") [lineF 0 (ns.getD 0 0), lineF 1 (ns.getD 1 0), lineF 2 (ns.getD 2 0), lineF 3 (ns.getD 3 0)]).cps.toList = _
  unfold Builtin.Str.glued
  simp only [List.drop_succ_cons, List.drop_zero, List.foldl_cons, List.foldl_nil, List.headD_cons, Array.toList_append, line_codes, ec, List.append_assoc, List.cons_append, List.nil_append]
noncomputable def symsN (ns : List Int) : List Int := syms4 fun k => (lineOf k (ns.getD k 0)).syms
theorem text_lex (ns : List Int) : ∃ f, lexN f (textF ns).cps.toList = some (symsN ns) := by
  rw [text_codes]
  exact lex_text (l := fun k => lineOf k (ns.getD k 0)) fun k hk => lineOf_ok k _ hk
theorem codes_all : ∀ i, i < 4 → ∀ j, j < 4 → ∀ b0 b2 b3 b1 : Bool, (lineC b0 b2 b3 b1 i j).all (fun c => sixC.contains c) = true := by decide +kernel
theorem codes_six {l : LineB} (h : l.Ok) : ∀ c ∈ l.codes, c ∈ sixC := fun c hc => List.contains_iff_mem.mp (List.all_eq_true.mp (codes_all _ h.i _ h.j l.b0 l.b2 l.b3 l.b1) c hc)
theorem text_six (ns : List Int) : ∀ c ∈ (textF ns).cps.toList, c ∈ sixC := by
  rw [text_codes]
  have h : ∀ k, k < 4 → ∀ c ∈ (lineOf k (ns.getD k 0)).codes, c ∈ sixC := fun k hk => codes_six (lineOf_ok k _ hk)
  intro c hc
  rcases List.mem_append.mp hc with hc | hc
  · exact h 0 (by decide) c hc
  · rcases List.mem_cons.mp hc with rfl | hc
    · decide
    · rcases List.mem_append.mp hc with hc | hc
      · exact h 1 (by decide) c hc
      · rcases List.mem_cons.mp hc with rfl | hc
        · decide
        · rcases List.mem_append.mp hc with hc | hc
          · exact h 2 (by decide) c hc
          · rcases List.mem_cons.mp hc with rfl | hc
            · decide
            · exact h 3 (by decide) c hc
theorem syms_small (ns : List Int) : (symsN ns).length ≤ 1000 := by
  have h : ∀ k, k < 4 → (lineOf k (ns.getD k 0)).syms.length ≤ 4 := fun k hk => (lineOf_ok k _ hk).le
  have h0 := h 0 (by decide); have h1 := h 1 (by decide); have h2 := h 2 (by decide); have h3 := h 3 (by decide)
  unfold symsN syms4
  simp only [List.length_append, List.length_cons]
  omega
theorem text_small (ns : List Int) : (textF ns).length ≤ 1000 := by
  have h : ∀ k, (lineF k (ns.getD k 0)).length ≤ 8 := fun k => len3 _ _
  have e : ∀ k, (lineOf k (ns.getD k 0)).codes.length ≤ 8 := fun k => by rw [← line_codes]; have := h k; unfold Str.length at this; simpa using this
  have h0 := e 0; have h1 := e 1; have h2 := e 2; have h3 := e 3
  have := congrArg List.length (text_codes ns)
  simp only [List.length_append, List.length_cons] at this
  have hh : (textF ns).cps.toList.length = (textF ns).length := by unfold Str.length; simp
  omega
theorem syms_ok (ns : List Int) : ∀ a ∈ symsN ns, a ≠ 0 := by
  have h : ∀ k, k < 4 → ∀ a ∈ (lineOf k (ns.getD k 0)).syms, a ≠ 12 ∧ a ≠ 0 := fun k hk => syms_ne (lineOf_ok k _ hk).i (lineOf_ok k _ hk).j
  intro a ha
  unfold symsN syms4 at ha
  simp only [List.mem_append, List.mem_cons] at ha
  rcases ha with ha | rfl | ha | rfl | ha | rfl | ha
  · exact (h 0 (by decide) a ha).2
  · decide
  · exact (h 1 (by decide) a ha).2
  · decide
  · exact (h 2 (by decide) a ha).2
  · decide
  · exact (h 3 (by decide) a ha).2
noncomputable def rowN (ns : List Int) (k : Nat) : List Nat := let l := lineOf k (ns.getD k 0); spotsW l.b0 l.b2 l.b3 l.b1
theorem rows_of_syms (ns : List Int) : rowsR (symsN ns) = [(rowN ns 3).map fun a : Nat => (a : Int), (rowN ns 2).map fun a : Nat => (a : Int), (rowN ns 1).map fun a : Nat => (a : Int), (rowN ns 0).map fun a : Nat => (a : Int)] := by
  unfold symsN
  have h : ∀ k, k < 4 → (lineOf k (ns.getD k 0)).Ok := fun k hk => lineOf_ok k _ hk
  have e : ∀ k, k < 4 → (lineOf k (ns.getD k 0)).syms.map spotF = (rowN ns k).map fun a : Nat => (a : Int) := fun k hk => syms_spots (h k hk).i (h k hk).j
  have n : ∀ k, k < 4 → ∀ a ∈ (lineOf k (ns.getD k 0)).syms, a ≠ 12 := fun k hk a ha => (syms_ne (h k hk).i (h k hk).j a ha).1
  have := rows4 (s := fun k => if k < 4 then (lineOf k (ns.getD k 0)).syms else []) (fun k a ha => by
    by_cases hk : k < 4
    · rw [if_pos hk] at ha; exact n k hk a ha
    · rw [if_neg hk] at ha; exact nomatch ha)
  rw [← e 0 (by decide), ← e 1 (by decide), ← e 2 (by decide), ← e 3 (by decide)]
  exact this
end
end Mine
end
section
open PySem PySem.W PySem.Calls PyProof.Rows
set_option maxRecDepth 100000
set_option maxHeartbeats 2000000
set_option linter.unusedVariables false
namespace Mine
variable {g : G}
theorem pickS {a b c d : Str} {i : Int} (h : 0 ≤ i ∧ i < 4) : [isS a, isS b, isS c, isS d][i.toNat]? = some (isS ([a, b, c, d].getD i.toNat "")) :=
  four (P := fun k => [isS a, isS b, isS c, isS d][k]? = some (isS ([a, b, c, d].getD k ""))) rfl rfl rfl rfl ((Int.toNat_lt h.1).mpr h.2)
theorem strs_snoc {y : Str} {v : Value} (hv : isS y v) : ∀ {vs : List Value} {ys : List Str}, StrsAre vs ys → StrsAre (vs ++ [v]) (ys ++ [y])
  | _, _, .nil => by obtain ⟨t, rfl⟩ := hv; exact .cons _ _ .nil
  | _, _, .cons _ _ h => .cons _ _ (strs_snoc hv h)
theorem text_says {D : Addr} {ns : List Int} {nv : List Value} {nn0 : Nat} {vs : List Value} (hD : (D, listOf nv.toArray nn0) ∈ g.n) (hn : Four ns nv) (hk : 2 ≤ g.k) (hv : All2 [isR D] vs) : CallAt g 141 vs (Called g (Val (isS (textF ns)))) := by
  obtain ⟨x, _, rfl, hV, rfl⟩ := hv
  have hk1 : 1 ≤ g.k - 1 := Nat.le_sub_of_add_le hk
  refine' CallAt.of ?ho ?hcd ?hb ?hkind ?hg ?hk [("numbers", isR D)] ?hms ?h; (case ho => exact rfl); (case hcd => exact rfl); (case hb => exact fun s => BindsTo.of_eq rfl); (case hkind => exact rfl); (case hg => exact ⟨rfl, rfl, rfl⟩); (case hk => exact Nat.le_trans (by decide) hk); (case hms => (intro L'; (repeat' (first | exact rds_nil | refine' rds_cons (.inl ⟨rfl, rfl⟩) ?_ ?_ | refine' rds_cons (.inr ⟨rfl, rfl, rfl⟩) ?_ ?_)); all_goals first | assumption | exact rfl | exact ⟨_, rfl⟩)); (case' h => intro c cells hlo keep hcl)
  case h =>
    refine Ex.asgG (EvG.list Evs.nil (by decide)) (.inl rfl) ?_ rfl
    rintro _ s q
    cases q with | mk d vs hv ha lt S =>
    cases hv
    cases (ha : vs = [])
    refine ⟨isR d, _, _, rfl, S, ?_⟩
    clear S
    have off : ∀ p ∈ g.n ++ cells, p.1 ≠ d := fun p hp => Nat.ne_of_lt (lt p hp)
    refine Ex.for (fun i m n t => ∃ vs nn, StrsAre vs (linesF ns i) ∧ vs.length = i ∧ m = [(("lines" : Str), isR d), ("numbers", isR D)] ∧ n = (d, listOf vs.toArray nn) :: (g.n ++ cells) ∧ t = c.t) (fun _ _ _ => False) (Iters.range (N := 4) (Ev.built rfl rfl rfl (by decide) rfl) Ev.int (fun _ => ⟨_, _, rfl, rfl⟩) rfl (by decide)) (fun _ _ _ _ _ _ h => nomatch h) ⟨[], 0, .nil, rfl, rfl, rfl, rfl⟩ (.inl rfl) (fun _ => rfl) ?_ (fun _ _ _ h => h.elim) ?_
    · rintro i m n t it o hi ⟨vs, nn, hs, hl, rfl, rfl, rfl⟩ hit
      have dit : d ≠ it := hit _ (.head _)
      obtain ⟨v, hv, hI⟩ := hn i hi
      have hDn : (D, listOf nv.toArray nn0) ∈ (it, o) :: (d, listOf vs.toArray nn) :: (g.n ++ cells) := .tail _ (.tail _ (List.mem_append_left _ hD))
      repeat' (first
        | ((with_reducible show Ev _ (Expr.Call (Expr.Name (Str.ofString "_law_ways") _) _ _ _) _); refine' Ev.call (f := 134) (Vs := [isR D, isI (i : Int)]) (W := isI (waysF i (ns.getD i 0))) ?_ ?_ ?_ ?_ (fun vs hv => ways_says hDn hn hi hk1 hv))
        | ((with_reducible show Ex (G.mk _ _ _ _ ((_, isS (Str.ofString "")) :: _) _ _) ((Stmt.If _ [_] [] _ :: _) :: _) _); refine' Ex.ifAsg (V := isS (line0 i (ns.getD i 0))) ?_ ?_ ?_ (.inl rfl) rfl ?_)
        | ((with_reducible show Ex (G.mk _ _ _ _ ((_, isS (line0 _ _)) :: _) _ _) ((Stmt.If _ [_] [] _ :: _) :: _) _); refine' Ex.ifAsg (V := isS (line1 i (ns.getD i 0))) ?_ ?_ ?_ (.inl rfl) rfl ?_)
        | ((with_reducible show Ex (G.mk _ _ _ _ ((_, isS (line1 _ _)) :: _) _ _) ((Stmt.If _ [_] [] _ :: _) :: _) _); refine' Ex.ifAsg (V := isS (line2 i (ns.getD i 0))) ?_ ?_ ?_ (.inl rfl) rfl ?_)
        | ((with_reducible show Ex (G.mk _ _ _ _ ((_, isS (line2 _ _)) :: _) _ _) ((Stmt.If _ [_] [] _ :: _) :: _) _); refine' Ex.ifAsg (V := isS (lineF i (ns.getD i 0))) ?_ ?_ ?_ (.inl rfl) rfl ?_)
        | ((with_reducible show _ = true → Ev _ _ _); intro hb; refine' Ev.conv ?_ (congrArg isS (if_pos hb).symm))
        | ((with_reducible show _ = false → List.lookup _ _ = _); intro hb; exact congrArg (fun y => some (isS y)) (if_neg (by rw [hb]; decide)).symm)
        | ((with_reducible show Cm _ CmpOp.Eq (isI _) (isI _) _); exact Cm.eqI rfl)
        | ((with_reducible show Ev _ (Expr.Subscript (Expr.Name _ _) _ _) _); refine' Ev.sub ?_ ?_ (It.list (k := (i : Int)) (l := D) (vs := nv) (nn := nn0) ?_ (Int.natCast_nonneg i) (small63 hi) hv hI ?_))
        | ((with_reducible show (D, _) ∈ _); repeat (first | exact hDn | refine List.Mem.tail _ ?_))
        | ((with_reducible show Ev _ (Expr.Subscript (Expr.Tuple _ _ _) (Expr.BinOp (Expr.BinOp _ _ (Expr.Constant (Const.int 15) _ _) _) _ _ _) _) _); refine' Ev.subTup (k := ((ns.getD i 0).fdiv 15).fmod 4) ?_ ?_ ?_ (fmod4 _).1 (Int.lt_trans (fmod4 _).2 (by decide)) (pickS (fmod4 _)) ?_)
        | ((with_reducible show Ev _ (Expr.Subscript (Expr.Tuple _ _ _) _ _) _); refine' Ev.subTup (k := ((ns.getD i 0).fdiv 60).fmod 4) ?_ ?_ ?_ (fmod4 _).1 (Int.lt_trans (fmod4 _).2 (by decide)) (pickS (fmod4 _)) ?_)
        | ((with_reducible show ∀ (d : Addr) (o : Obj), Ev _ _ _); intro d o)
        | ((with_reducible show (line0 _ _).length + _ ≤ sizeLine); exact Nat.le_trans (Nat.add_le_add (len0 _ _) (Nat.le_refl _)) (Nat.le_of_ble_eq_true rfl))
        | ((with_reducible show (line1 _ _).length + _ ≤ sizeLine); exact Nat.le_trans (Nat.add_le_add (len1 _ _) (Nat.le_refl _)) (Nat.le_of_ble_eq_true rfl))
        | ((with_reducible show (line2 _ _).length + _ ≤ sizeLine); exact Nat.le_trans (Nat.add_le_add (len2 _ _) (getD_len (b := 3) (by decide))) (Nat.le_of_ble_eq_true rfl))
        | ((with_reducible show ¬ (_ == _) = true); decide)
        | ((with_reducible show ¬ (Builtin.divisionGoesByPylong _ _) = true); exact no_pylong (by decide))
        | ((with_reducible show Ex _ ((Stmt.Expr _ _ :: _) :: _) _); refine' Ex.append (l := d) (vs := vs) (nn := nn) ?_ ?_ ?_ ?_ ?_ ⟨_, rfl⟩ rfl rfl rfl)
        | ((with_reducible show (d, _) ∈ _); exact .tail _ (.head _))
        | ((with_reducible show EvG _ (Expr.Name _ _) _); exact Ev.name (V := isS (lineF i (ns.getD i 0))) rfl rfl)
        | ((with_reducible show List.length _ ≤ sizeLine); exact Nat.le_trans (Nat.le_of_lt (hl ▸ hi)) (Nat.le_of_ble_eq_true rfl))
        | ((with_reducible show Ev _ (Expr.Name _ _) _); (first | exact Ev.name rfl rfl | exact Ev.globR rfl rfl rfl | exact Ev.globI rfl rfl rfl | exact Ev.nameL rfl rfl | exact Ev.nameC rfl rfl rfl rfl rfl | exact Ev.built rfl rfl rfl (by decide) rfl))
        | ((with_reducible show Ev _ (Expr.Constant _ _ _) _); first | (with_reducible exact Ev.int) | (with_reducible exact Ev.flt) | (with_reducible exact Ev.str) | (with_reducible exact Ev.bool))
        | ((with_reducible show Ev _ (Expr.BinOp _ _ _ _) _); with_reducible refine' Ev.bin ?_ ?_ ?_)
        | ((with_reducible show Ev _ (Expr.IfExp _ _ _ _) _); with_reducible refine' Ev.ite ?_ ?_ ?_)
        | ((with_reducible show Tr _ (Expr.Compare _ _ _ _) _); with_reducible refine' Tr.cmp ?_ ?_ ?_ rfl)
        | ((with_reducible show Ev _ (Expr.Compare _ _ _ _) _); with_reducible refine' Ev.cmp ?_ ?_ ?_ rfl)
        | ((with_reducible show Tr _ (Expr.Call _ _ _ _) _); with_reducible refine' Tr.val ?_ Tv.bool rfl)
        | ((with_reducible show Tr _ (Expr.UnaryOp UnaryOp.Not _ _) _); with_reducible refine' Tr.not ?_)
        | ((with_reducible show Tr _ (Expr.BoolOp BoolOp.And [] _) _); with_reducible exact Tr.andNil)
        | ((with_reducible show Tr _ (Expr.BoolOp BoolOp.And _ _) _); with_reducible refine' Tr.and ?_ ?_)
        | ((with_reducible show Tr _ (Expr.BoolOp BoolOp.Or [] _) _); with_reducible exact Tr.orNil)
        | ((with_reducible show Tr _ (Expr.BoolOp BoolOp.Or _ _) _); with_reducible refine' Tr.or ?_ ?_)
        | ((with_reducible show _ = _ → Tr _ _ _); intro hb)
        | ((with_reducible show Evs _ [] _); exact Evs.nil)
        | ((with_reducible show Evs _ (_ :: _) (Pure _ _)); refine' Evs.cons ?_ ?_ rfl)
        | ((with_reducible show Pl _ _); exact fun _ => ⟨_, _, rfl, rfl⟩)
        | ((with_reducible show isFn _ _ = true); exact rfl)
        | ((with_reducible show Ex _ ((Stmt.If _ _ _ _ :: _) :: _) _); refine' Ex.iff ?_ ?_)
        | ((with_reducible show Ex _ ([] :: _) _); refine' Ex.pop ?_)
        | ((with_reducible show Ex _ ((cond true _ _) :: _) _); dsimp only [cond_true])
        | ((with_reducible show Ex _ ((cond false _ _) :: _) _); dsimp only [cond_false])
        | ((with_reducible show _ ≤ sizeLine); exact Nat.le_of_ble_eq_true rfl)
        | ((with_reducible show _ = _); assumption)
        | ((with_reducible show ¬ _); assumption)
        | ((with_reducible show Ex _ ((Stmt.Assign _ _ _ :: _) :: _) _); refine' Ex.asg ?_ (.inl rfl) rfl ?_)
        | ((with_reducible show _ = pure false); exact rfl)
        | ((with_reducible show ∀ u : Tok, Subs _ _ _); (intro u; with_unfolding_all rfl))
        | ((with_reducible show ∀ (l : Addr) (u : Tok), Subs _ _ _); (intro l u; with_unfolding_all rfl))
        | ((with_reducible show ∀ (t u : Tok), Subs _ _ _); (intro l u; with_unfolding_all rfl))
        | ((with_reducible show Bi _ Operator.Add _ _ _); first | (with_reducible exact Bi.addI) | (with_reducible exact Bi.addF) | (with_reducible refine' Bi.addS ?_))
        | ((with_reducible show Bi _ Operator.Sub _ _ _); first | (with_reducible exact Bi.subI) | (with_reducible exact Bi.subF) | (with_reducible refine' Bi.subFI ?_))
        | ((with_reducible show Bi _ Operator.Mult _ _ _); first | (with_reducible exact Bi.mulF) | (with_reducible refine' Bi.mulIF ?_))
        | ((with_reducible show Bi _ Operator.Div _ _ _); first | (with_reducible refine' Bi.divF ?_) | (with_reducible refine' Bi.divFI ?_ ?_) | (with_reducible refine' Bi.divII ?_ ?_))
        | ((with_reducible show Bi _ Operator.Mod _ _ _); first | (with_reducible refine' Bi.modI ?_) | (with_reducible refine' Bi.modF ?_))
        | ((with_reducible show Bi _ Operator.FloorDiv _ _ _); first | (with_reducible refine' Bi.divI ?_ ?_))
        | ((with_reducible show Bi _ Operator.LShift _ _ _); first | (with_reducible refine' Bi.shl ?_ ?_ ?_))
        | ((with_reducible show Bi _ Operator.RShift _ _ _); first | (with_reducible refine' Bi.shr ?_))
        | ((with_reducible show Bi _ Operator.BitAnd _ _ _); first | (with_reducible exact Bi.and))
        | ((with_reducible show Bi _ Operator.BitOr _ _ _); first | (with_reducible exact Bi.or)))
      intro v' s' a
      refine ⟨_, _, (it, o) :: (g.n ++ cells), a.2, .tail _ (.head _), fun p hp => ?_, fun p hp => ?_, fun nn' => Ex.pop (Ex.nil fun s S => ?_)⟩
      · exact (List.mem_cons.mp hp).elim (fun e => e ▸ .head _) fun h => .tail _ (.tail _ h)
      · exact (List.mem_cons.mp hp).elim (fun e => e ▸ Ne.symm dit) (off p)
      · exact ⟨[(("lines" : Str), isR d), ("numbers", isR D)], (d, listOf (vs ++ [v']).toArray nn') :: (g.n ++ cells), _, (S.less (fun p hp => by
          rcases List.mem_cons.mp hp with rfl | hp
          · exact .tail _ (.head _)
          · rcases List.mem_cons.mp hp with rfl | hp
            · exact .head _
            · exact .tail _ (.tail _ hp)) trivial).sub (sub_cons rfl (sub_cons rfl sub_nil)), fun p hp => (List.mem_cons.mp hp).elim (fun e => e ▸ dit) fun h => hit p (.tail _ h), vs ++ [v'], nn', linesF_succ ns i ▸ strs_snoc a.1 hs, by rw [List.length_append, hl]; rfl, rfl, rfl, rfl⟩
    · rintro m n t ⟨vs, nn, hs, hl, rfl, rfl, rfl⟩
      exact Ex.ret (Ev.join (l := d) (Ev.name rfl rfl) (.head _) hs (by decide) (text_fits ns) ⟨_, rfl⟩ rfl) fun v s a => back_val ⟨a.1, a.2.less (fun p hp => .tail _ hp) trivial⟩
end Mine
end
section
open PySem PySem.W PySem.Calls PyProof.Rows
set_option maxRecDepth 100000
set_option maxHeartbeats 2000000
set_option linter.unusedVariables false
namespace Mine
variable {g : G}
/-- a call whose first argument is a tuple made for it -/
theorem Ev.callTup {x : Str} {p tp pos : Pos} {es : List Expr} {e2 : Expr} {kk : Nat} {f : Addr} {Vs : List VP} {V2 W : VP} (hf : Ev g (.Name x p) (isR f)) (he : Evs g es (Pure g Vs)) (hl : Vs.length ≤ sizeLine) (h2 : ∀ d o, Ev { g with n := (d, o) :: g.n } e2 V2) (hp : Pl g [.Tuple es kk tp, e2]) (hfn : isFn g.c f = true)
    (C : ∀ d vs v2, All2 Vs vs → V2 v2 → CallAt { g with n := (d, tupOf vs) :: g.n } f [.ref d, v2] (Called { g with n := (d, tupOf vs) :: g.n } (Val W))) (hst : starEach [.Tuple es kk tp, e2] g.env = [(false, eval (.Tuple es kk tp) g.env), (false, eval e2 g.env)]) :
    Ev g (.Call (.Name x p) [.Tuple es kk tp, e2] [] pos) W :=
  EvG.callG (R := fun vs s => ∃ d ws v2, vs = [.ref d, v2] ∧ All2 Vs ws ∧ V2 v2 ∧ St { g with n := (d, tupOf ws) :: g.n } s ∧ LayOk (g.c.env g.cs) g.n g.y) hf (fun pos Q E s po S q => by
    rw [hst]
    exact spliced_cons (EvG.tup (k := kk) (pos := tp) he hl _ _ _ po S fun v s1 a => by
      cases a with | mk d vs hv ha lt S1 =>
      subst hv
      exact spliced_cons (h2 d (tupOf vs) _ _ _ po S1 fun v2 s2 b => spliced_nil (q _ _ ⟨d, vs, v2, rfl, ha, b.1, b.2, S.y⟩)))) hp hfn fun vs s a => by
    obtain ⟨d, ws, v2, rfl, ha, h2, S, y⟩ := a
    exact ⟨⟨_, S⟩, fun Q E q => C d ws v2 ha h2 s S Q E fun v s' c => q v s' ⟨c.val.1, c.val.2.less (fun p hp => .tail _ hp) y⟩⟩
theorem spot_says {a : Int} {vs : List Value} (hk : 2 ≤ g.k) (hv : All2 [isI a] vs) : CallAt g 148 vs (Called g (Val (isI (spotF a)))) := by
  obtain ⟨x, _, rfl, hV, rfl⟩ := hv
  have hk1 : 1 ≤ g.k - 1 := Nat.le_sub_of_add_le hk
  refine' CallAt.of ?ho ?hcd ?hb ?hkind ?hg ?hk [("symbol", isI a)] ?hms ?h; (case ho => exact rfl); (case hcd => exact rfl); (case hb => exact fun s => BindsTo.of_eq rfl); (case hkind => exact rfl); (case hg => exact ⟨rfl, rfl, rfl⟩); (case hk => exact Nat.le_trans (by decide) hk); (case hms => (intro L'; (repeat' (first | exact rds_nil | refine' rds_cons (.inl ⟨rfl, rfl⟩) ?_ ?_ | refine' rds_cons (.inr ⟨rfl, rfl, rfl⟩) ?_ ?_)); all_goals first | assumption | exact rfl | exact ⟨_, rfl⟩)); (case' h => intro c cells hlo keep hcl)
  case h =>
    cases h1 : decide (a < 256)
    · refine Ex.iff (Tr.val (Ev.call (f := 108) (Vs := [isI a]) (W := isB false) (Ev.globR rfl rfl rfl) (Evs.cons (Ev.name rfl rfl) Evs.nil rfl) (fun _ => ⟨_, _, rfl, rfl⟩) rfl (fun vs hv => h1 ▸ ISTERMINAL_says hk1 hv)) Tv.bool rfl) (Ex.pop (Ex.retW (Ev.bin (Ev.bin (Ev.name rfl rfl) (Ev.globI rfl rfl rfl) Bi.subI) Ev.int Bi.addI) (congrArg isI ?_)))
      unfold spotF; rw [h1]; rfl
    · refine Ex.iff (Tr.val (Ev.call (f := 108) (Vs := [isI a]) (W := isB true) (Ev.globR rfl rfl rfl) (Evs.cons (Ev.name rfl rfl) Evs.nil rfl) (fun _ => ⟨_, _, rfl, rfl⟩) rfl (fun vs hv => h1 ▸ ISTERMINAL_says hk1 hv)) Tv.bool rfl) (Ex.retW (W' := isI (if [20, 29, 33, 44].any (· == a) then 0 else 1)) (Ev.ite (b := [20, 29, 33, 44].any (· == a)) (Tr.val (Ev.callTup (f := 84) (Vs := [isI 20, isI 29, isI 33, isI 44]) (V2 := isI a) (W := isB ([20, 29, 33, 44].any (· == a))) (Ev.globR rfl rfl rfl) (Evs.cons Ev.int (Evs.cons Ev.int (Evs.cons Ev.int (Evs.cons Ev.int Evs.nil rfl) rfl) rfl) rfl) (Nat.le_of_ble_eq_true rfl) (fun d o => Ev.name rfl rfl) (fun _ => ⟨_, _, rfl, rfl⟩) rfl (fun d vs v2 hv h2 => contains_says (V := isR d) (U := isI a) (fun g' sub => Cm.inTup (ns := [20, 29, 33, 44]) (sub _ (.head _)) (ints_of hv)) hk1 ⟨_, _, rfl, rfl, _, _, rfl, h2, rfl⟩) rfl) Tv.bool rfl) (fun hb => Ev.conv Ev.int (by rw [if_pos hb])) (fun hb => Ev.conv Ev.int (by rw [if_neg]; rw [hb]; decide))) (congrArg isI ?_))
      unfold spotF; rw [h1]; rfl
theorem Enumd.mono {hit : Nat} {V V' : Nat → VP} {l : Led} {v : Value} {s : Shared} (h : Enumd g hit V l v s) (k : ∀ i v, V i v → V' i v) : Enumd g hit V' l v s := by
  cases h with | mk e it Z hv en nx z S aE aI ne =>
  exact ⟨e, it, Z, hv, en, ⟨fun A i s Q E h1 h2 h3 q => nx.item A i s Q E h1 h2 h3 fun v h' tk hv => q v h' tk (k i v hv), nx.frame, nx.live⟩, z, S, aE, aI, ne⟩
/-- indexOf(text, sign), the sign made now -/
theorem Ev.indexS {x0 : Str} {p pos : Pos} {e1 e2 : Expr} {x : Str} {y hit : Nat} (hf : Ev g (.Name x0 p) (isR 98)) (h1 : Ev g e1 (isS x)) (h2 : EvG g e2 fun v s' => (∃ u : Nat, v = .str ⟨#[y]⟩ u ∧ u ≠ 0 ∧ u < s'.toks) ∧ St g s') (hp : Pl g [e1, e2]) (hst : starEach [e1, e2] g.env = [(false, eval e1 g.env), (false, eval e2 g.env)]) (hk : 1 ≤ g.k)
    (hfn : isFn g.c 98 = true) (hasc : x.cps.all (· < 128) = true) (hhit : hit < x.cps.size) (hy : x.cps[hit]? = some y) (hne : ∀ i z, i < hit → x.cps[i]? = some z → z ≠ y) : Ev g (.Call (.Name x0 p) [e1, e2] [] pos) (isI (hit : Int)) :=
  EvG.callG hf (Evs.two h1 h2 hst) hp hfn fun vs s a => by
    obtain ⟨v1, v2, rfl, ⟨t1, rfl⟩, ⟨u, rfl, hu0, hu⟩, S⟩ := a
    refine ⟨⟨_, S⟩, fun Q E q => ?_⟩
    have ne : ∀ i z, i < hit → x.cps[i]? = some z → (⟨#[z]⟩ : Str) ≠ ⟨#[y]⟩ := fun i z h e q => hne i z h e (by simpa using congrArg (fun s : Str => s.cps) q)
    refine indexOf_says (g := { g with t := s.toks }) (V := fun i v => ∃ c, ∃ w : Nat, x.cps[i]? = some c ∧ v = .str ⟨#[c]⟩ w ∧ s.toks ≤ w) (l := []) (fun _ h => nomatch h) (fun g' _ ht {_ _ _ _} hf ha hst hp => EvG.mono (EvG.enumS (x := x) hf (Evs.cons (V := isS x) (EvG.mono ha fun v s r => ⟨⟨t1, r.1⟩, r.2⟩) Evs.nil hst) hp hasc hhit) fun v s e => e.mono fun i v ⟨c, w, h1, h2, h3⟩ => ⟨c, w, h1, h2, Nat.le_trans ht h3⟩)
      (fun g' i v hi _ ⟨c, w, hc, hv, hw⟩ => ?_) (fun g' v ⟨c, w, hc, hv, hw⟩ => ?_) hk s S.raise Q E fun v s' r => q v s' (r.low S.t S.t0).val
    · subst hv
      exact ⟨IsB.str (Nat.ne_of_gt (Nat.lt_of_le_of_lt (Nat.zero_le _) (Nat.lt_of_lt_of_le hu hw))) hu0 fun _ => ⟨ne i c hi hc, Nat.ne_of_gt (Nat.lt_of_lt_of_le hu hw)⟩, fun a b ha hb => Cm.eqSS (beq_eq_false_iff_ne.mpr (ne i c hi hc)) a b ⟨w, ha⟩ ⟨u, hb⟩⟩
    · subst hv
      cases Option.some.inj (hc.symm.trans hy)
      exact ⟨IsB.str (Nat.ne_of_gt (Nat.lt_of_le_of_lt (Nat.zero_le _) (Nat.lt_of_lt_of_le hu hw))) hu0 (fun h => nomatch h), fun a b ha hb => Cm.eqSS (beq_self_eq_true _) a b ⟨w, ha⟩ ⟨u, hb⟩⟩
end Mine
end
section
open PySem PySem.W PySem.Calls PyProof.Rows
set_option maxRecDepth 100000
set_option maxHeartbeats 4000000
set_option linter.unusedVariables false
namespace Mine
variable {g : G}
/-- what `_law_symbols` leaves -/
noncomputable def SymRet (syms : List Int) : Nat → Nat → Led → Value → Prop := fun _ _ tl r => ∃ D ws nn, tl = [(D, listOf ws.toArray nn)] ∧ r = .ref D ∧ All2 ((syms ++ [0]).map isI) ws
theorem all2_app : ∀ {Vs Us : List VP} {vs us : List Value}, All2 Vs vs → All2 Us us → All2 (Vs ++ Us) (vs ++ us)
  | [], _, _, _, e, k => by cases e; exact k
  | _ :: _, _, _, _, ⟨v, r, e, h, i⟩, k => by subst e; exact ⟨v, _, rfl, h, all2_app i k⟩
theorem all2_snoc {V : VP} {v : Value} (hv : V v) {Vs : List VP} {vs : List Value} (h : All2 Vs vs) : All2 (Vs ++ [V]) (vs ++ [v]) := all2_app h ⟨v, [], rfl, hv, rfl⟩
section
variable {prog : Program} {w : World} {A : Around} {E : Value → Shared → Prop} {s : Shared} {a b : Int} {t u : Tok} {Q : Value → Shared → Prop}
theorem iadd_int (h : Q (.int (a + b) s.toks) { s with toks := s.toks + 1 }) : wpAny (model prog w) A (inplaceOp .Add (.int a t) (.int b u)) Q E s := by
  walk1; exact h
theorem isub_int (h : Q (.int (a - b) s.toks) { s with toks := s.toks + 1 }) : wpAny (model prog w) A (inplaceOp .Sub (.int a t) (.int b u)) Q E s := by
  walk1; exact h
end
theorem contains_at {g : G} {x : Str} {p pos : Pos} {e1 e2 : Expr} {V U : VP} {b : Bool} (hf : Ev g (.Name x p) (isR 84)) (h1 : Ev g e1 V) (h2 : Ev g e2 U) (hst : starEach [e1, e2] g.env = (false, eval e1 g.env) :: starEach [e2] g.env) (hst2 : starEach [e2] g.env = [(false, eval e2 g.env)]) (hp : Pl g [e1, e2]) (hfn : isFn g.c 84 = true) (hk : 1 ≤ g.k)
    (h : ∀ g' : G, Cm g' .In U V b) : Ev g (.Call (.Name x p) [e1, e2] [] pos) (isB b) :=
  Ev.call hf (Evs.cons h1 (Evs.cons h2 Evs.nil hst2) hst) hp hfn fun vs hv => contains_says (fun g' _ => h g') hk hv
theorem lexN_cons {z : Nat} {l : List Nat} {c : Nat} {l' : List Nat} {rest : List Int} (e : l = c :: l') (h : lexN z l = some rest) : ∃ z' sz i rest', z = z' + 1 ∧ lexOne l = some (sz, i) ∧ lexN z' (l.drop sz) = some rest' ∧ rest = i :: rest' := by
  subst e
  cases z with
  | zero => cases h
  | succ z =>
    unfold lexN at h
    cases ho : lexOne (c :: l') with
    | none => rw [ho] at h; cases h
    | some q =>
      obtain ⟨sz, i⟩ := q
      rw [ho] at h
      obtain ⟨r', hr, hr'⟩ := Option.map_eq_some_iff.mp h
      exact ⟨z, sz, i, r', rfl, rfl, hr, hr'.symm⟩
theorem lexOne_ab {c : Nat} {l : List Nat} {sz : Nat} {i : Int} (h : lexOne (c :: l) = some (sz, i)) (hc : c = 97 ∨ c = 98) : ∃ hit : Nat, hit < 2 ∧ (c == 97 || c == 98) = true ∧ i = 256 + (hit : Int) ∧ sz = 1 ∧ (Str.ofString "ab").cps[hit]? = some c ∧ ∀ j z, j < hit → (Str.ofString "ab").cps[j]? = some z → z ≠ c := by
  have e0 : (Str.ofString "ab").cps[0]? = some 97 := by decide +kernel
  rcases hc with rfl | rfl
  · cases Option.some.inj h; exact ⟨0, by decide, rfl, rfl, rfl, e0, fun j z h => absurd h (Nat.not_lt_zero _)⟩
  · cases Option.some.inj h
    refine ⟨1, by decide, rfl, rfl, rfl, by decide +kernel, fun j z h e => ?_⟩
    cases Nat.lt_one_iff.mp h
    rw [e0] at e
    cases e; decide
theorem lexOne_tok {c : Nat} {l : List Nat} {sz : Nat} {i : Int} (h : lexOne (c :: l) = some (sz, i)) (hc : ¬ (c = 97 ∨ c = 98)) : (c == 97 || c == 98) = false ∧ sz = lexSz (c :: l) ∧ tokL.lookup ((c :: l).take sz) = some i := by
  have e : lexOne (c :: l) = (tokL.lookup ((c :: l).take (lexSz (c :: l)))).map fun i => (lexSz (c :: l), i) := by
    show (if c = 97 then _ else if c = 98 then _ else _) = _
    rw [if_neg (fun h => hc (.inl h)), if_neg (fun h => hc (.inr h))]
  rw [e] at h
  obtain ⟨j, h1, h2⟩ := Option.map_eq_some_iff.mp h
  cases h2
  refine ⟨?_, rfl, h1⟩
  rw [Bool.or_eq_false_iff, beq_eq_false_iff_ne, beq_eq_false_iff_ne]
  exact ⟨fun h => hc (.inl h), fun h => hc (.inr h)⟩
/-- between two symbols -/
noncomputable def SymJ (x : Str) (d : Addr) (n0 : Led) (t0 : Nat) (syms : List Int) (z : Nat) (m : List (Str × VP)) (n : Led) (t : Nat) : Prop :=
  ∃ (p : Nat) (vs : List Value) (nn : Nat) (done rest : List Int), m = [(("k" : Str), isI (p : Int)), ("symbols", isR d), ("text", isS x), ("letters", isS "ab")] ∧ n = (d, listOf vs.toArray nn) :: n0 ∧ t = t0 ∧ All2 (done.map isI) vs ∧ lexN z (x.cps.toList.drop p) = some rest ∧ done ++ rest = syms ∧ p ≤ 1003
theorem symbols_says {x : Str} {syms : List Int} {f : Nat} {vs : List Value} (hlex : lexN f x.cps.toList = some syms) (hsix : ∀ c ∈ x.cps.toList, c ∈ sixC) (hlen : x.length ≤ 1000) (hsy : syms.length ≤ 1000) (hk : 2 ≤ g.k) (hv : All2 [isS x, isS "ab"] vs) :
    CallAt g 127 vs (Called g (SymRet syms)) := by
  obtain ⟨v1, _, rfl, hV, v2, _, rfl, hU, rfl⟩ := hv
  have hk1 : 1 ≤ g.k - 1 := Nat.le_sub_of_add_le hk
  refine' CallAt.of ?ho ?hcd ?hb ?hkind ?hg ?hk [("text", isS x), ("letters", isS "ab")] ?hms ?h; (case ho => exact rfl); (case hcd => exact rfl); (case hb => exact fun s => BindsTo.of_eq rfl); (case hkind => exact rfl); (case hg => exact ⟨rfl, rfl, rfl⟩); (case hk => exact Nat.le_trans (by decide) hk); (case hms => (intro L'; (repeat' (first | exact rds_nil | refine' rds_cons (.inl ⟨rfl, rfl⟩) ?_ ?_ | refine' rds_cons (.inr ⟨rfl, rfl, rfl⟩) ?_ ?_)); all_goals first | assumption | exact rfl | exact ⟨_, rfl⟩)); (case' h => intro c cells hlo keep hcl)
  case h =>
    refine Ex.asgG (EvG.list Evs.nil (by decide)) (.inl rfl) ?_ rfl
    rintro _ s q
    cases q with | mk d vs hv ha lt S =>
    cases hv
    cases (ha : vs = [])
    refine ⟨isR d, _, _, rfl, S, ?_⟩
    clear S
    have off : ∀ p ∈ g.n ++ cells, p.1 ≠ d := fun p hp => Nat.ne_of_lt (lt p hp)
    refine Ex.asg Ev.int (.inl rfl) rfl ?_
    refine Ex.while (SymJ x d (g.n ++ cells) c.t syms) (z := f) ⟨0, [], 0, [], syms, rfl, rfl, rfl, rfl, hlex, rfl, Nat.zero_le _⟩ ?_
    rintro z m n t ⟨p, vs, nn, done, rest, rfl, rfl, rfl, hvs, hl, hsum, hp⟩
    have hlx : x.cps.toList.length = x.length := Array.length_toList
    have hvl : vs.length + rest.length ≤ 1000 := by
      have h1 := hvs.length
      have h2 := congrArg List.length hsum
      rw [List.length_append] at h2
      rw [List.length_map] at h1
      omega
    refine ⟨decide ((p : Int) < (x.length : Int)), ?_, ?_, ?_⟩
    · exact Tr.cmp (Ev.name rfl rfl) (Ev.len (x := x) (Ev.built rfl rfl rfl (by decide) rfl) (Evs.cons (Ev.name rfl rfl) Evs.nil rfl) (fun _ => ⟨_, _, rfl, rfl⟩) (Nat.lt_of_le_of_lt hlen (by decide))) (Cm.ltI rfl) rfl
    · intro hb
      have hlt : p < x.length := Int.ofNat_lt.mp (of_decide_eq_true hb)
      have hp62 : p < 2 ^ 62 := Nat.lt_of_le_of_lt hp (by decide)
      obtain ⟨ch, hch⟩ : ∃ ch, x.cps.toList[p]? = some ch := ⟨_, List.getElem?_eq_getElem (by rw [hlx]; exact hlt)⟩
      have hdrop : x.cps.toList.drop p = ch :: x.cps.toList.drop (p + 1) := by
        rw [List.drop_eq_getElem_cons (by rw [hlx]; exact hlt)]
        congr 1
        exact Option.some.inj ((List.getElem?_eq_getElem _).symm.trans hch)
      have hmem : ch ∈ sixC := hsix ch (List.mem_of_getElem? hch)
      obtain ⟨z, sz, i, rest', rfl, hone, hl', rfl⟩ := lexN_cons hdrop hl
      have hvz : vs.length ≤ sizeLine := Nat.le_trans (Nat.le_trans (Nat.le_add_right _ _) hvl) (by decide)
      have base : ∀ (cs9 : Scope) (mm : List (Str × VP)) (v : Value) (nn' : Nat) (s : Shared), mm.lookup (Str.ofString "k") = some (isI ((p : Int) + (sz : Int))) → mm.lookup (Str.ofString "symbols") = some (isR d) → mm.lookup (Str.ofString "text") = some (isS x) → mm.lookup (Str.ofString "letters") = some (isS "ab") → isI i v → sz ≤ 3 →
          St ⟨c, cs9, g.k - 1, c.t, mm, (d, listOf (vs ++ [v]).toArray nn') :: (g.n ++ cells), []⟩ s → Flow.next = Flow.next ∧ ∃ z', z' < z + 1 ∧ Left c cs9 (g.k - 1) (SymJ x d (g.n ++ cells) c.t syms z') s :=
        fun _ mm v nn' s e1 e2 e3 e4 hv h3 S => ⟨rfl, z, Nat.lt_succ_self _, _, _, _, S.sub (sub_cons e1 (sub_cons e2 (sub_cons e3 (sub_cons e4 sub_nil)))), p + sz, _, _, done ++ [i], rest', by rw [Int.natCast_add], rfl, rfl, by rw [List.map_append]; exact all2_snoc hv hvs, by rw [← List.drop_drop]; exact hl', by rw [← hsum, List.append_assoc]; rfl, by omega⟩
      refine Ex.asg Ev.int (.inl rfl) rfl ?_
      by_cases hab : ch = 97 ∨ ch = 98
      · rw [hdrop] at hone
        obtain ⟨hit, hhit, hc1, hi, hsz, hpick⟩ := lexOne_ab hone hab
        subst hi; subst hsz
        refine Ex.iff (Tr.val (contains_at (Ev.globR rfl rfl rfl) (Ev.name rfl rfl) (Ev.chr (x := x) (k := p) (c := ch) (Ev.name rfl rfl) (Ev.name rfl rfl) hp62 hch (fun t u => by with_unfolding_all rfl)) rfl rfl (fun _ => ⟨_, _, rfl, rfl⟩) rfl hk1 (fun g' => Cm.inSS ((inAB hmem).trans hc1))) Tv.bool rfl) ?_
        refine Ex.asg Ev.int (.inl rfl) rfl ?_
        refine Ex.append (l := d) (vs := vs) (nn := nn) (Ev.name rfl rfl) (.head _) (Ev.call (f := 49) (Vs := [isI 256, isI (hit : Int)]) (W := isI (256 + (hit : Int))) (Ev.globR rfl rfl rfl) (Evs.cons (Ev.globI rfl rfl rfl) (Evs.cons (Ev.indexS (x := "ab") (y := ch) (hit := hit) (Ev.globR rfl rfl rfl) (Ev.name rfl rfl) (EvG.chr (x := x) (k := p) (c := ch) (Ev.name rfl rfl) (Ev.name rfl rfl) hp62 hch (fun t u => by with_unfolding_all rfl)) (fun _ => ⟨_, _, rfl, rfl⟩) rfl hk1 rfl (by decide +kernel) (Nat.lt_of_lt_of_le hhit (by decide +kernel)) hpick.1 hpick.2) Evs.nil rfl) rfl) (fun _ => ⟨_, _, rfl, rfl⟩) rfl (fun vs hv => add_says (fun g => Bi.addI) hk1 hv)) hvz ?_ ⟨_, rfl⟩ rfl rfl rfl
        rintro v9 s9 ⟨hv9, S9⟩
        refine ⟨_, _, _, S9, .head _, fun p hp => .tail _ hp, off, fun nn' => Ex.pop (Ex.augI (a := (p : Int)) (b := 1) (z := (p : Int) + 1) rfl (Ev.name rfl rfl) rfl (fun t u Q E s h => iadd_int h) ?_)⟩
        exact Ex.pop (Ex.nil fun s S => base _ _ _ nn' s rfl rfl rfl rfl hv9 (by decide) S)
      · obtain ⟨hc1, hsz, hi⟩ := lexOne_tok (hdrop ▸ hone) hab
        rw [← hdrop] at hsz hi
        refine Ex.iff (Tr.val (contains_at (Ev.globR rfl rfl rfl) (Ev.name rfl rfl) (Ev.chr (x := x) (k := p) (c := ch) (Ev.name rfl rfl) (Ev.name rfl rfl) hp62 hch (fun t u => by with_unfolding_all rfl)) rfl rfl (fun _ => ⟨_, _, rfl, rfl⟩) rfl hk1 (fun g' => Cm.inSS ((inAB hmem).trans hc1))) Tv.bool rfl) ?_
        have slice : ∀ {cs9 : Scope} {mm : List (Str × VP)} {n : Led} {q : Nat} {p1 p2 p3 p4 p5 : Pos}, Ev ⟨c, cs9, g.k - 1, c.t, mm, n, []⟩ (.Name "text" p1) (isS x) → Ev ⟨c, cs9, g.k - 1, c.t, mm, n, []⟩ (.Name "k" p2) (isI (p : Int)) → Ev ⟨c, cs9, g.k - 1, c.t, mm, n, []⟩ (.BinOp (.Name "k" p3) .Add (.Name "size" p4) p5) (isI ((p : Int) + (q : Int))) →
            ∀ {pp pq : Pos}, Ev ⟨c, cs9, g.k - 1, c.t, mm, n, []⟩ (.Subscript (.Name "text" p1) (.Slice (some (.Name "k" p2)) (some (.BinOp (.Name "k" p3) .Add (.Name "size" p4) p5)) none pp) pq) (isS ⟨((x.cps.toList.drop p).take q).toArray⟩) :=
          fun {_ _ _ q _ _ _ _ _} h1 h2 h3 {_ _} => Ev.conv (Ev.slice (x := x) (a := p) (b := p + q) h1 h2 (Ev.conv h3 (by rw [Int.natCast_add])) (Nat.le_add_right _ _) (Nat.le_of_lt hlt) (Nat.le_trans hlen (by decide)) (fun _ _ => rfl)) (by rw [Nat.add_sub_cancel_left])
        refine Ex.while (fun z m n t => m = [(("size" : Str), isI (z : Int)), ("k", isI (p : Int)), ("symbols", isR d), ("text", isS x), ("letters", isS "ab")] ∧ n = (d, listOf vs.toArray nn) :: (g.n ++ cells) ∧ t = c.t ∧ lexSz (x.cps.toList.drop p) ≤ z ∧ z ≤ 3) (z := 3)
          ⟨rfl, rfl, rfl, (lexSz_le _).2, Nat.le_refl _⟩ ?_
        rintro q m n t ⟨rfl, rfl, rfl, hq1, hq3⟩
        refine ⟨decide ((q : Int) > 1) && !(tokL.lookup ((x.cps.toList.drop p).take q)).isSome, ?_, ?_, ?_⟩
        · refine Tr.of (b := decide ((q : Int) > 1) && (!(tokL.lookup ((x.cps.toList.drop p).take q)).isSome && true)) ?_ (by rw [Bool.and_true])
          exact Tr.and (Tr.cmp (Ev.name rfl rfl) Ev.int (Cm.gtI rfl) rfl) fun _ => Tr.and (Tr.not (Tr.val (contains_at (Ev.globR rfl rfl rfl) (Ev.globR rfl rfl rfl) (slice (Ev.name rfl rfl) (Ev.name rfl rfl) (Ev.bin (Ev.name rfl rfl) (Ev.name rfl rfl) Bi.addI)) rfl rfl (fun _ => ⟨_, _, rfl, rfl⟩) rfl hk1 (fun g' => Cm.inDict)) Tv.bool rfl)) fun _ => Tr.andNil
        · intro hb2
          have hne : q ≠ lexSz (x.cps.toList.drop p) := fun h => by
            rw [(lexSz_stop hq1 hq3).mpr h] at hb2; cases hb2
          have h1 := (lexSz_le (x.cps.toList.drop p)).1
          refine Ex.augI (a := (q : Int)) (b := 1) (z := ((q - 1 : Nat) : Int)) rfl Ev.int rfl (fun t u Q E s h => isub_int (by rw [show (q : Int) - 1 = ((q - 1 : Nat) : Int) by omega]; exact h)) ?_
          exact Ex.pop (Ex.nil fun s S => ⟨rfl, q - 1, by omega, _, _, _, S.sub (sub_cons rfl (sub_cons rfl (sub_cons rfl (sub_cons rfl (sub_cons rfl sub_nil))))), rfl, rfl, rfl, by omega, by omega⟩)
        · intro hb2
          have hq : q = sz := ((lexSz_stop hq1 hq3).mp hb2).trans hsz.symm
          subst hq
          refine Ex.append (l := d) (vs := vs) (nn := nn) (Ev.name rfl rfl) (.head _) (Ev.call (f := 91) (Vs := [isR 99, isS ⟨((x.cps.toList.drop p).take q).toArray⟩]) (W := isI i) (Ev.globR rfl rfl rfl) (Evs.cons (Ev.globR rfl rfl rfl) (Evs.cons (slice (Ev.name rfl rfl) (Ev.name rfl rfl) (Ev.bin (Ev.name rfl rfl) (Ev.name rfl rfl) Bi.addI)) Evs.nil rfl) rfl) (fun _ => ⟨_, _, rfl, rfl⟩) rfl (fun vs hv => getitem_says (fun g' a b p q _ => It.dict hi (fun u => by with_unfolding_all rfl)) hk1 hv)) hvz ?_ ⟨_, rfl⟩ rfl rfl rfl
          rintro v9 s9 ⟨hv9, S9⟩
          refine ⟨_, _, _, S9, .head _, fun p hp => .tail _ hp, off, fun nn' => Ex.pop (Ex.augI (a := (p : Int)) (b := (q : Int)) (z := (p : Int) + (q : Int)) rfl (Ev.name rfl rfl) rfl (fun t u Q E s h => iadd_int h) ?_)⟩
          exact Ex.pop (Ex.nil fun s S => base _ _ _ nn' s rfl rfl rfl rfl hv9 hq3 S)
    · intro hb
      have hge : x.length ≤ p := by have := of_decide_eq_false hb; omega
      have hrest : rest = [] := by
        rw [List.drop_eq_nil_of_le (by rw [hlx]; exact hge)] at hl
        cases z with
        | zero => cases hl
        | succ z => exact (Option.some.inj hl).symm
      subst hrest
      rw [List.append_nil] at hsum
      subst hsum
      refine Ex.ret (EvG.addL (a := d) (vs := vs) (nn := nn) (Vs := [isI 0]) (Ev.name rfl rfl) (Evs.cons (Ev.globI rfl rfl rfl) Evs.nil rfl) (.head _) (by decide) (Nat.le_trans (Nat.add_le_add_right (show vs.length ≤ 1000 from hvl) 1) (by decide))) ?_
      rintro v s ⟨D, ws, rfl, hws, hD, S⟩
      refine ⟨_, [(D, listOf (vs ++ ws).toArray 0)], _, _, S.less (n := (D, listOf (vs ++ ws).toArray 0) :: (g.n ++ cells)) (fun p hp => ?_) trivial, fun q hq p hp => ?_, D, vs ++ ws, 0, rfl, rfl, ?_⟩
      · exact (List.mem_cons.mp hp).elim (fun e => e ▸ .head _) fun h => .tail _ (.tail _ h)
      · cases List.mem_singleton.mp hp
        exact hD q (.tail _ hq)
      · rw [List.map_append]; exact all2_app hvs hws
end Mine
end
section
open PySem PySem.W PySem.Calls PyProof.Rows
set_option maxRecDepth 100000
set_option maxHeartbeats 4000000
set_option linter.unusedVariables false
namespace Mine
variable {g : G}
theorem mem_cons_of {p q : Addr × Obj} {n n' : Led} (h1 : q ∈ n') (h : ∀ p ∈ n, p ∈ n') (hp : p ∈ q :: n) : p ∈ n' := by
  rcases List.mem_cons.mp hp with rfl | hp
  · exact h1
  · exact h p hp
theorem off_cons {q : Addr × Obj} {n : Led} {X : Addr} (h1 : q.1 ≠ X) (h : ∀ p ∈ n, p.1 ≠ X) : ∀ p ∈ q :: n, p.1 ≠ X := fun p hp => by
  rcases List.mem_cons.mp hp with rfl | hp
  · exact h1
  · exact h p hp
/-- [[]] -/
theorem EvG.listList {p1 p2 : Pos} (hst : ∀ env : Env, starEach [Expr.List [] p1] env = [(false, eval (.List [] p1) env)]) : EvG g (.List [.List [] p1] p2) (fun v s' => ∃ D d, v = .ref D ∧ (∀ p ∈ g.n, p.1 < d) ∧ d < D ∧ St { g with n := (D, listOf [Value.ref d].toArray 0) :: (d, listOf ([] : List Value).toArray 0) :: g.n } s') := fun Q E s p S q =>
  wpAny_List (by
    rw [hst]
    refine spliced_cons (EvG.list (pos := p1) Evs.nil (by decide) _ _ _ p S fun v s1 a => spliced_nil ?_)
    cases a with | mk d vs hv ha lt S1 =>
    subst hv
    cases (ha : vs = [])
    exact ⟨Nat.le_of_ble_eq_true rfl, q _ _ ⟨_, d, rfl, lt, S1.above _ (.head _), S1.push _ rfl⟩⟩)
/-- rows, newest first: where, what, how often grown -/
abbrev RowE := Addr × List Value × Nat
noncomputable def ents (rs : List RowE) : Led := rs.map fun r => (r.1, listOf r.2.1.toArray r.2.2)
noncomputable def refsOf (rs : List RowE) : List Value := (rs.map fun r => Value.ref r.1).reverse
inductive RowsAre : List RowE → List (List Int) → Prop
  | nil : RowsAre [] []
  | cons {r : RowE} {l : List Int} {rs : List RowE} {ls : List (List Int)} : All2 (l.map isI) r.2.1 → RowsAre rs ls → RowsAre (r :: rs) (l :: ls)
theorem ents_mem {rs : List RowE} {p : Addr × Obj} {P : Addr → Prop} (h : ∀ r ∈ rs, P r.1) (hp : p ∈ ents rs) : P p.1 := by
  obtain ⟨r, hr, rfl⟩ := List.mem_map.mp hp
  exact h r hr
theorem mem_ents {rs : List RowE} {r : RowE} (h : r ∈ rs) : (r.1, listOf r.2.1.toArray r.2.2) ∈ ents rs := List.mem_map.mpr ⟨r, h, rfl⟩
theorem refs_cons (r : RowE) (rs : List RowE) : refsOf (r :: rs) = refsOf rs ++ [Value.ref r.1] := by
  unfold refsOf; rw [List.map_cons, List.reverse_cons]
/-- what `_law_rows` hands back -/
noncomputable def RowsRet (ls : List (List Int)) : Nat → Nat → Led → Value → Prop := fun _ _ tl r => ∃ R rs nn, tl = (R, listOf (refsOf rs).toArray nn) :: ents rs ∧ r = .ref R ∧ RowsAre rs ls ∧ (∀ r ∈ rs, r.1 ≠ R) ∧ (rs.map (·.1)).Nodup
/-- between two symbols -/
structure RowJ (D R : Addr) (n0 : Led) (t0 : Nat) (syms : List Int) (i : Nat) (rs : List RowE) : Prop where
  le : i ≤ syms.length
  are : RowsAre rs (rowsR (syms.take i))
  len : rs.length ≤ i + 1
  row : ∀ r ∈ rs, r.1 ≠ R ∧ r.2.1.length ≤ i ∧ ∀ p ∈ n0, p.1 < r.1
  top : ∀ p ∈ n0, p.1 < R
  nd : (rs.map (·.1)).Nodup
theorem rows_says {D : Addr} {syms : List Int} {ws : List Value} {nn0 : Nat} {vs : List Value} (hD : (D, listOf ws.toArray nn0) ∈ g.n) (hws : All2 ((syms ++ [0]).map isI) ws) (hsy : ∀ a ∈ syms, a ≠ 0) (hlen : syms.length ≤ 1000) (hk : 3 ≤ g.k) (hv : All2 [isR D] vs) :
    CallAt g 155 vs (Called g (RowsRet (rowsR syms))) := by
  obtain ⟨v1, _, rfl, hV, rfl⟩ := hv
  have hk1 : 2 ≤ g.k - 1 := Nat.le_sub_of_add_le hk
  refine' CallAt.of ?ho ?hcd ?hb ?hkind ?hg ?hk [("symbols", isR D)] ?hms ?h; (case ho => exact rfl); (case hcd => exact rfl); (case hb => exact fun s => BindsTo.of_eq rfl); (case hkind => exact rfl); (case hg => exact ⟨rfl, rfl, rfl⟩); (case hk => exact Nat.le_trans (by decide) hk); (case hms => (intro L'; (repeat' (first | exact rds_nil | refine' rds_cons (.inl ⟨rfl, rfl⟩) ?_ ?_ | refine' rds_cons (.inr ⟨rfl, rfl, rfl⟩) ?_ ?_)); all_goals first | assumption | exact rfl | exact ⟨_, rfl⟩)); (case' h => intro c cells hlo keep hcl)
  case h =>
    refine Ex.asgG (EvG.listList fun _ => rfl) (.inl rfl) ?_ rfl
    rintro _ s ⟨R, d, rfl, hd, hdR, S⟩
    refine ⟨isR R, _, _, rfl, S, ?_⟩
    clear S
    have hd : ∀ p ∈ g.n ++ cells, p.1 < d := hd
    have hwl : ws.length = syms.length + 1 := by rw [hws.length, List.length_map, List.length_append]; rfl
    have hDn : (D, listOf ws.toArray nn0) ∈ g.n ++ cells := List.mem_append_left _ hD
    refine Ex.for (fun i m n t => ∃ rs nn, m = [(("rows" : Str), isR R), ("symbols", isR D)] ∧ n = (R, listOf (refsOf rs).toArray nn) :: (ents rs ++ (g.n ++ cells)) ∧ t = c.t ∧ RowJ D R (g.n ++ cells) c.t syms i rs)
      (fun _ _ _ => False) (Iters.list (l := D) (vs := ws) (nn := nn0) (V := fun i => isI ((syms ++ [0]).getD i 0)) (Ev.name rfl rfl) (.tail _ (.tail _ hDn)) fun i v hv => hws.get (f := isI) hv) ?_ ?_ (.inl rfl) (fun _ => rfl) ?_ (fun _ _ _ h => h.elim) ?_
    · rintro i m n t ⟨rs, nn, _, rfl, _⟩ p hp
      cases List.mem_singleton.mp hp
      exact .tail _ (List.mem_append_right _ hDn)
    · refine ⟨[(d, [], 0)], 0, rfl, rfl, rfl, Nat.zero_le _, .cons rfl .nil, Nat.le_refl _, fun r hr => ?_, fun p hp => Nat.lt_trans (hd p hp) hdR, List.nodup_cons.mpr ⟨(fun h => nomatch h), List.nodup_nil⟩⟩
      cases List.mem_singleton.mp hr
      exact ⟨Nat.ne_of_lt hdR, Nat.le_refl _, hd⟩
    · rintro i m n t it o hi ⟨rs, nn, rfl, rfl, rfl, J⟩ off
      have sR : ∀ p ∈ ents rs ++ (g.n ++ cells), p.1 ≠ R := fun p hp => (List.mem_append.mp hp).elim (ents_mem (P := fun a => a ≠ R) fun r hr => (J.row r hr).1) fun hp => Nat.ne_of_lt (J.top p hp)
      have itR : it ≠ R := Ne.symm (off _ (.head _))
      have eof : ∀ {cs9 : Scope} {mm : List (Str × VP)} {n : Led} {a : Int} {b : Bool} {p1 p2 p3 : Pos} {rr : Led}, (a == 0) = b → Ev ⟨c, cs9, g.k - 1, c.t, mm, n, []⟩ (.Name "ISEOF" p1) (isR 115) → Ev ⟨c, cs9, g.k - 1, c.t, mm, n, []⟩ (.Name "symbol" p2) (isI a) → isFn c 115 = true → Pl ⟨c, cs9, g.k - 1, c.t, mm, n, []⟩ [.Name "symbol" p2] → Tr ⟨c, cs9, g.k - 1, c.t, mm, n, []⟩ (.Call (.Name "ISEOF" p1) [.Name "symbol" p2] [] p3) b :=
        fun {_ _ _ _ _ _ _ _ _} e h1 h2 hf hp => Tr.val (Ev.call h1 (Evs.cons h2 Evs.nil rfl) hp hf (fun vs hv => e ▸ ISEOF_says (Nat.le_trans (by decide) hk1) hv)) Tv.bool rfl
      have ext : ∀ {P : Addr × Obj → Prop}, (∀ p ∈ (it, o) :: (R, listOf (refsOf rs).toArray nn) :: (ents rs ++ (g.n ++ cells)), P p) → P (it, o) ∧ (∀ p ∈ ents rs, P p) ∧ ∀ p ∈ g.n ++ cells, P p := fun h => ⟨h _ (.head _), fun p hp => h p (.tail _ (.tail _ (List.mem_append_left _ hp))), fun p hp => h p (.tail _ (.tail _ (List.mem_append_right _ hp)))⟩
      by_cases hend : i = syms.length
      · have ha : ((syms ++ [0]).getD i 0 == 0) = true := by rw [hend, List.getD_eq_getElem?_getD, List.getElem?_append_right (Nat.le_refl _), Nat.sub_self]; rfl
        refine Ex.iff (eof (rr := []) ha (Ev.globR rfl rfl rfl) (Ev.name rfl rfl) rfl fun _ => ⟨_, _, rfl, rfl⟩) (Ex.ret (Ev.name (V := isR R) rfl rfl) ?_)
        rintro v s ⟨rfl, S⟩
        have htk : syms.take i = syms := by rw [hend, List.take_length]
        refine ⟨_, (R, listOf (refsOf rs).toArray nn) :: ents rs, _, _, S.less (fun p hp => .tail _ hp) trivial, fun q hq p hp => ?_, R, rs, nn, rfl, rfl, htk ▸ J.are, fun r hr => (J.row r hr).1, J.nd⟩
        rcases List.mem_cons.mp hp with rfl | hp
        · exact J.top q hq
        · exact ents_mem (P := fun a => q.1 < a) (fun r hr => (J.row r hr).2.2 q hq) hp
      · have hlt : i < syms.length := Nat.lt_of_le_of_ne J.le hend
        obtain ⟨a, ha⟩ : ∃ a, syms[i]? = some a := ⟨_, List.getElem?_eq_getElem hlt⟩
        have ha' : (syms ++ [0]).getD i 0 = a := by rw [List.getD_eq_getElem?_getD, List.getElem?_append_left hlt, ha]; rfl
        rw [ha']
        have h0 : (a == 0) = false := beq_eq_false_iff_ne.mpr (hsy a (List.mem_of_getElem? ha))
        have hstep : rowsR (syms.take (i + 1)) = rowStep (rowsR (syms.take i)) a := by
          unfold rowsR
          rw [List.take_add_one, ha, List.foldl_append]; rfl
        have hsz : (refsOf rs).length ≤ sizeLine := by
          unfold refsOf
          rw [List.length_reverse, List.length_map]
          exact Nat.le_trans (Nat.le_trans J.len (Nat.succ_le_succ (Nat.le_trans J.le hlen))) (by decide)
        have fin : ∀ (cs9 : Scope) (mm : List (Str × VP)) (rs' : List RowE) (nn' : Nat) (n' : Led) (s : Shared), mm.lookup (Str.ofString "rows") = some (isR R) → mm.lookup (Str.ofString "symbols") = some (isR D) → (∀ p ∈ (it, o) :: (R, listOf (refsOf rs').toArray nn') :: (ents rs' ++ (g.n ++ cells)), p ∈ n') → RowsAre rs' (rowStep (rowsR (syms.take i)) a) → rs'.length ≤ i + 2 → (∀ r ∈ rs', r.1 ≠ R ∧ r.1 ≠ it ∧ r.2.1.length ≤ i + 1 ∧ ∀ p ∈ g.n ++ cells, p.1 < r.1) → (rs'.map (·.1)).Nodup →
            St ⟨c, cs9, g.k - 1, c.t, mm, n', []⟩ s → Went c cs9 (g.k - 1) it o (fun m n t => ∃ rs nn, m = [(("rows" : Str), isR R), ("symbols", isR D)] ∧ n = (R, listOf (refsOf rs).toArray nn) :: (ents rs ++ (g.n ++ cells)) ∧ t = c.t ∧ RowJ D R (g.n ++ cells) c.t syms (i + 1) rs) s :=
          fun _ mm rs' nn' n' s e1 e2 hsub hra hln hap' hnd' S => ⟨_, (R, listOf (refsOf rs').toArray nn') :: (ents rs' ++ (g.n ++ cells)), _, (S.less (n := (it, o) :: (R, listOf (refsOf rs').toArray nn') :: (ents rs' ++ (g.n ++ cells))) hsub trivial).sub (sub_cons e1 (sub_cons e2 sub_nil)),
            off_cons (Ne.symm itR) fun p hp => (List.mem_append.mp hp).elim (ents_mem (P := fun a => a ≠ it) fun r hr => (hap' r hr).2.1) fun hp => off p (.tail _ (List.mem_append_right _ hp)), rs', nn', rfl, rfl, rfl, hlt, hstep ▸ hra, hln, fun r hr => ⟨(hap' r hr).1, (hap' r hr).2.2⟩, J.top, hnd'⟩
        have rit : ∀ r ∈ rs, r.1 ≠ it := fun r hr => off _ (.tail _ (List.mem_append_left _ (mem_ents hr)))
        refine Ex.iff (eof (rr := []) h0 (Ev.globR rfl rfl rfl) (Ev.name rfl rfl) rfl fun _ => ⟨_, _, rfl, rfl⟩) (Ex.pop ?_)
        cases hc : (a == 12) with
        | true =>
          refine Ex.iff (Tr.cmp (Ev.name rfl rfl) (Ev.globI rfl rfl rfl) (Cm.eqI hc) rfl) ?_
          refine Ex.append (l := R) (vs := refsOf rs) (nn := nn) (Ev.name rfl rfl) (.tail _ (.head _)) (EvG.list Evs.nil (by decide)) hsz ?_ ⟨_, rfl⟩ rfl rfl rfl
          rintro v s a9
          cases a9 with | mk d9 vs hv ha lt S =>
          subst hv
          cases (ha : vs = [])
          obtain ⟨l1, l2, l3⟩ := ext lt
          have dR : R < d9 := lt _ (.tail _ (.head _))
          refine ⟨_, _, (d9, listOf ([] : List Value).toArray 0) :: (it, o) :: (ents rs ++ (g.n ++ cells)), S, .tail _ (.tail _ (.head _)), fun p hp => ?_, off_cons (Nat.ne_of_gt dR) (off_cons itR sR), fun nn' => Ex.pop (Ex.pop (Ex.nil fun s S => ?_))⟩
          · exact mem_cons_of (.head _) (fun p hp => mem_cons_of (.tail _ (.head _)) (fun p hp => .tail _ (.tail _ (.tail _ hp))) hp) hp
          have e : rowStep (rowsR (syms.take i)) a = [] :: rowsR (syms.take i) := by unfold rowStep; rw [if_pos hc]
          refine fin _ _ ((d9, [], 0) :: rs) nn' _ s rfl rfl (fun p hp => ?_) (e ▸ .cons rfl J.are) (Nat.succ_le_succ J.len) (fun r hr => ?_) ?_ S
          · rw [refs_cons] at hp
            exact mem_cons_of (.tail _ (.tail _ (.head _))) (fun p hp => mem_cons_of (.head _) (fun p hp => mem_cons_of (.tail _ (.head _)) (fun p hp => .tail _ (.tail _ (.tail _ hp))) hp) hp) hp
          · rcases List.mem_cons.mp hr with rfl | hr
            · exact ⟨Nat.ne_of_gt dR, Nat.ne_of_gt l1, Nat.zero_le _, l3⟩
            · exact ⟨(J.row r hr).1, rit r hr, Nat.le_succ_of_le (J.row r hr).2.1, (J.row r hr).2.2⟩
          · refine List.nodup_cons.mpr ⟨fun hin => ?_, J.nd⟩
            obtain ⟨r, hr, e⟩ := List.mem_map.mp hin
            exact absurd e (Nat.ne_of_lt (l2 _ (mem_ents hr)))
        | false =>
          have hne : rowsR (syms.take i) ≠ [] := rows_ne _ (List.cons_ne_nil _ _)
          have hrs := J.are
          generalize rowsR (syms.take i) = rr at hrs hne fin hstep
          cases hrs with
          | nil => exact absurd rfl hne
          | cons hr0 hrs' =>
          rename_i r0 l0 rs' ls'
          have hnd' := List.nodup_cons.mp (show (r0.1 :: rs'.map (·.1)).Nodup from J.nd)
          have hr0l : r0.2.1.length ≤ sizeLine := Nat.le_trans (J.row r0 (.head _)).2.1 (Nat.le_trans (Nat.le_trans J.le hlen) (by decide))
          have post2 : ∀ p ∈ ents rs' ++ (g.n ++ cells), p.1 ≠ r0.1 := fun p hp => (List.mem_append.mp hp).elim (ents_mem (P := fun a => a ≠ r0.1) fun r hr e => hnd'.1 (List.mem_map.mpr ⟨r, hr, e⟩)) fun hp => Nat.ne_of_lt ((J.row r0 (.head _)).2.2 p hp)
          refine Ex.iff (Tr.cmp (Ev.name rfl rfl) (Ev.globI rfl rfl rfl) (Cm.eqI hc) rfl) ?_
          refine Ex.append (l := r0.1) (vs := r0.2.1) (nn := r0.2.2) (Ev.sub (Ev.name rfl rfl) Ev.neg1 (It.last (l := R) (vs := refsOf rs') (nn := nn) (v := Value.ref r0.1) (W := isR r0.1) (by rw [← refs_cons]; exact .tail _ (.head _)) rfl fun u => by with_unfolding_all rfl)) (.tail _ (.tail _ (.head _)))
            (Ev.call (f := 148) (Vs := [isI a]) (W := isI (spotF a)) (Ev.globR rfl rfl rfl) (Evs.cons (Ev.name rfl rfl) Evs.nil rfl) (fun _ => ⟨_, _, rfl, rfl⟩) rfl (fun vs hv => spot_says hk1 hv)) hr0l ?_ ⟨_, rfl⟩ rfl rfl rfl
          rintro v9 s9 ⟨hv9, S9⟩
          refine ⟨_, _, (it, o) :: (R, listOf (refsOf (r0 :: rs')).toArray nn) :: (ents rs' ++ (g.n ++ cells)), S9, .tail _ (.tail _ (.head _)), fun p hp => ?_, off_cons (Ne.symm (rit r0 (.head _))) (off_cons (Ne.symm (J.row r0 (.head _)).1) post2), fun nn' => Ex.pop (Ex.pop (Ex.nil fun s S => ?_))⟩
          · exact mem_cons_of (.head _) (fun p hp => mem_cons_of (.tail _ (.head _)) (fun p hp => .tail _ (.tail _ (.tail _ hp))) hp) hp
          have e : rowStep (l0 :: ls') a = (l0 ++ [spotF a]) :: ls' := by unfold rowStep; rw [if_neg (by rw [hc]; decide)]
          refine fin _ _ ((r0.1, r0.2.1 ++ [v9], nn') :: rs') nn _ s rfl rfl (fun p hp => ?_) (e ▸ .cons (by rw [List.map_append]; exact all2_snoc hv9 hr0) hrs') (Nat.le_succ_of_le J.len) (fun r hr => ?_) J.nd S
          · rw [refs_cons, ← refs_cons r0] at hp
            exact mem_cons_of (.tail _ (.head _)) (fun p hp => mem_cons_of (.tail _ (.tail _ (.head _))) (fun p hp => mem_cons_of (.head _) (fun p hp => .tail _ (.tail _ (.tail _ hp))) hp) hp) hp
          · rcases List.mem_cons.mp hr with rfl | hr
            · exact ⟨(J.row r0 (.head _)).1, rit r0 (.head _), by rw [List.length_append]; exact Nat.succ_le_succ (J.row r0 (.head _)).2.1, (J.row r0 (.head _)).2.2⟩
            · exact ⟨(J.row r (.tail _ hr)).1, rit r (.tail _ hr), Nat.le_succ_of_le (J.row r (.tail _ hr)).2.1, (J.row r (.tail _ hr)).2.2⟩
    · rintro m n t ⟨rs, nn, _, _, _, J⟩
      exact absurd J.le (by rw [hwl]; exact Nat.not_succ_le_self _)
end Mine
end
section
open PySem PySem.W PySem.Calls PyProof.Rows
set_option maxRecDepth 100000
set_option maxHeartbeats 4000000
set_option linter.unusedVariables false
namespace Mine
variable {g : G}
/-- a turn that makes nothing but its element, and may leave it out -/
noncomputable def FiltI (n0 : Led) (t0 : Nat) (p : Nat → Bool) (W : Nat → VP) (i : Nat) (ys : List Value) (n : Led) (t : Nat) : Prop := t = t0 ∧ (∀ p ∈ n0, p ∈ n) ∧ All2 (((List.range i).filter p).map W) ys
theorem Turns.filt {elt : Expr} {ifs : List Expr} {scope : Scope} {cl : List (Str × Addr)} {x : Str} {V : VP} {n0 : Led} {t0 : Nat} {p : Nat → Bool} {W : Nat → VP} {i : Nat} (ht : ∀ C n, (∀ p ∈ g.n, p ∈ n) → Tests (g.inner scope cl C x V t0 n) ifs (p i)) (h : ∀ C n, (∀ p ∈ g.n, p ∈ n) → (∀ p ∈ n0, p ∈ n) → Ev (g.inner scope cl C x V t0 n) elt (W i)) :
    Turns g elt ifs scope cl x V (FiltI n0 t0 p W i) (FiltI n0 t0 p W (i + 1)) := by
  rintro ys n t C D It oC oD oI ⟨rfl, sub, ha⟩ sub2
  refine ⟨p i, ht C _ (fun p hp => .tail _ (.tail _ (.tail _ (sub2 p hp)))), fun hp => ⟨rfl, sub, ?_⟩, fun hp => EvG.mono (h C _ (fun p hp => .tail _ (.tail _ (.tail _ (sub2 p hp)))) (fun p hp => .tail _ (.tail _ (.tail _ (sub p hp))))) fun v s a => ⟨[], _, a.2, (fun _ _ _ hp => nomatch hp), rfl, sub, ?_⟩⟩
  · rw [List.range_succ, List.filter_append, List.filter_cons, hp, List.map_append]; exact (List.append_nil _).symm ▸ ha
  · rw [List.range_succ, List.filter_append, List.filter_cons, hp, List.map_append]; exact all2_snoc a.1 ha
theorem range_all (i : Nat) : (List.range i).filter (fun _ => true) = List.range i := List.filter_eq_self.mpr fun _ _ => rfl
/-- such a list of ints, made for a sum or a comparison -/
theorem Comped.ints {N : Nat} {p : Nat → Bool} {f : Nat → Int} {D : Addr} {s : Shared} {n0 : Led} (h : Comped { g with n := n0 } N (FiltI n0 g.t p (fun i => isI (f i)) N) D s) (sub : ∀ p ∈ g.n, p ∈ n0) : Ints g (((List.range N).filter p).map f) (.ref D) s := by
  cases h with | mk ys n t nD S j sub' lt off le =>
  obtain ⟨rfl, sub2, ha⟩ := j
  exact ⟨_, _, D, ys, nD, rfl, S, .head _, fun p hp => .tail _ (sub' p (sub p hp)), Nat.le_refl _, by rw [List.map_map]; exact ha⟩
theorem clos_eq {scope : Scope} {env : Env} {cells : List (Str × Addr)} (h : env.cells = cells) : closureFor scope env = closureFor scope { env with cells := cells } := by subst h; rfl
noncomputable def intOf : Value → Int
  | .int i _ => i
  | _ => 0
noncomputable def picked (svs : List Value) (k : Nat) : List Value := (slicePick svs.toArray (some (k : Int)) (some 24) (some 4)).toList
noncomputable def modF (v : Value) : Int := (intOf v).fmod 1000000
noncomputable def numF (svs : List Value) (k : Nat) : Int := [347, 991, 189, 1691].getD k 0 + ((picked svs k).map modF).sum
theorem picked_mem {svs : List Value} {k : Nat} {v : Value} (h : v ∈ picked svs k) : v ∈ svs := by
  unfold picked slicePick at h
  obtain ⟨i, _, e⟩ := List.mem_filterMap.mp (by simpa using h)
  exact List.mem_of_getElem? (by simpa using e)
theorem picked_le (svs : List Value) (k : Nat) : (picked svs k).length ≤ svs.length := by
  have := slicePick_size_le svs.toArray (some (k : Int)) (some 24) (some 4)
  unfold picked
  simpa using this
theorem map_at (vs : List Value) : ((List.range vs.length).filter fun _ => true).map (fun j => modF (vs.getD j .none)) = vs.map modF := by
  rw [range_all]
  refine List.ext_getElem (by simp) fun j h1 h2 => ?_
  rw [List.getElem_map, List.getElem_map, List.getElem_range, List.getD_eq_getElem?_getD, List.getElem?_eq_getElem (by simpa using h2)]; rfl
theorem numbers_says {S0 D : Addr} {svs dv : List Value} {nn : Nat} (hS : g.c.h₀.IsList S0 svs.toArray) (hD : (D, listOf dv.toArray nn) ∈ g.n) (hdv : All2 (([347, 991, 189, 1691] : List Int).map isI) dv) (hsv : ∀ v ∈ svs, ∃ n, isI n v) (hsz : svs.length ≤ sizeLine) (hk : 1 ≤ g.k) :
    CallAt g 120 [.ref S0, .ref D] (Called g fun _ _ tl r => ∃ E ys nn, tl = [(E, listOf ys.toArray nn)] ∧ r = .ref E ∧ All2 ((List.range 4).map fun k => isI (numF svs k)) ys) := by
  refine' CallAt.of ?ho ?hcd ?hb ?hkind ?hg ?hk [("script", isR S0), ("told", isR D)] ?hms ?h; (case ho => exact rfl); (case hcd => exact rfl); (case hb => exact fun s => BindsTo.of_eq rfl); (case hkind => exact rfl); (case hg => exact ⟨rfl, rfl, rfl⟩); (case hk => exact Nat.le_trans (by decide) hk); (case hms => (intro L'; (repeat' (first | exact rds_nil | refine' rds_cons (.inl ⟨rfl, rfl⟩) ?_ ?_ | refine' rds_cons (.inr ⟨rfl, rfl, rfl⟩) ?_ ?_)); all_goals first | assumption | exact rfl | exact ⟨_, rfl⟩)); (case' h => intro c cells hlo keep hcl)
  case h =>
    have hS' : c.h₀.IsList S0 svs.toArray := let ⟨o, ho, r⟩ := hS; ⟨o, keep _ _ ho, r⟩
    have hDn : (D, listOf dv.toArray nn) ∈ g.n ++ cells := List.mem_append_left _ hD
    refine Ex.asg (Ev.lenL (l := D) (vs := dv) (ns := [347, 991, 189, 1691]) (nn := nn) (Ev.built rfl rfl rfl (by decide) rfl) (Evs.cons (Ev.name rfl rfl) Evs.nil rfl) (fun _ => ⟨_, _, rfl, rfl⟩) hDn (ints_of hdv) (by decide)) (.inr ⟨rfl, by rw [hcl]; rfl⟩) rfl ?_
    refine Ex.ret (EvG.comp (FiltI (g.n ++ cells) c.t (fun _ => true) fun k => isI (numF svs k)) ⟨fun _ => rfl, (clos_eq hcl).trans rfl, rfl, by decide, by decide, rfl⟩ (Iters.range (N := 4) (Ev.built rfl rfl rfl (by decide) rfl) (Ev.name rfl rfl) (fun _ => ⟨_, _, rfl, rfl⟩) rfl (by decide)) (fun _ h => nomatch h) (by decide) ⟨rfl, fun _ h => h, rfl⟩ fun i hi => Turns.filt (fun _ _ _ => Tests.nil) ?_) ?_
    · intro C n sub sub0
      obtain ⟨v, hv, hI⟩ := hdv.at (i := i) (W := isI (([347, 991, 189, 1691] : List Int).getD i 0)) (four (P := fun i => (([347, 991, 189, 1691] : List Int).map isI)[i]? = some (isI (([347, 991, 189, 1691] : List Int).getD i 0))) rfl rfl rfl rfl hi)
      refine Ev.bin (V := isI (([347, 991, 189, 1691] : List Int).getD i 0)) (U := isI ((picked svs i).map modF).sum) ?_ ?_ Bi.addI
      · exact Ev.sub (Ev.nameC rfl rfl rfl (by show _ = List.lookup _ c.cl; rw [hcl]; rfl) rfl) (Ev.nameL rfl rfl) (It.list (k := (i : Int)) (l := D) (vs := dv) (nn := nn) (sub0 _ hDn) (Int.natCast_nonneg i) (small63 hi) hv hI fun u => by with_unfolding_all rfl)
      · refine Ev.sum (Ev.built rfl rfl rfl (by decide) rfl) (EvG.mono (EvG.compA (vs := picked svs i) (nn := 0) (V := fun j => isI (intOf ((picked svs i).getD j .none))) (fun j => FiltI n c.t (fun _ => true) (fun j => isI (modF ((picked svs i).getD j .none))) j) ⟨fun _ => rfl, rfl, rfl, by decide, by decide, rfl⟩
          (EvG.sliceL (S0 := S0) (svs := svs) (a := (i : Int)) (b := 24) (k := 4) (Ev.nameC rfl rfl rfl (by show _ = List.lookup _ c.cl; rw [hcl]; rfl) rfl) hS' (Ev.nameL rfl rfl) Ev.int (Ev.nameC rfl rfl rfl (by show _ = List.lookup _ c.cl; rw [hcl]; rfl) rfl) (by decide) hsz (fun _ _ => rfl)) (Nat.le_trans (picked_le _ _) hsz) (fun j v hv => ?_)
          (fun l => ⟨rfl, fun p hp => .tail _ hp, rfl⟩) fun l j hj => Turns.filt (fun _ _ _ => Tests.nil) fun C2 n2 _ _ => Ev.bin (Ev.nameL rfl rfl) Ev.int (Bi.modI (by decide))) fun v s a => ?_) rfl fun _ => ⟨_, _, rfl, rfl⟩
        · obtain ⟨z, t, rfl⟩ := hsv v (picked_mem (List.mem_of_getElem? hv))
          rw [List.getD_eq_getElem?_getD, hv]
          exact ⟨t, rfl⟩
        · obtain ⟨l, E, rfl, cc⟩ := a
          cases cc with | mk ys n' t nD S j sub' lt off le =>
          obtain ⟨rfl, sub2, ha⟩ := j
          exact ⟨_, _, E, ys, nD, rfl, S, .head _, fun p hp => .tail _ (sub2 p hp), Nat.le_refl _, by rw [← map_at, List.map_map]; exact ha⟩
    · rintro v s ⟨E, rfl, cc⟩
      cases cc with | mk ys n' t nD S j sub' lt off le =>
      obtain ⟨rfl, sub2, ha⟩ := j
      refine ⟨_, [(E, listOf ys.toArray nD)], _, _, S.less (n := (E, listOf ys.toArray nD) :: (g.n ++ cells)) (fun p hp => mem_cons_of (.head _) (fun p hp => .tail _ (sub2 p hp)) hp) trivial, fun q hq p hp => ?_, E, ys, nD, rfl, rfl, range_all 4 ▸ ha⟩
      cases List.mem_singleton.mp hp
      exact lt q hq
end Mine
end
section
open PySem PySem.W PySem.Calls PySem.Flt PyProof.Rows
set_option maxRecDepth 100000
set_option linter.unusedVariables false
set_option genInjectivity false
set_option genSizeOf false
namespace Mine
noncomputable section

noncomputable def c1 : UInt64 := 4607182418800017408
noncomputable def c2 : UInt64 := 4611686018427387904
noncomputable def c6 : UInt64 := 4618441417868443648
/-- j sixteenths -/
noncomputable def hueT : Nat → UInt64
  | 0 => 0 | 1 => 4589168020290535424 | 2 => 4593671619917905920 | 3 => 4595923419731591168 | 4 => 4598175219545276416
  | 5 => 4599301119452119040 | 6 => 4600427019358961664 | 7 => 4601552919265804288 | _ => 4602678819172646912
/-- one, a half, a quarter -/
noncomputable def shT : Nat → UInt64
  | 0 => 4607182418800017408 | 1 => 4602678819172646912 | _ => 4598175219545276416

noncomputable def iOf (h : UInt64) : Int := toInt Float64.truncOf (Float64.mul h c6)
noncomputable def fOf (h : UInt64) : UInt64 := Float64.sub (Float64.mul h c6) (Float64.ofInt (iOf h))
noncomputable def pOf (s v : UInt64) : UInt64 := Float64.mul v (Float64.sub c1 s)
noncomputable def qOf (h s v : UInt64) : UInt64 := Float64.mul v (Float64.sub c1 (Float64.mul s (fOf h)))
noncomputable def tOf (h s v : UInt64) : UInt64 := Float64.mul v (Float64.sub c1 (Float64.mul s (Float64.sub c1 (fOf h))))
noncomputable def rgbOf (h s v : UInt64) : UInt64 × UInt64 × UInt64 :=
  if Int.fmod (iOf h) 6 = 0 then (v, tOf h s v, pOf s v) else if Int.fmod (iOf h) 6 = 1 then (qOf h s v, v, pOf s v)
  else if Int.fmod (iOf h) 6 = 2 then (pOf s v, v, tOf h s v) else (pOf s v, qOf h s v, v)

theorem rgbOf_0 {h s v : UInt64} (e : Int.fmod (iOf h) 6 = 0) : rgbOf h s v = (v, tOf h s v, pOf s v) := by unfold rgbOf; rw [if_pos e]
theorem rgbOf_1 {h s v : UInt64} (e : Int.fmod (iOf h) 6 = 1) : rgbOf h s v = (qOf h s v, v, pOf s v) := by unfold rgbOf; rw [if_neg (by omega), if_pos e]
theorem rgbOf_2 {h s v : UInt64} (e : Int.fmod (iOf h) 6 = 2) : rgbOf h s v = (pOf s v, v, tOf h s v) := by unfold rgbOf; rw [if_neg (by omega), if_neg (by omega), if_pos e]
theorem rgbOf_3 {h s v : UInt64} (e : Int.fmod (iOf h) 6 = 3) : rgbOf h s v = (pOf s v, qOf h s v, v) := by unfold rgbOf; rw [if_neg (by omega), if_neg (by omega), if_neg (by omega)]
noncomputable def rg (x y z : UInt64) : UInt64 := Float64.sub (mx3 x y z) (mn3 x y z)
noncomputable def cc (x y z u : UInt64) : UInt64 := Float64.div (Float64.sub (mx3 x y z) u) (rg x y z)
noncomputable def hEnd (h : UInt64) : UInt64 := (Float64.divmod (Float64.div h c6) c1).snd
noncomputable def hueA (x y z : UInt64) : UInt64 := hEnd (Float64.sub (cc x y z z) (cc x y z y))
noncomputable def hueB (x y z : UInt64) : UInt64 := hEnd (Float64.sub (Float64.add c2 (cc x y z x)) (cc x y z z))
noncomputable def satT (x y z : UInt64) : UInt64 := Float64.div (rg x y z) (mx3 x y z)

/-- what the painter and the reader of a paint ask of it -/
structure Paint (x y z : UInt64) (h s v : UInt64) : Prop where
  apart : ¬ (Float64.cmp (mn3 x y z) (mx3 x y z) == some .eq) = true
  mxz : ¬ Float64.isZero (mx3 x y z) = true
  rgz : ¬ Float64.isZero (rg x y z) = true
  smz : ¬ Float64.isZero (Float64.add (mx3 x y z) (mn3 x y z)) = true
  tmz : ¬ Float64.isZero (Float64.sub (Float64.sub c2 (mx3 x y z)) (mn3 x y z)) = true
  two : (Float64.cmp x (mx3 x y z) == some .eq) = false → (Float64.cmp y (mx3 x y z) == some .eq) = true
  hA : (Float64.cmp x (mx3 x y z) == some .eq) = true → hueA x y z = h
  hB : (Float64.cmp x (mx3 x y z) == some .eq) = false → hueB x y z = h
  sat : satT x y z = s
  top : mx3 x y z = v
structure Hue (h s v : UInt64) : Prop where
  s0 : ¬ (Float64.cmp s 0 == some .eq) = true
  fin : Float64.isFinite (Float64.mul h c6) = true
  lo : 0 ≤ iOf h
  hi : iOf h < 4

noncomputable def paintB (x y z h s v : UInt64) : Bool :=
  !(Float64.cmp (mn3 x y z) (mx3 x y z) == some .eq) && !Float64.isZero (mx3 x y z) && !Float64.isZero (rg x y z) && !Float64.isZero (Float64.add (mx3 x y z) (mn3 x y z)) &&
  !Float64.isZero (Float64.sub (Float64.sub c2 (mx3 x y z)) (mn3 x y z)) &&
  (if Float64.cmp x (mx3 x y z) == some .eq then hueA x y z == h else Float64.cmp y (mx3 x y z) == some .eq && hueB x y z == h) && satT x y z == s && mx3 x y z == v
theorem paint_of {x y z h s v : UInt64} (e : paintB x y z h s v = true) : Paint x y z h s v := by
  unfold paintB at e
  simp only [Bool.and_eq_true, Bool.not_eq_true'] at e
  obtain ⟨⟨⟨⟨⟨⟨⟨a1, a2⟩, a3⟩, a4⟩, a5⟩, a6⟩, a7⟩, a8⟩ := e
  refine ⟨by rw [a1]; exact Bool.false_ne_true, by rw [a2]; exact Bool.false_ne_true, by rw [a3]; exact Bool.false_ne_true, by rw [a4]; exact Bool.false_ne_true, by rw [a5]; exact Bool.false_ne_true, ?_, ?_, ?_, beq_iff_eq.mp a7, beq_iff_eq.mp a8⟩
  · intro q; rw [if_neg (by rw [q]; exact Bool.false_ne_true)] at a6; simp only [Bool.and_eq_true] at a6; exact a6.1
  · intro q; rw [if_pos q] at a6; exact beq_iff_eq.mp a6
  · intro q; rw [if_neg (by rw [q]; exact Bool.false_ne_true)] at a6; simp only [Bool.and_eq_true] at a6; exact beq_iff_eq.mp a6.2
noncomputable def hueOkB (h s : UInt64) : Bool := !(Float64.cmp s 0 == some .eq) && Float64.isFinite (Float64.mul h c6) && decide (0 ≤ iOf h) && decide (iOf h < 4)
theorem hue_of {h s v : UInt64} (e : hueOkB h s = true) : Hue h s v := by
  unfold hueOkB at e
  simp only [Bool.and_eq_true, Bool.not_eq_true', decide_eq_true_eq] at e
  obtain ⟨⟨⟨a1, a2⟩, a3⟩, a4⟩ := e
  exact ⟨by rw [a1]; exact Bool.false_ne_true, a2, a3, a4⟩
noncomputable def below (n : Nat) (p : Nat → Bool) : Bool := (List.range n).all p
theorem below_of {n : Nat} {p : Nat → Bool} (h : below n p = true) {i : Nat} (hi : i < n) : p i = true := List.all_eq_true.mp h i (List.mem_range.mpr hi)
theorem tab_hue : (below 9 fun j => below 3 fun a => hueOkB (hueT j) (shT a)) = true := by decide +kernel
noncomputable def paintJ (j a b : Nat) : Bool := match rgbOf (hueT j) (shT a) (shT b) with | (x, y, z) => paintB x y z (hueT j) (shT a) (shT b)
theorem tab_paint0 : (below 9 fun j => below 3 fun b => paintJ j 0 b) = true := by decide +kernel
theorem tab_paint1 : (below 9 fun j => below 3 fun b => paintJ j 1 b) = true := by decide +kernel
theorem tab_paint2 : (below 9 fun j => below 3 fun b => paintJ j 2 b) = true := by decide +kernel
theorem tab_paint : ∀ a, a < 3 → (below 9 fun j => below 3 fun b => paintJ j a b) = true
  | 0, _ => tab_paint0
  | 1, _ => tab_paint1
  | 2, _ => tab_paint2
  | a + 3, h => absurd h (by omega)
theorem hue_at {j a : Nat} (hj : j < 9) (ha : a < 3) (v : UInt64) : Hue (hueT j) (shT a) v := hue_of (below_of (below_of tab_hue hj) ha)
theorem paint_at {j a b : Nat} (hj : j < 9) (ha : a < 3) (hb : b < 3) : Paint (rgbOf (hueT j) (shT a) (shT b)).1 (rgbOf (hueT j) (shT a) (shT b)).2.1 (rgbOf (hueT j) (shT a) (shT b)).2.2 (hueT j) (shT a) (shT b) :=
  paint_of (below_of (below_of (tab_paint a ha) hj) hb)
end
end Mine
end
section
open PySem PySem.W PySem.Calls PySem.Flt PyProof.Rows
set_option maxRecDepth 100000
set_option maxHeartbeats 4000000
set_option exponentiation.threshold 2000
set_option linter.unusedVariables false
namespace Mine
variable {g : G}
/-- a float made within a stretch of the run -/
noncomputable def isFT (x : UInt64) (a b : Nat) : VP := fun v => ∃ t : Nat, v = .float x t ∧ a ≤ t ∧ t < b
theorem Ex.asgT {c : Cx} {cs : Scope} {k0 t0 : Nat} {m : List (Str × VP)} {n : Led} {x : Str} {e : Expr} {p0 pos : Pos} {rest : List Stmt} {r : List (List Stmt)} {z : UInt64} {P : Flow → Shared → Prop} (h : EvG ⟨c, cs, k0, t0, m, n, []⟩ e (fun v s' => isFT z t0 s'.toks v ∧ St ⟨c, cs, k0, t0, m, n, []⟩ s')) (hx : Sto cs c.cl x)
    (hs : swapsWith e (some (.Name x p0)) pos.line (c.env cs) = pure false) (k : ∀ T, Ex ⟨c, cs, k0, T, (x, isFT z t0 T) :: m, n, []⟩ (rest :: r) P) : Ex ⟨c, cs, k0, t0, m, n, []⟩ ((.Assign [.Name x p0] e pos :: rest) :: r) P :=
  Ex.asgG h hx (fun v s a => ⟨_, _, _, a.1, a.2.raise, k _⟩) hs
theorem EvG.modFT {l r : Expr} {pos : Pos} {x y : UInt64} (h1 : Ev g l (isF x)) (h2 : Ev g r (isF y)) (h : ¬ Float64.isZero y = true) : EvG g (.BinOp l .Mod r pos) (fun v s' => isFT (Float64.divmod x y).snd g.t s'.toks v ∧ St g s') := fun Q E s p S q =>
  wpAny_BinOp (h1 _ _ _ p S fun v s1 a => h2 _ _ _ p a.2 fun u s2 b => by
    obtain ⟨⟨t, rfl, _⟩, S1⟩ := a
    obtain ⟨⟨t', rfl, _⟩, S2⟩ := b
    walk1 <;> first
      | exact q _ _ ⟨⟨_, rfl, S2.t, Nat.lt_succ_self _⟩, S2.tok⟩
      | exact absurd (by assumption) h)
/-- int(x) of a float -/
theorem Ev.intF {x0 : Str} {p pos : Pos} {e0 : Expr} {x : UInt64} (hf : Ev g (.Name x0 p) (fun u => u = .type "int")) (ha : Ev g e0 (isF x)) (hst : starEach [e0] g.env = [(false, eval e0 g.env)]) (hp : Pl g [e0]) (h : Float64.isFinite x = true) : Ev g (.Call (.Name x0 p) [e0] [] pos) (isI (toInt Float64.truncOf x)) :=
  EvG.callT hf (Evs.one ha hst) hp fun vs s a Q E q => by
    obtain ⟨_, rfl, ⟨t, rfl, _⟩, S⟩ := a
    rcases Flt.three x with ⟨hd, c⟩ | ⟨_, hd, c⟩ | ⟨sg, m, e, hd, c⟩
    · unfold Float64.isFinite at h; rw [hd] at h; cases h
    · unfold Float64.isFinite at h; rw [hd] at h; cases h
    · refine Flt.call_int_float3 (x := x) rfl (fun c' => ?_) (fun c' => ?_) fun _ => q _ _ ⟨⟨_, rfl⟩, S.tok⟩
      · exfalso; unfold Float64.isNaN at c'; rw [hd] at c'; cases c'
      · exfalso; unfold Float64.isInf at c'; rw [hd] at c'; cases c'
/-- if t: x = e else: x = e' -/
theorem Ex.iteAsg {c : Cx} {cs : Scope} {k0 t0 : Nat} {m : List (Str × VP)} {n : Led} {t e e' : Expr} {x : Str} {p0 p1 p2 p3 pos : Pos} {rest : List Stmt} {r : List (List Stmt)} {b : Bool} {V1 V2 : VP} (V : VP) {P : Flow → Shared → Prop} (ht : Tr ⟨c, cs, k0, t0, m, n, []⟩ t b)
    (h1 : Ev ⟨c, cs, k0, t0, m, n, []⟩ e V1) (h0 : Ev ⟨c, cs, k0, t0, m, n, []⟩ e' V2) (w1 : ∀ v, V1 v → V v) (w2 : ∀ v, V2 v → V v) (hx : Sto cs c.cl x) (hs : swapsWith e (some (.Name x p0)) p1.line (c.env cs) = pure false) (hs' : swapsWith e' (some (.Name x p2)) p3.line (c.env cs) = pure false)
    (k : Ex ⟨c, cs, k0, t0, (x, V) :: m, n, []⟩ (rest :: r) P) : Ex ⟨c, cs, k0, t0, m, n, []⟩ ((.If t [.Assign [.Name x p0] e p1] [.Assign [.Name x p2] e' p3] pos :: rest) :: r) P :=
  Ex.iff ht (by
    cases b with
    | true => exact Ex.asg (EvG.mono h1 fun v s a => ⟨w1 v a.1, a.2⟩) hx hs (Ex.pop k)
    | false => exact Ex.asg (EvG.mono h0 fun v s a => ⟨w2 v a.1, a.2⟩) hx hs' (Ex.pop k))
/-- a paint that has been made: its first place's tok lies in the call -/
noncomputable def TupF (h : UInt64) (U W : VP) : Nat → Nat → Led → Value → Prop := fun n0 n1 tl r => ∃ d ws, tl = [(d, tupOf ws)] ∧ r = .ref d ∧ All2 [isFT h n0 n1, U, W] ws
noncomputable def TupV (Vs : List VP) : Nat → Nat → Led → Value → Prop := fun n0 n1 tl r => ∃ d ws, tl = [(d, tupOf ws)] ∧ r = .ref d ∧ All2 Vs ws
theorem isFT.hi {x : UInt64} {a b b' : Nat} {v : Value} (h : isFT x a b v) (k : b ≤ b') : isFT x a b' v := let ⟨t, h1, h2, h3⟩ := h; ⟨t, h1, h2, Nat.lt_of_lt_of_le h3 k⟩
theorem back_tup {c : Cx} {cs : Scope} {k t : Nat} {m : List (Str × VP)} {news : Led} {z h s' w : UInt64} {U W : VP} {v : Value} {s : Shared} (e : z = h) (e1 : ∀ v, isF s' v → U v) (e2 : ∀ v, isF w v → W v) (q : Seq ⟨c, cs, k, t, m, news, []⟩ [isFT z c.t t, isF s', isF w] tupOf v s) : Back c cs k news (TupF h U W) (.ret v) s := by
  cases q with | mk d vs hv ha lt S =>
  obtain ⟨v1, _, rfl, h1, v2, _, rfl, h2, v3, _, rfl, h3, rfl⟩ := ha
  refine ⟨v, [(d, tupOf [v1, v2, v3])], _, _, S, fun q hq p hp => ?_, d, _, rfl, hv, v1, _, rfl, e ▸ h1.hi S.t, v2, _, rfl, e1 _ h2, v3, _, rfl, e2 _ h3, rfl⟩
  cases List.mem_singleton.mp hp
  exact lt q hq
theorem back_tupV {c : Cx} {cs : Scope} {k t : Nat} {m : List (Str × VP)} {news : Led} {Vs Us : List VP} {v : Value} {s : Shared} (e : Vs = Us) (q : Seq ⟨c, cs, k, t, m, news, []⟩ Vs tupOf v s) : Back c cs k news (TupV Us) (.ret v) s := by
  cases q with | mk d vs hv ha lt S =>
  refine ⟨v, [(d, tupOf vs)], _, _, S, fun q hq p hp => ?_, d, _, rfl, hv, e ▸ ha⟩
  cases List.mem_singleton.mp hp
  exact lt q hq
theorem rgb_to_hsv_says {x y z h₁ s v : UInt64} {vs : List Value} (P : Paint x y z h₁ s v) (hk : 1 ≤ g.k) (hv : All2 [isF x, isF y, isF z] vs) : CallAt g 28 vs (Called g (TupF h₁ (isF s) (isF v))) := by
  obtain ⟨v1, _, rfl, hV1, v2, _, rfl, hV2, v3, _, rfl, hV3, rfl⟩ := hv
  refine' CallAt.of ?ho ?hcd ?hb ?hkind ?hg ?hk [("r", isF x), ("g", isF y), ("b", isF z)] ?hms ?h; (case ho => exact rfl); (case hcd => exact rfl); (case hb => exact fun s => BindsTo.of_eq rfl); (case hkind => exact rfl); (case hg => exact ⟨rfl, rfl, rfl⟩); (case hk => exact Nat.le_trans (by decide) hk); (case hms => (intro L'; (repeat' (first | exact rds_nil | refine' rds_cons (.inl ⟨rfl, rfl⟩) ?_ ?_ | refine' rds_cons (.inr ⟨rfl, rfl, rfl⟩) ?_ ?_)); all_goals first | assumption | exact rfl | exact ⟨_, rfl⟩)); (case' h => intro c cells hlo keep hcl)
  case h =>
    have g1 := Bool.eq_false_iff.mpr P.apart; have g2 := P.mxz; have g3 : ¬ Float64.isZero (Float64.sub (mx3 x y z) (mn3 x y z)) = true := P.rgz; have g4 := P.two
    repeat' (first
      | ((with_reducible show Ev _ (Expr.Call (Expr.Name (Str.ofString "max") _) _ _ _) _); refine' Ev.max3 ?_ ?_ ?_)
      | ((with_reducible show Ev _ (Expr.Call (Expr.Name (Str.ofString "min") _) _ _ _) _); refine' Ev.min3 ?_ ?_ ?_)
      | ((with_reducible show Ex _ ((Stmt.Assign [Expr.Name (Str.ofString "h") _] (Expr.BinOp _ Operator.Mod _ _) _ :: _) :: _) _); refine' Ex.asgT (EvG.modFT ?_ ?_ ?_) (.inl rfl) rfl ?_)
      | ((with_reducible show ∀ T : Nat, Ex _ _ _); intro T9)
      | ((with_reducible show ¬ Float64.isZero (OfNat.ofNat _) = true); decide +kernel)
      | ((with_reducible show Cm _ CmpOp.Eq (isF _) (isF _) _); first | exact Cm.eqF (by assumption) | exact Cm.eqF (g4 (by assumption)) | exact Cm.eqF rfl)
      | ((with_reducible show Ex _ ((cond (BEq.beq _ _) _ _) :: _) _); generalize hb : (Float64.cmp _ _ == some _) = b9; cases b9)
      | ((with_reducible show Ex _ ((Stmt.Return _ _ :: _) :: _) _); refine' Ex.ret (EvG.tup ?_ ?_) ?_)
      | ((with_reducible show Ev _ (Expr.Name _ _) _); (first | exact Ev.name rfl rfl | exact Ev.globR rfl rfl rfl | exact Ev.globI rfl rfl rfl | exact Ev.nameL rfl rfl | exact Ev.nameC rfl rfl rfl rfl rfl | exact Ev.built rfl rfl rfl (by decide) rfl))
      | ((with_reducible show Ev _ (Expr.Constant _ _ _) _); first | (with_reducible exact Ev.int) | (with_reducible exact Ev.flt) | (with_reducible exact Ev.str) | (with_reducible exact Ev.bool))
      | ((with_reducible show Ev _ (Expr.BinOp _ _ _ _) _); with_reducible refine' Ev.bin ?_ ?_ ?_)
      | ((with_reducible show Ev _ (Expr.IfExp _ _ _ _) _); with_reducible refine' Ev.ite ?_ ?_ ?_)
      | ((with_reducible show Tr _ (Expr.Compare _ _ _ _) _); with_reducible refine' Tr.cmp ?_ ?_ ?_ rfl)
      | ((with_reducible show Ev _ (Expr.Compare _ _ _ _) _); with_reducible refine' Ev.cmp ?_ ?_ ?_ rfl)
      | ((with_reducible show Tr _ (Expr.Call _ _ _ _) _); with_reducible refine' Tr.val ?_ Tv.bool rfl)
      | ((with_reducible show Tr _ (Expr.UnaryOp UnaryOp.Not _ _) _); with_reducible refine' Tr.not ?_)
      | ((with_reducible show Tr _ (Expr.BoolOp BoolOp.And [] _) _); with_reducible exact Tr.andNil)
      | ((with_reducible show Tr _ (Expr.BoolOp BoolOp.And _ _) _); with_reducible refine' Tr.and ?_ ?_)
      | ((with_reducible show Tr _ (Expr.BoolOp BoolOp.Or [] _) _); with_reducible exact Tr.orNil)
      | ((with_reducible show Tr _ (Expr.BoolOp BoolOp.Or _ _) _); with_reducible refine' Tr.or ?_ ?_)
      | ((with_reducible show _ = _ → Tr _ _ _); intro hb)
      | ((with_reducible show Evs _ [] _); exact Evs.nil)
      | ((with_reducible show Evs _ (_ :: _) (Pure _ _)); refine' Evs.cons ?_ ?_ rfl)
      | ((with_reducible show Pl _ _); exact fun _ => ⟨_, _, rfl, rfl⟩)
      | ((with_reducible show isFn _ _ = true); exact rfl)
      | ((with_reducible show Ex _ ((Stmt.If _ _ _ _ :: _) :: _) _); refine' Ex.iff ?_ ?_)
      | ((with_reducible show Ex _ ([] :: _) _); refine' Ex.pop ?_)
      | ((with_reducible show Ex _ ((cond true _ _) :: _) _); dsimp only [cond_true])
      | ((with_reducible show Ex _ ((cond false _ _) :: _) _); dsimp only [cond_false])
      | ((with_reducible show _ ≤ sizeLine); exact Nat.le_of_ble_eq_true rfl)
      | ((with_reducible show _ = _); assumption)
      | ((with_reducible show ¬ _); assumption)
      | ((with_reducible show Ex _ ((Stmt.Assign _ _ _ :: _) :: _) _); refine' Ex.asg ?_ (.inl rfl) rfl ?_)
      | ((with_reducible show _ = pure false); exact rfl)
      | ((with_reducible show ∀ u : Tok, Subs _ _ _); (intro u; with_unfolding_all rfl))
      | ((with_reducible show ∀ (l : Addr) (u : Tok), Subs _ _ _); (intro l u; with_unfolding_all rfl))
      | ((with_reducible show ∀ (t u : Tok), Subs _ _ _); (intro l u; with_unfolding_all rfl))
      | ((with_reducible show Bi _ Operator.Add _ _ _); first | (with_reducible exact Bi.addI) | (with_reducible exact Bi.addF) | (with_reducible refine' Bi.addS ?_))
      | ((with_reducible show Bi _ Operator.Sub _ _ _); first | (with_reducible exact Bi.subI) | (with_reducible exact Bi.subF) | (with_reducible refine' Bi.subFI ?_))
      | ((with_reducible show Bi _ Operator.Mult _ _ _); first | (with_reducible exact Bi.mulF) | (with_reducible refine' Bi.mulIF ?_))
      | ((with_reducible show Bi _ Operator.Div _ _ _); first | (with_reducible refine' Bi.divF ?_) | (with_reducible refine' Bi.divFI ?_ ?_) | (with_reducible refine' Bi.divII ?_ ?_))
      | ((with_reducible show Bi _ Operator.Mod _ _ _); first | (with_reducible refine' Bi.modI ?_) | (with_reducible refine' Bi.modF ?_))
      | ((with_reducible show Bi _ Operator.FloorDiv _ _ _); first | (with_reducible refine' Bi.divI ?_ ?_))
      | ((with_reducible show Bi _ Operator.LShift _ _ _); first | (with_reducible refine' Bi.shl ?_ ?_ ?_))
      | ((with_reducible show Bi _ Operator.RShift _ _ _); first | (with_reducible refine' Bi.shr ?_))
      | ((with_reducible show Bi _ Operator.BitAnd _ _ _); first | (with_reducible exact Bi.and))
      | ((with_reducible show Bi _ Operator.BitOr _ _ _); first | (with_reducible exact Bi.or)))
    all_goals first
      | exact fun _ _ q => back_tup (P.hA (by assumption)) (fun v h => by rw [← P.sat]; exact h) (fun v h => by rw [← P.top]; exact h) q
      | exact fun _ _ q => back_tup (P.hB (by assumption)) (fun v h => by rw [← P.sat]; exact h) (fun v h => by rw [← P.top]; exact h) q
theorem rgb_to_hls_says {x y z h₁ s v : UInt64} {vs : List Value} (P : Paint x y z h₁ s v) (hk : 1 ≤ g.k) (hv : All2 [isF x, isF y, isF z] vs) : CallAt g 21 vs (Called g (TupF h₁ (fun _ => True) fun _ => True)) := by
  obtain ⟨v1, _, rfl, hV1, v2, _, rfl, hV2, v3, _, rfl, hV3, rfl⟩ := hv
  refine' CallAt.of ?ho ?hcd ?hb ?hkind ?hg ?hk [("r", isF x), ("g", isF y), ("b", isF z)] ?hms ?h; (case ho => exact rfl); (case hcd => exact rfl); (case hb => exact fun s => BindsTo.of_eq rfl); (case hkind => exact rfl); (case hg => exact ⟨rfl, rfl, rfl⟩); (case hk => exact Nat.le_trans (by decide) hk); (case hms => (intro L'; (repeat' (first | exact rds_nil | refine' rds_cons (.inl ⟨rfl, rfl⟩) ?_ ?_ | refine' rds_cons (.inr ⟨rfl, rfl, rfl⟩) ?_ ?_)); all_goals first | assumption | exact rfl | exact ⟨_, rfl⟩)); (case' h => intro c cells hlo keep hcl)
  case h =>
    have g1 := Bool.eq_false_iff.mpr P.apart; have g2 := P.mxz; have g3 : ¬ Float64.isZero (Float64.sub (mx3 x y z) (mn3 x y z)) = true := P.rgz; have g4 := P.two
    have g5 := P.smz; have g6 : ¬ Float64.isZero (Float64.sub (Float64.sub 4611686018427387904 (mx3 x y z)) (mn3 x y z)) = true := P.tmz
    repeat' (first
      | ((with_reducible show Ev _ (Expr.Call (Expr.Name (Str.ofString "max") _) _ _ _) _); refine' Ev.max3 ?_ ?_ ?_)
      | ((with_reducible show Ev _ (Expr.Call (Expr.Name (Str.ofString "min") _) _ _ _) _); refine' Ev.min3 ?_ ?_ ?_)
      | ((with_reducible show Ex _ ((Stmt.Assign [Expr.Name (Str.ofString "h") _] (Expr.BinOp _ Operator.Mod _ _) _ :: _) :: _) _); refine' Ex.asgT (EvG.modFT ?_ ?_ ?_) (.inl rfl) rfl ?_)
      | ((with_reducible show Ex _ ((Stmt.If (Expr.Compare _ [CmpOp.LtE] _ _) _ _ _ :: _) :: _) _); refine' Ex.iteAsg (fun v => ∃ z, isF z v) ?_ ?_ ?_ ?_ ?_ (.inl rfl) rfl rfl ?_)
      | ((with_reducible show ∀ v : Value, isF _ v → Exists _); exact fun _ h => ⟨_, h⟩)
      | ((with_reducible show Cm _ CmpOp.LtE (isF _) (isF _) _); exact Cm.leF rfl)
      | ((with_reducible show ∀ T : Nat, Ex _ _ _); intro T9)
      | ((with_reducible show ¬ Float64.isZero (OfNat.ofNat _) = true); decide +kernel)
      | ((with_reducible show Cm _ CmpOp.Eq (isF _) (isF _) _); first | exact Cm.eqF (by assumption) | exact Cm.eqF (g4 (by assumption)) | exact Cm.eqF rfl)
      | ((with_reducible show Ex _ ((cond (BEq.beq _ _) _ _) :: _) _); generalize hb : (Float64.cmp _ _ == some _) = b9; cases b9)
      | ((with_reducible show Ex _ ((Stmt.Return _ _ :: _) :: _) _); refine' Ex.ret (EvG.tup ?_ ?_) ?_)
      | ((with_reducible show Ev _ (Expr.Name _ _) _); (first | exact Ev.name rfl rfl | exact Ev.globR rfl rfl rfl | exact Ev.globI rfl rfl rfl | exact Ev.nameL rfl rfl | exact Ev.nameC rfl rfl rfl rfl rfl | exact Ev.built rfl rfl rfl (by decide) rfl))
      | ((with_reducible show Ev _ (Expr.Constant _ _ _) _); first | (with_reducible exact Ev.int) | (with_reducible exact Ev.flt) | (with_reducible exact Ev.str) | (with_reducible exact Ev.bool))
      | ((with_reducible show Ev _ (Expr.BinOp _ _ _ _) _); with_reducible refine' Ev.bin ?_ ?_ ?_)
      | ((with_reducible show Ev _ (Expr.IfExp _ _ _ _) _); with_reducible refine' Ev.ite ?_ ?_ ?_)
      | ((with_reducible show Tr _ (Expr.Compare _ _ _ _) _); with_reducible refine' Tr.cmp ?_ ?_ ?_ rfl)
      | ((with_reducible show Ev _ (Expr.Compare _ _ _ _) _); with_reducible refine' Ev.cmp ?_ ?_ ?_ rfl)
      | ((with_reducible show Tr _ (Expr.Call _ _ _ _) _); with_reducible refine' Tr.val ?_ Tv.bool rfl)
      | ((with_reducible show Tr _ (Expr.UnaryOp UnaryOp.Not _ _) _); with_reducible refine' Tr.not ?_)
      | ((with_reducible show Tr _ (Expr.BoolOp BoolOp.And [] _) _); with_reducible exact Tr.andNil)
      | ((with_reducible show Tr _ (Expr.BoolOp BoolOp.And _ _) _); with_reducible refine' Tr.and ?_ ?_)
      | ((with_reducible show Tr _ (Expr.BoolOp BoolOp.Or [] _) _); with_reducible exact Tr.orNil)
      | ((with_reducible show Tr _ (Expr.BoolOp BoolOp.Or _ _) _); with_reducible refine' Tr.or ?_ ?_)
      | ((with_reducible show _ = _ → Tr _ _ _); intro hb)
      | ((with_reducible show Evs _ [] _); exact Evs.nil)
      | ((with_reducible show Evs _ (_ :: _) (Pure _ _)); refine' Evs.cons ?_ ?_ rfl)
      | ((with_reducible show Pl _ _); exact fun _ => ⟨_, _, rfl, rfl⟩)
      | ((with_reducible show isFn _ _ = true); exact rfl)
      | ((with_reducible show Ex _ ((Stmt.If _ _ _ _ :: _) :: _) _); refine' Ex.iff ?_ ?_)
      | ((with_reducible show Ex _ ([] :: _) _); refine' Ex.pop ?_)
      | ((with_reducible show Ex _ ((cond true _ _) :: _) _); dsimp only [cond_true])
      | ((with_reducible show Ex _ ((cond false _ _) :: _) _); dsimp only [cond_false])
      | ((with_reducible show _ ≤ sizeLine); exact Nat.le_of_ble_eq_true rfl)
      | ((with_reducible show _ = _); assumption)
      | ((with_reducible show ¬ _); assumption)
      | ((with_reducible show Ex _ ((Stmt.Assign _ _ _ :: _) :: _) _); refine' Ex.asg ?_ (.inl rfl) rfl ?_)
      | ((with_reducible show _ = pure false); exact rfl)
      | ((with_reducible show ∀ u : Tok, Subs _ _ _); (intro u; with_unfolding_all rfl))
      | ((with_reducible show ∀ (l : Addr) (u : Tok), Subs _ _ _); (intro l u; with_unfolding_all rfl))
      | ((with_reducible show ∀ (t u : Tok), Subs _ _ _); (intro l u; with_unfolding_all rfl))
      | ((with_reducible show Bi _ Operator.Add _ _ _); first | (with_reducible exact Bi.addI) | (with_reducible exact Bi.addF) | (with_reducible refine' Bi.addS ?_))
      | ((with_reducible show Bi _ Operator.Sub _ _ _); first | (with_reducible exact Bi.subI) | (with_reducible exact Bi.subF) | (with_reducible refine' Bi.subFI ?_))
      | ((with_reducible show Bi _ Operator.Mult _ _ _); first | (with_reducible exact Bi.mulF) | (with_reducible refine' Bi.mulIF ?_))
      | ((with_reducible show Bi _ Operator.Div _ _ _); first | (with_reducible refine' Bi.divF ?_) | (with_reducible refine' Bi.divFI ?_ ?_) | (with_reducible refine' Bi.divII ?_ ?_))
      | ((with_reducible show Bi _ Operator.Mod _ _ _); first | (with_reducible refine' Bi.modI ?_) | (with_reducible refine' Bi.modF ?_))
      | ((with_reducible show Bi _ Operator.FloorDiv _ _ _); first | (with_reducible refine' Bi.divI ?_ ?_))
      | ((with_reducible show Bi _ Operator.LShift _ _ _); first | (with_reducible refine' Bi.shl ?_ ?_ ?_))
      | ((with_reducible show Bi _ Operator.RShift _ _ _); first | (with_reducible refine' Bi.shr ?_))
      | ((with_reducible show Bi _ Operator.BitAnd _ _ _); first | (with_reducible exact Bi.and))
      | ((with_reducible show Bi _ Operator.BitOr _ _ _); first | (with_reducible exact Bi.or)))
    all_goals
      intro v' s' q
      cases q with | mk d vs hv ha lt S =>
      obtain ⟨w1, _, rfl, h1, w2, _, rfl, h2, w3, _, rfl, h3, rfl⟩ := ha
      refine ⟨v', [(d, tupOf [w1, w2, w3])], _, _, S, fun q hq p hp => List.mem_singleton.mp hp ▸ lt q hq, d, _, rfl, hv, w1, _, rfl, ?_, w2, _, rfl, trivial, w3, _, rfl, trivial, rfl⟩
      first
        | exact (P.hA (by assumption)) ▸ h1.hi S.t
        | exact (P.hB (by assumption)) ▸ h1.hi S.t
theorem hsv_to_rgb_says {h s v : UInt64} {vs : List Value} (H : Hue h s v) (hk : 1 ≤ g.k) (hv : All2 [isF h, isF s, isF v] vs) : CallAt g 35 vs (Called g (TupV [isF (rgbOf h s v).1, isF (rgbOf h s v).2.1, isF (rgbOf h s v).2.2])) := by
  obtain ⟨v1, _, rfl, hV1, v2, _, rfl, hV2, v3, _, rfl, hV3, rfl⟩ := hv
  refine' CallAt.of ?ho ?hcd ?hb ?hkind ?hg ?hk [("h", isF h), ("s", isF s), ("v", isF v)] ?hms ?h; (case ho => exact rfl); (case hcd => exact rfl); (case hb => exact fun s => BindsTo.of_eq rfl); (case hkind => exact rfl); (case hg => exact ⟨rfl, rfl, rfl⟩); (case hk => exact Nat.le_trans (by decide) hk); (case hms => (intro L'; (repeat' (first | exact rds_nil | refine' rds_cons (.inl ⟨rfl, rfl⟩) ?_ ?_ | refine' rds_cons (.inr ⟨rfl, rfl, rfl⟩) ?_ ?_)); all_goals first | assumption | exact rfl | exact ⟨_, rfl⟩)); (case' h => intro c cells hlo keep hcl)
  case h =>
    have g1 := Bool.eq_false_iff.mpr H.s0
    have g2 : Float64.isFinite (Float64.mul h 4618441417868443648) = true := H.fin
    have g5 : (Flt.toInt Float64.truncOf (Float64.mul h 4618441417868443648)).natAbs < 2 ^ 1024 - 2 ^ 970 := Nat.lt_of_lt_of_le (show (iOf h).natAbs < 4 by have := H.lo; have := H.hi; omega) (Nat.le_of_ble_eq_true rfl)
    have g6 : (iOf h).fmod 6 = 0 ∨ (iOf h).fmod 6 = 1 ∨ (iOf h).fmod 6 = 2 ∨ (iOf h).fmod 6 = 3 := by rw [Int.fmod_eq_emod_of_nonneg _ (by decide)]; have := H.lo; have := H.hi; omega
    repeat' (first
      | ((with_reducible show Ev _ (Expr.Call (Expr.Name (Str.ofString "int") _) _ _ _) _); refine' Ev.intF ?_ ?_ rfl ?_ g2)
      | ((with_reducible show Int.natAbs _ < _); exact g5)
      | ((with_reducible show ¬ (_ == _) = true); decide)
      | ((with_reducible show Cm _ CmpOp.Eq (isF _) (isF _) _); exact Cm.eqF (by assumption))
      | ((with_reducible show Ex _ ((Stmt.If (Expr.Compare (Expr.Name (Str.ofString "i") _) _ _ _) _ _ _ :: _) :: _) _); first | (rcases g6 with g6 | g6 | g6 | g6) | (refine' Ex.iff (Tr.cmp ?_ ?_ (Cm.eqI ?_) rfl) ?_))
      | ((with_reducible show (BEq.beq _ _) = _); first | exact beq_iff_eq.mpr g6 | exact beq_eq_false_iff_ne.mpr (fun e => absurd (g6.symm.trans e) (by decide)))
      | ((with_reducible show Ex _ ((Stmt.Return _ _ :: _) :: _) _); refine' Ex.ret (EvG.tup ?_ ?_) ?_)
      | ((with_reducible show Ev _ (Expr.Name _ _) _); (first | exact Ev.name rfl rfl | exact Ev.globR rfl rfl rfl | exact Ev.globI rfl rfl rfl | exact Ev.nameL rfl rfl | exact Ev.nameC rfl rfl rfl rfl rfl | exact Ev.built rfl rfl rfl (by decide) rfl))
      | ((with_reducible show Ev _ (Expr.Constant _ _ _) _); first | (with_reducible exact Ev.int) | (with_reducible exact Ev.flt) | (with_reducible exact Ev.str) | (with_reducible exact Ev.bool))
      | ((with_reducible show Ev _ (Expr.BinOp _ _ _ _) _); with_reducible refine' Ev.bin ?_ ?_ ?_)
      | ((with_reducible show Ev _ (Expr.IfExp _ _ _ _) _); with_reducible refine' Ev.ite ?_ ?_ ?_)
      | ((with_reducible show Tr _ (Expr.Compare _ _ _ _) _); with_reducible refine' Tr.cmp ?_ ?_ ?_ rfl)
      | ((with_reducible show Ev _ (Expr.Compare _ _ _ _) _); with_reducible refine' Ev.cmp ?_ ?_ ?_ rfl)
      | ((with_reducible show Tr _ (Expr.Call _ _ _ _) _); with_reducible refine' Tr.val ?_ Tv.bool rfl)
      | ((with_reducible show Tr _ (Expr.UnaryOp UnaryOp.Not _ _) _); with_reducible refine' Tr.not ?_)
      | ((with_reducible show Tr _ (Expr.BoolOp BoolOp.And [] _) _); with_reducible exact Tr.andNil)
      | ((with_reducible show Tr _ (Expr.BoolOp BoolOp.And _ _) _); with_reducible refine' Tr.and ?_ ?_)
      | ((with_reducible show Tr _ (Expr.BoolOp BoolOp.Or [] _) _); with_reducible exact Tr.orNil)
      | ((with_reducible show Tr _ (Expr.BoolOp BoolOp.Or _ _) _); with_reducible refine' Tr.or ?_ ?_)
      | ((with_reducible show _ = _ → Tr _ _ _); intro hb)
      | ((with_reducible show Evs _ [] _); exact Evs.nil)
      | ((with_reducible show Evs _ (_ :: _) (Pure _ _)); refine' Evs.cons ?_ ?_ rfl)
      | ((with_reducible show Pl _ _); exact fun _ => ⟨_, _, rfl, rfl⟩)
      | ((with_reducible show isFn _ _ = true); exact rfl)
      | ((with_reducible show Ex _ ((Stmt.If _ _ _ _ :: _) :: _) _); refine' Ex.iff ?_ ?_)
      | ((with_reducible show Ex _ ([] :: _) _); refine' Ex.pop ?_)
      | ((with_reducible show Ex _ ((cond true _ _) :: _) _); dsimp only [cond_true])
      | ((with_reducible show Ex _ ((cond false _ _) :: _) _); dsimp only [cond_false])
      | ((with_reducible show _ ≤ sizeLine); exact Nat.le_of_ble_eq_true rfl)
      | ((with_reducible show _ = _); assumption)
      | ((with_reducible show ¬ _); assumption)
      | ((with_reducible show Ex _ ((Stmt.Assign _ _ _ :: _) :: _) _); refine' Ex.asg ?_ (.inl rfl) rfl ?_)
      | ((with_reducible show _ = pure false); exact rfl)
      | ((with_reducible show ∀ u : Tok, Subs _ _ _); (intro u; with_unfolding_all rfl))
      | ((with_reducible show ∀ (l : Addr) (u : Tok), Subs _ _ _); (intro l u; with_unfolding_all rfl))
      | ((with_reducible show ∀ (t u : Tok), Subs _ _ _); (intro l u; with_unfolding_all rfl))
      | ((with_reducible show Bi _ Operator.Add _ _ _); first | (with_reducible exact Bi.addI) | (with_reducible exact Bi.addF) | (with_reducible refine' Bi.addS ?_))
      | ((with_reducible show Bi _ Operator.Sub _ _ _); first | (with_reducible exact Bi.subI) | (with_reducible exact Bi.subF) | (with_reducible refine' Bi.subFI ?_))
      | ((with_reducible show Bi _ Operator.Mult _ _ _); first | (with_reducible exact Bi.mulF) | (with_reducible refine' Bi.mulIF ?_))
      | ((with_reducible show Bi _ Operator.Div _ _ _); first | (with_reducible refine' Bi.divF ?_) | (with_reducible refine' Bi.divFI ?_ ?_) | (with_reducible refine' Bi.divII ?_ ?_))
      | ((with_reducible show Bi _ Operator.Mod _ _ _); first | (with_reducible refine' Bi.modI ?_) | (with_reducible refine' Bi.modF ?_))
      | ((with_reducible show Bi _ Operator.FloorDiv _ _ _); first | (with_reducible refine' Bi.divI ?_ ?_))
      | ((with_reducible show Bi _ Operator.LShift _ _ _); first | (with_reducible refine' Bi.shl ?_ ?_ ?_))
      | ((with_reducible show Bi _ Operator.RShift _ _ _); first | (with_reducible refine' Bi.shr ?_))
      | ((with_reducible show Bi _ Operator.BitAnd _ _ _); first | (with_reducible exact Bi.and))
      | ((with_reducible show Bi _ Operator.BitOr _ _ _); first | (with_reducible exact Bi.or)))
    all_goals first
      | exact fun _ _ q => back_tupV (by rw [rgbOf_0 g6]; rfl) q
      | exact fun _ _ q => back_tupV (by rw [rgbOf_1 g6]; rfl) q
      | exact fun _ _ q => back_tupV (by rw [rgbOf_2 g6]; rfl) q
      | exact fun _ _ q => back_tupV (by rw [rgbOf_3 g6]; rfl) q
end Mine
end
section
open PySem PySem.W PySem.Calls PySem.Flt PyProof.Rows
set_option maxRecDepth 100000
set_option maxHeartbeats 4000000
set_option linter.unusedVariables false
namespace Mine
variable {g : G}
/-- f(..)[0] of a paint that is made for it -/
theorem EvG.first {value slice : Expr} {pos : Pos} {h : UInt64} {U W : VP} (hv : EvG g value (Called g (TupF h U W))) (h0 : ∀ g' : G, g'.env = g.env → Ev g' slice (isI ((0 : Nat) : Int))) (hs : ∀ l u, Subs slice (.ref l) (.int ((0 : Nat) : Int) u)) :
    EvG g (.Subscript value slice pos) (fun v s' => isFT h g.t s'.toks v ∧ St g s') := fun Q E s p S q =>
  Subscript_ (hv _ _ _ p S fun o s1 a => by
    cases a with | mk tl n0 n1 a0 a1 a2 S1 o R =>
    obtain ⟨d, ws, rfl, rfl, w1, r1, rfl, hw, _⟩ := R
    refine h0 ⟨g.c, g.cs, g.k, s1.toks, g.m, (d, tupOf (w1 :: r1)) :: g.n, g.y⟩ rfl _ _ _ p S1.raise fun i s2 b => ?_
    refine It.tup (g := ⟨g.c, g.cs, g.k, s1.toks, g.m, (d, tupOf (w1 :: r1)) :: g.n, g.y⟩) (value := value) (slice := slice) (k := ((0 : Nat) : Int)) (v := w1) (W := isFT h n0 n1) (.head _) (by decide) (by decide) rfl hw (hs d) _ _ rfl b.1 Q E s2 b.2 fun r s' hr S' => q _ _ ⟨?_, (S'.low (t := g.t) (Nat.le_trans a0 (Nat.le_trans a1 a2)) S.t0).less (n := g.n) (fun p hp => .tail _ hp) S.y⟩
    obtain ⟨t, h1, h2, h3⟩ := hr
    exact ⟨t, h1, Nat.le_trans a0 h2, Nat.lt_of_lt_of_le h3 (Nat.le_trans a2 S'.t)⟩)
/-- what a call hands back that makes nothing, its tok within the call -/
abbrev ValT (h : UInt64) : Nat → Nat → Led → Value → Prop := fun n0 n1 tl r => tl = [] ∧ isFT h n0 n1 r
theorem hue_says {x y z h s v : UInt64} {d : Addr} {k : Int} {ws vs : List Value} (P : Paint x y z h s v) (hd : (d, tupOf ws) ∈ g.n) (hw : All2 [isF x, isF y, isF z] ws) (hk : 2 ≤ g.k) (hv : All2 [isR d, isI k] vs) : CallAt g 162 vs (Called g (ValT h)) := by
  obtain ⟨v1, _, rfl, hV1, v2, _, rfl, hV2, rfl⟩ := hv
  have hk1 : 1 ≤ g.k - 1 := Nat.le_sub_of_add_le hk
  refine' CallAt.of ?ho ?hcd ?hb ?hkind ?hg ?hk [("paint", isR d), ("k", isI k)] ?hms ?h; (case ho => exact rfl); (case hcd => exact rfl); (case hb => exact fun s => BindsTo.of_eq rfl); (case hkind => exact rfl); (case hg => exact ⟨rfl, rfl, rfl⟩); (case hk => exact Nat.le_trans (by decide) hk); (case hms => (intro L'; (repeat' (first | exact rds_nil | refine' rds_cons (.inl ⟨rfl, rfl⟩) ?_ ?_ | refine' rds_cons (.inr ⟨rfl, rfl, rfl⟩) ?_ ?_)); all_goals first | assumption | exact rfl | exact ⟨_, rfl⟩)); (case' h => intro c cells hlo keep hcl)
  case h =>
    refine Ex.asgTup [("red", _), ("green", _), ("blue", _)] (Ev.name (V := isR d) rfl rfl) (fun q hq => ?_) rfl ⟨rfl, rfl⟩ ?_ rfl
    · simp only [List.mem_cons, List.not_mem_nil, or_false] at hq
      rcases hq with rfl | rfl | rfl <;> exact .inl rfl
    rintro v s ⟨rfl, S⟩
    refine ⟨d, ws, _, _, _, rfl, S, List.mem_append_left _ hd, hw, rfl, ?_⟩
    have fin : ∀ {cs9 : Scope} {mm : List (Str × VP)} {v : Value} {s : Shared}, (isFT h c.t s.toks v ∧ St ⟨c, cs9, g.k - 1, c.t, mm, g.n ++ cells, []⟩ s) → Back c cs9 (g.k - 1) (g.n ++ cells) (ValT h) (.ret v) s := fun a => ⟨_, [], _, _, a.2, (fun _ _ _ h => nomatch h), rfl, a.1⟩
    refine Ex.iff (b := k.fmod 2 == 1) (Tr.cmp (Ev.bin (Ev.name rfl rfl) Ev.int (Bi.modI (by decide))) Ev.int (Cm.eqI rfl) rfl) ?_
    cases k.fmod 2 == 1
    · refine Ex.pop (Ex.ret (EvG.first (h := h) (EvG.call (Ev.globR rfl rfl rfl) (Evs.cons (Ev.name rfl rfl) (Evs.cons (Ev.name rfl rfl) (Evs.cons (Ev.name rfl rfl) Evs.nil rfl) rfl) rfl) (fun _ => ⟨_, _, rfl, rfl⟩) rfl (fun vs hv => rgb_to_hsv_says P hk1 hv)) (fun g' e => Ev.int) fun l u => by with_unfolding_all rfl) fun v s a => fin a)
    · refine Ex.ret (EvG.first (h := h) (EvG.call (Ev.globR rfl rfl rfl) (Evs.cons (Ev.name rfl rfl) (Evs.cons (Ev.name rfl rfl) (Evs.cons (Ev.name rfl rfl) Evs.nil rfl) rfl) rfl) (fun _ => ⟨_, _, rfl, rfl⟩) rfl (fun vs hv => rgb_to_hls_says P hk1 hv)) (fun g' e => Ev.int) fun l u => by with_unfolding_all rfl) fun v s a => fin a
theorem Ex.brk {pos : Pos} {rest : List Stmt} {r : List (List Stmt)} {P : Flow → Shared → Prop} (h : ∀ s, St g s → P .brk s) : Ex g ((.Break pos :: rest) :: r) P := fun Q E s p S q => seq_cons (wpAny_Break (q _ _ (h s S)))
noncomputable def canBid (sm ev chips bid : Int) : Bool := Builtin.bitAnd (sm.fdiv (2 ^ (chips - bid).toNat)) 1 != 0 && (decide (8 - chips < bid) || Builtin.bitAnd (ev.fdiv (2 ^ (chips + bid).toNat)) 1 != 0)
noncomputable def anyBid (sm ev : Int) (c : Nat) : Nat → Bool
  | 0 => false
  | b + 1 => anyBid sm ev c b || canBid sm ev c b
noncomputable def forcedF (sm ev : Int) : Nat → Int
  | 0 => 0
  | c + 1 => if anyBid sm ev c (c + 1) then Builtin.bitOr (forcedF sm ev c) (1 * 2 ^ (c : Int).toNat) else forcedF sm ev c
theorem anyBid_of {sm ev : Int} {c j : Nat} (h : canBid sm ev c j = true) : ∀ n, j < n → anyBid sm ev c n = true
  | 0, hn => absurd hn (Nat.not_lt_zero _)
  | n + 1, hn => by
    show (anyBid sm ev c n || canBid sm ev c n) = true
    rcases Nat.lt_or_eq_of_le (Nat.le_of_lt_succ hn) with q | rfl
    · rw [anyBid_of h n q]; rfl
    · rw [h, Bool.or_true]
theorem forced_yes {sm ev : Int} {c j : Nat} (h : canBid sm ev c j = true) (hj : j < c + 1) : Builtin.bitOr (forcedF sm ev c) (1 * 2 ^ (c : Int).toNat) = forcedF sm ev (c + 1) := by
  show _ = if anyBid sm ev c (c + 1) then _ else _
  rw [if_pos (anyBid_of h _ hj)]
theorem forced_no {sm ev : Int} {c : Nat} (h : anyBid sm ev c (c + 1) = false) : forcedF sm ev c = forcedF sm ev (c + 1) := by
  show _ = if anyBid sm ev c (c + 1) then _ else _
  rw [if_neg (by rw [h]; exact Bool.false_ne_true)]
theorem anyBid_on {sm ev : Int} {c j : Nat} (h : anyBid sm ev c j = false) (h' : canBid sm ev c j = false) : anyBid sm ev c (j + 1) = false := by
  show (anyBid sm ev c j || canBid sm ev c j) = false
  rw [h, h']; rfl
theorem forced_says {sm ev : Int} {vs : List Value} (hk : 2 ≤ g.k) (hv : All2 [isI sm, isI ev] vs) : CallAt g 169 vs (Called g (Val (isI (forcedF sm ev 9)))) := by
  obtain ⟨v1, _, rfl, hV1, v2, _, rfl, hV2, rfl⟩ := hv
  have hk1 : 1 ≤ g.k - 1 := Nat.le_sub_of_add_le hk
  refine' CallAt.of ?ho ?hcd ?hb ?hkind ?hg ?hk [("some", isI sm), ("every", isI ev)] ?hms ?h; (case ho => exact rfl); (case hcd => exact rfl); (case hb => exact fun s => BindsTo.of_eq rfl); (case hkind => exact rfl); (case hg => exact ⟨rfl, rfl, rfl⟩); (case hk => exact Nat.le_trans (by decide) hk); (case hms => (intro L'; (repeat' (first | exact rds_nil | refine' rds_cons (.inl ⟨rfl, rfl⟩) ?_ ?_ | refine' rds_cons (.inr ⟨rfl, rfl, rfl⟩) ?_ ?_)); all_goals first | assumption | exact rfl | exact ⟨_, rfl⟩)); (case' h => intro c cells hlo keep hcl)
  case h =>
    refine Ex.asg Ev.int (.inl rfl) rfl ?_
    refine Ex.for (fun i m n t => m = [(("mask" : Str), isI (forcedF sm ev i)), ("some", isI sm), ("every", isI ev)] ∧ n = g.n ++ cells ∧ t = c.t) (fun _ _ _ => False) (Iters.range (N := 9) (Ev.built rfl rfl rfl (by decide) rfl) Ev.int (fun _ => ⟨_, _, rfl, rfl⟩) rfl (by decide)) (fun _ _ _ _ _ _ h => nomatch h) ⟨rfl, rfl, rfl⟩ (.inl rfl) (fun _ => rfl) ?_ (fun _ _ _ h => h.elim) ?_
    · rintro i m n t it o hi ⟨rfl, rfl, rfl⟩ hit
      have out : ∀ {cs9 : Scope} {mm : List (Str × VP)} {s : Shared}, mm.lookup (Str.ofString "mask") = some (isI (forcedF sm ev (i + 1))) → mm.lookup (Str.ofString "some") = some (isI sm) → mm.lookup (Str.ofString "every") = some (isI ev) → St ⟨c, cs9, g.k - 1, c.t, mm, (it, o) :: (g.n ++ cells), []⟩ s → Went c cs9 (g.k - 1) it o (fun m n t => m = [(("mask" : Str), isI (forcedF sm ev (i + 1))), ("some", isI sm), ("every", isI ev)] ∧ n = g.n ++ cells ∧ t = c.t) s :=
        fun e1 e2 e3 S => ⟨_, _, _, S.sub (sub_cons e1 (sub_cons e2 (sub_cons e3 sub_nil))), hit, rfl, rfl, rfl⟩
      refine Ex.for (fun j m n t => anyBid sm ev i j = false ∧ m = [(("chips" : Str), isI (i : Int)), ("mask", isI (forcedF sm ev i)), ("some", isI sm), ("every", isI ev)] ∧ n = (it, o) :: (g.n ++ cells) ∧ t = c.t) (fun m n t => m = [(("mask" : Str), isI (forcedF sm ev (i + 1))), ("some", isI sm), ("every", isI ev)] ∧ n = (it, o) :: (g.n ++ cells) ∧ t = c.t)
        (Iters.range (N := i + 1) (Ev.built rfl rfl rfl (by decide) rfl) (Ev.conv (Ev.bin (Ev.name rfl rfl) Ev.int Bi.addI) (by rw [Int.natCast_add]; rfl)) (fun _ => ⟨_, _, rfl, rfl⟩) rfl (by omega)) (fun _ _ _ _ _ _ h => nomatch h) ⟨rfl, rfl, rfl, rfl⟩ (.inl rfl) (fun _ => rfl) ?_ ?_ ?_
      · rintro j m n t it2 o2 hj ⟨ha, rfl, rfl, rfl⟩ hit2
        refine Ex.iff (b := canBid sm ev i j) (Tr.of (Tr.and (Tr.val (Ev.bin (Ev.bin (Ev.name rfl rfl) (Ev.bin (Ev.name rfl rfl) (Ev.name rfl rfl) Bi.subI) (Bi.shr (by omega))) Ev.int Bi.and) Tv.int rfl) fun _ => Tr.and (Tr.or (Tr.cmp (Ev.name rfl rfl) (Ev.bin Ev.int (Ev.name rfl rfl) Bi.subI) (Cm.gtI rfl) rfl) fun _ => Tr.or (Tr.val (Ev.bin (Ev.bin (Ev.name rfl rfl) (Ev.bin (Ev.name rfl rfl) (Ev.name rfl rfl) Bi.addI) (Bi.shr (by omega))) Ev.int Bi.and) Tv.int rfl) fun _ => Tr.orNil) fun _ => Tr.andNil) (by unfold canBid; rw [Bool.or_false, Bool.and_true])) ?_
        cases hb : canBid sm ev i j with
        | true =>
          refine Ex.asg (Ev.call (f := 70) (Vs := [isI (forcedF sm ev i), isI (1 * 2 ^ (i : Int).toNat)]) (Ev.globR rfl rfl rfl) (Evs.cons (Ev.name rfl rfl) (Evs.cons (Ev.bin Ev.int (Ev.name rfl rfl) (Bi.shl (Int.natCast_nonneg i) (by omega) (by decide))) Evs.nil rfl) rfl) (fun _ => ⟨_, _, rfl, rfl⟩) rfl (fun vs hv => or_says (fun g => Bi.or) hk1 hv)) (.inl rfl) rfl ?_
          rw [forced_yes hb hj]
          exact Ex.brk fun s S => ⟨_, _, _, (S.less (fun p hp => .tail _ hp) trivial).sub (sub_cons rfl (sub_cons rfl (sub_cons rfl sub_nil))), rfl, rfl, rfl⟩
        | false => exact Ex.pop (Ex.pop (Ex.nil fun s S => ⟨_, _, _, S.sub (sub_cons rfl (sub_cons rfl (sub_cons rfl (sub_cons rfl sub_nil)))), hit2, anyBid_on ha hb, rfl, rfl, rfl⟩))
      · rintro m n t ⟨rfl, rfl, rfl⟩
        exact Ex.pop (Ex.nil fun s S => out rfl rfl rfl S)
      · rintro m n t ⟨ha, rfl, rfl, rfl⟩
        exact Ex.pop (Ex.nil fun s S => out (by rw [← forced_no ha]; rfl) rfl rfl S)
    · rintro m n t ⟨rfl, rfl, rfl⟩
      exact Ex.ret (Ev.name (V := isI (forcedF sm ev 9)) rfl rfl) fun v s a => back_val a
noncomputable def walkT (lo hi : Nat → Nat) (spot : Nat) (coins : Int) : Nat → Nat
  | 0 => spot
  | t + 1 => if Builtin.bitAnd (coins.fdiv (2 ^ (t : Int).toNat)) 1 = 0 then lo (walkT lo hi spot coins t) else hi (walkT lo hi spot coins t)
noncomputable def blueT (lo hi : Nat → Nat) (spot : Nat) : Nat → Nat
  | 0 => 0
  | c + 1 => blueT lo hi spot c + walkT lo hi spot (c : Int) 3
theorem walkT_lt {lo hi : Nat → Nat} {spot : Nat} {c : Int} (hs : spot < 6) (hl : ∀ a, a < 6 → lo a < 6) (hh : ∀ a, a < 6 → hi a < 6) : ∀ t, walkT lo hi spot c t < 6
  | 0 => hs
  | t + 1 => by
    show (if _ then lo _ else hi _) < 6
    split
    · exact hl _ (walkT_lt hs hl hh t)
    · exact hh _ (walkT_lt hs hl hh t)
noncomputable def IsInts (vs : List Value) (f : Nat → Int) (n : Nat) : Prop := vs.length = n ∧ ∀ a, a < n → ∃ v, vs[a]? = some v ∧ isI (f a) v
theorem tossed_says {Lo Hi : Addr} {lv hv vs : List Value} {nl nh : Nat} {lo hi : Nat → Nat} {spot : Nat} (mL : (Lo, listOf lv.toArray nl) ∈ g.n) (mH : (Hi, listOf hv.toArray nh) ∈ g.n) (iL : IsInts lv (fun a => (lo a : Int)) 6) (iH : IsInts hv (fun a => (hi a : Int)) 6) (hs : spot < 6) (hl : ∀ a, a < 6 → lo a < 6) (hh : ∀ a, a < 6 → hi a < 6) (hk : 1 ≤ g.k) (hvs : All2 [isI (spot : Int), isR Lo, isR Hi] vs) :
    CallAt g 181 vs (Called g (Val (isI (blueT lo hi spot 8 : Int)))) := by
  obtain ⟨v1, _, rfl, hV1, v2, _, rfl, hV2, v3, _, rfl, hV3, rfl⟩ := hvs
  refine' CallAt.of ?ho ?hcd ?hb ?hkind ?hg ?hk [("spot", isI (spot : Int)), ("lows", isR Lo), ("highs", isR Hi)] ?hms ?h; (case ho => exact rfl); (case hcd => exact rfl); (case hb => exact fun s => BindsTo.of_eq rfl); (case hkind => exact rfl); (case hg => exact ⟨rfl, rfl, rfl⟩); (case hk => exact Nat.le_trans (by decide) hk); (case hms => (intro L'; (repeat' (first | exact rds_nil | refine' rds_cons (.inl ⟨rfl, rfl⟩) ?_ ?_ | refine' rds_cons (.inr ⟨rfl, rfl, rfl⟩) ?_ ?_)); all_goals first | assumption | exact rfl | exact ⟨_, rfl⟩)); (case' h => intro c cells hlo keep hcl)
  case h =>
    have small : ∀ {a : Nat}, a < 6 → (a : Int) < 2 ^ 63 := fun h => Int.lt_trans (Int.ofNat_lt.mpr h) (by decide)
    refine Ex.asg Ev.int (.inl rfl) rfl ?_
    refine Ex.for (fun i m n t => m = [(("blue" : Str), isI (blueT lo hi spot i : Int)), ("spot", isI (spot : Int)), ("lows", isR Lo), ("highs", isR Hi)] ∧ n = g.n ++ cells ∧ t = c.t) (fun _ _ _ => False) (Iters.range (N := 8) (Ev.built rfl rfl rfl (by decide) rfl) Ev.int (fun _ => ⟨_, _, rfl, rfl⟩) rfl (by decide)) (fun _ _ _ _ _ _ h => nomatch h) ⟨rfl, rfl, rfl⟩ (.inl rfl) (fun _ => rfl) ?_ (fun _ _ _ h => h.elim) ?_
    · rintro i m n t it o hi' ⟨rfl, rfl, rfl⟩ hit
      refine Ex.asg (Ev.name rfl rfl) (.inl rfl) rfl ?_
      refine Ex.for (fun j m n t => m = [(("at" : Str), isI (walkT lo hi spot (i : Int) j : Int)), ("coins", isI (i : Int)), ("blue", isI (blueT lo hi spot i : Int)), ("spot", isI (spot : Int)), ("lows", isR Lo), ("highs", isR Hi)] ∧ n = (it, o) :: (g.n ++ cells) ∧ t = c.t) (fun _ _ _ => False) (Iters.range (N := 3) (Ev.built rfl rfl rfl (by decide) rfl) Ev.int (fun _ => ⟨_, _, rfl, rfl⟩) rfl (by decide)) (fun _ _ _ _ _ _ h => nomatch h) ⟨rfl, rfl, rfl⟩ (.inl rfl) (fun _ => rfl) ?_ (fun _ _ _ h => h.elim) ?_
      · rintro j m n t it2 o2 hj ⟨rfl, rfl, rfl⟩ hit2
        have a9 := walkT_lt (c := (i : Int)) hs hl hh j
        obtain ⟨vl, xl, el⟩ := iL.2 _ a9
        obtain ⟨vh, xh, eh⟩ := iH.2 _ a9
        refine Ex.asg (V := isI (walkT lo hi spot (i : Int) (j + 1) : Int)) (Ev.ite (Tr.val (Ev.bin (Ev.bin (Ev.name rfl rfl) (Ev.name rfl rfl) (Bi.shr (Int.natCast_nonneg j))) Ev.int Bi.and) Tv.int rfl) (fun hb => Ev.conv (Ev.sub (Ev.name rfl rfl) (Ev.name rfl rfl) (It.list (l := Hi) (vs := hv) (nn := nh) (.tail _ (.tail _ (List.mem_append_left _ mH))) (Int.natCast_nonneg _) (small a9) xh eh fun u => by with_unfolding_all rfl)) ?_) (fun hb => Ev.conv (Ev.sub (Ev.name rfl rfl) (Ev.name rfl rfl) (It.list (l := Lo) (vs := lv) (nn := nl) (.tail _ (.tail _ (List.mem_append_left _ mL))) (Int.natCast_nonneg _) (small a9) xl el fun u => by with_unfolding_all rfl)) ?_)) (.inl rfl) rfl (Ex.pop (Ex.nil fun s S => ⟨_, _, _, S.sub (sub_cons rfl (sub_cons rfl (sub_cons rfl (sub_cons rfl (sub_cons rfl (sub_cons rfl sub_nil)))))), hit2, rfl, rfl, rfl⟩))
        · rw [show walkT lo hi spot (i : Int) (j + 1) = hi (walkT lo hi spot (i : Int) j) from if_neg (bne_iff_ne.mp hb)]
        · rw [show walkT lo hi spot (i : Int) (j + 1) = lo (walkT lo hi spot (i : Int) j) from if_pos (by simpa using hb)]
      · rintro m n t ⟨rfl, rfl, rfl⟩
        exact Ex.augI (z := (blueT lo hi spot (i + 1) : Int)) rfl (Ev.name rfl rfl) rfl (fun t u Q E s h => iadd_int (by rw [← Int.natCast_add]; exact h)) (Ex.pop (Ex.nil fun s S => ⟨_, _, _, S.sub (sub_cons rfl (sub_cons rfl (sub_cons rfl (sub_cons rfl sub_nil)))), hit, rfl, rfl, rfl⟩))
    · rintro m n t ⟨rfl, rfl, rfl⟩
      exact Ex.ret (Ev.name (V := isI (blueT lo hi spot 8 : Int)) rfl rfl) fun v s a => back_val a
end Mine
end
section
open PySem PySem.W PySem.Calls PyProof.Rows
set_option maxRecDepth 100000
set_option maxHeartbeats 4000000
set_option linter.unusedVariables false
set_option genInjectivity false
set_option genSizeOf false
namespace Mine
noncomputable section
noncomputable def maskI (j : Nat) : Int := (List.range 9).foldl (fun acc c => if j = 0 ∨ j < c then acc + 2 ^ c else acc) 0
noncomputable def orF (p : Nat → Nat) (row : List Nat) : Int := row.foldl (fun acc a => Builtin.bitOr acc (maskI (p a))) 0
noncomputable def andF (p : Nat → Nat) (row : List Nat) : Int := row.foldl (fun acc a => Builtin.bitAnd acc (maskI (p a))) 511
theorem orF_succ (p : Nat → Nat) (row : List Nat) (i a : Nat) (h : row[i]? = some a) : orF p (row.take (i + 1)) = Builtin.bitOr (orF p (row.take i)) (maskI (p a)) := by
  unfold orF
  rw [List.take_add_one, h, Option.toList_some, List.foldl_append]; rfl
theorem andF_succ (p : Nat → Nat) (row : List Nat) (i a : Nat) (h : row[i]? = some a) : andF p (row.take (i + 1)) = Builtin.bitAnd (andF p (row.take i)) (maskI (p a)) := by
  unfold andF
  rw [List.take_add_one, h, Option.toList_some, List.foldl_append]; rfl
noncomputable def huesOf (p : Nat → Nat) (row : List Nat) : List UInt64 := row.map fun a => hueT (p a)
noncomputable def Hit (l : List UInt64) (k : Nat) : Prop := k < l.length ∧ (Float64.cmp (l.getD k 0) (l.getD k 0) == some .eq) = true ∧ ∀ j, j < k → (Float64.cmp (l.getD j 0) (l.getD k 0) == some .eq) = false ∧ l.getD j 0 ≠ l.getD k 0
structure Turn (p lo hi : Nat → Nat) (k : Nat) (row : List Nat) : Prop where
  len : 0 < row.length ∧ row.length < 5
  spots : ∀ a ∈ row, a < k + 2
  small : p (k + 2) < 9
  hitL : Hit (huesOf p row) (leastL (huesOf p row))
  hitG : Hit (huesOf p row) (greatL (huesOf p row))
  mean : Float64.div (Float64.add ((huesOf p row).getD (leastL (huesOf p row)) 0) ((huesOf p row).getD (greatL (huesOf p row)) 0)) (Float64.ofInt 2) = hueT (p (k + 2))
  low : row.getD (leastL (huesOf p row)) 0 = lo (k + 2)
  high : row.getD (greatL (huesOf p row)) 0 = hi (k + 2)
  mask : forcedF (orF p row) (andF p row) 9 = maskI (p (k + 2))
noncomputable def loS (p : Nat → Nat) (row : List Nat) : Nat := row.getD (leastL (huesOf p row)) 0
noncomputable def hiS (p : Nat → Nat) (row : List Nat) : Nat := row.getD (greatL (huesOf p row)) 0
noncomputable def newP (p : Nat → Nat) (row : List Nat) : Nat := (p (loS p row) + p (hiS p row)) / 2
noncomputable def q4 (a b : Nat) : Nat → Nat
  | 0 => 0 | 1 => 8 | 2 => a | _ => b
noncomputable def hitB (l : List UInt64) (k : Nat) : Bool := decide (k < l.length) && (Float64.cmp (l.getD k 0) (l.getD k 0) == some .eq) && (List.range k).all fun j => (Float64.cmp (l.getD j 0) (l.getD k 0) == some .eq) == false && !(l.getD j 0 == l.getD k 0)
theorem hit_of {l : List UInt64} {k : Nat} (h : hitB l k = true) : Hit l k := by
  unfold hitB at h
  simp only [Bool.and_eq_true, decide_eq_true_eq, List.all_eq_true] at h
  refine ⟨h.1.1, h.1.2, fun j hj => ?_⟩
  have := h.2 j (List.mem_range.mpr hj)
  exact ⟨beq_iff_eq.mp this.1, by simpa using this.2⟩
noncomputable def turnB (p : Nat → Nat) (row : List Nat) : Bool :=
  hitB (huesOf p row) (leastL (huesOf p row)) && hitB (huesOf p row) (greatL (huesOf p row)) && (orF p row == maskI (p (loS p row))) && (andF p row == maskI (p (hiS p row))) &&
  decide (p (loS p row) % 2 = 0) && decide (p (hiS p row) % 2 = 0) && decide (p (loS p row) ≤ p (hiS p row)) && decide (p (hiS p row) ≤ 8)
/-- the mean of two hues of whole prices, and the chips that force a spot whose ways lead from one price to another -/
theorem mean_tab : (below 5 fun i => below 5 fun j => Float64.div (Float64.add (hueT (2 * i)) (hueT (2 * j))) (Float64.ofInt 2) == hueT (i + j)) = true := by decide +kernel
theorem forced_tab : (below 5 fun i => below 5 fun j => decide (j < i) || forcedF (maskI (2 * i)) (maskI (2 * j)) 9 == maskI (i + j)) = true := by decide +kernel
noncomputable def rows0 : List (List Nat) := [spotsW true false false false, spotsW false false false true, spotsW true false false true]
noncomputable def rows1 : List (List Nat) := [true, false].flatMap fun b0 => [true, false].flatMap fun b2 => [true, false].flatMap fun b1 => if b0 || b2 || b1 then [spotsW b0 b2 false b1] else []
noncomputable def rows2 : List (List Nat) := [true, false].flatMap fun b0 => [true, false].flatMap fun b2 => [true, false].flatMap fun b3 => [true, false].flatMap fun b1 => if b0 || b2 || b3 || b1 then [spotsW b0 b2 b3 b1] else []
theorem turn0 : (rows0.all fun r => turnB (q4 0 0) r && [0, 4, 8].contains (newP (q4 0 0) r)) = true := by decide +kernel
theorem turn1 : ([0, 4, 8].all fun a => rows1.all fun r => turnB (q4 a 0) r && [0, 2, 4, 6, 8].contains (newP (q4 a 0) r)) = true := by decide +kernel
theorem turn2 : ([0, 4, 8].all fun a => [0, 2, 4, 6, 8].all fun b => rows2.all fun r => turnB (q4 a b) r) = true := by decide +kernel
noncomputable def pF (r : Nat → List Nat) : Nat → Nat
  | 0 => 0
  | 1 => 8
  | 2 => newP (q4 0 0) (r 0)
  | 3 => newP (q4 (newP (q4 0 0) (r 0)) 0) (r 1)
  | a + 4 => newP (q4 (newP (q4 0 0) (r 0)) (newP (q4 (newP (q4 0 0) (r 0)) 0) (r 1))) (r (a + 2))
noncomputable def loF (r : Nat → List Nat) (a : Nat) : Nat := if a < 2 then a else loS (pF r) (r (a - 2))
noncomputable def hiF (r : Nat → List Nat) (a : Nat) : Nat := if a < 2 then a else hiS (pF r) (r (a - 2))
structure RowsOk (r : Nat → List Nat) : Prop where
  r0 : r 0 ∈ rows0
  r1 : r 1 ∈ rows1
  r2 : r 2 ∈ rows2
  r3 : r 3 ∈ rows2
theorem hues_congr {p p' : Nat → Nat} {row : List Nat} (h : ∀ a ∈ row, p a = p' a) : huesOf p row = huesOf p' row := List.map_congr_left fun a ha => by rw [h a ha]
theorem or_congr {p p' : Nat → Nat} : ∀ {row : List Nat} (h : ∀ a ∈ row, p a = p' a) (x : Int), row.foldl (fun acc a => Builtin.bitOr acc (maskI (p a))) x = row.foldl (fun acc a => Builtin.bitOr acc (maskI (p' a))) x
  | [], _, _ => rfl
  | a :: r, h, x => by rw [List.foldl_cons, List.foldl_cons, h a (.head _)]; exact or_congr (fun b hb => h b (.tail _ hb)) _
theorem and_congr' {p p' : Nat → Nat} : ∀ {row : List Nat} (h : ∀ a ∈ row, p a = p' a) (x : Int), row.foldl (fun acc a => Builtin.bitAnd acc (maskI (p a))) x = row.foldl (fun acc a => Builtin.bitAnd acc (maskI (p' a))) x
  | [], _, _ => rfl
  | a :: r, h, x => by rw [List.foldl_cons, List.foldl_cons, h a (.head _)]; exact and_congr' (fun b hb => h b (.tail _ hb)) _
theorem rows0_spots : ∀ r ∈ rows0, (0 < r.length ∧ r.length < 5) ∧ ∀ a ∈ r, a < 2 := by decide
theorem rows1_spots : ∀ r ∈ rows1, (0 < r.length ∧ r.length < 5) ∧ ∀ a ∈ r, a < 3 := by decide
theorem rows2_spots : ∀ r ∈ rows2, (0 < r.length ∧ r.length < 5) ∧ ∀ a ∈ r, a < 4 := by decide
theorem hues_at {p : Nat → Nat} {row : List Nat} {k : Nat} (h : k < (huesOf p row).length) : (huesOf p row).getD k 0 = hueT (p (row.getD k 0)) := by
  have h' : k < row.length := by simpa only [huesOf, List.length_map] using h
  rw [List.getD_eq_getElem?_getD, List.getD_eq_getElem?_getD, List.getElem?_eq_getElem h, List.getElem?_eq_getElem h']
  simp only [huesOf, List.getElem_map, Option.getD_some]
theorem turn_of_check {p p' lo hi : Nat → Nat} {k : Nat} {row : List Nat} (hc : turnB p' row = true) (hl : 0 < row.length ∧ row.length < 5) (hs : ∀ a ∈ row, a < k + 2) (hp : ∀ a ∈ row, p a = p' a) (hn : p (k + 2) = newP p' row) (h1 : lo (k + 2) = loS p row) (h2 : hi (k + 2) = hiS p row) : Turn p lo hi k row := by
  unfold turnB at hc
  simp only [Bool.and_eq_true, decide_eq_true_eq, beq_iff_eq] at hc
  obtain ⟨⟨⟨⟨⟨⟨⟨a1, a2⟩, a3⟩, a4⟩, a5⟩, a6⟩, a7⟩, a8⟩ := hc
  have e := hues_congr hp
  obtain ⟨i, qi, ei⟩ : ∃ i, i < 5 ∧ p' (loS p' row) = 2 * i := ⟨p' (loS p' row) / 2, by omega, by omega⟩
  obtain ⟨j, qj, ej⟩ : ∃ j, j < 5 ∧ p' (hiS p' row) = 2 * j := ⟨p' (hiS p' row) / 2, by omega, by omega⟩
  have en : newP p' row = i + j := by unfold newP; omega
  refine ⟨hl, hs, by omega, by rw [e]; exact hit_of a1, by rw [e]; exact hit_of a2, ?_, h1.symm, h2.symm, ?_⟩
  · rw [e, hn, en, hues_at (hit_of a1).1, hues_at (hit_of a2).1]
    show Float64.div (Float64.add (hueT (p' (loS p' row))) (hueT (p' (hiS p' row)))) _ = _
    rw [ei, ej]
    exact beq_iff_eq.mp (below_of (below_of mean_tab qi) qj)
  · have eo : orF p row = orF p' row := or_congr hp _
    have ea : andF p row = andF p' row := and_congr' hp _
    have f := below_of (below_of forced_tab qi) qj
    simp only [Bool.or_eq_true, decide_eq_true_eq, beq_iff_eq] at f
    rw [hn, en, eo, ea, a3, a4, ei, ej]
    exact f.resolve_left (by omega)
theorem p2_mem {r : Nat → List Nat} (h : RowsOk r) : turnB (q4 0 0) (r 0) = true ∧ pF r 2 ∈ [0, 4, 8] := by
  have := List.all_eq_true.mp turn0 _ h.r0
  simp only [Bool.and_eq_true] at this
  exact ⟨this.1, List.contains_iff_mem.mp this.2⟩
theorem p3_mem {r : Nat → List Nat} (h : RowsOk r) : turnB (q4 (pF r 2) 0) (r 1) = true ∧ pF r 3 ∈ [0, 2, 4, 6, 8] := by
  have := List.all_eq_true.mp (List.all_eq_true.mp turn1 _ (p2_mem h).2) _ h.r1
  simp only [Bool.and_eq_true] at this
  exact ⟨this.1, List.contains_iff_mem.mp this.2⟩
theorem p4_ok {r : Nat → List Nat} (h : RowsOk r) {row : List Nat} (hr : row ∈ rows2) : turnB (q4 (pF r 2) (pF r 3)) row = true :=
  List.all_eq_true.mp (List.all_eq_true.mp (List.all_eq_true.mp turn2 _ (p2_mem h).2) _ (p3_mem h).2) _ hr
theorem pF_lt4 (r : Nat → List Nat) : ∀ a, a < 4 → pF r a = q4 (pF r 2) (pF r 3) a
  | 0, _ => rfl
  | 1, _ => rfl
  | 2, _ => rfl
  | 3, _ => rfl
  | a + 4, h => absurd h (by omega)
theorem pF_lt3 (r : Nat → List Nat) : ∀ a, a < 3 → pF r a = q4 (pF r 2) 0 a
  | 0, _ => rfl
  | 1, _ => rfl
  | 2, _ => rfl
  | a + 3, h => absurd h (by omega)
theorem pF_lt2 (r : Nat → List Nat) : ∀ a, a < 2 → pF r a = q4 0 0 a
  | 0, _ => rfl
  | 1, _ => rfl
  | a + 2, h => absurd h (by omega)
theorem turns {r : Nat → List Nat} (h : RowsOk r) : ∀ i, i < 4 → Turn (pF r) (loF r) (hiF r) i (r i)
  | 0, _ => turn_of_check (p2_mem h).1 (rows0_spots _ h.r0).1 (rows0_spots _ h.r0).2 (fun a ha => pF_lt2 r a ((rows0_spots _ h.r0).2 a ha)) rfl rfl rfl
  | 1, _ => turn_of_check (p3_mem h).1 (rows1_spots _ h.r1).1 (rows1_spots _ h.r1).2 (fun a ha => pF_lt3 r a ((rows1_spots _ h.r1).2 a ha)) rfl rfl rfl
  | 2, _ => turn_of_check (p4_ok h h.r2) (rows2_spots _ h.r2).1 (rows2_spots _ h.r2).2 (fun a ha => pF_lt4 r a ((rows2_spots _ h.r2).2 a ha)) rfl rfl rfl
  | 3, _ => turn_of_check (p4_ok h h.r3) (rows2_spots _ h.r3).1 (fun a ha => Nat.lt_of_lt_of_le ((rows2_spots _ h.r3).2 a ha) (by decide)) (fun a ha => pF_lt4 r a ((rows2_spots _ h.r3).2 a ha)) rfl rfl rfl
  | i + 4, h' => absurd h' (by omega)
theorem pF_small {r : Nat → List Nat} (h : RowsOk r) : ∀ a, a < 6 → pF r a < 9
  | 0, _ => show 0 < 9 by decide
  | 1, _ => show 8 < 9 by decide
  | a + 2, ha => (turns h a (by omega)).small
theorem getD_mem {row : List Nat} {j b : Nat} (h : ∀ a ∈ row, a < b) (hb : 0 < b) : row.getD j 0 < b := by
  rw [List.getD_eq_getElem?_getD]
  cases e : row[j]? with
  | none => exact hb
  | some x => exact h x (List.mem_of_getElem? e)
theorem row_spots {r : Nat → List Nat} (h : RowsOk r) : ∀ i, i < 4 → ∀ a ∈ r i, a < 4 ∧ (i = 0 → a < 2) ∧ (i = 1 → a < 3)
  | 0, _ => fun a ha => ⟨Nat.lt_of_lt_of_le ((rows0_spots _ h.r0).2 a ha) (by decide), fun _ => (rows0_spots _ h.r0).2 a ha, (fun e => absurd e (by decide))⟩
  | 1, _ => fun a ha => ⟨Nat.lt_of_lt_of_le ((rows1_spots _ h.r1).2 a ha) (by decide), (fun e => absurd e (by decide)), fun _ => (rows1_spots _ h.r1).2 a ha⟩
  | 2, _ => fun a ha => ⟨(rows2_spots _ h.r2).2 a ha, (fun e => absurd e (by decide)), (fun e => absurd e (by decide))⟩
  | 3, _ => fun a ha => ⟨(rows2_spots _ h.r3).2 a ha, (fun e => absurd e (by decide)), (fun e => absurd e (by decide))⟩
  | i + 4, h' => absurd h' (by omega)
noncomputable def L4 (x y z : Nat) : Nat → Nat
  | 0 => 0 | 1 => 1 | 2 => x | 3 => y | _ => z
noncomputable def blueN (lo hi : Nat → Nat) (s : Nat) : Nat :=
  0 + lo (lo (lo s)) + lo (lo (hi s)) + lo (hi (lo s)) + lo (hi (hi s)) + hi (lo (lo s)) + hi (lo (hi s)) + hi (hi (lo s)) + hi (hi (hi s))
theorem blue8 (lo hi : Nat → Nat) (s : Nat) : blueT lo hi s 8 = blueN lo hi s := rfl
noncomputable def tossB (l2 h2 l3 h3 l h : Nat) : Bool :=
  let p2 := (q4 0 0 l2 + q4 0 0 h2) / 2
  let p3 := (q4 p2 0 l3 + q4 p2 0 h3) / 2
  let p := (q4 p2 p3 l + q4 p2 p3 h) / 2
  blueN (L4 l2 l3 l) (L4 h2 h3 h) 2 == p2 && blueN (L4 l2 l3 l) (L4 h2 h3 h) 3 == p3 && blueN (L4 l2 l3 l) (L4 h2 h3 h) 4 == p && blueN (L4 l2 l3 l) (L4 h2 h3 h) 5 == p
theorem toss_all : ((List.range 2).all fun l2 => (List.range 2).all fun h2 => (List.range 3).all fun l3 => (List.range 3).all fun h3 => (List.range 4).all fun l => (List.range 4).all fun h => tossB l2 h2 l3 h3 l h) = true := by decide +kernel
theorem walk_congr {lo hi lo' hi' : Nat → Nat} {spot : Nat} {c : Int} (hs : ∀ a, a < 4 ∨ a = spot → lo a = lo' a ∧ hi a = hi' a ∧ lo a < 4 ∧ hi a < 4) : ∀ t, walkT lo hi spot c t = walkT lo' hi' spot c t ∧ (walkT lo hi spot c t < 4 ∨ walkT lo hi spot c t = spot)
  | 0 => ⟨rfl, .inr rfl⟩
  | t + 1 => by
    obtain ⟨e, m⟩ := walk_congr hs t
    obtain ⟨h1, h2, h3, h4⟩ := hs _ m
    show (if _ then lo (walkT lo hi spot c t) else hi (walkT lo hi spot c t)) = (if _ then lo' (walkT lo' hi' spot c t) else hi' (walkT lo' hi' spot c t)) ∧ ((if _ then lo (walkT lo hi spot c t) else hi (walkT lo hi spot c t)) < 4 ∨ _)
    rw [← e, ← h1, ← h2]
    refine ⟨rfl, .inl ?_⟩
    split
    · exact h3
    · exact h4
theorem blue_congr {lo hi lo' hi' : Nat → Nat} {spot : Nat} (hs : ∀ a, a < 4 ∨ a = spot → lo a = lo' a ∧ hi a = hi' a ∧ lo a < 4 ∧ hi a < 4) : ∀ n, blueT lo hi spot n = blueT lo' hi' spot n
  | 0 => rfl
  | n + 1 => by
    show blueT lo hi spot n + _ = blueT lo' hi' spot n + _
    rw [blue_congr hs n, (walk_congr hs 3).1]
theorem lo_lt {r : Nat → List Nat} (h : RowsOk r) : ∀ a, a < 6 → (loF r a < 4 ∧ hiF r a < 4) ∧ (a = 2 → loF r a < 2 ∧ hiF r a < 2) ∧ (a = 3 → loF r a < 3 ∧ hiF r a < 3)
  | 0, _ => ⟨⟨show 0 < 4 by decide, show 0 < 4 by decide⟩, (fun e => absurd e (by decide)), (fun e => absurd e (by decide))⟩
  | 1, _ => ⟨⟨show 1 < 4 by decide, show 1 < 4 by decide⟩, (fun e => absurd e (by decide)), (fun e => absurd e (by decide))⟩
  | a + 2, ha => by
    have s := row_spots h a (by omega)
    have e : loF r (a + 2) = (r a).getD (leastL (huesOf (pF r) (r a))) 0 := by unfold loF; rw [if_neg (by omega)]; rfl
    have e' : hiF r (a + 2) = (r a).getD (greatL (huesOf (pF r) (r a))) 0 := by unfold hiF; rw [if_neg (by omega)]; rfl
    rw [e, e']
    exact ⟨⟨getD_mem (fun x hx => (s x hx).1) (by decide), getD_mem (fun x hx => (s x hx).1) (by decide)⟩,
      fun q => ⟨getD_mem (fun x hx => (s x hx).2.1 (by omega)) (by decide), getD_mem (fun x hx => (s x hx).2.1 (by omega)) (by decide)⟩,
      fun q => ⟨getD_mem (fun x hx => (s x hx).2.2 (by omega)) (by decide), getD_mem (fun x hx => (s x hx).2.2 (by omega)) (by decide)⟩⟩
theorem toss_at {l2 h2 l3 h3 l h : Nat} (a : l2 < 2) (b : h2 < 2) (c : l3 < 3) (d : h3 < 3) (e : l < 4) (f : h < 4) : tossB l2 h2 l3 h3 l h = true :=
  List.all_eq_true.mp (List.all_eq_true.mp (List.all_eq_true.mp (List.all_eq_true.mp (List.all_eq_true.mp (List.all_eq_true.mp toss_all _ (List.mem_range.mpr a)) _ (List.mem_range.mpr b)) _ (List.mem_range.mpr c)) _ (List.mem_range.mpr d)) _ (List.mem_range.mpr e)) _ (List.mem_range.mpr f)
theorem toss_price {r : Nat → List Nat} (h : RowsOk r) {k : Nat} (hk : k < 4) : blueT (loF r) (hiF r) (k + 2) 8 = pF r (k + 2) := by
  have s2 := (lo_lt h 2 (by decide)).2.1 rfl
  have s3 := (lo_lt h 3 (by decide)).2.2 rfl
  have sk := (lo_lt h (k + 2) (by omega)).1
  have T := toss_at s2.1 s2.2 s3.1 s3.2 sk.1 sk.2
  unfold tossB at T
  simp only [Bool.and_eq_true, beq_iff_eq, ← blue8] at T
  have e2 : pF r 2 = (q4 0 0 (loF r 2) + q4 0 0 (hiF r 2)) / 2 := by
    rw [← pF_lt2 r _ s2.1, ← pF_lt2 r _ s2.2]
    show newP _ _ = _
    unfold newP
    have hc := hues_congr (p := q4 0 0) (p' := pF r) (row := r 0) fun a ha => (pF_lt2 r a ((row_spots h 0 (by decide) a ha).2.1 rfl)).symm
    have el : loF r 2 = loS (q4 0 0) (r 0) := by show loS (pF r) (r 0) = _; unfold loS; rw [hc]
    have eh : hiF r 2 = hiS (q4 0 0) (r 0) := by show hiS (pF r) (r 0) = _; unfold hiS; rw [hc]
    rw [pF_lt2 r _ s2.1, pF_lt2 r _ s2.2, el, eh]
  have e3 : pF r 3 = (q4 (pF r 2) 0 (loF r 3) + q4 (pF r 2) 0 (hiF r 3)) / 2 := by
    show newP (q4 (pF r 2) 0) (r 1) = _
    unfold newP
    have hc := hues_congr (p := q4 (pF r 2) 0) (p' := pF r) (row := r 1) fun a ha => (pF_lt3 r a ((row_spots h 1 (by decide) a ha).2.2 rfl)).symm
    have el : loF r 3 = loS (q4 (pF r 2) 0) (r 1) := by show loS (pF r) (r 1) = _; unfold loS; rw [hc]
    have eh : hiF r 3 = hiS (q4 (pF r 2) 0) (r 1) := by show hiS (pF r) (r 1) = _; unfold hiS; rw [hc]
    rw [el, eh]
  rw [← e2, ← e3] at T
  have cong : ∀ n, blueT (loF r) (hiF r) (k + 2) n = blueT (L4 (loF r 2) (loF r 3) (loF r (k + 2))) (L4 (hiF r 2) (hiF r 3) (hiF r (k + 2))) (k + 2) n := by
    refine blue_congr fun a ha => ?_
    rcases ha with ha | rfl
    · have := (lo_lt h a (by omega)).1
      rcases four4 ha with rfl | rfl | rfl | rfl <;> exact ⟨rfl, rfl, this⟩
    · refine ⟨?_, ?_, sk⟩
      · rcases four4 hk with rfl | rfl | rfl | rfl <;> rfl
      · rcases four4 hk with rfl | rfl | rfl | rfl <;> rfl
  rw [cong 8]
  have e4 : ∀ j, j < 2 → ∀ (row : List Nat), r (j + 2) = row → pF r (j + 4) = (q4 (pF r 2) (pF r 3) (loF r (j + 4)) + q4 (pF r 2) (pF r 3) (hiF r (j + 4))) / 2 := fun j hj row hrow => by
    show newP (q4 (pF r 2) (pF r 3)) (r (j + 2)) = _
    unfold newP
    have hc := hues_congr (p := q4 (pF r 2) (pF r 3)) (p' := pF r) (row := r (j + 2)) fun a ha => (pF_lt4 r a (row_spots h (j + 2) (by omega) a ha).1).symm
    have el : loF r (j + 4) = loS (q4 (pF r 2) (pF r 3)) (r (j + 2)) := by
      unfold loF; rw [if_neg (by omega)]; show loS (pF r) (r (j + 2)) = _; unfold loS; rw [hc]
    have eh : hiF r (j + 4) = hiS (q4 (pF r 2) (pF r 3)) (r (j + 2)) := by
      unfold hiF; rw [if_neg (by omega)]; show hiS (pF r) (r (j + 2)) = _; unfold hiS; rw [hc]
    rw [el, eh]
  rcases four4 hk with rfl | rfl | rfl | rfl
  · exact T.1.1.1
  · exact T.1.1.2
  · exact T.1.2.trans (e4 0 (by decide) _ rfl).symm
  · exact T.2.trans (e4 1 (by decide) _ rfl).symm
noncomputable def rowW (w : Int) : List Nat := spotsW (w.fmod 2 == 1) ((w.fdiv 4).fmod 2 == 1) (w.fdiv 8 == 1) ((w.fdiv 2).fmod 2 == 1)
theorem rowN_eq (ns : List Int) (k : Nat) : rowN ns k = rowW (waysF k (ns.getD k 0)) := rfl
theorem upto3 : ∀ n : Nat, n < 3 → rowW ((n : Int) + 1) ∈ rows0 := by decide +kernel
theorem upto7 : ∀ n : Nat, n < 7 → rowW ((n : Int) + 1) ∈ rows1 := by decide +kernel
theorem upto15 : ∀ n : Nat, n < 15 → rowW ((n : Int) + 1) ∈ rows2 := by decide +kernel
theorem sum15 : ∀ n : Nat, n < 15 → ((rowW ((n : Int) + 1)).map fun a : Nat => (1 * 2 ^ ((a : Int)).toNat : Int)).sum = (n : Int) + 1 := by decide +kernel
theorem rows_ok (ns : List Int) : RowsOk (rowN ns) := by
  refine ⟨?_, ?_, ?_, ?_⟩
  · obtain ⟨m, e, h⟩ := ways_nat (k := 0) (ns.getD 0 0) (by decide)
    rw [rowN_eq, e]; exact upto3 m h
  · obtain ⟨m, e, h⟩ := ways_nat (k := 1) (ns.getD 1 0) (by decide)
    rw [rowN_eq, e]; exact upto7 m h
  · obtain ⟨m, e, h⟩ := ways_nat (k := 2) (ns.getD 2 0) (by decide)
    rw [rowN_eq, e]; exact upto15 m h
  · obtain ⟨m, e, h⟩ := ways_nat (k := 3) (ns.getD 3 0) (by decide)
    rw [rowN_eq, e]; exact upto15 m h
theorem row_sum (ns : List Int) {k : Nat} (hk : k < 4) : ((rowN ns k).map fun a : Nat => (1 * 2 ^ ((a : Int)).toNat : Int)).sum = waysF k (ns.getD k 0) := by
  obtain ⟨m, e, h⟩ := ways_nat (k := k) (ns.getD k 0) hk
  rw [rowN_eq, e]
  refine sum15 m (Nat.lt_of_lt_of_le h ?_)
  rcases four4 hk with rfl | rfl | rfl | rfl <;> decide
noncomputable def priceF (p : Nat) : UInt64 := Float64.mul (Float64.ofInt 16) (hueT p)
noncomputable def dueP (p c : Nat) : Bool := (Float64.cmpInt (priceF p) 0 == some .eq) || (Float64.cmpInt (priceF p) (c : Int) == some .lt)
theorem due_mask : ∀ p, p < 9 → ((((List.range 9).filter (dueP p)).map fun c : Nat => (1 * 2 ^ ((c : Int)).toNat : Int))).sum = maskI p := by decide +kernel
theorem price_eq : ∀ p : Nat, p < 9 → (Float64.cmpInt (priceF p) (p : Int) != some .eq) = false := by decide +kernel
end
end Mine
end
section
open PySem PySem.W PySem.Calls PySem.Flt PyProof.Rows
set_option maxRecDepth 100000
set_option maxHeartbeats 4000000
set_option linter.unusedVariables false
set_option genInjectivity false
set_option genSizeOf false
namespace Mine
variable {g : G}
theorem Ex.less {c : Cx} {cs : Scope} {k0 t0 : Nat} {m : List (Str × VP)} {n : Led} {ss : List (List Stmt)} {P : Flow → Shared → Prop} (m' : List (Str × VP)) (h : ∀ x V, m'.lookup x = some V → m.lookup x = some V) (k : Ex ⟨c, cs, k0, t0, m', n, []⟩ ss P) : Ex ⟨c, cs, k0, t0, m, n, []⟩ ss P := fun Q E s p S q => k Q E s p (S.sub h) q
/-- floats made one after the other within a stretch -/
noncomputable def Ups (xs : List UInt64) (a b : Nat) (ys : List Value) : Prop := ys.length = xs.length ∧ ∃ u : Nat → Nat, (∀ j, j < xs.length → ys[j]? = some (.float (xs.getD j 0) (u j)) ∧ a ≤ u j ∧ u j < b) ∧ ∀ i j, i < j → j < xs.length → u i < u j
theorem Ups.nil {a b : Nat} : Ups [] a b [] := ⟨rfl, fun _ => 0, fun j h => absurd h (Nat.not_lt_zero _), fun i j _ h => absurd h (Nat.not_lt_zero _)⟩
theorem Ups.snoc {xs : List UInt64} {a b b' : Nat} {ys : List Value} {x : UInt64} {v : Value} (h : Ups xs a b ys) (hv : isFT x b b' v) (hb : b ≤ b') (ha : a ≤ b) : Ups (xs ++ [x]) a b' (ys ++ [v]) := by
  obtain ⟨hl, u, h1, h2⟩ := h
  obtain ⟨w, rfl, hw1, hw2⟩ := hv
  have old : ∀ j, j < xs.length → (xs ++ [x]).getD j 0 = xs.getD j 0 := fun j hj => by rw [List.getD_eq_getElem?_getD, List.getD_eq_getElem?_getD, List.getElem?_append_left hj]
  refine ⟨by rw [List.length_append, List.length_append, hl]; rfl, fun j => if j < xs.length then u j else w, fun j hj => ?_, fun i j hij hj => ?_⟩
  · rw [List.length_append] at hj
    dsimp only
    by_cases q : j < xs.length
    · rw [if_pos q, old j q, List.getElem?_append_left (hl ▸ q)]
      exact ⟨(h1 j q).1, (h1 j q).2.1, Nat.lt_of_lt_of_le (h1 j q).2.2 hb⟩
    · have e : j = xs.length := Nat.le_antisymm (Nat.le_of_lt_succ hj) (Nat.not_lt.mp q)
      rw [if_neg q, e, List.getD_eq_getElem?_getD, List.getElem?_append_right (Nat.le_refl _), Nat.sub_self, ← hl, List.getElem?_append_right (Nat.le_refl _), Nat.sub_self]
      exact ⟨rfl, Nat.le_trans ha hw1, hw2⟩
  · rw [List.length_append] at hj
    have hi : i < xs.length := Nat.lt_of_lt_of_le hij (Nat.le_of_lt_succ hj)
    dsimp only
    rw [if_pos hi]
    by_cases q : j < xs.length
    · rw [if_pos q]; exact h2 i j hij q
    · rw [if_neg q]; exact Nat.lt_of_lt_of_le (h1 i hi).2.2 hw1
theorem All2.of_get {α : Type} {f : α → VP} {d : α} : ∀ {xs : List α} {ys : List Value}, ys.length = xs.length → (∀ j, j < xs.length → ∃ v, ys[j]? = some v ∧ f (xs.getD j d) v) → All2 (xs.map f) ys
  | [], ys, hl, _ => List.length_eq_zero_iff.mp hl
  | x :: xs, [], hl, _ => absurd hl (by simp)
  | x :: xs, y :: ys, hl, h => by
    obtain ⟨v, e, hv⟩ := h 0 (Nat.succ_pos _)
    cases Option.some.inj e
    exact ⟨_, _, rfl, hv, All2.of_get (d := d) (Nat.succ.inj hl) fun j hj => h (j + 1) (Nat.succ_lt_succ hj)⟩
theorem Ups.flts {xs : List UInt64} {a b : Nat} {ys : List Value} (h : Ups xs a b ys) (ha : 0 < a) : All2 (xs.map isF) ys := by
  obtain ⟨hl, u, h1, _⟩ := h
  exact All2.of_get (d := 0) hl fun j hj => ⟨_, (h1 j hj).1, _, rfl, Nat.ne_of_gt (Nat.lt_of_lt_of_le ha (h1 j hj).2.1)⟩
theorem indexF_says {D : Addr} {ys vs : List Value} {nn a b k : Nat} {xs : List UInt64} (hl : (D, listOf ys.toArray nn) ∈ g.n) (U : Ups xs a b ys) (ha : 0 < a) (H : Hit xs k) (hk : 1 ≤ g.k) (hv : All2 [isR D, fun v => ys[k]? = some v] vs) : CallAt g 98 vs (Called g (Val (isI (k : Int)))) := by
  obtain ⟨v1, _, rfl, rfl, v2, _, rfl, hV, rfl⟩ := hv
  obtain ⟨hlen, u, h1, h2⟩ := U
  have nz : ∀ j, j < xs.length → u j ≠ 0 := fun j hj => Nat.ne_of_gt (Nat.lt_of_lt_of_le ha (h1 j hj).2.1)
  rw [(h1 k H.1).1] at hV
  cases hV
  refine indexOf_says (V := fun i v => ys[i]? = some v) (l := [(D, listOf ys.toArray nn)]) (fun p hp => List.mem_singleton.mp hp ▸ hl) (fun g' sub _ {_ _ _ _} hf ha hst hp => EvG.enumL hf (Evs.cons (V := isR D) ha Evs.nil hst) hp (sub _ hl) (hlen ▸ H.1)) (fun g' i v hi _ hv => ?_) (fun g' v hv => ?_) hk
  · have hi' := Nat.lt_trans hi H.1
    rw [(h1 i hi').1] at hv
    cases hv
    exact ⟨IsB.flt (nz i hi') (nz k H.1) fun _ => ⟨(H.2.2 i hi).2, Nat.ne_of_lt (h2 i k hi H.1)⟩, fun a b ha hb => Cm.eqF (H.2.2 i hi).1 a b ⟨_, ha, nz i hi'⟩ ⟨_, hb, nz k H.1⟩⟩
  · rw [(h1 k H.1).1] at hv
    cases hv
    exact ⟨IsB.flt (nz k H.1) (nz k H.1) (fun h => nomatch h), fun a b ha hb => Cm.eqF H.2.1 a b ⟨_, ha, nz k H.1⟩ ⟨_, hb, nz k H.1⟩⟩
/-- [f(..), f(..)] of two paints that are made for it -/
theorem EvG.list2 {e1 e2 : Expr} {p2 : Pos} {Vs1 Vs2 : List VP} (h1 : EvG g e1 (Called g (TupV Vs1))) (h2 : ∀ d o, EvG { g with n := (d, o) :: g.n } e2 (Called { g with n := (d, o) :: g.n } (TupV Vs2))) (hst : starEach [e1, e2] g.env = [(false, eval e1 g.env), (false, eval e2 g.env)]) :
    EvG g (.List [e1, e2] p2) (fun v s => ∃ D d1 d2 w1 w2, v = .ref D ∧ (∀ p ∈ g.n, p.1 < d1) ∧ d1 < d2 ∧ d2 < D ∧ All2 Vs1 w1 ∧ All2 Vs2 w2 ∧ St { g with n := (D, listOf [Value.ref d1, .ref d2].toArray 0) :: (d2, tupOf w2) :: (d1, tupOf w1) :: g.n } s) := fun Q E s p S q =>
  wpAny_List (by
    rw [hst]
    refine spliced_cons (h1 _ _ _ p S fun v s1 a => ?_)
    cases a with | mk tl n0 n1 a0 a1 a2 S1 o R =>
    obtain ⟨d1, w1, rfl, rfl, hw1⟩ := R
    refine spliced_cons (h2 d1 (tupOf w1) _ _ _ p S1 fun v s2 b => spliced_nil ?_)
    cases b with | mk tl n0' n1' b0 b1 b2 S2 o2 R2 =>
    obtain ⟨d2, w2, rfl, rfl, hw2⟩ := R2
    exact ⟨Nat.le_of_ble_eq_true rfl, q _ _ ⟨_, d1, d2, w1, w2, rfl, fun p hp => o p hp _ (.head _), o2 _ (.head _) _ (.head _), S2.above _ (.head _), hw1, hw2, (S2.low (t := g.t) (Nat.le_refl _) S.t0).push _ rfl⟩⟩)
/-- the paints of the first n spots -/
noncomputable def Paints (vs : List Value) (tups : Led) (p e f : Nat → Nat) (n : Nat) : Prop :=
  vs.length = n ∧ ∀ a, a < n → ∃ d ws, vs[a]? = some (.ref d) ∧ (d, tupOf ws) ∈ tups ∧ All2 [isF (rgbOf (hueT (p a)) (shT (e a)) (shT (f a))).1, isF (rgbOf (hueT (p a)) (shT (e a)) (shT (f a))).2.1, isF (rgbOf (hueT (p a)) (shT (e a)) (shT (f a))).2.2] ws
theorem Paints.snoc {vs ws : List Value} {tups : Led} {p e f : Nat → Nat} {n : Nat} {d : Addr} (P : Paints vs tups p e f n) (h : All2 [isF (rgbOf (hueT (p n)) (shT (e n)) (shT (f n))).1, isF (rgbOf (hueT (p n)) (shT (e n)) (shT (f n))).2.1, isF (rgbOf (hueT (p n)) (shT (e n)) (shT (f n))).2.2] ws) : Paints (vs ++ [.ref d]) ((d, tupOf ws) :: tups) p e f (n + 1) := by
  refine ⟨by rw [List.length_append, P.1]; rfl, fun a ha => ?_⟩
  rcases Nat.lt_or_eq_of_le (Nat.le_of_lt_succ ha) with q | rfl
  · obtain ⟨d', w', e', m, h'⟩ := P.2 a q
    exact ⟨d', w', by rw [List.getElem?_append_left (P.1 ▸ q)]; exact e', .tail _ m, h'⟩
  · exact ⟨d, ws, by rw [List.getElem?_append_right (Nat.le_of_eq P.1), P.1, Nat.sub_self]; rfl, .head _, h⟩
theorem IsInts.snoc {vs : List Value} {f : Nat → Int} {n : Nat} {v : Value} (h : IsInts vs f n) (e : isI (f n) v) : IsInts (vs ++ [v]) f (n + 1) := by
  refine ⟨by rw [List.length_append, h.1]; rfl, fun a ha => ?_⟩
  rcases Nat.lt_or_eq_of_le (Nat.le_of_lt_succ ha) with q | rfl
  · obtain ⟨t', e', h'⟩ := h.2 a q
    exact ⟨t', by rw [List.getElem?_append_left (h.1 ▸ q)]; exact e', h'⟩
  · exact ⟨v, by rw [List.getElem?_append_right (Nat.le_of_eq h.1), h.1, Nat.sub_self]; rfl, e⟩
theorem two_ints {vs : List Value} {f : Nat → Int} {a b : Int} (h : All2 [isI a, isI b] vs) (e0 : f 0 = a) (e1 : f 1 = b) : IsInts vs f 2 := by
  obtain ⟨v, _, rfl, hv, w, _, rfl, hw, rfl⟩ := h
  exact ⟨rfl, fun
    | 0, _ => ⟨v, rfl, e0 ▸ hv⟩
    | 1, _ => ⟨w, rfl, e1 ▸ hw⟩
    | k + 2, h => absurd h (by omega)⟩
/-- between the turns -/
structure PlayS (n0 : Led) (p lo hi e f : Nat → Nat) (Hi Lo M P : Addr) (i : Nat) (hv lv mv pv : List Value) (tups : Led) : Prop where
  h : IsInts hv (fun a => (hi a : Int)) (i + 2)
  l : IsInts lv (fun a => (lo a : Int)) (i + 2)
  m : IsInts mv (fun a => maskI (p a)) (i + 2)
  p : Paints pv tups p e f (i + 2)
  off : ∀ q ∈ tups ++ n0, q.1 ≠ Hi ∧ q.1 ≠ Lo ∧ q.1 ≠ M ∧ q.1 ≠ P
  ord : ∀ q ∈ n0, ∀ t ∈ tups, q.1 < t.1
noncomputable def PlayM (R S Hi Lo M P : Addr) : List (Str × VP) := [("highs", isR Hi), ("lows", isR Lo), ("masks", isR M), ("paints", isR P), ("rows", isR R), ("shades", isR S)]
noncomputable def PlayN (n0 : Led) (Hi Lo M P : Addr) (hv lv mv pv : List Value) (nh nl nm np : Nat) (tups : Led) : Led := (Hi, listOf hv.toArray nh) :: (Lo, listOf lv.toArray nl) :: (M, listOf mv.toArray nm) :: (P, listOf pv.toArray np) :: (tups ++ n0)
noncomputable def PlayJ (c : Cx) (n0 : Led) (p lo hi e f : Nat → Nat) (R S Hi Lo M P : Addr) (i : Nat) (m : List (Str × VP)) (n : Led) (t : Nat) : Prop :=
  ∃ (hv lv mv pv : List Value) (nh nl nm np : Nat) (tups : Led), m = PlayM R S Hi Lo M P ∧ n = PlayN n0 Hi Lo M P hv lv mv pv nh nl nm np tups ∧ c.t ≤ t ∧ PlayS n0 p lo hi e f Hi Lo M P i hv lv mv pv tups
/-- what the play hands back -/
noncomputable def PlayRet (p lo hi e f : Nat → Nat) : Nat → Nat → Led → Value → Prop := fun _ _ tl r => ∃ (T P M Lo Hi : Addr) (pv mv lv hv : List Value) (np nm nl nh : Nat) (tups : Led),
  r = .ref T ∧ tl = (T, tupOf [.ref P, .ref M, .ref Lo, .ref Hi]) :: (Hi, listOf hv.toArray nh) :: (Lo, listOf lv.toArray nl) :: (M, listOf mv.toArray nm) :: (P, listOf pv.toArray np) :: tups ∧
  IsInts hv (fun a => (hi a : Int)) 6 ∧ IsInts lv (fun a => (lo a : Int)) 6 ∧ IsInts mv (fun a => maskI (p a)) 6 ∧ Paints pv tups p e f 6
/-- the rows and the shades that a play is handed -/
structure Given (n : Led) (R S : Addr) (row : Nat → List Nat) (e f : Nat → Nat) (rv sv : List Value) (nR nS : Nat) (ra sa : Nat → Addr) (rw sw : Nat → List Value) (rn : Nat → Nat) : Prop where
  R : (R, listOf rv.toArray nR) ∈ n
  S : (S, listOf sv.toArray nS) ∈ n
  r : ∀ i, i < 4 → rv[i]? = some (.ref (ra i)) ∧ (ra i, listOf (rw i).toArray (rn i)) ∈ n ∧ All2 ((row i).map fun a : Nat => isI (a : Int)) (rw i)
  s : ∀ i, i < 4 → sv[i]? = some (.ref (sa i)) ∧ (sa i, tupOf (sw i)) ∈ n ∧ All2 [isF (shT (e (i + 2))), isF (shT (f (i + 2)))] (sw i)
end Mine
end
section
open PySem PySem.W PySem.Calls PySem.Flt PyProof.Rows
set_option maxRecDepth 100000
set_option maxHeartbeats 8000000
set_option exponentiation.threshold 2000
set_option linter.unusedVariables false
set_option genInjectivity false
set_option genSizeOf false
namespace Mine
variable {g : G}
/-- l.append(e): the ledger behind it is some list that holds all the rest -/
theorem Ex.appendD {c : Cx} {cs : Scope} {k0 t0 : Nat} {m : List (Str × VP)} {n : Led} {oe e : Expr} {ap cp pos : Pos} {rest : List Stmt} {r : List (List Stmt)} {R : Value → Shared → Prop} {P : Flow → Shared → Prop} {l : Addr} {vs : List Value} {nn : Nat}
    (ho : Ev ⟨c, cs, k0, t0, m, n, []⟩ oe (isR l)) (hl : (l, listOf vs.toArray nn) ∈ n) (he : EvG ⟨c, cs, k0, t0, m, n, []⟩ e R) (hsz : vs.length ≤ sizeLine)
    (k : ∀ v s, R v s → ∃ t n1, St ⟨c, cs, k0, t, m, n1, []⟩ s ∧ (l, listOf vs.toArray nn) ∈ n1 ∧ ∀ nn' n2, (l, listOf (vs ++ [v]).toArray nn') ∈ n2 → (∀ p ∈ n1, p.1 ≠ l → p ∈ n2) → Ex ⟨c, cs, k0, t, m, n2, []⟩ (rest :: r) P)
    (hb : ∃ pl, eval (.Call (.Attribute oe "append" ap) [e] [] cp) (c.env cs) = (do
      let ov ← eval oe (c.env cs)
      standAt ap.atName
      let (f, first) ← holding [ov] (getMethod ov "append" pl)
      callWith cp f first (backTo cp (starEach [e] (c.env cs))) []))
    (ht : starEach [e] (c.env cs) = [(false, eval e (c.env cs))]) (hi : interactive (c.env cs) = false) (hs : swapsWith (.Call (.Attribute oe "append" ap) [e] [] cp) none pos.line (c.env cs) = pure false) :
    Ex ⟨c, cs, k0, t0, m, n, []⟩ ((.Expr (.Call (.Attribute oe "append" ap) [e] [] cp) pos :: rest) :: r) P :=
  Ex.append ho hl he hsz (fun v s a => by
    obtain ⟨t, n1, S, h1, h⟩ := k v s a
    refine ⟨t, n1, n1.filter (fun p => !(p.1 == l)), S, h1, fun p hp => (List.mem_filter.mp hp).1, fun p hp => ?_, fun nn' => h nn' _ (.head _) fun p hp ne => .tail _ (List.mem_filter.mpr ⟨hp, ?_⟩)⟩
    · have := (List.mem_filter.mp hp).2
      rw [Bool.not_eq_true', beq_eq_false_iff_ne] at this
      exact this
    · rw [Bool.not_eq_true', beq_eq_false_iff_ne]
      exact ne) hb ht hi hs
/-- the ledger within a turn -/
structure PMid (it : Addr) (o : Obj) (D : Addr) (oD : Obj) (Hi : Addr) (oH : Obj) (Lo : Addr) (oL : Obj) (M : Addr) (oM : Obj) (P : Addr) (oP : Obj) (rest : Led) (n : Led) : Prop where
  it : (it, o) ∈ n
  D : (D, oD) ∈ n
  Hi : (Hi, oH) ∈ n
  Lo : (Lo, oL) ∈ n
  M : (M, oM) ∈ n
  P : (P, oP) ∈ n
  rest : ∀ q ∈ rest, q ∈ n
theorem len4 {i : Nat} (hi : i < 4) {vs : List Value} (h : vs.length = i + 2) : vs.length ≤ sizeLine := h ▸ Nat.le_trans (Nat.add_le_add_right (Nat.le_of_lt hi) 2) (by decide)
theorem st_pos {s : Shared} (S : St g s) : 0 < g.c.t := S.P.z
theorem play_says {R S0 : Addr} {row : Nat → List Nat} {p lo hi e f : Nat → Nat} {rv sv : List Value} {nR nS : Nat} {ra sa : Nat → Addr} {rw sw : Nat → List Value} {rn : Nat → Nat} {vs : List Value} (GV : Given g.n R S0 row e f rv sv nR nS ra sa rw sw rn)
    (h0 : p 0 = 0 ∧ lo 0 = 0 ∧ hi 0 = 0 ∧ e 0 = 0 ∧ f 0 = 0) (h1 : p 1 = 8 ∧ lo 1 = 1 ∧ hi 1 = 1 ∧ e 1 = 0 ∧ f 1 = 0) (ht : ∀ i, i < 4 → Turn p lo hi i (row i)) (he : ∀ a, a < 6 → e a < 3) (hf : ∀ a, a < 6 → f a < 3) (hp : ∀ a, a < 6 → p a < 9) (hk : 3 ≤ g.k) (hv : All2 [isR R, isR S0] vs) :
    CallAt g 174 vs (Called g (PlayRet p lo hi e f)) := by
  obtain ⟨v1, _, rfl, hV1, v2, _, rfl, hV2, rfl⟩ := hv
  have hk2 : 2 ≤ g.k - 1 := Nat.le_sub_of_add_le hk
  have hk1 : 1 ≤ g.k - 1 := Nat.le_trans (by decide) hk2
  refine' CallAt.of ?ho ?hcd ?hb ?hkind ?hg ?hk [("rows", isR R), ("shades", isR S0)] ?hms ?h; (case ho => exact rfl); (case hcd => exact rfl); (case hb => exact fun s => BindsTo.of_eq rfl); (case hkind => exact rfl); (case hg => exact ⟨rfl, rfl, rfl⟩); (case hk => exact Nat.le_trans (by decide) hk); (case hms => (intro L'; (repeat' (first | exact rds_nil | refine' rds_cons (.inl ⟨rfl, rfl⟩) ?_ ?_ | refine' rds_cons (.inr ⟨rfl, rfl, rfl⟩) ?_ ?_)); all_goals first | assumption | exact rfl | exact ⟨_, rfl⟩)); (case' h => intro c cells hlo keep hcl)
  case h =>
    have flt2 : ∀ {j a : Nat} (hj : j < 9) (ha : a < 3) {g' : G} {vs : List Value}, 1 ≤ g'.k → All2 [isF (hueT j), isF (shT a), isF (shT a)] vs → CallAt g' 35 vs (Called g' (TupV [isF (rgbOf (hueT j) (shT a) (shT a)).1, isF (rgbOf (hueT j) (shT a) (shT a)).2.1, isF (rgbOf (hueT j) (shT a) (shT a)).2.2])) := by
      intro j a hj ha g' vs hk hv
      exact hsv_to_rgb_says (hue_at hj ha _) hk hv
    refine Ex.asgG (EvG.list2 (EvG.call (f := 35) (Vs := [isF (hueT 0), isF (shT 0), isF (shT 0)]) (Ev.globR rfl rfl rfl) (Evs.cons Ev.flt (Evs.cons Ev.flt (Evs.cons Ev.flt Evs.nil rfl) rfl) rfl) (fun _ => ⟨_, _, rfl, rfl⟩) rfl (fun vs hv => flt2 (by decide) (by decide) hk1 hv)) (fun d o => EvG.call (f := 35) (Vs := [isF (hueT 8), isF (shT 0), isF (shT 0)]) (Ev.globR rfl rfl rfl) (Evs.cons Ev.flt (Evs.cons Ev.flt (Evs.cons Ev.flt Evs.nil rfl) rfl) rfl) (fun _ => ⟨_, _, rfl, rfl⟩) rfl (fun vs hv => flt2 (by decide) (by decide) hk1 hv)) rfl) (.inr ⟨rfl, by rw [hcl]; rfl⟩) ?_ rfl
    rintro _ s ⟨P, d1, d2, w1, w2, rfl, l0, l12, l2P, hw1, hw2, S'⟩
    refine ⟨isR P, _, _, rfl, S', ?_⟩
    have hz : 0 < c.t := st_pos S'
    clear S'
    refine Ex.asgG (EvG.list (Evs.cons Ev.int (Evs.cons Ev.int Evs.nil rfl) rfl) (by decide)) (.inl rfl) ?_ rfl
    rintro _ s a9
    cases a9 with | mk M mv hv iM ltM S' =>
    subst hv
    refine ⟨isR M, _, _, rfl, S', ?_⟩
    clear S'
    refine Ex.asgG (EvG.list (Evs.cons Ev.int (Evs.cons Ev.int Evs.nil rfl) rfl) (by decide)) (.inl rfl) ?_ rfl
    rintro _ s a9
    cases a9 with | mk Lo lv hv iL ltL S' =>
    subst hv
    refine ⟨isR Lo, _, _, rfl, S', ?_⟩
    clear S'
    refine Ex.asgG (EvG.list (Evs.cons Ev.int (Evs.cons Ev.int Evs.nil rfl) rfl) (by decide)) (.inl rfl) ?_ rfl
    rintro _ s a9
    cases a9 with | mk Hi hv hv' iH ltH S' =>
    subst hv'
    refine ⟨isR Hi, _, _, rfl, S', ?_⟩
    clear S'
    have n0 : ∀ q ∈ g.n ++ cells, q.1 < d1 := l0
    have PM : P < M := ltM _ (.head _)
    have ML : M < Lo := ltL _ (.head _)
    have LH : Lo < Hi := ltH _ (.head _)
    have d2P : d2 < P := l2P
    have d1P : d1 < P := Nat.lt_trans l12 l2P
    have PL : P < Lo := Nat.lt_trans PM ML
    have PH : P < Hi := Nat.lt_trans PL LH
    have MH : M < Hi := Nat.lt_trans ML LH
    have nP : ∀ q ∈ g.n ++ cells, q.1 < P := fun q hq => Nat.lt_trans (n0 q hq) d1P
    clear ltM ltL ltH l0 l2P
    have start : PlayS (g.n ++ cells) p lo hi e f Hi Lo M P 0 hv lv mv [.ref d1, .ref d2] [(d2, tupOf w2), (d1, tupOf w1)] := by
      have off : ∀ q : Addr × Obj, q.1 < P → q.1 ≠ Hi ∧ q.1 ≠ Lo ∧ q.1 ≠ M ∧ q.1 ≠ P := fun q h => ⟨Nat.ne_of_lt (Nat.lt_trans h PH), Nat.ne_of_lt (Nat.lt_trans h PL), Nat.ne_of_lt (Nat.lt_trans h PM), Nat.ne_of_lt h⟩
      refine ⟨two_ints iH (by rw [h0.2.2.1]; rfl) (by rw [h1.2.2.1]; rfl), two_ints iL (by rw [h0.2.1]; rfl) (by rw [h1.2.1]; rfl), two_ints iM (by rw [h0.1]; rfl) (by rw [h1.1]; rfl), ⟨rfl, fun
        | 0, _ => ⟨d1, w1, rfl, .tail _ (.head _), by rw [h0.1, h0.2.2.2.1, h0.2.2.2.2]; exact hw1⟩
        | 1, _ => ⟨d2, w2, rfl, .head _, by rw [h1.1, h1.2.2.2.1, h1.2.2.2.2]; exact hw2⟩
        | k + 2, h => absurd h (by omega)⟩, fun q hq => off q ?_, fun q hq t ht => ?_⟩
      · rcases List.mem_cons.mp hq with rfl | hq
        · exact d2P
        · rcases List.mem_cons.mp hq with rfl | hq
          · exact d1P
          · exact nP q hq
      · rcases List.mem_cons.mp ht with rfl | ht
        · exact Nat.lt_trans (n0 q hq) l12
        · cases List.mem_singleton.mp ht
          exact n0 q hq
    clear iM iL iH hw1 hw2 d2P d1P l12 n0
    refine Ex.less (PlayM R S0 Hi Lo M P) (sub_cons rfl (sub_cons rfl (sub_cons rfl (sub_cons rfl (sub_cons rfl (sub_cons rfl sub_nil)))))) ?_
    refine Ex.for (PlayJ c (g.n ++ cells) p lo hi e f R S0 Hi Lo M P) (fun _ _ _ => False) (Iters.range (N := 4) (Ev.built rfl rfl rfl (by decide) rfl) Ev.int (fun _ => ⟨_, _, rfl, rfl⟩) rfl (by decide)) (fun _ _ _ _ _ _ h => nomatch h) ⟨hv, lv, mv, _, 0, 0, 0, 0, _, rfl, rfl, Nat.le_refl _, start⟩ (.inr ⟨rfl, by rw [hcl]; rfl⟩) (fun _ => rfl) ?_ (fun _ _ _ h => h.elim) ?_
    · clear start mv lv hv w1 w2 d1 d2
      rintro i m n t it o hi4 ⟨hv, lv, mv, pv, nh, nl, nm, np, tups, rfl, rfl, htt, J⟩ hit
      have tn := ht i hi4
      obtain ⟨rE, rM, rA⟩ := GV.r i hi4
      obtain ⟨sE, sM, sA⟩ := GV.s i hi4
      have up : ∀ q ∈ g.n, q ∈ tups ++ (g.n ++ cells) := fun q hq => List.mem_append_right _ (List.mem_append_left _ hq)
      have up5 : ∀ q ∈ tups ++ (g.n ++ cells), q ∈ (it, o) :: PlayN (g.n ++ cells) Hi Lo M P hv lv mv pv nh nl nm np tups := fun q hq => .tail _ (.tail _ (.tail _ (.tail _ (.tail _ hq))))
      have htp : 0 < t := Nat.lt_of_lt_of_le hz htt
      have rl : (rw i).length = (row i).length := by rw [rA.length, List.length_map]
      have rows4 : ∀ {tt : Nat} {mm : List (Str × VP)} {nn : Led} {cs9 : Scope} {e1 e2 : Expr} {pos : Pos}, (∀ q ∈ tups ++ (g.n ++ cells), q ∈ nn) → Ev ⟨c, cs9, g.k - 1, tt, mm, nn, []⟩ e1 (isR R) → Ev ⟨c, cs9, g.k - 1, tt, mm, nn, []⟩ e2 (isI (i : Int)) → (∀ u, Subs e2 (.ref R) (.int (i : Int) u)) → Ev ⟨c, cs9, g.k - 1, tt, mm, nn, []⟩ (.Subscript e1 e2 pos) (isR (ra i)) :=
        fun sub h1 h2 h3 => Ev.sub h1 h2 (It.list (sub _ (up _ GV.R)) (Int.natCast_nonneg i) (small63 hi4) rE rfl h3)
      refine Ex.asgComp (N := (rw i).length) (V := fun j => isI (((row i).getD j 0 : Nat) : Int)) (fun j ys n' t' => n' = (it, o) :: PlayN (g.n ++ cells) Hi Lo M P hv lv mv pv nh nl nm np tups ∧ t ≤ t' ∧ Ups ((huesOf p (row i)).take j) t t' ys) ⟨fun _ => rfl, (clos_eq hcl).trans rfl, rfl, by decide, by decide, rfl⟩
        (Iters.list (l := ra i) (vs := rw i) (nn := rn i) (rows4 up5 (Ev.name rfl rfl) (Ev.name rfl rfl) fun u => by with_unfolding_all rfl) (up5 _ (up _ rM)) fun j v hv => rA.get (f := fun a : Nat => isI (a : Int)) hv) (fun q hq => List.mem_singleton.mp hq ▸ up5 _ (up _ rM)) (rl ▸ Nat.le_trans (Nat.le_of_lt tn.len.2) (by decide)) ⟨rfl, Nat.le_refl _, Ups.nil⟩ ?_ (.inl rfl) rfl ?_
      · intro j hj
        rintro ys n' t' C D2 It2 oC oD oI ⟨rfl, ht', U⟩ sub2
        refine ⟨true, Tests.nil, (fun h => nomatch h), fun _ => ?_⟩
        have hjr : j < (row i).length := rl ▸ hj
        have hja : (row i)[j]? = some ((row i).getD j 0) := by rw [List.getD_eq_getElem?_getD, List.getElem?_eq_getElem hjr]; rfl
        have ha : (row i).getD j 0 < i + 2 := tn.spots _ (List.mem_of_getElem? hja)
        have ha6 : (row i).getD j 0 < 6 := Nat.lt_of_lt_of_le ha (Nat.add_le_add_right (Nat.le_of_lt hi4) 2)
        obtain ⟨d, ws, pe, pm, hws⟩ := J.p.2 _ ha
        refine EvG.mono (EvG.call (f := 162) (Vs := [isR d, isI (i : Int)]) (Ev.globR rfl rfl rfl) (Evs.cons (Ev.sub (Ev.nameC rfl rfl rfl (by show _ = List.lookup _ c.cl; rw [hcl]; rfl) rfl) (Ev.nameL rfl rfl) (It.list (l := P) (vs := pv) (nn := np) (.tail _ (.tail _ (.tail _ (.tail _ (.tail _ (.tail _ (.tail _ (.head _)))))))) (Int.natCast_nonneg _) (Int.lt_trans (Int.ofNat_lt.mpr ha6) (by decide)) pe rfl fun u => by with_unfolding_all rfl)) (Evs.cons (Ev.nameC rfl rfl rfl (by show _ = List.lookup _ c.cl; rw [hcl]; rfl) rfl) Evs.nil rfl) rfl) (fun _ => ⟨_, _, rfl, rfl⟩) rfl
          (fun vs hv => hue_says (paint_at (hp _ ha6) (he _ ha6) (hf _ ha6)) (.tail _ (.tail _ (.tail _ (up5 _ (List.mem_append_left _ pm))))) hws hk2 hv)) fun v s a => ?_
        cases a with | mk tl m0 m1 b0 b1 b2 S9 o9 R9 =>
        obtain ⟨rfl, u, rfl, q1, q2⟩ := R9
        have b0 : t' ≤ m0 := b0
        refine ⟨[], s.toks, S9.raise, (fun _ _ _ h => nomatch h), rfl, Nat.le_trans ht' (Nat.le_trans b0 (Nat.le_trans b1 b2)), ?_⟩
        have e9 : (huesOf p (row i)).take (j + 1) = (huesOf p (row i)).take j ++ [hueT (p ((row i).getD j 0))] := by
          unfold huesOf
          rw [List.take_add_one, List.getElem?_map, hja]; rfl
        rw [e9]
        exact U.snoc ⟨u, rfl, Nat.le_trans b0 q1, Nat.lt_of_lt_of_le q2 b2⟩ (Nat.le_trans b0 (Nat.le_trans b1 b2)) ht'
      rintro D ys n' t2 nD ⟨rfl, ht2, U⟩ _ ltD _
      rw [List.take_of_length_le (by rw [rl]; unfold huesOf; rw [List.length_map]; exact Nat.le_refl _)] at U
      have HL := tn.hitL
      have HG := tn.hitG
      have ff := U.flts htp
      have hne : 0 < (huesOf p (row i)).length := Nat.lt_of_le_of_lt (Nat.zero_le _) HL.1
      have i6 : i + 2 < 6 := Nat.add_lt_add_right hi4 2
      have itH : it ≠ Hi := Ne.symm (hit _ (.head _))
      have itL : it ≠ Lo := Ne.symm (hit _ (.tail _ (.head _)))
      have itM : it ≠ M := Ne.symm (hit _ (.tail _ (.tail _ (.head _))))
      have itP : it ≠ P := Ne.symm (hit _ (.tail _ (.tail _ (.tail _ (.head _)))))
      have restI : ∀ q ∈ tups ++ (g.n ++ cells), q.1 ≠ it := fun q hq => hit _ (.tail _ (.tail _ (.tail _ (.tail _ hq))))
      have DI : it < D := ltD _ (.head _)
      have DH : Hi < D := ltD _ (.tail _ (.head _))
      have DL : Lo < D := ltD _ (.tail _ (.tail _ (.head _)))
      have DM : M < D := ltD _ (.tail _ (.tail _ (.tail _ (.head _))))
      have DP : P < D := ltD _ (.tail _ (.tail _ (.tail _ (.tail _ (.head _)))))
      have pick : ∀ k, k < (row i).length → ∀ z, (row i).getD k 0 = z → ∃ v, (rw i)[k]? = some v ∧ isI (z : Int) v := fun k hk z e => e ▸ rA.at (by rw [List.getElem?_map, List.getD_eq_getElem?_getD, List.getElem?_eq_getElem hk]; rfl)
      have xl : (huesOf p (row i)).length = (row i).length := by unfold huesOf; rw [List.length_map]
      obtain ⟨vl, xvl, hvl⟩ := pick _ (xl ▸ HL.1) _ tn.low
      obtain ⟨vg, xvg, hvg⟩ := pick _ (xl ▸ HG.1) _ tn.high
      have small5 : ∀ {k : Nat}, k < (huesOf p (row i)).length → (k : Int) < 2 ^ 63 := fun h => Int.lt_trans (Int.ofNat_lt.mpr (Nat.lt_of_lt_of_le h (xl ▸ Nat.le_of_lt tn.len.2))) (by decide)
      obtain ⟨s0, xs0, hs0⟩ := sA.at (i := 0) rfl
      obtain ⟨s1, xs1, hs1⟩ := sA.at (i := 1) rfl
      have K0 : PMid it o D (listOf ys.toArray nD) Hi (listOf hv.toArray nh) Lo (listOf lv.toArray nl) M (listOf mv.toArray nm) P (listOf pv.toArray np) (tups ++ (g.n ++ cells)) ((D, listOf ys.toArray nD) :: (it, o) :: PlayN (g.n ++ cells) Hi Lo M P hv lv mv pv nh nl nm np tups) :=
        ⟨.tail _ (.head _), .head _, .tail _ (.tail _ (.head _)), .tail _ (.tail _ (.tail _ (.head _))), .tail _ (.tail _ (.tail _ (.tail _ (.head _)))), .tail _ (.tail _ (.tail _ (.tail _ (.tail _ (.head _))))), fun q hq => .tail _ (up5 q hq)⟩
      generalize (D, listOf ys.toArray nD) :: (it, o) :: PlayN (g.n ++ cells) Hi Lo M P hv lv mv pv nh nl nm np tups = n9 at K0 ⊢
      clear ltD up5 hit
      refine Ex.asg (EvG.min1 (Ev.built rfl rfl rfl (by decide) rfl) (Evs.cons (Ev.name (V := isR D) rfl rfl) Evs.nil rfl) (fun _ => ⟨_, _, rfl, rfl⟩) K0.D ff hne) (.inl rfl) rfl ?_
      refine Ex.asg (EvG.max1 (Ev.built rfl rfl rfl (by decide) rfl) (Evs.cons (Ev.name (V := isR D) rfl rfl) Evs.nil rfl) (fun _ => ⟨_, _, rfl, rfl⟩) K0.D ff hne) (.inl rfl) rfl ?_
      have shade : ∀ {tt : Nat} {mm : List (Str × VP)} {cs9 : Scope} {e1 e2 : Expr} {pos : Pos}, Ev ⟨c, cs9, g.k - 1, tt, mm, n9, []⟩ e1 (isR S0) → Ev ⟨c, cs9, g.k - 1, tt, mm, n9, []⟩ e2 (isI (i : Int)) → (∀ u, Subs e2 (.ref S0) (.int (i : Int) u)) → Ev ⟨c, cs9, g.k - 1, tt, mm, n9, []⟩ (.Subscript e1 e2 pos) (isR (sa i)) :=
        fun h1 h2 h3 => Ev.sub h1 h2 (It.list (K0.rest _ (up _ GV.S)) (Int.natCast_nonneg i) (small63 hi4) sE rfl h3)
      refine Ex.appendD (l := P) (vs := pv) (nn := np) (Ev.name rfl rfl) K0.P (EvG.call (f := 35) (Vs := [isF (hueT (p (i + 2))), isF (shT (e (i + 2))), isF (shT (f (i + 2)))]) (Ev.globR rfl rfl rfl) (Evs.cons (Ev.conv (Ev.call (f := 77) (Vs := [isF (Float64.add ((huesOf p (row i)).getD (leastL (huesOf p (row i))) 0) ((huesOf p (row i)).getD (greatL (huesOf p (row i))) 0)), isI 2]) (W := isF (Float64.div (Float64.add ((huesOf p (row i)).getD (leastL (huesOf p (row i))) 0) ((huesOf p (row i)).getD (greatL (huesOf p (row i))) 0)) (Float64.ofInt 2))) (Ev.globR rfl rfl rfl)
          (Evs.cons (Ev.call (f := 49) (Vs := [isF ((huesOf p (row i)).getD (leastL (huesOf p (row i))) 0), isF ((huesOf p (row i)).getD (greatL (huesOf p (row i))) 0)]) (Ev.globR rfl rfl rfl) (Evs.cons (EvG.mono (Ev.name (V := fun v => ys[leastL (huesOf p (row i))]? = some v) rfl rfl) fun v s a => ⟨ff.get (d := 0) a.1, a.2⟩) (Evs.cons (EvG.mono (Ev.name (V := fun v => ys[greatL (huesOf p (row i))]? = some v) rfl rfl) fun v s a => ⟨ff.get (d := 0) a.1, a.2⟩) Evs.nil rfl) rfl) (fun _ => ⟨_, _, rfl, rfl⟩) rfl (fun vs hv => add_says (fun g => Bi.addF) hk1 hv)) (Evs.cons Ev.int Evs.nil rfl) rfl) (fun _ => ⟨_, _, rfl, rfl⟩) rfl (fun vs hv => truediv_says (fun g => Bi.divFI (by decide) (by decide)) hk1 hv)) (by rw [tn.mean]))
          (Evs.cons (Ev.sub (shade (Ev.name rfl rfl) (Ev.name rfl rfl) fun u => by with_unfolding_all rfl) Ev.int (It.tup (l := sa i) (vs := sw i) (K0.rest _ (up _ sM)) (by decide) (by decide) xs0 hs0 fun u => by with_unfolding_all rfl)) (Evs.cons (Ev.sub (shade (Ev.name rfl rfl) (Ev.name rfl rfl) fun u => by with_unfolding_all rfl) Ev.int (It.tup (l := sa i) (vs := sw i) (K0.rest _ (up _ sM)) (by decide) (by decide) xs1 hs1 fun u => by with_unfolding_all rfl)) Evs.nil rfl) rfl) rfl) (fun _ => ⟨_, _, rfl, rfl⟩) rfl (fun vs hv => hsv_to_rgb_says (hue_at (hp _ i6) (he _ i6) _) hk1 hv)) (len4 hi4 J.p.1) ?_ ⟨_, rfl⟩ rfl rfl rfl
      rintro v s a
      cases a with | mk tl m0 m1 b0 b1 b2 S9 o9 R9 =>
      obtain ⟨d9, w9, rfl, rfl, hw9⟩ := R9
      refine ⟨_, _, S9, .tail _ K0.P, fun nn1 n1 mP sub1 => ?_⟩
      have d9lt : ∀ q ∈ n9, q.1 < d9 := fun q hq => o9 q hq _ (.head _)
      clear S9 o9 b0 b1 b2
      have K1 : PMid it o D (listOf ys.toArray nD) Hi (listOf hv.toArray nh) Lo (listOf lv.toArray nl) M (listOf mv.toArray nm) P (listOf (pv ++ [Value.ref d9]).toArray nn1) ((d9, tupOf w9) :: (tups ++ (g.n ++ cells))) n1 :=
        ⟨sub1 _ (.tail _ K0.it) itP, sub1 _ (.tail _ K0.D) (Nat.ne_of_gt DP), sub1 _ (.tail _ K0.Hi) (Nat.ne_of_gt PH), sub1 _ (.tail _ K0.Lo) (Nat.ne_of_gt PL), sub1 _ (.tail _ K0.M) (Nat.ne_of_gt PM), mP, fun q hq => by
          rcases List.mem_cons.mp hq with rfl | hq
          · exact sub1 _ (.head _) (Nat.ne_of_gt (d9lt _ K0.P))
          · exact sub1 _ (.tail _ (K0.rest q hq)) (J.off q hq).2.2.2⟩
      have L9 := d9lt _ K0.Lo; have H9 := d9lt _ K0.Hi; have M9 := d9lt _ K0.M; have P9 := d9lt _ K0.P; have I9 := d9lt _ K0.it
      have off9 : ∀ q ∈ (d9, tupOf w9) :: (tups ++ (g.n ++ cells)), q.1 ≠ Hi ∧ q.1 ≠ Lo ∧ q.1 ≠ M ∧ q.1 ≠ P := fun q hq => by
        rcases List.mem_cons.mp hq with rfl | hq
        · exact ⟨Nat.ne_of_gt H9, Nat.ne_of_gt L9, Nat.ne_of_gt M9, Nat.ne_of_gt P9⟩
        · exact J.off q hq
      have ord9 : ∀ q ∈ g.n ++ cells, ∀ t ∈ (d9, tupOf w9) :: tups, q.1 < t.1 := fun q hq t ht => by
        rcases List.mem_cons.mp ht with rfl | ht
        · exact d9lt _ (K0.rest _ (List.mem_append_right _ hq))
        · exact J.ord q hq t ht
      clear K0 sub1 mP d9lt shade
      have index : ∀ {tt : Nat} {mm : List (Str × VP)} {nn : Led} {cs9 : Scope} {k : Nat} {x0 : Str} {e1 e2 : Expr} {pp pos : Pos}, (D, listOf ys.toArray nD) ∈ nn → Hit (huesOf p (row i)) k → Ev ⟨c, cs9, g.k - 1, tt, mm, nn, []⟩ (.Name x0 pp) (isR 98) → Ev ⟨c, cs9, g.k - 1, tt, mm, nn, []⟩ e1 (isR D) → Ev ⟨c, cs9, g.k - 1, tt, mm, nn, []⟩ e2 (fun v => ys[k]? = some v) →
          starEach [e1, e2] (c.env cs9) = (false, eval e1 (c.env cs9)) :: starEach [e2] (c.env cs9) → starEach [e2] (c.env cs9) = (false, eval e2 (c.env cs9)) :: starEach [] (c.env cs9) → Pl ⟨c, cs9, g.k - 1, tt, mm, nn, []⟩ [e1, e2] → isFn c 98 = true → Ev ⟨c, cs9, g.k - 1, tt, mm, nn, []⟩ (.Call (.Name x0 pp) [e1, e2] [] pos) (isI (k : Int)) :=
        fun mD H h0 h1 h2 s1 s2 pl fn => Ev.call h0 (Evs.cons h1 (Evs.cons h2 Evs.nil s2) s1) pl fn fun vs hv => indexF_says mD U htp H hk1 hv
      refine Ex.appendD (l := Lo) (vs := lv) (nn := nl) (Ev.name rfl rfl) K1.Lo (Ev.call (f := 91) (Vs := [isR (ra i), isI ((leastL (huesOf p (row i)) : Nat) : Int)]) (W := isI (lo (i + 2) : Int)) (Ev.globR rfl rfl rfl) (Evs.cons (rows4 (fun q hq => K1.rest q (.tail _ hq)) (Ev.name rfl rfl) (Ev.name rfl rfl) fun u => by with_unfolding_all rfl) (Evs.cons (index K1.D HL (Ev.globR rfl rfl rfl) (Ev.name rfl rfl) (Ev.name rfl rfl) rfl rfl (fun _ => ⟨_, _, rfl, rfl⟩) rfl) Evs.nil rfl) rfl) (fun _ => ⟨_, _, rfl, rfl⟩) rfl
        (fun vs hv => getitem_says (fun g' x y pp q sub => It.list (l := ra i) (sub _ (K1.rest _ (.tail _ (up _ rM)))) (Int.natCast_nonneg _) (small5 HL.1) xvl hvl fun u => by with_unfolding_all rfl) hk1 hv)) (len4 hi4 J.l.1) ?_ ⟨_, rfl⟩ rfl rfl rfl
      rintro vL s ⟨hvL, S9⟩
      refine ⟨_, _, S9, K1.Lo, fun nn2 n2 mL sub2 => ?_⟩
      clear S9
      have K2 : PMid it o D (listOf ys.toArray nD) Hi (listOf hv.toArray nh) Lo (listOf (lv ++ [vL]).toArray nn2) M (listOf mv.toArray nm) P (listOf (pv ++ [Value.ref d9]).toArray nn1) ((d9, tupOf w9) :: (tups ++ (g.n ++ cells))) n2 :=
        ⟨sub2 _ K1.it itL, sub2 _ K1.D (Nat.ne_of_gt DL), sub2 _ K1.Hi (Nat.ne_of_gt LH), mL, sub2 _ K1.M (Nat.ne_of_lt ML), sub2 _ K1.P (Nat.ne_of_lt PL), fun q hq => sub2 _ (K1.rest q hq) (off9 q hq).2.1⟩
      clear K1 sub2 mL
      refine Ex.appendD (l := Hi) (vs := hv) (nn := nh) (Ev.name rfl rfl) K2.Hi (Ev.call (f := 91) (Vs := [isR (ra i), isI ((greatL (huesOf p (row i)) : Nat) : Int)]) (W := isI (hi (i + 2) : Int)) (Ev.globR rfl rfl rfl) (Evs.cons (rows4 (fun q hq => K2.rest q (.tail _ hq)) (Ev.name rfl rfl) (Ev.name rfl rfl) fun u => by with_unfolding_all rfl) (Evs.cons (index K2.D HG (Ev.globR rfl rfl rfl) (Ev.name rfl rfl) (Ev.name rfl rfl) rfl rfl (fun _ => ⟨_, _, rfl, rfl⟩) rfl) Evs.nil rfl) rfl) (fun _ => ⟨_, _, rfl, rfl⟩) rfl
        (fun vs hv => getitem_says (fun g' x y pp q sub => It.list (l := ra i) (sub _ (K2.rest _ (.tail _ (up _ rM)))) (Int.natCast_nonneg _) (small5 HG.1) xvg hvg fun u => by with_unfolding_all rfl) hk1 hv)) (len4 hi4 J.h.1) ?_ ⟨_, rfl⟩ rfl rfl rfl
      rintro vH s ⟨hvH, S9⟩
      refine ⟨_, _, S9, K2.Hi, fun nn3 n3 mH sub3 => ?_⟩
      clear S9
      have K3 : PMid it o D (listOf ys.toArray nD) Hi (listOf (hv ++ [vH]).toArray nn3) Lo (listOf (lv ++ [vL]).toArray nn2) M (listOf mv.toArray nm) P (listOf (pv ++ [Value.ref d9]).toArray nn1) ((d9, tupOf w9) :: (tups ++ (g.n ++ cells))) n3 :=
        ⟨sub3 _ K2.it itH, sub3 _ K2.D (Nat.ne_of_gt DH), mH, sub3 _ K2.Lo (Nat.ne_of_lt LH), sub3 _ K2.M (Nat.ne_of_lt MH), sub3 _ K2.P (Nat.ne_of_lt PH), fun q hq => sub3 _ (K2.rest q hq) (off9 q hq).1⟩
      clear K2 sub3 mH index
      refine Ex.asg Ev.int (.inl rfl) rfl (Ex.asg Ev.int (.inl rfl) rfl ?_)
      refine Ex.less ((("every" : Str), isI (andF p ((row i).take 0))) :: (("some" : Str), isI (orF p ((row i).take 0))) :: (("k" : Str), isI (i : Int)) :: PlayM R S0 Hi Lo M P) (sub_cons rfl (sub_cons rfl (sub_cons rfl (sub_cons rfl (sub_cons rfl (sub_cons rfl (sub_cons rfl (sub_cons rfl (sub_cons rfl sub_nil))))))))) ?_
      refine Ex.for (fun j m n' t' => m = (("every" : Str), isI (andF p ((row i).take j))) :: (("some" : Str), isI (orF p ((row i).take j))) :: (("k" : Str), isI (i : Int)) :: PlayM R S0 Hi Lo M P ∧ n' = n3 ∧ t' = t2) (fun _ _ _ => False)
        (Iters.list (l := ra i) (vs := rw i) (nn := rn i) (V := fun j => isI (((row i).getD j 0 : Nat) : Int)) (rows4 (fun q hq => K3.rest q (.tail _ hq)) (Ev.name rfl rfl) (Ev.name rfl rfl) fun u => by with_unfolding_all rfl) (K3.rest _ (.tail _ (up _ rM))) fun j v hv => rA.get (f := fun a : Nat => isI (a : Int)) hv) (fun j m n' t' h q hq => by cases List.mem_singleton.mp hq; rw [h.2.1]; exact K3.rest _ (.tail _ (up _ rM))) ⟨rfl, rfl, rfl⟩ (.inl rfl) (fun _ => rfl) ?_ (fun _ _ _ h => h.elim) ?_
      · rintro j m n' t' it2 o2 hj ⟨rfl, rfl, rfl⟩ hit2
        have hjr : j < (row i).length := rl ▸ hj
        have hja : (row i)[j]? = some ((row i).getD j 0) := by rw [List.getD_eq_getElem?_getD, List.getElem?_eq_getElem hjr]; rfl
        have ha : (row i).getD j 0 < i + 2 := tn.spots _ (List.mem_of_getElem? hja)
        obtain ⟨vm, xvm, hvm⟩ := J.m.2 _ ha
        have mask : ∀ {tt : Nat} {mm : List (Str × VP)} {cs9 : Scope} {e1 e2 : Expr} {pos : Pos}, Ev ⟨c, cs9, g.k - 1, tt, mm, (it2, o2) :: n', []⟩ e1 (isR M) → Ev ⟨c, cs9, g.k - 1, tt, mm, (it2, o2) :: n', []⟩ e2 (isI (((row i).getD j 0 : Nat) : Int)) → (∀ u, Subs e2 (.ref M) (.int (((row i).getD j 0 : Nat) : Int) u)) → Ev ⟨c, cs9, g.k - 1, tt, mm, (it2, o2) :: n', []⟩ (.Subscript e1 e2 pos) (isI (maskI (p ((row i).getD j 0)))) :=
          fun h1 h2 h3 => Ev.sub h1 h2 (It.list (.tail _ K3.M) (Int.natCast_nonneg _) (Int.lt_trans (Int.ofNat_lt.mpr (Nat.lt_trans ha i6)) (by decide)) xvm hvm h3)
        refine Ex.asg (Ev.call (f := 70) (Vs := [isI (orF p ((row i).take j)), isI (maskI (p ((row i).getD j 0)))]) (Ev.globR rfl rfl rfl) (Evs.cons (Ev.name rfl rfl) (Evs.cons (mask (Ev.name rfl rfl) (Ev.name rfl rfl) fun u => by with_unfolding_all rfl) Evs.nil rfl) rfl) (fun _ => ⟨_, _, rfl, rfl⟩) rfl (fun vs hv => or_says (fun g => Bi.or) hk1 hv)) (.inl rfl) rfl ?_
        refine Ex.asg (Ev.call (f := 56) (Vs := [isI (andF p ((row i).take j)), isI (maskI (p ((row i).getD j 0)))]) (Ev.globR rfl rfl rfl) (Evs.cons (Ev.name rfl rfl) (Evs.cons (mask (Ev.name rfl rfl) (Ev.name rfl rfl) fun u => by with_unfolding_all rfl) Evs.nil rfl) rfl) (fun _ => ⟨_, _, rfl, rfl⟩) rfl (fun vs hv => and_says (fun g => Bi.and) hk1 hv)) (.inl rfl) rfl ?_
        rw [← orF_succ p _ _ _ hja, ← andF_succ p _ _ _ hja]
        exact Ex.pop (Ex.nil fun s S => ⟨_, _, _, S.sub (sub_cons rfl (sub_cons rfl (sub_cons rfl (sub_cons rfl (sub_cons rfl (sub_cons rfl (sub_cons rfl (sub_cons rfl (sub_cons rfl sub_nil))))))))), hit2, rfl, rfl, rfl⟩)
      rintro m n' t' ⟨rfl, rfl, rfl⟩
      rw [rl, List.take_length]
      refine Ex.appendD (l := M) (vs := mv) (nn := nm) (Ev.name rfl rfl) K3.M (Ev.conv (Ev.call (f := 169) (Vs := [isI (orF p (row i)), isI (andF p (row i))]) (Ev.globR rfl rfl rfl) (Evs.cons (Ev.name rfl rfl) (Evs.cons (Ev.name rfl rfl) Evs.nil rfl) rfl) (fun _ => ⟨_, _, rfl, rfl⟩) rfl (fun vs hv => forced_says hk2 hv)) (congrArg isI tn.mask)) (len4 hi4 J.m.1) ?_ ⟨_, rfl⟩ rfl rfl rfl
      rintro vM s ⟨hvM, S9⟩
      refine ⟨_, _, S9, K3.M, fun nn4 n4 mM sub4 => Ex.pop (Ex.nil fun s S => ?_)⟩
      refine ⟨PlayM R S0 Hi Lo M P, PlayN (g.n ++ cells) Hi Lo M P (hv ++ [vH]) (lv ++ [vL]) (mv ++ [vM]) (pv ++ [Value.ref d9]) nn3 nn2 nn4 nn1 ((d9, tupOf w9) :: tups), t', ((S.less (n := (it, o) :: PlayN (g.n ++ cells) Hi Lo M P (hv ++ [vH]) (lv ++ [vL]) (mv ++ [vM]) (pv ++ [Value.ref d9]) nn3 nn2 nn4 nn1 ((d9, tupOf w9) :: tups)) (fun q hq => ?_) trivial).sub (sub_cons rfl (sub_cons rfl (sub_cons rfl (sub_cons rfl (sub_cons rfl (sub_cons rfl sub_nil))))))), ?_, hv ++ [vH], lv ++ [vL], mv ++ [vM], pv ++ [Value.ref d9], nn3, nn2, nn4, nn1, (d9, tupOf w9) :: tups, rfl, rfl, Nat.le_trans htt ht2, J.h.snoc hvH, J.l.snoc hvL, J.m.snoc hvM, J.p.snoc hw9, off9, ord9⟩
      · exact mem_cons_of (sub4 _ K3.it itM) (fun q hq => mem_cons_of (sub4 _ K3.Hi (Nat.ne_of_gt MH)) (fun q hq => mem_cons_of (sub4 _ K3.Lo (Nat.ne_of_gt ML)) (fun q hq => mem_cons_of mM (fun q hq => mem_cons_of (sub4 _ K3.P (Nat.ne_of_lt PM)) (fun q hq => sub4 _ (K3.rest q hq) (off9 q hq).2.2.1) hq) hq) hq) hq) hq
      · exact off_cons (Ne.symm itH) (off_cons (Ne.symm itL) (off_cons (Ne.symm itM) (off_cons (Ne.symm itP) (off_cons (Nat.ne_of_gt I9) restI))))
    · rintro m n t ⟨hv, lv, mv, pv, nh, nl, nm, np, tups, rfl, rfl, htt, J⟩
      refine Ex.ret (EvG.tup (Vs := [isR P, isR M, isR Lo, isR Hi]) (Evs.cons (Ev.name rfl rfl) (Evs.cons (Ev.name rfl rfl) (Evs.cons (Ev.name rfl rfl) (Evs.cons (Ev.name rfl rfl) Evs.nil rfl) rfl) rfl) rfl) (Nat.le_of_ble_eq_true rfl)) ?_
      rintro v s q
      cases q with | mk T ws hT ha ltT S =>
      obtain ⟨_, _, rfl, rfl, _, _, rfl, rfl, _, _, rfl, rfl, _, _, rfl, rfl, rfl⟩ := ha
      refine ⟨_, (T, tupOf [.ref P, .ref M, .ref Lo, .ref Hi]) :: (Hi, listOf hv.toArray nh) :: (Lo, listOf lv.toArray nl) :: (M, listOf mv.toArray nm) :: (P, listOf pv.toArray np) :: tups, _, _, S, fun q hq t ht => ?_, T, P, M, Lo, Hi, pv, mv, lv, hv, np, nm, nl, nh, tups, hT, rfl, J.h, J.l, J.m, J.p⟩
      have hP := nP q hq
      rcases List.mem_cons.mp ht with rfl | ht
      · exact ltT _ (.tail _ (.tail _ (.tail _ (.tail _ (List.mem_append_right _ hq)))))
      · rcases List.mem_cons.mp ht with rfl | ht
        · exact Nat.lt_trans hP PH
        · rcases List.mem_cons.mp ht with rfl | ht
          · exact Nat.lt_trans hP PL
          · rcases List.mem_cons.mp ht with rfl | ht
            · exact Nat.lt_trans hP PM
            · rcases List.mem_cons.mp ht with rfl | ht
              · exact hP
              · exact J.ord q hq t ht
end Mine
end
section
open PySem PySem.W PySem.Calls PyProof.Rows
set_option maxRecDepth 100000
set_option maxHeartbeats 4000000
set_option linter.unusedVariables false
namespace Mine
theorem eqAt_flt {ps : Params} {A : Around} {s : Shared} {x : UInt64} {t u : Tok} (X : (Mine.hd.heap_1 ps).In s.heap) (ht : t ≠ 0) (hu : u ≠ 0) (h : (Float64.cmp x x == some .eq) = true) : SeqAt.EqAt A s (.float x t) (.float x u) true := fun prog w E Q hq => by
  unfold eqBool
  refine wpAny_holding ?_
  have go : wpAny (model prog w) A (do let r ← richCompare CmpOp.Eq (Value.float x t) (Value.float x u); truthOfDropped r) Q E s := by
    refine wpAny_bind ?_
    show wpAny _ _ (compareOp .Eq _ _) _ _ _
    refine AutoFloatOps.eq_0 ?_
    rw [h]
    exact wpAny_truthy_bool hq
  split
  · exact wpAny_bind (wpAny_rule (wpAny_pure hq))
  · show wpAny _ _ (isSame.created (x == x && !Float64.isNaN x) t u >>= fun b => if b = true then pure true else do let r ← richCompare CmpOp.Eq (Value.float x t) (Value.float x u); truthOfDropped r) _ _ _
    refine wpAny_bind (created_is X ht hu fun b _ => ?_)
    cases b with
    | true => exact wpAny_pure hq
    | false => exact go
end Mine
end
section
open PySem PySem.W PySem.Calls PySem.Flt PyProof.Rows
set_option maxRecDepth 100000
set_option maxHeartbeats 4000000
set_option linter.unusedVariables false
set_option genInjectivity false
set_option genSizeOf false
namespace Mine
variable {g : G}
theorem all2_int {ns : List Int} {vs : List Value} (h : All2 (ns.map isI) vs) {j : Nat} (hj : j < vs.length) : ∃ t, vs[j] = .int (ns.getD j 0) t :=
  h.get (f := isI) (d := 0) (List.getElem?_eq_getElem hj)
theorem Tr.neLists {l r : Expr} {pos : Pos} {ns : List Int} (hl : EvG g l (Ints g ns)) (hr : ∀ n' t', (∀ p ∈ g.n, p ∈ n') → g.t ≤ t' → EvG ⟨g.c, g.cs, g.k, t', g.m, n', g.y⟩ r (Ints ⟨g.c, g.cs, g.k, t', g.m, n', g.y⟩ ns)) (hm : behindInMarks .NotEq r = false) : Tr g (.Compare l [.NotEq] [r] pos) false := fun Q E s p S q =>
  wpAny_isTrue_Compare1 (hl _ _ _ p S fun v s1 a => by
    cases a with | mk n1 t1 D1 vs1 nn1 hv1 S1 hD1 sub1 ht1 ha1 =>
    subst hv1
    refine hr n1 t1 sub1 ht1 _ _ _ p S1 fun u s2 b => ?_
    cases b with | mk n2 t2 D2 vs2 nn2 hv2 S2 hD2 sub2 ht2 ha2 =>
    subst hv2
    have hlen : vs1.toArray.size = vs2.toArray.size := by rw [List.size_toArray, List.size_toArray, ha1.length, ha2.length]
    have := SeqAt.RcNeAt.lists (A := g.A) (s := s2) (l := D1) (b := D2) (e := fun _ => true) ⟨_, S2.get (sub2 _ hD1), rfl, nn1, rfl⟩ ⟨_, S2.get hD2, rfl, nn2, rfl⟩ hlen (Nat.lt_of_le_of_lt (Nat.le_add_right _ _) S.P.u) (fun j h1 h2 => by
      obtain ⟨t1, e1⟩ := all2_int ha1 (j := j) (by rw [List.size_toArray] at h1; exact h1)
      obtain ⟨t2, e2⟩ := all2_int ha2 (j := j) (by rw [List.size_toArray] at h2; exact h2)
      rw [List.getElem_toArray, List.getElem_toArray, e1, e2]
      have := SeqAt.EqAt.int_int (A := g.A.in1) (s := s2) (ns.getD j 0) t1 (ns.getD j 0) t2
      rwa [beq_self_eq_true] at this)
    rw [show (!(List.range vs1.toArray.size).all fun _ => true) = false by rw [Bool.not_eq_false', List.all_eq_true]; exact fun _ _ => rfl] at this
    exact this _ _ _ _ (wpAny_truthy_bool (q _ ((S2.low (Nat.le_trans ht1 ht2) S.t0).less (fun p hp => sub2 p (sub1 p hp)) S.y)))) hm
/-- (x, y) != t for a pair that is the same -/
theorem Tr.neTup {es : List Expr} {k : Nat} {p1 pos : Pos} {r : Expr} {x y : UInt64} {T : Addr} {ws : List Value} (hl : Evs g es (Pure g [isF x, isF y])) (hr : ∀ d o, Ev { g with n := (d, o) :: g.n } r (isR T)) (hT : (T, tupOf ws) ∈ g.n) (hw : All2 [isF x, isF y] ws)
    (hx : (Float64.cmp x x == some .eq) = true) (hy : (Float64.cmp y y == some .eq) = true) (hm : behindInMarks .NotEq r = false) : Tr g (.Compare (.Tuple es k p1) [.NotEq] [r] pos) false := fun Q E s p S q =>
  wpAny_isTrue_Compare1 (EvG.tup hl (Nat.le_of_ble_eq_true rfl) _ _ _ p S fun v s1 a => by
    cases a with | mk d vs hv ha lt S1 =>
    subst hv
    refine hr d (tupOf vs) _ _ _ p S1 fun u s2 b => ?_
    obtain ⟨hu, S2⟩ := b
    cases hu
    obtain ⟨_, _, rfl, ⟨t1, rfl, z1⟩, _, _, rfl, ⟨t2, rfl, z2⟩, rfl⟩ := ha
    obtain ⟨_, _, rfl, ⟨t3, rfl, z3⟩, _, _, rfl, ⟨t4, rfl, z4⟩, rfl⟩ := hw
    have := SeqAt.RcNeAt.tuples (A := g.A) (s := s2) (l := d) (b := T) (items := #[.float x t1, .float y t2]) (items2 := #[.float x t3, .float y t4]) (e := fun _ => true) ⟨_, S2.get (.head _), rfl, 0, rfl⟩ ⟨_, S2.get (.tail _ hT), rfl, 0, rfl⟩ (Nat.lt_of_le_of_lt (Nat.le_add_right _ _) S.P.u) (fun j h1 h2 => by
      match j, h1, h2 with
      | 0, _, _ => exact eqAt_flt S2.in z1 z3 hx
      | 1, _, _ => exact eqAt_flt S2.in z2 z4 hy)
    exact this _ _ _ _ (wpAny_truthy_bool (q _ (S2.less (fun p hp => .tail _ hp) S.y)))) hm
theorem Bi.pow {a b : Int} (h0 : 0 ≤ b) (h1 : b ≤ 1000000) (ha : a.natAbs < 2 ^ 64) : Bi g .Pow (isI a) (isI b) (isI (a ^ b.toNat)) := .ofII fun _ _ _ _ _ q => pow_int_small h0 h1 ha q
/-- how pale, how dark -/
noncomputable def shE (d : Int) (n : Int) : Nat := ((n.fdiv d).fmod 3).toNat
theorem shE_lt (d n : Int) : shE d n < 3 := (Int.toNat_lt (Int.fmod_nonneg_of_pos _ (by decide))).mpr (Int.fmod_lt_of_pos _ (by decide))
noncomputable def shadeF (e : Nat) : UInt64 := Float64.ofFrac (decide ((1 : Int) < 0) != decide ((2 : Int) ^ e < 0)) (1 : Int).natAbs ((2 : Int) ^ e).natAbs
theorem shade_tab : ∀ e, e < 3 → shadeF e = shT e ∧ Float64.isInf (shadeF e) = false ∧ (2 : Int) ^ e ≠ 0 := by decide +kernel
theorem Ev.shade {k1 k2 k3 k4 : Nat} {p1 p2 p3 p4 p5 p6 p7 p8 : Pos} {x : Str} {d n : Int} (hx : Ev g (.Name x p1) (isI n)) (hd : ¬ (d == 0) = true) (hs : d.natAbs < 2 ^ 30) :
    Ev g (.BinOp (.Constant (.int 1) k1 p2) .Div (.BinOp (.Constant (.int 2) k2 p3) .Pow (.BinOp (.BinOp (.Name x p1) .FloorDiv (.Constant (.int d) k3 p4) p5) .Mod (.Constant (.int 3) k4 p6) p7) p8) pos) (isF (shT (shE d n))) := by
  obtain ⟨e1, e2, e3⟩ := shade_tab _ (shE_lt d n)
  have h0 : 0 ≤ (n.fdiv d).fmod 3 := Int.fmod_nonneg_of_pos _ (by decide)
  have h1 : (n.fdiv d).fmod 3 < 3 := Int.fmod_lt_of_pos _ (by decide)
  exact Ev.conv (Ev.bin Ev.int (Ev.bin Ev.int (Ev.bin (Ev.bin hx Ev.int (Bi.divI hd (no_pylong hs))) Ev.int (Bi.modI (by decide))) (Bi.pow h0 (Int.le_trans (Int.le_of_lt h1) (by decide)) (by decide))) (Bi.divII e3 (fun h => nomatch (e2.symm.trans h : false = true)))) (congrArg isF e1)
end Mine
end
section
open PySem PySem.W PySem.Calls PySem.Flt PyProof.Rows
set_option maxRecDepth 100000
set_option maxHeartbeats 8000000
set_option exponentiation.threshold 2000
set_option linter.unusedVariables false
set_option genInjectivity false
set_option genSizeOf false
namespace Mine
variable {g : G}
noncomputable def eF (d : Int) (ns : List Int) : Nat → Nat
  | 0 => 0
  | 1 => 0
  | i + 2 => shE d (ns.getD i 0)
theorem eF_lt {d : Int} {ns : List Int} : ∀ a, a < 6 → eF d ns a < 3
  | 0, _ => show 0 < 3 by decide
  | 1, _ => show 0 < 3 by decide
  | i + 2, _ => shE_lt d _
theorem sh_eq : ∀ e, e < 3 → (Float64.cmp (shT e) (shT e) == some .eq) = true := by decide +kernel
theorem map_getD {β : Type} (f : Nat → β) (l : List Nat) : ((List.range l.length).filter fun _ => true).map (fun j => f (l.getD j 0)) = l.map f := by
  rw [range_all]
  refine List.ext_getElem (by simp) fun j h1 h2 => ?_
  rw [List.getElem_map, List.getElem_map, List.getElem_range, List.getD_eq_getElem?_getD, List.getElem?_eq_getElem (by simpa using h2)]; rfl
noncomputable def nums (svs : List Value) : List Int := (List.range 4).map (numF svs)
theorem nums_four {svs nv : List Value} (h : All2 ((List.range 4).map fun k => isI (numF svs k)) nv) : Four (nums svs) nv := fun i hi => h.at (four (P := fun i => ((List.range 4).map fun k => isI (numF svs k))[i]? = some (isI ((nums svs).getD i 0))) rfl rfl rfl rfl hi)
/-- the rows, where they stand -/
structure RowsAt (n : Led) (R : Addr) (row : Nat → List Nat) (rv : List Value) (nR : Nat) (ra : Nat → Addr) (rw : Nat → List Value) (rn : Nat → Nat) : Prop where
  R : (R, listOf rv.toArray nR) ∈ n
  len : rv.length = 4
  r : ∀ i, i < 4 → rv[i]? = some (.ref (ra i)) ∧ (ra i, listOf (rw i).toArray (rn i)) ∈ n ∧ All2 ((row i).map fun a : Nat => isI (a : Int)) (rw i)
theorem rows_at {R : Addr} {rs : List RowE} {nn : Nat} {ns : List Int} (h : RowsAre rs (rowsR (symsN ns))) : ∃ ra rw rn, RowsAt ((R, listOf (refsOf rs).toArray nn) :: ents rs) R (rowN ns) (refsOf rs) nn ra rw rn := by
  rw [rows_of_syms] at h
  cases h with | cons h3 h =>
  cases h with | cons h2 h =>
  cases h with | cons h1 h =>
  cases h with | cons h0 h =>
  cases h
  rename_i r3 r2 r1 r0
  refine ⟨fun i => ([r0, r1, r2, r3].getD i r0).1, fun i => ([r0, r1, r2, r3].getD i r0).2.1, fun i => ([r0, r1, r2, r3].getD i r0).2.2, .head _, rfl, fun i hi => ?_⟩
  rw [List.map_map] at h0 h1 h2 h3
  exact four (P := fun i => (refsOf [r3, r2, r1, r0])[i]? = some (.ref ([r0, r1, r2, r3].getD i r0).1) ∧ (([r0, r1, r2, r3].getD i r0).1, listOf ([r0, r1, r2, r3].getD i r0).2.1.toArray ([r0, r1, r2, r3].getD i r0).2.2) ∈ (R, listOf (refsOf [r3, r2, r1, r0]).toArray nn) :: ents [r3, r2, r1, r0] ∧ All2 ((rowN ns i).map fun a : Nat => isI (a : Int)) ([r0, r1, r2, r3].getD i r0).2.1)
    ⟨rfl, .tail _ (.tail _ (.tail _ (.tail _ (.head _)))), h0⟩ ⟨rfl, .tail _ (.tail _ (.tail _ (.head _))), h1⟩ ⟨rfl, .tail _ (.tail _ (.head _)), h2⟩ ⟨rfl, .tail _ (.head _), h3⟩ hi
theorem RowsAt.sub {n n' : Led} {R : Addr} {row : Nat → List Nat} {rv : List Value} {nR : Nat} {ra : Nat → Addr} {rw : Nat → List Value} {rn : Nat → Nat} (h : RowsAt n R row rv nR ra rw rn) (k : ∀ p ∈ n, p ∈ n') : RowsAt n' R row rv nR ra rw rn := ⟨k _ h.R, h.len, fun i hi => ⟨(h.r i hi).1, k _ (h.r i hi).2.1, (h.r i hi).2.2⟩⟩
/-- the shades that stand so far -/
noncomputable def ShJ (n0 : Led) (t0 : Nat) (ns : List Int) (j : Nat) (ys : List Value) (n : Led) (t : Nat) : Prop := t = t0 ∧ (∀ p ∈ n0, p ∈ n) ∧ ys.length = j ∧ ∀ i, i < j → ∃ q : Addr × List Value, ys[i]? = some (.ref q.1) ∧ (q.1, tupOf q.2) ∈ n ∧ All2 [isF (shT (shE 240 (ns.getD i 0))), isF (shT (shE 720 (ns.getD i 0)))] q.2
inductive RowR (g : G) (ls : List (List Int)) (v : Value) (s : Shared) : Prop
  | mk (R : Addr) (rs : List RowE) (nn : Nat) (hv : v = .ref R) (h : RowsAre rs ls) (S : St { g with n := (R, listOf (refsOf rs).toArray nn) :: (ents rs ++ g.n) } s) : RowR g ls v s
theorem rows_ev {x : Str} {p pos : Pos} {e0 : Expr} {syms : List Int} (hf : Ev g (.Name x p) (isR 155)) (he : EvG g e0 (Called g (SymRet syms))) (hst : starEach [e0] g.env = [(false, eval e0 g.env)]) (hp : Pl g [e0]) (hfn : isFn g.c 155 = true) (hsy : ∀ a ∈ syms, a ≠ 0) (hlen : syms.length ≤ 1000) (hk : 3 ≤ g.k) (hy : g.y = []) :
    EvG g (.Call (.Name x p) [e0] [] pos) (RowR g (rowsR syms)) :=
  EvG.callG hf (Evs.one he hst) hp hfn fun vs s a => by
    obtain ⟨v, rfl, q⟩ := a
    cases q with | mk tl n0 n1 b0 b1 b2 S o R =>
    obtain ⟨D2, ws, nn, rfl, rfl, hws⟩ := R
    refine ⟨⟨_, S⟩, fun Q E' q => rows_says (g := { g with n := [(D2, listOf ws.toArray nn)] ++ g.n }) (.head _) hws hsy hlen hk ⟨_, _, rfl, rfl, rfl⟩ s S Q E' fun v s' c9 => q v s' ?_⟩
    cases c9 with | mk tl n0' n1' b0' b1' b2' S9 o9 R9 =>
    obtain ⟨R, rs, nn2, rfl, rfl, hrs, _⟩ := R9
    refine ⟨R, rs, nn2, rfl, hrs, S9.less (fun p hp => ?_) (by rw [show ({ g with n := [(D2, listOf ws.toArray nn)] ++ g.n } : G).y = [] from hy]; trivial)⟩
    rcases List.mem_cons.mp hp with rfl | hp
    · exact .head _
    · rcases List.mem_append.mp hp with hp | hp
      · exact .tail _ (List.mem_append_left _ hp)
      · exact .tail _ (List.mem_append_right _ (.tail _ hp))
theorem law_rest {c : Cx} {S0 E : Addr} {svs nv : List Value} {nnE k : Nat} {name qual : Str} {params : Arguments} {st : Stmt} {rest : List Stmt} {scope : Scope} {dV kV doc pm cdv ct oc : Value} {an od : Option Addr} {osl : Array (Option Value)} (ho : c.K.lookup 186 = some ⟨oc, od, .func (fnOf name qual params (st :: rest) scope dV kV doc pm an cdv ct), osl⟩)
    (hnv : All2 ((List.range 4).map fun k => isI (numF svs k)) nv) (hz : 0 < c.t) (hcl : c.cl = cellsFrom (c.L + 1) scope.names []) (hk : 4 ≤ k) :
    Ex ⟨c, scope, k, c.t, [(("numbers" : Str), isR E), ("script", isR S0)], [(E, listOf nv.toArray nnE)], []⟩ [rest] (fun f s => f = .ret (.bool true) ∧ ∃ m n t, St ⟨c, scope, k, t, m, n, []⟩ s) := by
  have ho' := (show c.K.lookup 186 = some _ from rfl).symm.trans ho
  cases ho'
  have hk3 : 3 ≤ k := Nat.le_trans (by decide) hk
  have hk2 : 2 ≤ k := Nat.le_trans (by decide) hk
  have hk1 : 1 ≤ k := Nat.le_trans (by decide) hk
  have h4 := nums_four hnv
  obtain ⟨f, hlex⟩ := text_lex (nums svs)
  refine Ex.asgG (rows_ev (Ev.globR rfl rfl rfl) (EvG.call (f := 127) (Vs := [isS (textF (nums svs)), isS "ab"]) (Ev.globR rfl rfl rfl) (Evs.cons (Ev.call (f := 141) (Vs := [isR E]) (W := isS (textF (nums svs))) (Ev.globR rfl rfl rfl) (Evs.cons (Ev.name rfl rfl) Evs.nil rfl) (fun _ => ⟨_, _, rfl, rfl⟩) rfl (fun vs hv => text_says (.head _) h4 hk2 hv)) (Evs.cons Ev.str Evs.nil rfl) rfl) (fun _ => ⟨_, _, rfl, rfl⟩) rfl (fun vs hv => symbols_says hlex (text_six _) (text_small _) (syms_small _) hk2 hv)) rfl (fun _ => ⟨_, _, rfl, rfl⟩) rfl (syms_ok _) (syms_small _) hk3 rfl) (.inl rfl) ?_ rfl
  rintro _ s a
  cases a with | mk R rs nnR hv hrs S =>
  subst hv
  refine ⟨isR R, _, _, rfl, S, ?_⟩
  clear S
  obtain ⟨ra, rw, rn, RA⟩ := rows_at (R := R) (nn := nnR) hrs
  have RA : RowsAt ((R, listOf (refsOf rs).toArray nnR) :: (ents rs ++ [(E, listOf nv.toArray nnE)])) R (rowN (nums svs)) (refsOf rs) nnR ra rw rn := RA.sub fun p hp => mem_cons_of (.head _) (fun p hp => .tail _ (List.mem_append_left _ hp)) hp
  have mE : (E, listOf nv.toArray nnE) ∈ (R, listOf (refsOf rs).toArray nnR) :: (ents rs ++ [(E, listOf nv.toArray nnE)]) := .tail _ (List.mem_append_right _ (.head _))
  generalize (R, listOf (refsOf rs).toArray nnR) :: (ents rs ++ [(E, listOf nv.toArray nnE)]) = n9 at RA mE ⊢
  generalize refsOf rs = rv at RA
  clear hrs hlex f
  show Ex ⟨c, _, k, c.t, _, n9, []⟩ _ _
  refine Ex.iff (b := false) (Tr.neLists (ns := ((List.range 4).filter fun _ => true).map fun i => waysF i ((nums svs).getD i 0)) (EvG.mono (EvG.comp (N := rv.length) (V := fun i => isR (ra i)) (fun j => FiltI n9 c.t (fun _ => true) (fun i => isI (waysF i ((nums svs).getD i 0))) j) ⟨fun _ => rfl, (clos_eq hcl).trans rfl, rfl, by decide, by decide, rfl⟩
    (Iters.list (l := R) (vs := rv) (nn := nnR) (Ev.name rfl rfl) RA.R fun i v hv => ?_) (fun p hp => List.mem_singleton.mp hp ▸ RA.R) (by rw [RA.len]; decide) ⟨rfl, fun _ h => h, rfl⟩ fun i hi => Turns.filt (fun _ _ _ => Tests.nil) fun C n sub sub0 => ?_) fun v s a => ?_) (fun n' t' sub ht' => EvG.mono (EvG.comp (N := 4) (V := fun i => isI (i : Int)) (fun j => FiltI n' t' (fun _ => true) (fun i => isI (waysF i ((nums svs).getD i 0))) j) ⟨fun _ => rfl, (clos_eq hcl).trans rfl, rfl, by decide, by decide, rfl⟩
    (Iters.range (N := 4) (Ev.built rfl rfl rfl (by decide) rfl) Ev.int (fun _ => ⟨_, _, rfl, rfl⟩) rfl (by decide)) (fun _ h => nomatch h) (by decide) ⟨rfl, fun _ h => h, rfl⟩ fun i hi => Turns.filt (fun _ _ _ => Tests.nil) fun C n sub1 sub0 => Ev.call (f := 134) (Vs := [isR E, isI (i : Int)]) (W := isI (waysF i ((nums svs).getD i 0))) (Ev.globR rfl rfl rfl) (Evs.cons (Ev.nameC rfl rfl rfl (by show _ = List.lookup _ c.cl; rw [hcl]; rfl) rfl) (Evs.cons (Ev.nameL rfl rfl) Evs.nil rfl) rfl) (fun _ => ⟨_, _, rfl, rfl⟩) rfl (fun vs hv => ways_says (sub0 _ (sub _ mE)) h4 hi hk1 hv)) fun v s a => ?_) rfl) (Ex.pop ?_)
  · have hi : i < 4 := RA.len ▸ (List.getElem?_eq_some_iff.mp hv).1
    rw [(RA.r i hi).1] at hv
    cases hv
    rfl
  · have hi4 : i < 4 := RA.len ▸ hi
    obtain ⟨_, rM, rA⟩ := RA.r i hi4
    have rl : (rw i).length = (rowN (nums svs) i).length := by rw [rA.length, List.length_map]
    have l5 : (rowN (nums svs) i).length < 5 := (turns (rows_ok (nums svs)) i hi4).len.2
    refine Ev.conv (Ev.sum (ns := ((List.range (rowN (nums svs) i).length).filter fun _ => true).map fun j => 1 * 2 ^ (((rowN (nums svs) i).getD j 0 : Nat) : Int).toNat) (Ev.built rfl rfl rfl (by decide) rfl) (EvG.mono (EvG.comp (N := (rw i).length) (V := fun j => isI (((rowN (nums svs) i).getD j 0 : Nat) : Int)) (fun j => FiltI n c.t (fun _ => true) (fun j => isI (1 * 2 ^ (((rowN (nums svs) i).getD j 0 : Nat) : Int).toNat)) j) ⟨fun _ => rfl, rfl, rfl, by decide, by decide, rfl⟩
      (Iters.list (l := ra i) (vs := rw i) (nn := rn i) (Ev.nameL rfl rfl) (sub0 _ rM) fun j v hv => rA.get (f := fun a : Nat => isI (a : Int)) hv) (fun p hp => List.mem_singleton.mp hp ▸ sub0 _ rM) (rl ▸ Nat.le_trans (Nat.le_of_lt l5) (by decide)) ⟨rfl, fun _ h => h, rfl⟩ fun j hj => Turns.filt (fun _ _ _ => Tests.nil) fun C2 n2 _ _ => Ev.bin Ev.int (Ev.nameL rfl rfl) (Bi.shl (Int.natCast_nonneg _) ?_ (by decide))) fun v s a => ?_) rfl fun _ => ⟨_, _, rfl, rfl⟩) ?_
    · have hjr : j < (rowN (nums svs) i).length := rl ▸ hj
      have hja : (rowN (nums svs) i)[j]? = some ((rowN (nums svs) i).getD j 0) := by rw [List.getD_eq_getElem?_getD, List.getElem?_eq_getElem hjr]; rfl
      exact Int.le_trans (Int.ofNat_le.mpr (Nat.le_of_lt ((turns (rows_ok (nums svs)) i hi4).spots _ (List.mem_of_getElem? hja)))) (Int.le_trans (Int.ofNat_le.mpr (Nat.add_le_add_right (Nat.le_of_lt hi4) 2)) (by decide))
    · obtain ⟨D, rfl, cc⟩ := a
      rw [← rl]
      exact Comped.ints (n0 := n) cc fun _ h => h
    · rw [map_getD (fun a : Nat => 1 * 2 ^ ((a : Int)).toNat) (rowN (nums svs) i), row_sum (nums svs) hi4]
  · obtain ⟨D, rfl, cc⟩ := a
    rw [RA.len] at cc
    exact Comped.ints (n0 := n9) cc fun _ h => h
  · obtain ⟨D, rfl, cc⟩ := a
    exact Comped.ints (n0 := n') cc fun _ h => h
  refine Ex.asgComp (N := nv.length) (V := fun i => isI ((nums svs).getD i 0)) (ShJ n9 c.t (nums svs)) ⟨fun _ => rfl, (clos_eq hcl).trans rfl, rfl, by decide, by decide, rfl⟩
    (Iters.list (l := E) (vs := nv) (nn := nnE) (Ev.name rfl rfl) mE fun i v hv => ?_) (fun p hp => List.mem_singleton.mp hp ▸ mE) (by rw [hnv.length, List.length_map, List.length_range]; decide) ⟨rfl, fun _ h => h, rfl, fun i h => absurd h (Nat.not_lt_zero _)⟩ ?_ (.inl rfl) rfl ?_
  · obtain ⟨u, hu, hI⟩ := h4 i (by have := (List.getElem?_eq_some_iff.mp hv).1; rw [hnv.length] at this; exact this)
    rw [hv] at hu
    cases hu
    exact hI
  · intro j hj
    rintro ys n' t' C D It oC oD oI ⟨rfl, sub, hl, hq⟩ sub2
    refine ⟨true, Tests.nil, (fun h => nomatch h), fun _ => EvG.mono (EvG.tup (Vs := [isF (shT (shE 240 ((nums svs).getD j 0))), isF (shT (shE 720 ((nums svs).getD j 0)))]) (Evs.cons (Ev.shade (Ev.nameL rfl rfl) (by decide) (by decide)) (Evs.cons (Ev.shade (Ev.nameL rfl rfl) (by decide) (by decide)) Evs.nil rfl) rfl) (Nat.le_of_ble_eq_true rfl)) fun v s a => ?_⟩
    cases a with | mk d ws hv ha lt S =>
    refine ⟨[(d, tupOf ws)], _, S, fun q hq p hp => List.mem_singleton.mp hp ▸ lt q hq, rfl, fun p hp => .tail _ (sub p hp), by rw [List.length_append, hl]; rfl, fun i hi => ?_⟩
    rcases Nat.lt_or_eq_of_le (Nat.le_of_lt_succ hi) with q | rfl
    · obtain ⟨p, h1, h2, h3⟩ := hq i q
      exact ⟨p, by rw [List.getElem?_append_left (hl ▸ q)]; exact h1, .tail _ h2, h3⟩
    · exact ⟨(d, ws), by rw [List.getElem?_append_right (Nat.le_of_eq hl), hl, Nat.sub_self, hv]; rfl, .head _, ha⟩
  rintro S ys n' t' nS ⟨rfl, sub, hl, hq⟩ _ _ _
  rw [hnv.length] at hl hq
  obtain ⟨sq, hsq⟩ := Classical.axiomOfChoice (r := fun (i : Nat) (q : Addr × List Value) => i < 4 → ys[i]? = some (.ref q.1) ∧ (q.1, tupOf q.2) ∈ n' ∧ All2 [isF (shT (shE 240 ((nums svs).getD i 0))), isF (shT (shE 720 ((nums svs).getD i 0)))] q.2) fun i => by
    by_cases hi : i < 4
    · obtain ⟨q, h⟩ := hq i hi
      exact ⟨q, fun _ => h⟩
    · exact ⟨(0, []), fun h => absurd h hi⟩
  have GV : Given ((S, listOf ys.toArray nS) :: n') R S (rowN (nums svs)) (eF 240 (nums svs)) (eF 720 (nums svs)) rv ys nnR nS ra (fun i => (sq i).1) rw (fun i => (sq i).2) rn :=
    ⟨.tail _ (sub _ RA.R), .head _, fun i hi => ⟨(RA.r i hi).1, .tail _ (sub _ (RA.r i hi).2.1), (RA.r i hi).2.2⟩, fun i hi => ⟨(hsq i hi).1, .tail _ (hsq i hi).2.1, (hsq i hi).2.2⟩⟩
  generalize (S, listOf ys.toArray nS) :: n' = n8 at GV ⊢
  clear hq hsq hl sub mE RA hnv h4
  have ok := rows_ok (nums svs)
  refine Ex.asgTup [("paints", _), ("masks", _), ("lows", _), ("highs", _)] (EvG.call (f := 174) (Vs := [isR R, isR S]) (Ev.globR rfl rfl rfl) (Evs.cons (Ev.name rfl rfl) (Evs.cons (Ev.name rfl rfl) Evs.nil rfl) rfl) (fun _ => ⟨_, _, rfl, rfl⟩) rfl (fun vs hv => play_says GV ⟨rfl, rfl, rfl, rfl, rfl⟩ ⟨rfl, rfl, rfl, rfl, rfl⟩ (turns ok) eF_lt eF_lt (pF_small ok) hk3 hv)) (fun q hq => ?_) rfl ⟨rfl, rfl⟩ ?_ rfl
  · simp only [List.mem_cons, List.not_mem_nil, or_false] at hq
    rcases hq with rfl | rfl | rfl | rfl <;> exact .inl rfl
  rintro v s a
  cases a with | mk tl m0 m1 b0 b1 b2 S9 o9 R9 =>
  obtain ⟨T, P, M, Lo, Hi, pv, mv, lv, hv, np, nm, nl, nh, tups, rfl, rfl, iH, iL, iM, iP⟩ := R9
  refine ⟨T, _, _, _, [isR P, isR M, isR Lo, isR Hi], rfl, S9, .head _, ⟨_, _, rfl, rfl, _, _, rfl, rfl, _, _, rfl, rfl, _, _, rfl, rfl, rfl⟩, rfl, ?_⟩
  clear S9 o9 b0 b1 b2
  show Ex ⟨c, _, k, c.t, _, (T, tupOf [.ref P, .ref M, .ref Lo, .ref Hi]) :: (Hi, listOf hv.toArray nh) :: (Lo, listOf lv.toArray nl) :: (M, listOf mv.toArray nm) :: (P, listOf pv.toArray np) :: (tups ++ n8), []⟩ _ _
  have mH : (Hi, listOf hv.toArray nh) ∈ (T, tupOf [.ref P, .ref M, .ref Lo, .ref Hi]) :: (Hi, listOf hv.toArray nh) :: (Lo, listOf lv.toArray nl) :: (M, listOf mv.toArray nm) :: (P, listOf pv.toArray np) :: (tups ++ n8) := .tail _ (.head _)
  have mL : (Lo, listOf lv.toArray nl) ∈ (T, tupOf [.ref P, .ref M, .ref Lo, .ref Hi]) :: (Hi, listOf hv.toArray nh) :: (Lo, listOf lv.toArray nl) :: (M, listOf mv.toArray nm) :: (P, listOf pv.toArray np) :: (tups ++ n8) := .tail _ (.tail _ (.head _))
  have mM : (M, listOf mv.toArray nm) ∈ (T, tupOf [.ref P, .ref M, .ref Lo, .ref Hi]) :: (Hi, listOf hv.toArray nh) :: (Lo, listOf lv.toArray nl) :: (M, listOf mv.toArray nm) :: (P, listOf pv.toArray np) :: (tups ++ n8) := .tail _ (.tail _ (.tail _ (.head _)))
  have mP : (P, listOf pv.toArray np) ∈ (T, tupOf [.ref P, .ref M, .ref Lo, .ref Hi]) :: (Hi, listOf hv.toArray nh) :: (Lo, listOf lv.toArray nl) :: (M, listOf mv.toArray nm) :: (P, listOf pv.toArray np) :: (tups ++ n8) := .tail _ (.tail _ (.tail _ (.tail _ (.head _))))
  have mQ : ∀ q ∈ tups ++ n8, q ∈ (T, tupOf [.ref P, .ref M, .ref Lo, .ref Hi]) :: (Hi, listOf hv.toArray nh) :: (Lo, listOf lv.toArray nl) :: (M, listOf mv.toArray nm) :: (P, listOf pv.toArray np) :: (tups ++ n8) := fun q hq => .tail _ (.tail _ (.tail _ (.tail _ (.tail _ hq))))
  generalize (T, tupOf [.ref P, .ref M, .ref Lo, .ref Hi]) :: (Hi, listOf hv.toArray nh) :: (Lo, listOf lv.toArray nl) :: (M, listOf mv.toArray nm) :: (P, listOf pv.toArray np) :: (tups ++ n8) = n7 at mH mL mM mP mQ ⊢
  refine Ex.less [(("highs" : Str), isR Hi), ("lows", isR Lo), ("masks", isR M), ("paints", isR P), ("shades", isR S)] (sub_cons rfl (sub_cons rfl (sub_cons rfl (sub_cons rfl (sub_cons rfl sub_nil))))) ?_
  refine Ex.for (fun i m n t => m = [(("highs" : Str), isR Hi), ("lows", isR Lo), ("masks", isR M), ("paints", isR P), ("shades", isR S)] ∧ n = n7 ∧ t = c.t) (fun _ _ _ => False) (Iters.range (N := 4) (Ev.built rfl rfl rfl (by decide) rfl) Ev.int (fun _ => ⟨_, _, rfl, rfl⟩) rfl (by decide)) (fun _ _ _ _ _ _ h => nomatch h) ⟨rfl, rfl, rfl⟩ (.inl rfl) (fun _ => rfl) ?_ (fun _ _ _ h => h.elim) ?_
  · rintro i m n t it o hi4 ⟨rfl, rfl, rfl⟩ hit
    have i6 : i + 2 < 6 := Nat.add_lt_add_right hi4 2
    have small : ((i + 2 : Nat) : Int) < 2 ^ 63 := Int.lt_trans (Int.ofNat_lt.mpr i6) (by decide)
    obtain ⟨d, ws, xd, md, hd⟩ := iP.2 _ i6
    have PA := paint_at (pF_small ok _ i6) (eF_lt (d := 240) (ns := nums svs) _ i6) (eF_lt (d := 720) (ns := nums svs) _ i6)
    have two : ∀ {e1 e2 : Expr} {pos : Pos} {g' : G}, Ev g' e1 (isI (i : Int)) → Ev g' e2 (isI 2) → Ev g' (.BinOp e1 .Add e2 pos) (isI ((i + 2 : Nat) : Int)) := fun h1 h2 => Ev.conv (Ev.bin h1 h2 Bi.addI) (by rw [Int.natCast_add]; rfl)
    refine Ex.asgTup [("red", _), ("green", _), ("blue", _)] (Ev.sub (W := isR d) (Ev.name rfl rfl) (two (Ev.name rfl rfl) Ev.int) (It.list (l := P) (vs := pv) (nn := np) (.tail _ mP) (Int.natCast_nonneg _) small xd rfl fun u => by with_unfolding_all rfl)) (fun q hq => ?_) rfl ⟨rfl, rfl⟩ ?_ rfl
    · simp only [List.mem_cons, List.not_mem_nil, or_false] at hq
      rcases hq with rfl | rfl | rfl <;> exact .inl rfl
    rintro v s ⟨rfl, S9⟩
    refine ⟨d, ws, _, _, _, rfl, S9, .tail _ (mQ _ (List.mem_append_left _ md)), hd, rfl, ?_⟩
    clear S9
    refine Ex.asgTup [("hue", _), ("pale", _), ("light", _)] (EvG.call (Ev.globR rfl rfl rfl) (Evs.cons (Ev.name rfl rfl) (Evs.cons (Ev.name rfl rfl) (Evs.cons (Ev.name rfl rfl) Evs.nil rfl) rfl) rfl) (fun _ => ⟨_, _, rfl, rfl⟩) rfl (fun vs hv => rgb_to_hsv_says PA hk1 hv)) (fun q hq => ?_) rfl ⟨rfl, rfl⟩ ?_ rfl
    · simp only [List.mem_cons, List.not_mem_nil, or_false] at hq
      rcases hq with rfl | rfl | rfl <;> exact .inl rfl
    rintro v s a
    cases a with | mk tl m0 m1 b0 b1 b2 S9 o9 R9 =>
    obtain ⟨d3, w3, rfl, rfl, hw3⟩ := R9
    have hw3' : All2 [isF (hueT (pF (rowN (nums svs)) (i + 2))), isF (shT (eF 240 (nums svs) (i + 2))), isF (shT (eF 720 (nums svs) (i + 2)))] w3 := by
      obtain ⟨q1, _, rfl, ⟨u, rfl, h1, h2⟩, q2⟩ := hw3
      exact ⟨_, _, rfl, ⟨u, rfl, Nat.ne_of_gt (Nat.lt_of_lt_of_le hz (Nat.le_trans (show c.t ≤ m0 from b0) h1))⟩, q2⟩
    refine ⟨d3, w3, _, _, _, rfl, S9, .head _, hw3', rfl, ?_⟩
    have up : ∀ q ∈ n, q ∈ (d3, tupOf w3) :: (it, o) :: n := fun q hq => .tail _ (.tail _ hq)
    have lt3 : it ≠ d3 := Nat.ne_of_lt (o9 _ (.head _) _ (.head _))
    clear S9 o9 b0 b1 b2 hw3
    show Ex ⟨c, _, k, c.t, _, (d3, tupOf w3) :: (it, o) :: n, []⟩ _ _
    refine Ex.asg (Ev.call (f := 63) (Vs := [isI 16, isF (hueT (pF (rowN (nums svs)) (i + 2)))]) (W := isF (priceF (pF (rowN (nums svs)) (i + 2)))) (Ev.globR rfl rfl rfl) (Evs.cons Ev.int (Evs.cons (Ev.name rfl rfl) Evs.nil rfl) rfl) (fun _ => ⟨_, _, rfl, rfl⟩) rfl (fun vs hv => mul_says (fun g => Bi.mulIF (Nat.lt_of_lt_of_le (show (16 : Int).natAbs < 17 by decide) (Nat.le_of_ble_eq_true rfl))) hk1 hv)) (.inr ⟨rfl, by rw [hcl]; rfl⟩) rfl ?_
    refine Ex.asg (V := isI (maskI (pF (rowN (nums svs)) (i + 2)))) (Ev.conv (Ev.sum (ns := ((List.range 9).filter (dueP (pF (rowN (nums svs)) (i + 2)))).map fun c : Nat => (1 * 2 ^ ((c : Int)).toNat : Int)) (Ev.built rfl rfl rfl (by decide) rfl) (EvG.mono (EvG.comp (N := 9) (V := fun j => isI (j : Int)) (fun j => FiltI ((d3, tupOf w3) :: (it, o) :: n) c.t (dueP (pF (rowN (nums svs)) (i + 2))) (fun j => isI (1 * 2 ^ ((j : Nat) : Int).toNat)) j) ⟨fun _ => rfl, (clos_eq hcl).trans rfl, rfl, by decide, by decide, rfl⟩
      (Iters.range (N := 9) (Ev.built rfl rfl rfl (by decide) rfl) Ev.int (fun _ => ⟨_, _, rfl, rfl⟩) rfl (by decide)) (fun _ h => nomatch h) (by decide) ⟨rfl, fun _ h => h, rfl⟩ fun j hj => Turns.filt (fun C n2 _ => Tests.one (Tr.of (Tr.or (b := Float64.cmpInt (priceF (pF (rowN (nums svs)) (i + 2))) 0 == some .eq) (Tr.cmp (Ev.nameC rfl rfl rfl (by show _ = List.lookup _ c.cl; rw [hcl]; rfl) rfl) Ev.int (Cm.eqFI rfl) rfl) fun _ => Tr.or (b := Float64.cmpInt (priceF (pF (rowN (nums svs)) (i + 2))) (j : Int) == some .lt) (c := false) (Tr.val (Ev.call (f := 42) (Vs := [isI (j : Int), isF (priceF (pF (rowN (nums svs)) (i + 2)))]) (Ev.globR rfl rfl rfl) (Evs.cons (Ev.nameL rfl rfl) (Evs.cons (Ev.nameC rfl rfl rfl (by show _ = List.lookup _ c.cl; rw [hcl]; rfl) rfl) Evs.nil rfl) rfl) (fun _ => ⟨_, _, rfl, rfl⟩) rfl (fun vs hv => gt_says (fun g => Cm.gtIF rfl) hk1 hv)) Tv.bool rfl) fun _ => Tr.orNil) (by rw [Bool.or_false]; rfl)))
        fun C n2 _ _ => Ev.bin Ev.int (Ev.nameL rfl rfl) (Bi.shl (Int.natCast_nonneg _) (Int.le_trans (Int.ofNat_le.mpr (Nat.le_of_lt hj)) (by decide)) (by decide))) fun v s a => ?_) rfl fun _ => ⟨_, _, rfl, rfl⟩) (by rw [due_mask _ (pF_small ok _ i6)])) (.inl rfl) rfl ?_
    · obtain ⟨D, rfl, cc⟩ := a
      exact Comped.ints (n0 := (d3, tupOf w3) :: (it, o) :: n) cc fun _ h => h
    obtain ⟨vm, xvm, hvm⟩ := iM.2 _ i6
    obtain ⟨sE, sM, sA⟩ := GV.s i hi4
    have lo6 : ∀ a, a < 6 → loF (rowN (nums svs)) a < 6 := fun a ha => Nat.lt_of_lt_of_le (lo_lt ok a ha).1.1 (by decide)
    have hi6 : ∀ a, a < 6 → hiF (rowN (nums svs)) a < 6 := fun a ha => Nat.lt_of_lt_of_le (lo_lt ok a ha).1.2 (by decide)
    refine Ex.iff (b := false) (Tr.of (Tr.or (b := false) (c := false) (Tr.neTup (T := (sq i).1) (ws := (sq i).2) (Evs.cons (Ev.name rfl rfl) (Evs.cons (Ev.name rfl rfl) Evs.nil rfl) rfl) (fun d o => Ev.sub (Ev.name rfl rfl) (Ev.name rfl rfl) (It.list (l := S) (vs := ys) (nn := nS) (.tail _ (up _ (mQ _ (List.mem_append_right _ GV.S)))) (Int.natCast_nonneg i) (small63 hi4) sE rfl fun u => by with_unfolding_all rfl)) (up _ (mQ _ (List.mem_append_right _ sM))) sA (sh_eq _ (eF_lt _ i6)) (sh_eq _ (eF_lt _ i6)) rfl) fun _ =>
      Tr.or (b := false) (c := false) (Tr.cmp (Ev.sub (W := isI (maskI (pF (rowN (nums svs)) (i + 2)))) (Ev.name rfl rfl) (two (Ev.name rfl rfl) Ev.int) (It.list (l := M) (vs := mv) (nn := nm) (up _ mM) (Int.natCast_nonneg _) small xvm hvm fun u => by with_unfolding_all rfl)) (Ev.name rfl rfl) (Cm.neI (bne_self_eq_false _)) rfl) fun _ =>
      Tr.or (b := false) (c := false) (Tr.cmp (Ev.call (f := 181) (Vs := [isI ((i + 2 : Nat) : Int), isR Lo, isR Hi]) (W := isI (pF (rowN (nums svs)) (i + 2) : Int)) (Ev.globR rfl rfl rfl) (Evs.cons (two (Ev.name rfl rfl) Ev.int) (Evs.cons (Ev.name rfl rfl) (Evs.cons (Ev.name rfl rfl) Evs.nil rfl) rfl) rfl) (fun _ => ⟨_, _, rfl, rfl⟩) rfl (fun vs hv => toss_price ok hi4 ▸ tossed_says (up _ mL) (up _ mH) iL iH i6 lo6 hi6 hk1 hv)) (Ev.name rfl rfl) (Cm.neIF (price_eq _ (pF_small ok _ i6))) rfl) fun _ => Tr.orNil) rfl) (Ex.pop (Ex.pop (Ex.nil fun s S => ?_)))
    exact ⟨_, _, _, (S.less (n := (it, o) :: n) (fun q hq => .tail _ hq) trivial).sub (sub_cons rfl (sub_cons rfl (sub_cons rfl (sub_cons rfl (sub_cons rfl sub_nil))))), hit, rfl, rfl, rfl⟩
  · rintro m n t ⟨rfl, rfl, rfl⟩
    exact Ex.ret (Ev.bool) fun v s a => by
      cases a.1
      exact ⟨rfl, _, _, _, a.2⟩
end Mine
end
section
open PySem PySem.W PySem.Calls PySem.Flt PyProof.Rows
set_option maxRecDepth 100000
set_option maxHeartbeats 8000000
set_option linter.unusedVariables false
namespace Mine
/-- the place of the law's own call -/
abbrev lawCx (w : World) (prog : Program) (p : Program) (loose : List Str) (mean : ExcName → Option Value) (mg mb : Str → Option Value) (qual : Str) (scope : Scope) (fa : Addr) (cdv : Value) (base h₀ : Heap) (L : Addr) (gens : Array GenState) (drawn : Drawn) (os : OsState) : Cx :=
  { w := w, prog := prog, p := p, loose := loose, mean := mean, mg := mg, mb := mb, gd := callerA.guards, dp := callerA.depth + 1, un := callerA.units + 3, cn := qual, a := fa, ccd := cdv, cl := cellsFrom (L + 1) scope.names [], outer := [], A₀ := callerA, base := base, h₀ := h₀, L := L, gens := gens, drawn := drawn, os := os, t := 1 }
theorem law_st {w : World} {prog : Program} {p : Program} {loose : List Str} {mean : ExcName → Option Value} {mg mb : Str → Option Value} {qual : Str} {scope : Scope} {fa S0 L : Addr} {cdv : Value} {base h₀ : Heap} {s : Shared} {o1 o2 : Obj} {mf : Str → Option Value}
    {name : Str} {params : Arguments} {body : List Stmt} {dV kV doc pm cdv0 ct oc : Value} {an od : Option Addr} {osl : Array (Option Value)} (ho : (Mine.hd.heap_1 w.params).lookup 186 = some ⟨oc, od, .func (fnOf name qual params body scope dV kV doc pm an cdv0 ct), osl⟩)
    (hcl : ∀ L : Addr, cellsFrom (L + 1) scope.names [] = [(("price" : Str), L + 1 + 1), ("numbers", L + 1)]) (hsc : scope.names.lookup ("script" : Str) = some .local) (kd : scope.kind = .function)
    (B : Below callerA base [] h₀) (X : (Mine.hd.heap_1 w.params).In h₀) (T : Top p loose mean mg mb h₀) (F : Fr h₀ L s.heap mf) (hmf : mf "script" = some (.ref S0)) (N : News h₀ L s.heap [(L + 1 + 1, o1), (L + 1, o2)]) (d1 : o1.data = .cell none) (d2 : o2.data = .cell none) {tk : Nat} (htk : 0 < tk) :
    St ⟨lawCx w prog p loose mean mg mb qual scope fa cdv base h₀ L s.gens s.drawn s.os, scope, 4, 1, [(("script" : Str), isR S0)], [], []⟩ { s with toks := tk } := by
  have two : ∀ x a, (cellsFrom (L + 1) scope.names []).lookup x = some a → (x = "price" ∧ a = L + 1 + 1) ∨ (x = "numbers" ∧ a = L + 1) := fun x a e => by
    rw [hcl] at e
    have := mem_of_lookup e
    rcases List.mem_cons.mp this with e | h
    · cases e; exact .inl ⟨rfl, rfl⟩
    · cases List.mem_singleton.mp h; exact .inr ⟨rfl, rfl⟩
  have l1 : (cellsFrom (L + 1) scope.names []).lookup ("price" : Str) = some (L + 1 + 1) := by rw [hcl]; rfl
  have l2 : (cellsFrom (L + 1) scope.names []).lookup ("numbers" : Str) = some (L + 1) := by rw [hcl]; rfl
  refine ⟨⟨B, X, T, kd, by show callerA.depth + 1 + 5 * 4 < _; decide, by show callerA.units + 3 + 40 * 4 < _; decide, fun x y a h1 h2 => ?_, Nat.one_pos⟩, ⟨mf, fun _ => none, [(L + 1 + 1, o1), (L + 1, o2)], F, N, fun x a e => ?_, fun q hq => ⟨?_, fun p hp => nomatch hp⟩, rds_cons (.inl ⟨hsc, hmf⟩) rfl rds_nil⟩, ⟨rfl, rfl, rfl⟩, htk, Nat.le_refl _, trivial⟩
  · rcases two x a h1 with ⟨rfl, rfl⟩ | ⟨rfl, rfl⟩ <;> rcases two y _ h2 with ⟨rfl, e⟩ | ⟨rfl, e⟩
    · rfl
    · exact absurd e (Nat.succ_ne_self _)
    · exact absurd e.symm (Nat.succ_ne_self _)
    · rfl
  · rcases two x a e with ⟨rfl, rfl⟩ | ⟨rfl, rfl⟩
    · exact ⟨o1, .head _, d1⟩
    · exact ⟨o2, .tail _ (.head _), d2⟩
  · rcases List.mem_cons.mp hq with rfl | hq
    · exact ⟨_, l1⟩
    · cases List.mem_singleton.mp hq
      exact ⟨_, l2⟩
theorem star2 {M : Model} {A : Around} {f : Value} {pos : Pos} {e1 e2 : Expr} {env : Env} {Q : Args → Shared → Prop} {E : Value → Shared → Prop} {s : Shared} (hst : starEach [e1, e2] env = [(false, eval e1 env), (false, eval e2 env)]) (h : wpAny M A (evalArgs f true (backTo pos [(false, eval e1 env), (false, eval e2 env)]) []) Q E s) : wpAny M A (evalArgs f true (backTo pos (starEach [e1, e2] env)) []) Q E s := by rw [hst]; exact h
theorem star4 {M : Model} {A : Around} {pos p1 p2 p3 p4 : Pos} {k1 k2 k3 k4 : Nat} {a b c d : Int} {env : Env} {Q : List Value → Shared → Prop} {E : Value → Shared → Prop} {s : Shared} (h : Q [.int a s.toks, .int b (s.toks + 1), .int c (s.toks + 1 + 1), .int d (s.toks + 1 + 1 + 1)] { s with toks := s.toks + 1 + 1 + 1 + 1 }) :
    wpAny M A (spliced (backTo pos (starEach [.Constant (.int a) k1 p1, .Constant (.int b) k2 p2, .Constant (.int c) k3 p3, .Constant (.int d) k4 p4] env))) Q E s := by
  rw [show starEach [Expr.Constant (.int a) k1 p1, .Constant (.int b) k2 p2, .Constant (.int c) k3 p3, .Constant (.int d) k4 p4] env = [(false, eval (.Constant (.int a) k1 p1) env), (false, eval (.Constant (.int b) k2 p2) env), (false, eval (.Constant (.int c) k3 p3) env), (false, eval (.Constant (.int d) k4 p4) env)] from rfl]
  exact spliced_cons (wpAny_Constant_int (k := k1) (pos := p1) (spliced_cons (wpAny_Constant_int (k := k2) (pos := p2) (spliced_cons (wpAny_Constant_int (k := k3) (pos := p3) (spliced_cons (wpAny_Constant_int (k := k4) (pos := p4) (spliced_nil h))))))))
/-- the law's call, entered: its cells are two -/
theorem law_top {w : World} {prog : Program} {p : Program} {loose : List Str} {mean : ExcName → Option Value} {mg mb : Str → Option Value} {fa S0 L : Addr} {base h₀ : Heap} {s : Shared} {svs : List Value} {ns : List Int} {o1 o2 : Obj} {mf : Str → Option Value} {Q : Flow → Shared → Prop} {E : Value → Shared → Prop}
    {name qual : Str} {params : Arguments} {body : List Stmt} {scope : Scope} {dV kV doc pm cdv ct oc : Value} {an od : Option Addr} {osl : Array (Option Value)} (ho : (Mine.hd.heap_1 w.params).lookup 186 = some ⟨oc, od, .func (fnOf name qual params body scope dV kV doc pm an cdv ct), osl⟩) {cdv' : Value}
    (B : Below callerA base [] h₀) (X : (Mine.hd.heap_1 w.params).In h₀) (T : Top p loose mean mg mb h₀) (F : Fr h₀ L s.heap mf) (hmf : mf "script" = some (.ref S0)) (N : News h₀ L s.heap [(L + 1 + 1, o1), (L + 1, o2)]) (d1 : o1.data = .cell none) (d2 : o2.data = .cell none) (hL : h₀.IsList S0 svs.toArray) (hI : IntsAre svs ns) (hlen : ns.length ≤ 63)
    (po : PassesOwn (model prog w) (callerA.deeper (envOfC qual scope L fa cdv')) (envOfC qual scope L fa cdv') E) (q : ∀ s' m, Fr h₀ L s'.heap m → s'.gens = s.gens → s'.os = s.os → Q (.ret (.bool true)) s') :
    wpAny (model prog w) (callerA.deeper (envOfC qual scope L fa cdv')) (execs body (envOfC qual scope L fa cdv')) Q E s := by
  have ho' := (show (Mine.hd.heap_1 w.params).lookup 186 = some _ from rfl).symm.trans ho
  cases ho'
  have hsv : ∀ v ∈ svs, ∃ n, isI n v := by
    clear hL
    induction hI with
    | nil => exact fun v h => nomatch h
    | cons t n h ih => exact fun v hv => (List.mem_cons.mp hv).elim (fun e => ⟨_, _, e⟩) (ih (Nat.le_of_succ_le hlen) v)
  have hsz : svs.length ≤ sizeLine := by rw [hI.length]; exact Nat.le_trans hlen (by decide)
  refine wpAny_execs_cons (wpAny_Assign_Name (wpAny_Call_NameR (nameG_K F X (topRead_of T) (v := .ref 120) rfl ?_ rfl rfl rfl rfl)) rfl)
  obtain ⟨o, fd, hf1, hf2⟩ : ∃ o fd, (Mine.hd.heap_1 w.params).lookup 120 = some o ∧ o.data = .func fd := ⟨_, _, rfl, rfl⟩
  refine Calls.callWith_function (o := o) (fd := fd) ?_
  refine star2 rfl (evalArgs_plain (spliced_cons (nameX_L F hmf (spliced_cons (wpAny_List (star4 ⟨Nat.le_of_ble_eq_true rfl, spliced_nil ?_⟩))))))
  have S1 := law_st (prog := prog) (fa := fa) (cdv := cdv') ho (fun _ => rfl) rfl rfl B X T F hmf N d1 d2 (tk := s.toks + 1 + 1 + 1 + 1) (Nat.succ_pos _)
  have S2 := S1.push (listOf [Value.int 347 s.toks, .int 991 (s.toks + 1), .int 189 (s.toks + 1 + 1), .int 1691 (s.toks + 1 + 1 + 1)].toArray 0) rfl
  refine ⟨⟨Heap.get?_push_of_some _ (F.keep _ _ (X _ _ hf1)), hf2⟩, ?_⟩
  refine numbers_says (dv := [Value.int 347 s.toks, .int 991 (s.toks + 1), .int 189 (s.toks + 1 + 1), .int 1691 (s.toks + 1 + 1 + 1)]) hL (.head _) ⟨_, _, rfl, ⟨_, rfl⟩, _, _, rfl, ⟨_, rfl⟩, _, _, rfl, ⟨_, rfl⟩, _, _, rfl, ⟨_, rfl⟩, rfl⟩ hsv hsz (show 1 ≤ 4 by decide) _ S2 _ _ fun v s' c9 => ?_
  cases c9 with | mk tl n0 n1 b0 b1 b2 S9 o9 R9 =>
  obtain ⟨E0, ys, nn, rfl, rfl, hys⟩ := R9
  refine store_ok (V := isR E0) (.inr ⟨rfl, rfl⟩) S9 rfl rfl fun s3 S3 => ?_
  show wpAny _ _ (execs _ _) Q E s3
  have S3 := S3.less (n := [(E0, listOf ys.toArray nn)]) (fun p hp => List.mem_singleton.mp hp ▸ .head _) trivial
  refine wpAny_mono (law_rest (S0 := S0) (E := E0) (svs := svs) (nv := ys) (nnE := nn) (k := 4) ho hys Nat.one_pos rfl (by decide) Q E s3 (fun _ => po) S3 fun f s4 h => ?_) (fun f s4 r => ?_) fun _ _ e => e
  · obtain ⟨rfl, m, n, t, S4⟩ := h
    cases S4.F with | mk mf2 cm2 cells2 F2 N2 hc2 hi2 r2 =>
    exact q _ _ F2 S4.D.1 S4.D.2.2
  · cases f <;> exact r
end Mine
end
section
open PySem PySem.W PySem.Calls PyProof.Rows
set_option maxRecDepth 100000
set_option maxHeartbeats 8000000
theorem PySem.Challenge.cw_to0025_01_holds : PySem.Challenge.rw_to0025_01.Holds := by
  refine Mine.said_of (Mine.hd ?_)
  k_go0
  rename Fr _ _ _ _ => lF
  rename News _ _ _ _ => lN
  rename Top _ _ _ _ _ _ => lT
  rename Below _ _ _ _ => lB
  rename Frag.In _ _ => lX
  rename Heap.IsList _ _ _ => lL
  rename IntsAre _ _ => lI
  rename ¬ (_ < _) => lLen
  rename Obj.data _ = Data.cell _ => d2
  revert d2
  rename Obj.data _ = Data.cell _ => d1
  intro d2
  rename _ = #[] => lG
  refine Mine.law_top (ho := rfl) lB lX lT lF rfl lN d1 d2 lL lI ?len ?po ?q
  case len => omega
  case po => passes_own
  case q =>
    intro s' m F' hg hos
    show GoodW _ _ _ _ _ (.ok (.ret (.bool true))) _
    refine goodW_bool F' (hg.trans lG) (raisesW_false ?_) ?_ hos
    · wrow_none_raised
    · wrow_post
end
