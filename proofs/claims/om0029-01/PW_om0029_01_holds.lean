import PyProof.Rows.All
import Wide.All
import OpenK.AllK
import Wide.FinOn
import Lean
import PySem.Challenge.RW_om0029_01
set_option Elab.async false
set_option linter.all false
section
open PySem PySem.W PyProof.Rows
set_option maxRecDepth 100000
set_option maxHeartbeats 8000000
namespace Mine
open_top hd for PySem.Challenge.rw_om0029_01
end Mine
end
section
open PySem PySem.W PySem.Calls PyProof.Rows
set_option Elab.async false
set_option maxRecDepth 100000
namespace Mine

noncomputable abbrev Stay (h h' : Heap) : Prop := ∀ b o, h.get? b = some o → h'.get? b = some o
theorem Stay.refl (h : Heap) : Stay h h := fun _ _ e => e
theorem Stay.trans {a b c : Heap} (x : Stay a b) (y : Stay b c) : Stay a c := fun i o e => y i o (x i o e)
theorem Stay.push {h h' : Heap} (x : Stay h h') (o : Obj) : Stay h (h'.push o) := fun i o' e => Heap.get?_push_of_some _ (x i o' e)

/-- all but L stays -/
noncomputable def Off (L : Addr) (h h' : Heap) : Prop := ∀ b o, b ≠ L → h.get? b = some o → h'.get? b = some o
theorem Off.trans {L : Addr} {a b c : Heap} (x : Off L a b) (y : Off L b c) : Off L a c := fun i o n e => y i o n (x i o n e)
theorem Stay.off {L : Addr} {h h' : Heap} (x : Stay h h') : Off L h h' := fun i o _ e => x i o e

noncomputable def st (s : Shared) (h : Heap) (tk : Nat) : Shared := { s with heap := h, toks := tk }

structure Rm (k : Nat) (A : Around) : Prop where
  hd : A.handled = none
  dp : A.depth + k < recursionLimit
  un : A.units + 20 * k < cLine
theorem Rm.deeper {k : Nat} {A : Around} {env : Env} (r : Rm (k + 1) A) : Rm k (A.deeper env) :=
  ⟨r.hd, by have := r.dp; show A.depth + 1 + k < _; (first | lia | omega), by have := r.un; show A.units + 3 + 20 * k < _; (first | lia | omega)⟩
theorem Rm.in1 {k : Nat} {A : Around} (r : Rm (k + 1) A) : Rm k A.in1 :=
  ⟨r.hd, by have := r.dp; show A.depth + k < _; (first | lia | omega), by have := r.un; show A.units + 1 + 20 * k < _; (first | lia | omega)⟩
theorem Rm.less {k j : Nat} {A : Around} (r : Rm k A) (h : j ≤ k) : Rm j A :=
  ⟨r.hd, by have := r.dp; (first | lia | omega), by have := r.un; (first | lia | omega)⟩
theorem Rm.room {k : Nat} {A : Around} (r : Rm k A) : A.depth < recursionLimit := by have := r.dp; (first | lia | omega)
theorem Rm.units {k : Nat} {A : Around} (r : Rm k A) : A.units < cLine := by have := r.un; (first | lia | omega)

/-- what a tree gives from heap h, all that stands in h staying -/
noncomputable def Gives (prog : Program) (w : World) (A : Around) {α : Type} (t : Sem α) (s : Shared) (h : Heap) (φ : α → Heap → Prop) : Prop :=
  ∀ (tk : Nat) (Q : α → Shared → Prop) (E : Value → Shared → Prop), (∀ v h' tk', Stay h h' → φ v h' → Q v (st s h' tk')) → wpAny (model prog w) A t Q E (st s h tk)

noncomputable def flowV : Flow → Value
  | .ret v => v
  | _ => .none

section
variable {prog : Program} {w : World} {A : Around} {s : Shared} {h : Heap}
theorem Gives.mono {α : Type} {t : Sem α} {φ ψ : α → Heap → Prop} (g : Gives prog w A t s h φ) (hφ : ∀ v h', Stay h h' → φ v h' → ψ v h') : Gives prog w A t s h ψ := fun tk Q E k =>
  g tk Q E fun v h' tk' st p => k v h' tk' st (hφ v h' st p)

theorem gives_fn {f : Addr} {o : Obj} {fd : FuncData} {body : List Stmt} {args : List Value} {binds : List (Str × Value)} {φ : Value → Heap → Prop}
    (hroom : A.depth < recursionLimit) (ho : h.get? f = some o) (hd : o.data = .func fd) (hlim : h.NoLimit) (hcd : h.CodeRec fd.code fd.qualname)
    (hbody : fd.body = .stmts body) (hbind : ∀ tk, BindsTo (st s h tk) fd ⟨args, []⟩ binds)
    (hcell : ∀ x ∈ fd.scope.names, x.2 ≠ .cell) (hloc : ∀ x ∈ binds, fd.scope.names.lookup x.1 = some .local)
    (hb : ∀ L h₀ tk, binds.length ≤ tk → h₀.Ns L (fun x => binds.reverse.lookup x) → Stay h h₀ → h.get? L = none →
      wpAny (model prog w) (A.deeper (callEnv fd L f)) (execs body (callEnv fd L f)) (fun fl s' => ∃ h' tk', s' = st s h' tk' ∧ Stay h h' ∧ φ (flowV fl) h') (fun _ _ => False) (st s h₀ tk))
    (hco : fd.scope.isCoroutine = false := by rfl) (hgen : fd.scope.isGenerator = false := by rfl) (hk : fd.scope.kind = .function := by rfl) :
    Gives prog w A (call (.ref f) args) s h φ := by
  intro tk Q E k
  refine wpAny_call (codeAny_call_def hroom ho hd hlim hcd hbody (hbind tk) hcell hloc (fun h₀ hns hst => ?_) hco hgen hk)
  refine wpAny_mono (hb _ h₀ _ (Nat.le_add_left _ _) hns hst (Heap.get?_none_of_le (Nat.le_refl _))) (fun fl s' hq => ?_) fun _ _ e => e.elim
  obtain ⟨h', tk', rfl, hst', hφ⟩ := hq
  exact k _ h' tk' hst' hφ
end

structure Bas (mg mb : Str → Option Value) (G : Heap) : Prop where
  g : G.Ns mainGlobals mg
  b : G.Ns builtinsNs mb
  bi : ∀ x : Str, x ≠ "__name__" → mb x = bootBuiltins x
  lim : G.NoLimit
theorem Bas.stay {mg mb : Str → Option Value} {G h : Heap} (B : Bas mg mb G) (st : Stay G h) : Bas mg mb h := ⟨B.g.keeps st, B.b.keeps st, B.bi, B.lim.keeps st⟩

/-- a frame's locals at L over a ground G that does not hold L -/
structure Fm (G : Heap) (L : Addr) (m : Str → Option Value) (h : Heap) : Prop where
  ns : h.Ns L m
  keep : Stay G h
  fresh : G.get? L = none
section
variable {G h h' : Heap} {L : Addr} {m m' : Str → Option Value}
theorem Fm.stay (F : Fm G L m h) (st : Stay h h') : Fm G L m h' := ⟨F.ns.keeps st, F.keep.trans st, F.fresh⟩
theorem Fm.set (F : Fm G L m h) (hn : h'.Ns L m') (hs : Heap.SameBut L h h') : Fm G L m' h' :=
  ⟨hn, fun b o e => (hs.2 b (fun q => by rw [q, F.fresh] at e; cases e)).trans (F.keep b o e), F.fresh⟩
end

section
variable {M : Model} {A : Around} {E : Value → Shared → Prop} {s : Shared} {h : Heap} {tk : Nat} {env : Env} {G : Heap} {L : Addr} {m mg mb : Str → Option Value} {x : Str} {pos : Pos} {v : Value}
theorem nmL {Q : Value → Shared → Prop} (F : Fm G L m h) (hv : m x = some v) (k : Q v (st s h tk)) (hL : env.locals = L := by rfl)
    (hk : env.scope.kind = .function := by rfl) (hx : env.kindOf x = some .local := by rfl) (hd : (x == ("__debug__" : Str)) = false := by decide) :
    wpAny M A (eval (.Name x pos) env) Q E (st s h tk) := wpAny_Name (wpAny_loadName_local (s := st s h tk) hk hx (hL ▸ F.ns) hv k) hd
theorem ldL {Q : Value → Shared → Prop} (F : Fm G L m h) (hv : m x = some v) (k : Q v (st s h tk)) (hL : env.locals = L := by rfl)
    (hk : env.scope.kind = .function := by rfl) (hx : env.kindOf x = some .local := by rfl) :
    wpAny M A (loadName env x) Q E (st s h tk) := wpAny_loadName_local (s := st s h tk) hk hx (hL ▸ F.ns) hv k
theorem nmG {Q : Value → Shared → Prop} (B : Bas mg mb h) (hv : mg x = some v) (k : Q v (st s h tk)) (hg : env.globals = mainGlobals := by rfl)
    (hk : env.scope.kind = .function := by rfl) (hx : env.kindOf x = some .globalImplicit := by rfl) (hd : (x == ("__debug__" : Str)) = false := by decide) :
    wpAny M A (eval (.Name x pos) env) Q E (st s h tk) := Name_function_global hk hx (loadGlobal_global (s := st s h tk) (hg ▸ B.g) hv k) hd
theorem nmB {Q : Value → Shared → Prop} (B : Bas mg mb h) (hm : mg x = none) (hv : bootBuiltins x = some v) (k : Q v (st s h tk)) (hn : x ≠ "__name__" := by decide) (hg : env.globals = mainGlobals := by rfl) (hb : env.builtins = builtinsNs := by rfl)
    (hk : env.scope.kind = .function := by rfl) (hx : env.kindOf x = some .globalImplicit := by rfl) (hd : (x == ("__debug__" : Str)) = false := by decide) :
    wpAny M A (eval (.Name x pos) env) Q E (st s h tk) := Name_function_global hk hx (loadGlobal_builtin (s := st s h tk) (hg ▸ B.g) hm (hb ▸ B.b) ((B.bi x hn).trans hv) k) hd
theorem stL {Q : Unit → Shared → Prop} (F : Fm G L m h) (k : ∀ h' tk', Fm G L (fun y => if y = x then some v else m y) h' → Off L h h' → Q () (st s h' tk'))
    (hL : env.locals = L := by rfl) (hk : env.scope.kind = .function := by rfl) (hx : env.kindOf x = some .local := by rfl) : wpAny M A (storeName env x v) Q E (st s h tk) := by
  subst hL
  exact wpAny_storeName_local (s := st s h tk) hx F.ns (fun h' hn hs => k h' _ (F.set hn hs) fun b o hb e => (hs.2 b hb).trans e) (by rw [hk]; rfl)

theorem r_assign {p : Pos} {value : Expr} {rest : List Stmt} {Q : Flow → Shared → Prop} {S : Shared}
    (k : wpAny M A (eval value env) (fun v s₁ => wpAny M A (storeName env x v) (fun _ s₂ => wpAny M A (execs rest env) Q E s₂) E s₁) E S)
    (hs : swapsWith value (some (.Name x p)) pos.line env = pure false := by rfl) : wpAny M A (execs (.Assign [.Name x p] value pos :: rest) env) Q E S :=
  wpAny_execs_cons (wpAny_Assign_Name k hs)
theorem r_aug {p : Pos} {op : Operator} {value : Expr} {rest : List Stmt} {Q : Flow → Shared → Prop} {S : Shared}
    (k : wpAny M A (loadName env x) (fun old s₁ => wpAny M A (eval value env) (fun v s₂ => wpAny M A (inplaceOp op old v)
      (fun r s₃ => wpAny M A (storeName env x r) (fun _ s₄ => wpAny M A (execs rest env) Q E s₄) E s₃) E s₂) E s₁) E S) : wpAny M A (execs (.AugAssign (.Name x p) op value pos :: rest) env) Q E S :=
  wpAny_execs_cons (wpAny_AugAssign_Name k)
theorem r_ret {value : Expr} {rest : List Stmt} {Q : Flow → Shared → Prop} {S : Shared}
    (k : wpAny M A (eval value env) (fun v s' => Q (.ret v) s') E S) : wpAny M A (execs (.Return (some value) pos :: rest) env) Q E S :=
  wpAny_execs_cons (wpAny_Return_some (wpAny_mono k (fun _ _ q => q) fun _ _ e => e))
theorem r_int {i : Int} {c : Nat} {Q : Value → Shared → Prop} (k : Q (.int i tk) (st s h (tk + 1))) : wpAny M A (eval (.Constant (.int i) c pos) env) Q E (st s h tk) :=
  wpAny_Constant_int k
theorem r_str {i : Str} {c : Nat} {Q : Value → Shared → Prop} (k : Q (.str i tk) (st s h (tk + 1))) : wpAny M A (eval (.Constant (.str i) c pos) env) Q E (st s h tk) :=
  Calls.Constant_str k
theorem r_split {c : Prop} [Decidable c] {a b : Prop} (h1 : c → a) (h2 : ¬ c → b) : if c then a else b := by
  by_cases q : c
  · rw [if_pos q]; exact h1 q
  · rw [if_neg q]; exact h2 q
end
section
variable {prog : Program} {w : World} {A : Around} {E : Value → Shared → Prop} {s : Shared} {h : Heap} {tk : Nat} {a b : Int} {t u : Tok} {Q : Value → Shared → Prop}
theorem r_add (k : Q (.int (a + b) tk) (st s h (tk + 1))) : wpAny (model prog w) A (binaryOp .Add (.int a t) (.int b u)) Q E (st s h tk) := PyProof.Rows.add_int k
theorem r_sub (k : Q (.int (a - b) tk) (st s h (tk + 1))) : wpAny (model prog w) A (binaryOp .Sub (.int a t) (.int b u)) Q E (st s h tk) := PyProof.Rows.sub_int' k
theorem r_mul (hm : Builtin.Int.intBits b ≤ 64) (k : Q (.int (a * b) tk) (st s h (tk + 1))) : wpAny (model prog w) A (binaryOp .Mult (.int a t) (.int b u)) Q E (st s h tk) := PyProof.Rows.mul_int k (IntMulOk.of_right hm)
theorem r_fdiv (hb : b ≠ 0) (hs : b.natAbs < 1073741824) (k : Q (.int (a.fdiv b) tk) (st s h (tk + 1))) : wpAny (model prog w) A (binaryOp .FloorDiv (.int a t) (.int b u)) Q E (st s h tk) :=
  PyProof.Rows.floordiv_int hb k (Or.inl (PyProof.noPylong_small hs))
theorem r_fmod (hb : b ≠ 0) (k : Q (.int (a.fmod b) tk) (st s h (tk + 1))) : wpAny (model prog w) A (binaryOp .Mod (.int a t) (.int b u)) Q E (st s h tk) := mod_int' hb k
theorem r_band (k : Q (.int (Builtin.bitAnd a b) tk) (st s h (tk + 1))) : wpAny (model prog w) A (binaryOp .BitAnd (.int a t) (.int b u)) Q E (st s h tk) := PyProof.Rows.and_int k
end
end Mine
end
section
open PySem PySem.W PySem.Calls PyProof.Rows
set_option Elab.async false
set_option maxRecDepth 100000
namespace Mine

noncomputable def LoopPost (fp : List Addr) (J N : Heap → Prop) (V : Value → Heap → Prop) (h : Heap) (f : Flow) (h' : Heap) : Prop :=
  match f with
  | .next => (∀ b ∈ fp, ∀ o, h.get? b = some o → h'.get? b = some o) ∧ J h'
  | .cont => (∀ b ∈ fp, ∀ o, h.get? b = some o → h'.get? b = some o) ∧ J h'
  | .brk => N h'
  | .ret v => V v h'
noncomputable def FinPost (N : Heap → Prop) (V : Value → Heap → Prop) (f : Flow) (h' : Heap) : Prop :=
  match f with
  | .next => N h'
  | .ret v => V v h'
  | _ => False
noncomputable def EndPost (N : Heap → Prop) (V : Value → Heap → Prop) (r : Result) (h' : Heap) : Prop :=
  match r with
  | .ok f => FinPost N V f h'
  | .error _ => False

section
variable {prog : Program} {w : World} {A : Around} {s : Shared}

theorem r_loop {h : Heap} {tk : Nat} {target : Expr} {body orelse : List Stmt} {env : Env} {I : Addr} {fp wr : List Addr} {n : Nat} {P Md : Nat → Value → Heap → Prop} {St : Nat → Heap → Prop}
    (W : KTurns prog w A target I fp wr n P Md St) (J : Nat → Heap → Prop) (N : Heap → Prop) (V : Value → Heap → Prop)
    (hJ : ∀ i h h', J i h → (∀ b o, b ∉ wr → h.get? b = some o → h'.get? b = some o) → J i h')
    (turn : ∀ i v h tk, i < n → P i v h → St (i + 1) h → J i h →
      wpAny (model prog w) A (assign target env v) (fun _ s₂ => wpAny (model prog w) A (execs body env)
        (fun f s₃ => ∃ h₃ tk₃, s₃ = st s h₃ tk₃ ∧ LoopPost fp (J (i + 1)) N V h f h₃) (fun _ _ => False) s₂) (fun _ _ => False) (st s h tk))
    (fin : ∀ h tk, J n h → wpAny (model prog w) A (execs orelse env) (fun f s' => ∃ h' tk', s' = st s h' tk' ∧ FinPost N V f h') (fun _ _ => False) (st s h tk))
    (h0 : St 0 h) (j0 : J 0 h) :
    codeAny (model prog w) A (.forLoop target (.ref I) body orelse env) (fun r s' => ∃ h' tk', s' = st s h' tk' ∧ EndPost N V r h') (st s h tk) := by
  refine codeAny_forLoop_any (fun k s' => ∃ i h tk, s' = st s h tk ∧ St i h ∧ J i h ∧ i ≤ n ∧ k = n + 1 - i) ?_ (n + 1) ⟨0, h, tk, rfl, h0, j0, Nat.zero_le _, rfl⟩
  rintro k s' ⟨i, h', tk', rfl, hst, hj, hi, rfl⟩
  by_cases hlt : i < n
  · refine W.item i _ _ _ hlt hst fun v h₁ tk₁ hMd hk₁ => ?_
    refine W.go i v _ _ _ hMd fun h₂ hP hst₂ hk₂ => ?_
    refine wpAny_mono (turn i v h₂ tk₁ hlt hP hst₂ (hJ i h' h₂ hj fun b o hb e => hk₂ b o hb (hk₁ b o hb e))) (fun _ s₂ q => wpAny_mono q (fun f s₃ q₃ => ?_) fun _ _ e => e.elim) fun _ _ e => e.elim
    obtain ⟨h₃, tk₃, rfl, q⟩ := q₃
    cases f with
    | ret v => exact ⟨h₃, tk₃, rfl, q⟩
    | brk => exact ⟨h₃, tk₃, rfl, q⟩
    | cont => exact ⟨n + 1 - (i + 1), by omega, i + 1, h₃, tk₃, rfl, W.frame _ _ _ hst₂ q.1, q.2, hlt, rfl⟩
    | next => exact ⟨n + 1 - (i + 1), by omega, i + 1, h₃, tk₃, rfl, W.frame _ _ _ hst₂ q.1, q.2, hlt, rfl⟩
  · have hin : i = n := by omega
    subst hin
    refine W.done _ _ _ hst fun h₁ tk₁ hk₁ => ?_
    exact wpAny_mono (fin h₁ tk₁ (hJ i h' h₁ hj hk₁)) (fun f s₃ q => q) fun _ _ e => e.elim

theorem r_for {E : Value → Shared → Prop} {h : Heap} {tk : Nat} {target iter : Expr} {body orelse rest : List Stmt} {pos : Pos} {env : Env} {Q : Flow → Shared → Prop}
    (k : wpAny (model prog w) A (eval iter env) (fun x s₁ => wpAny (model prog w) A (pyIter x) (fun it s₂ => ∃ N V, codeAny (model prog w) A (.forLoop target it body orelse env) (fun r s' => ∃ h' tk', s' = st s h' tk' ∧ EndPost N V r h') s₂ ∧
      (∀ h' tk', N h' → wpAny (model prog w) A (execs rest env) Q E (st s h' tk')) ∧ (∀ v h' tk', V v h' → Q (.ret v) (st s h' tk'))) E s₁) E (st s h tk))
    (hs : ∀ x, foldedSetIterable iter env x = pure x := by intro _; rfl) :
    wpAny (model prog w) A (execs (.For target iter body orelse pos :: rest) env) Q E (st s h tk) := by
  refine wpAny_execs_cons (wpAny_For (wpAny_mono k (fun x s₁ k₁ => wpAny_mono k₁ (fun it s₂ k₂ => ?_) fun _ _ e => e) fun _ _ e => e) hs)
  obtain ⟨N, V, c, hN, hV⟩ := k₂
  refine codeAny_mono c fun r s' q => ?_
  obtain ⟨h', tk', rfl, q⟩ := q
  cases r with
  | error e => exact q.elim
  | ok f =>
    cases f with
    | next => exact hN h' tk' q
    | ret v => exact hV v h' tk' q
    | brk => exact q.elim
    | cont => exact q.elim

/-- for over a range of the library's -/
theorem turns_name {x : Str} {p : Pos} {I : Addr} {fp wr : List Addr} {n : Nat} {P : Nat → Value → Prop} {St : Nat → Heap → Prop} (W : Walks prog w A I fp wr n P St) :
    KTurns prog w A (.Name x p) I fp wr n (fun i v _ => P i v) (fun i v h => P i v ∧ St (i + 1) h) St :=
  KTurns.ofWalks W fun _ _ _ _ _ _ hQ => wpAny_pure hQ
end

section
variable {prog : Program} {w : World} {A : Around} {E : Value → Shared → Prop} {s : Shared}
open PySem
theorem wpAny_nextOf_tuple_item {it l : Addr} {i : Nat} {items} {x : Value} {Q : Value → Shared → Prop} (hit : s.heap.IsTupleIter it l i)
    (hl : s.heap.IsTuple l items) (hx : items[i]? = some x)
    (hQ : ∀ h', h'.IsTupleIter it l (i + 1) → Heap.SameBut it s.heap h' → Q x { s with heap := h' }) :
    wpAny (model prog w) A (Builtin.SmallTypes.nextOf (.ref it)) Q E s := by
  obtain ⟨o, ho, hc, hd⟩ := id hit
  obtain ⟨ol, hol, _, nl, hdl⟩ := hl
  unfold Builtin.SmallTypes.nextOf
  refine wpAny_bind (wpAny_callSpecial?_slot (name := Str.ofString "__next__") hit.typeIs PySem.F.slot_tuple_iterator_next
    (wpAny_call_entry PySem.F.slot_tuple_iterator_next hit.typeIs PySem.F.entry_tuple_iterator_next ?_ (PySem.F.args_tuple_iterator_next_1 _)))
  show wpAny _ _ (field (.ref it) 0 >>= _) _ _ s
  refine wpAny_bind (wpAny_field ho hd (x := .ref l) rfl ?_)
  show wpAny _ _ (if (Value.ref l == Value.none) = true then _ else _) _ _ s
  rw [if_neg (show ¬ ((Value.ref l == Value.none) = true) from Bool.false_ne_true)]
  show wpAny _ _ (field (.ref it) 1 >>= _) _ _ s
  refine wpAny_bind (wpAny_field ho hd (x := .int i 0) rfl ?_)
  show wpAny _ _ (seqItems? (.ref l) >>= _) _ _ s
  refine wpAny_bind (wpAny_seqItems hol hdl ?_)
  simp only [Int.toNat_natCast, hx]
  refine wpAny_bind (wpAny_setField ho hd (by simp) (wpAny_pure ⟨x, rfl, wpAny_pure (hQ _ ?_ (Heap.SameBut.update ..))⟩))
  exact ⟨_, Heap.get?_update_self _ ho (Obj.isFreed_of_fields (Obj.data_mapFields hd _)), (Obj.cls_mapFields ..).trans hc, by
    rw [Obj.data_mapFields hd]; simp [rawInt]⟩

theorem wpAny_nextOf_tuple_end {it l : Addr} {i : Nat} {items} {Q : Value → Shared → Prop} (hh : A.handled = none)
    (hit : s.heap.IsTupleIter it l i) (hl : s.heap.IsTuple l items) (hx : items[i]? = none)
    (hE : ∀ h' e, Heap.ExtBut it s.heap h' → (∃ o, h'.get? e = some o ∧ o.cls = .type "StopIteration") → E (.ref e) { s with heap := h' }) :
    wpAny (model prog w) A (Builtin.SmallTypes.nextOf (.ref it)) Q E s := by
  obtain ⟨o, ho, hc, hd⟩ := id hit
  obtain ⟨ol, hol, _, nl, hdl⟩ := hl
  unfold Builtin.SmallTypes.nextOf
  refine wpAny_bind (wpAny_callSpecial?_slot (name := Str.ofString "__next__") hit.typeIs PySem.F.slot_tuple_iterator_next
    (wpAny_call_entry PySem.F.slot_tuple_iterator_next hit.typeIs PySem.F.entry_tuple_iterator_next ?_ (PySem.F.args_tuple_iterator_next_1 _)))
  show wpAny _ _ (field (.ref it) 0 >>= _) _ _ s
  refine wpAny_bind (wpAny_field ho hd (x := .ref l) rfl ?_)
  show wpAny _ _ (if (Value.ref l == Value.none) = true then _ else _) _ _ s
  rw [if_neg (show ¬ ((Value.ref l == Value.none) = true) from Bool.false_ne_true)]
  show wpAny _ _ (field (.ref it) 1 >>= _) _ _ s
  refine wpAny_bind (wpAny_field ho hd (x := .int i 0) rfl ?_)
  show wpAny _ _ (seqItems? (.ref l) >>= _) _ _ s
  refine wpAny_bind (wpAny_seqItems hol hdl ?_)
  simp only [Int.toNat_natCast, hx]
  refine wpAny_bind (wpAny_rule (wpAny_bind (wpAny_setField ho hd (by simp) ?_)))
  show wpAny _ _ (newExc (.type "StopIteration") [] >>= _) _ _ _
  refine wpAny_bind ?_
  simp only [newExc, newTuple]
  refine wpAny_bind (wpAny_newObj_type ?_ (by size_fits))
  refine wpAny_bind (m := firstArgMember _ _) (wpAny_of_eq (a := Value.none) (by first | rfl | (simp only [firstArgMember]; rfl)) ?_)
  refine wpAny_newObj_type ?_ (by size_fits)
  simp only [raiseNew]
  refine wpAny_bind (wpAny_handled ?_)
  first | rw [show A.in1.handled = none from hh] | rw [hh]
  refine wpAny_bind (wpAny_pure (wpAny_throw ?_))
  exact hE _ _ (((Heap.SameBut.update ..).extBut.push _).push _) ⟨_, Heap.get?_push_size _ rfl, rfl⟩
end

theorem drawsTuple {prog : Program} {w : World} {A : Around} (hh : A.handled = none) (it l : Addr) (hne : l ≠ it) (items : Array Value) :
    Draws prog w A it [it, l] items.size (fun i v => items[i]? = some v) (fun i h => h.IsTupleIter it l i ∧ h.IsTuple l items) where
  live := fun _ _ st => let ⟨o, ho, _⟩ := st.1; ⟨o, ho⟩
  frame := fun _ _ _ st hk => ⟨st.1.at fun o e => hk it (by simp) o e, st.2.at fun o e => hk l (by simp) o e⟩
  item := fun i s Q E hi st hQ => by
    refine wpAny_nextOf_tuple_item st.1 st.2 (x := items[i]) (by simp [hi]) fun h' hit' hs' => ?_
    exact hQ _ h' s.toks (by simp [hi]) ⟨hit', st.2.extBut hs'.extBut hne⟩ hs'
  done := fun s Q E st hE => wpAny_nextOf_tuple_end hh st.1 st.2 (by simp) hE

open AutoSeq1 (wpAny_loadPart') in
theorem meets_enumerate_newT (l : Addr) (items : Array Value) (n : Nat) (dct : Option Addr) (sl : Array (Option Value)) :
    Meets (Builtin.«enumerate.__new__» ⟨[.type "enumerate", .ref l], []⟩) (fun _ R s => s.heap.get? l = some { cls := .type "tuple", dict := dct, data := .seq items n, slots := sl } ∧
      R (.ok (.ret (.ref (s.heap.push { cls := .type "tuple_iterator", data := .fields #[.ref l, .int 0 0] }).objs.size)))
        { s with heap := (s.heap.push { cls := .type "tuple_iterator", data := .fields #[.ref l, .int 0 0] }).push { cls := .type "enumerate", data := .fields #[.none, .bool false, .ref s.heap.objs.size, rawInt 0, .none, .none] } }) :=
  .of_wp fun prog w A R s h => by
    obtain ⟨hp, g, d, tk, os⟩ := s; obtain ⟨hl, h⟩ := h
    have hsub := sub_enumerate
    have hL : Heap.IsTuple (Shared.heap ⟨hp, g, d, tk, os⟩) l items := ⟨_, hl, rfl, n, rfl⟩
    wp_walk using wpAny_loadPart' hl
    refine wpAny_stack_any fun st => wpAny_pure ?_
    split
    · rename_i c _ _ _ _ _
      cases (c == Value.type "enumerate")
      · wp_walk using wpAny_loadPart' hl, wpAny_pyIter_tuple hL
        exact ⟨_, rfl, h⟩
      · wp_walk using wpAny_loadPart' hl, wpAny_pyIter_tuple hL
        exact ⟨_, rfl, h⟩
    · wp_walk using wpAny_loadPart' hl, wpAny_pyIter_tuple hL
      exact ⟨_, rfl, h⟩

section
variable {prog : Program} {w : World} {A : Around} {E : Value → Shared → Prop} {s : Shared}
theorem call_enumerate_tuple {l : Addr} {items : Array Value} {Q : Value → Shared → Prop} (hL : s.heap.IsTuple l items)
    (h : ∀ h', IsEnum h' (s.heap.objs.size + 1) s.heap.objs.size 0 .none → h'.IsTupleIter s.heap.objs.size l 0 → h'.objs.size = s.heap.objs.size + 2 →
      (∀ b o, s.heap.get? b = some o → h'.get? b = some o) → Q (.ref (s.heap.objs.size + 1)) { s with heap := h' }) :
    wpAny (model prog w) A (call (.type "enumerate") [.ref l]) Q E s := by
  obtain ⟨⟨c, dct, dt, sl⟩, hl, hc, n, hd⟩ := hL
  replace hc : c = .type "tuple" := hc
  replace hd : dt = .seq items n := hd
  subst hc hd
  refine callType_new PySem.F.called_enumerate (by decide) (PySem.F.typeCall_enumerate_1 _) (PySem.F.newCall_enumerate_1 _) (fun obj => PySem.F.args_object_init_2 obj _) PySem.F.entry_enumerate_new
    (meets_enumerate_newT l items n dct sl) ⟨hl, ?_⟩
  have hz : (s.heap.push { cls := .type "tuple_iterator", data := .fields #[.ref l, .int 0 0] }).objs.size = s.heap.objs.size + 1 := Heap.size_push ..
  show _ ∧ _
  rw [hz]
  have he : IsEnum ((s.heap.push { cls := .type "tuple_iterator", data := .fields #[.ref l, .int 0 0] }).push
      { cls := .type "enumerate", data := .fields #[.none, .bool false, .ref s.heap.objs.size, rawInt 0, .none, .none] }) (s.heap.objs.size + 1) s.heap.objs.size 0 .none := by
    have := Heap.get?_push_size (s.heap.push { cls := .type "tuple_iterator", data := .fields #[.ref l, .int 0 0] })
      (o := { cls := .type "enumerate", data := .fields #[.none, .bool false, .ref s.heap.objs.size, rawInt 0, .none, .none] }) rfl
    rw [hz] at this; exact this
  refine ⟨⟨_, he, rfl⟩, h _ he ⟨_, Heap.get?_push_of_some _ (Heap.get?_push_size _ rfl), rfl, rfl⟩ (by rw [Heap.size_push, hz]) fun b o x => Heap.get?_push_of_some _ (Heap.get?_push_of_some _ x)⟩
end

section
variable {prog : Program} {w : World} {A : Around} {E : Value → Shared → Prop} {s : Shared} {h G : Heap} {tk : Nat} {L : Addr} {m : Str → Option Value} {env : Env}
theorem r_unpack2 {x y : Str} {p q pos : Pos} {c : Nat} {t : Addr} {a b : Value} {Q : Unit → Shared → Prop} (hh : A.handled = none) (F : Fm G L m h) (ht : h.IsTuple t #[a, b])
    (k : ∀ h' tk', Fm G L (fun z => if z = y then some b else if z = x then some a else m z) h' → Off L h h' → Q () (st s h' tk'))
    (hL : env.locals = L := by rfl) (hk : env.scope.kind = .function := by rfl) (hx : env.kindOf x = some .local := by rfl) (hy : env.kindOf y = some .local := by rfl) :
    wpAny (model prog w) A (assign (.Tuple [.Name x p, .Name y q] c pos) env (.ref t)) Q E (st s h tk) := by
  refine wpAny_assign_Tuple (s := st s h tk) hh ht rfl rfl fun h₁ he => ?_
  have hst : Stay h h₁ := fun b o e => he b o (Nat.ne_of_lt (Heap.lt_size e)) e
  show wpAny _ _ (holding [b] (assign (.Name x p) env a) >>= fun _ => (holding [] (assign (.Name y q) env b) >>= fun _ => pure ())) _ _ _
  refine wpAny_bind (wpAny_holding (wpAny_assign_Name ?_))
  refine stL (s := s) (tk := tk) (F.stay hst) (fun h₂ tk₂ F₂ O₂ => ?_) hL hk hx
  refine wpAny_bind (wpAny_holding (wpAny_assign_Name ?_))
  refine stL F₂ (fun h₃ tk₃ F₃ O₃ => wpAny_pure (k h₃ tk₃ F₃ ((hst.off.trans O₂).trans O₃))) hL hk hy

theorem r_name {x : Str} {p : Pos} {v : Value} {Q : Unit → Shared → Prop} (F : Fm G L m h)
    (k : ∀ h' tk', Fm G L (fun z => if z = x then some v else m z) h' → Off L h h' → Q () (st s h' tk'))
    (hL : env.locals = L := by rfl) (hk : env.scope.kind = .function := by rfl) (hx : env.kindOf x = some .local := by rfl) :
    wpAny (model prog w) A (assign (.Name x p) env v) Q E (st s h tk) := wpAny_assign_Name (stL F k hL hk hx)
end
end Mine
end
section
open PySem PySem.W PySem.Calls PyProof.Rows
set_option Elab.async false
set_option maxRecDepth 100000
namespace Mine

noncomputable def Then (M : Model) (A : Around) (env : Env) (rest : List Stmt) (Q : Flow → Shared → Prop) (E : Value → Shared → Prop) (f : Flow) (s' : Shared) : Prop :=
  match f with
  | .next => wpAny M A (execs rest env) Q E s'
  | f => Q f s'

section
variable {M : Model} {A : Around} {E : Value → Shared → Prop} {s : Shared} {h : Heap} {tk : Nat} {env : Env} {rest : List Stmt} {Q : Flow → Shared → Prop} {pos : Pos} {S : Shared}
theorem then_next (k : wpAny M A (execs rest env) Q E S) : Then M A env rest Q E .next S := k
theorem then_ret {v : Value} (k : Q (.ret v) S) : Then M A env rest Q E (.ret v) S := k
theorem then_brk (k : Q .brk S) : Then M A env rest Q E .brk S := k
theorem r_if {test : Expr} {body orelse : List Stmt}
    (k : wpAny M A (isTrue test env (eval test env)) (fun b s₂ => if b = true then wpAny M A (execs body env) (Then M A env rest Q E) E s₂ else wpAny M A (execs orelse env) (Then M A env rest Q E) E s₂) E S) :
    wpAny M A (execs (.If test body orelse pos :: rest) env) Q E S := by
  refine wpAny_execs_cons (wpAny_If (wpAny_mono k (fun b s₂ q => ?_) fun _ _ e => e))
  cases b with
  | true => exact wpAny_mono (show wpAny M A (execs body env) (Then M A env rest Q E) E s₂ from q) (fun f s' q' => by cases f <;> exact q') fun _ _ e => e
  | false => exact wpAny_mono (show wpAny M A (execs orelse env) (Then M A env rest Q E) E s₂ from q) (fun f s' q' => by cases f <;> exact q') fun _ _ e => e
theorem r_brk : Q .brk S → wpAny M A (execs (.Break pos :: rest) env) Q E S := fun k => wpAny_execs_cons (wpAny_Break k)
theorem r_nil : Q .next S → wpAny M A (execs [] env) Q E S := fun k => wpAny_execs_nil k
theorem r_expr {e : Expr} (k : wpAny M A (eval e env) (fun v s' => v = .none ∧ wpAny M A (execs rest env) Q E s') E S)
    (hi : interactive env = false := by rfl) (hs : swapsWith e none pos.line env = pure false := by rfl) :
    wpAny M A (execs (.Expr e pos :: rest) env) Q E S := by
  refine wpAny_execs_cons (wpAny_Expr (wpAny_mono k (fun v s' q => ?_) fun _ _ e => e) hi hs)
  obtain ⟨rfl, q⟩ := q
  exact q
theorem r_list {elts : List Expr} {Q : Value → Shared → Prop}
    (k : wpAny M A (spliced (backTo pos (starEach elts env))) (fun vs s₁ => wpAny M A (newList vs) Q E s₁) E S) : wpAny M A (eval (.List elts pos) env) Q E S := List_ k
theorem r_tuple {elts : List Expr} {c : Nat} {Q : Value → Shared → Prop}
    (k : wpAny M A (spliced (backTo pos (starEach elts env))) (fun vs s₁ => wpAny M A (newTuple vs) Q E s₁) E S) : wpAny M A (eval (.Tuple elts c pos) env) Q E S := Tuple_ k
theorem r_sp0 {Q : List Value → Shared → Prop} (k : Q [] S) : wpAny M A (spliced (backTo pos (starEach [] env))) Q E S := spliced_none k
theorem r_sp1 {e : Expr} {more : List Expr} {Q : List Value → Shared → Prop}
    (k : wpAny M A (eval e env) (fun v s₁ => wpAny M A (spliced (backTo pos (starEach more env))) (fun vs s₂ => Q (v :: vs) s₂) E s₁) E S)
    (he : starEach (e :: more) env = (false, eval e env) :: starEach more env := by rfl) : wpAny M A (spliced (backTo pos (starEach (e :: more) env))) Q E S := spliced_more k he
theorem r_newList {vs : List Value} {Q : Value → Shared → Prop} (hz : vs.length ≤ 1000)
    (k : ∀ a h', h.get? a = none → h'.PlainList a vs.toArray → Stay h h' → Q (.ref a) (st s h' tk)) : wpAny M A (newList vs) Q E (st s h tk) :=
  wpAny_newList (s := st s h tk) (k _ _ (Heap.get?_none_of_le (Nat.le_refl _)) ⟨_, Heap.get?_push_size _ rfl⟩ fun _ _ e => Heap.get?_push_of_some _ e) (by rw [sizeLine_eq]; (first | lia | omega))
theorem r_newTuple {vs : List Value} {Q : Value → Shared → Prop} (hz : vs.length ≤ 1000)
    (k : ∀ a h', h.get? a = none → h'.IsTuple a vs.toArray → Stay h h' → Q (.ref a) (st s h' tk)) : wpAny M A (newTuple vs) Q E (st s h tk) :=
  wpAny_newTuple (s := st s h tk) (k _ _ (Heap.get?_none_of_le (Nat.le_refl _)) ⟨_, Heap.get?_push_size _ rfl, rfl, _, rfl⟩ fun _ _ e => Heap.get?_push_of_some _ e) (by rw [sizeLine_eq]; (first | lia | omega))
theorem r_call {x : Str} {p : Pos} {args : List Expr} {Q : Value → Shared → Prop}
    (k : wpAny M A (eval (.Name x p) env) (fun f s₁ => wpAny M A (callWith pos f [] (backTo pos (starEach args env)) []) Q E s₁) E S) :
    wpAny M A (eval (.Call (.Name x p) args [] pos) env) Q E S := wpAny_Call_NameR k
theorem r_cwF {f : Addr} {e : Expr} {more : List Expr} {first : List Value} {Q : Value → Shared → Prop} {o : Obj} {fd : FuncData} (hd : o.data = .func fd)
    (k : wpAny M A (spliced (backTo pos (starEach (e :: more) env))) (fun vs s₁ => s₁.heap.get? f = some o ∧ wpAny M A (call (.ref f) (first ++ vs)) Q E s₁) E S)
    (he : starEach (e :: more) env = (false, eval e env) :: starEach more env := by rfl) :
    wpAny M A (callWith pos (.ref f) first (backTo pos (starEach (e :: more) env)) []) Q E S := by
  rw [he] at k ⊢
  exact Calls.callWith_function (o := o) (fd := fd) (Calls.evalArgs_plain (wpAny_mono k (fun vs s₁ q => ⟨⟨q.1, hd⟩, q.2⟩) fun _ _ x => x))
theorem r_cwB {id : String} {e : Expr} {more : List Expr} {first : List Value} {Q : Value → Shared → Prop}
    (k : wpAny M A (spliced (backTo pos (starEach (e :: more) env))) (fun vs s₁ => wpAny M A (call (.builtin id) (first ++ vs)) Q E s₁) E S)
    (he : starEach (e :: more) env = (false, eval e env) :: starEach more env := by rfl) (hp : (backTo pos (starEach (e :: more) env)).any (·.1) = false := by rfl) :
    wpAny M A (callWith pos (.builtin id) first (backTo pos (starEach (e :: more) env)) []) Q E S := by
  refine Calls.callWith_builtin hp ?_
  rw [he] at k ⊢
  exact Calls.evalArgs_plain k
theorem r_cwT {T : String} {e : Expr} {more : List Expr} {Q : Value → Shared → Prop}
    (k : wpAny M A (spliced (backTo pos (starEach (e :: more) env))) (fun vs s₁ => wpAny M A (call (.type T) vs) Q E s₁) E S)
    (he : starEach (e :: more) env = (false, eval e env) :: starEach more env := by rfl) (hp : (backTo pos (starEach more env)).any (·.1) = false := by rfl) :
    wpAny M A (callWith pos (.type T) [] (backTo pos (starEach (e :: more) env)) []) Q E S := PyProof.Rows.callWith_type1 k he hp
end

section
variable {prog : Program} {w : World} {A : Around} {E : Value → Shared → Prop} {s : Shared} {h : Heap} {tk : Nat} {env : Env} {pos : Pos} {S : Shared} {Q : Value → Shared → Prop}
theorem r_meth {o : Expr} {name : Str} {apos : Pos} {args : List Expr} {T id : String} (pa : PlainAttrs T) (slot : Slot T name id) (hty : typeOf (.builtin id) = pure (.type "method_descriptor"))
    (k : wpAny (model prog w) A (eval o env) (fun ov s₁ => s₁.TypeIs ov T ∧ (∀ a, ov = .ref a → ∃ ob, s₁.heap.get? a = some ob ∧ ob.dict = none) ∧
      wpAny (model prog w) A (callWith pos (.builtin id) [ov] (backTo pos (starEach args env)) []) Q E s₁) E S)
    (hbase : attributeBase o name env (eval o env) = eval o env := by rfl)
    (hfew : ((backTo pos (starEach args env)).all (fun x => !x.1) && (backToKw pos (keywordEach [] env)).all (fun x => x.1.isSome)
      && decide (args.length + ([] : List Keyword).length + (if ([] : List Keyword).isEmpty then 0 else 1) < 30)) = true := by rfl)
    (hline : (apos.endLine == pos.line) = true := by rfl) :
    wpAny (model prog w) A (eval (.Call (.Attribute o name apos) args [] pos) env) Q E S := wpAny_Call_method hbase hfew hline pa slot hty k
theorem r_append {l : Addr} {items : Array Value} {x : Value} (hl : h.PlainList l items) (hz : items.size ≤ 1000)
    (k : ∀ h', h'.PlainList l (items.push x) → Off l h h' → Q .none (st s h' tk)) : wpAny (model prog w) A (call (.builtin "list.append") [.ref l, x]) Q E (st s h tk) :=
  wpAny_list_append_plain (s := st s h tk) hl (fun h' hl' hs => k h' hl' fun b o n e => (hs.2 b n).trans e) (by rw [sizeLine_eq]; (first | lia | omega))
theorem r_appendM {o elt : Expr} {apos : Pos}
    (k : wpAny (model prog w) A (eval o env) (fun ov s₁ => ∃ l items, ov = .ref l ∧ s₁.heap.PlainList l items ∧
      wpAny (model prog w) A (eval elt env) (fun y s₂ => wpAny (model prog w) A (call (.builtin "list.append") [.ref l, y]) Q E s₂) E s₁) E S)
    (hbase : attributeBase o "append" env (eval o env) = eval o env := by rfl)
    (hfew : ((backTo pos (starEach [elt] env)).all (fun x => !x.1) && (backToKw pos (keywordEach [] env)).all (fun x => x.1.isSome)
      && decide ([elt].length + ([] : List Keyword).length + (if ([] : List Keyword).isEmpty then 0 else 1) < 30)) = true := by rfl)
    (hline : (apos.endLine == pos.line) = true := by rfl)
    (he : starEach [elt] env = (false, eval elt env) :: starEach [] env := by rfl) (hp : (backTo pos (starEach [elt] env)).any (·.1) = false := by rfl) :
    wpAny (model prog w) A (eval (.Call (.Attribute o "append" apos) [elt] [] pos) env) Q E S := by
  refine wpAny_Call_method hbase hfew hline PySem.F.plainAttrs_list PySem.slot_list_append PySem.F.type_list_append (wpAny_mono k (fun ov s₁ q => ?_) fun _ _ e => e)
  obtain ⟨l, items, rfl, ⟨n, hl⟩, q⟩ := q
  refine ⟨⟨_, hl, rfl⟩, fun a ha => by cases ha; exact ⟨_, hl, rfl⟩, r_cwB (r_sp1 (wpAny_mono q (fun y s₂ q₂ => r_sp0 q₂) fun _ _ e => e) he) he hp⟩
/-- an iterator over a tuple, a list -/
theorem r_iterT {t : Addr} {items : Array Value} (ht : h.IsTuple t items)
    (k : ∀ I h', h.get? I = none → h'.IsTupleIter I t 0 → Stay h h' → h'.IsTuple t items → t ≠ I → Q (.ref I) (st s h' tk)) : wpAny (model prog w) A (pyIter (.ref t)) Q E (st s h tk) :=
  wpAny_pyIter_tuple (s := st s h tk) ht (k _ _ (Heap.get?_none_of_le (Nat.le_refl _)) ⟨_, Heap.get?_push_size _ rfl, rfl, rfl⟩ (fun _ _ e => Heap.get?_push_of_some _ e)
    (ht.at fun _ e => Heap.get?_push_of_some _ e) (by obtain ⟨o, ho, _⟩ := ht; exact Nat.ne_of_lt (Heap.lt_size ho)))
theorem r_iterL {t : Addr} {items : Array Value} (ht : h.IsList t items)
    (k : ∀ I h', h.get? I = none → h'.IsListIter I t 0 → Stay h h' → h'.IsList t items → t ≠ I → Q (.ref I) (st s h' tk)) : wpAny (model prog w) A (pyIter (.ref t)) Q E (st s h tk) :=
  wpAny_pyIter_list (s := st s h tk) ht (k _ _ (Heap.get?_none_of_le (Nat.le_refl _)) ⟨_, Heap.get?_push_size _ rfl, rfl, rfl⟩ (fun _ _ e => Heap.get?_push_of_some _ e)
    (ht.at fun _ e => Heap.get?_push_of_some _ e) (by obtain ⟨o, ho, _⟩ := ht; exact Nat.ne_of_lt (Heap.lt_size ho)))
end
end Mine
end
open PySem PySem.W PySem.Calls PyProof.Rows Mine
set_option maxRecDepth 100000
section
open PySem PySem.W PySem.Calls PyProof.Rows
set_option Elab.async false
set_option maxRecDepth 100000
namespace Mine

noncomputable def stAt (n : Nat) : Stmt := match PySem.Challenge.pw_om0029_01.main.body.drop n with | st :: _ => st | [] => .Pass default
noncomputable def nameAt (n : Nat) : Str := match stAt n with | .FunctionDef name _ _ _ _ _ _ _ _ _ => name | _ => default
noncomputable def argsAt (n : Nat) : Arguments := match stAt n with | .FunctionDef _ args _ _ _ _ _ _ _ _ => args | _ => default
noncomputable def bodyAt (n : Nat) : List Stmt := match stAt n with | .FunctionDef _ _ body _ _ _ _ _ _ _ => body | _ => []
noncomputable def scopeAt (n : Nat) : Scope := match stAt n with | .FunctionDef _ _ _ _ _ _ scope _ _ _ => scope | _ => default
noncomputable abbrev fnD (n : Nat) (c : Addr) (pm dV : Value) : FuncData :=
  { name := nameAt n, qualname := nameAt n, params := argsAt n, body := .stmts (bodyAt n), scope := scopeAt n, globals := mainGlobals, closure := [], defaults := dV, kwdefaults := .none, doc := .none, pyModule := pm, annotations := none, code := .ref c, closureTuple := .none, builtins := builtinsNs }

noncomputable def FnAt (G : Heap) (f c n : Nat) (dV : Value) : Prop := ∃ pm, G.get? f = some { cls := .type "function", data := .func (fnD n c pm dV) } ∧ G.CodeRec (.ref c) (nameAt n)
theorem FnAt.stay {G h : Heap} {f c n : Nat} {dV : Value} (x : FnAt G f c n dV) (st : Stay G h) : FnAt h f c n dV := let ⟨pm, e, r⟩ := x; ⟨pm, st _ _ e, r.keeps st⟩

section
variable {prog : Program} {w : World} {A : Around} {s : Shared} {h : Heap} {mg mb : Str → Option Value}

theorem gives_def {f c n : Nat} {dV : Value} {args : List Value} {binds : List (Str × Value)} {φ : Value → Heap → Prop}
    (R : Rm 1 A) (B : Bas mg mb h) (X : FnAt h f c n dV)
    (hbind : ∀ pm tk, BindsTo (st s h tk) (fnD n c pm dV) ⟨args, []⟩ binds)
    (hcell : ((scopeAt n).names.all fun x => x.2 != .cell) = true) (hloc : (binds.all fun x => (scopeAt n).names.lookup x.1 == some .local) = true)
    (hb : ∀ pm L h₀ tk, binds.length ≤ tk → Fm h L (fun x => binds.reverse.lookup x) h₀ → 
      wpAny (model prog w) (A.deeper (callEnv (fnD n c pm dV) L f)) (execs (bodyAt n) (callEnv (fnD n c pm dV) L f)) (fun fl s' => ∃ h' tk', s' = st s h' tk' ∧ Stay h h' ∧ φ (flowV fl) h') (fun _ _ => False) (st s h₀ tk))
    (hco : (scopeAt n).isCoroutine = false := by rfl) (hgen : (scopeAt n).isGenerator = false := by rfl) (hk : (scopeAt n).kind = .function := by rfl) :
    Gives prog w A (call (.ref f) args) s h φ := by
  obtain ⟨pm, ho, hc⟩ := X
  refine gives_fn R.room ho rfl B.lim hc rfl (hbind pm) (fun x hx e => ?_) (fun x hx => ?_) (fun L h₀ tk htk hns st hL => hb pm L h₀ tk htk ⟨hns, st, hL⟩) hco hgen hk
  · have := List.all_eq_true.mp hcell x hx
    rw [e] at this; simp at this
  · simpa using List.all_eq_true.mp hloc x hx


noncomputable def modeF (n : Int) : Int := (if n.fmod 2 ≠ 0 then (n.fdiv 16).fmod 16 else 8) * 4096 + ((n.fdiv 4096).fmod 4) * 1024 + ((n.fdiv 2).fmod 2) * 512 + (n.fdiv 4).fmod 512

set_option maxHeartbeats 2000000 in
theorem law_mode {n : Int} {t : Tok} (R : Rm 1 A) (B : Bas mg mb h) (X : FnAt h 118 117 34 .none) :
    Gives prog w A (call (.ref 118) [.int n t]) s h (fun v _ => ∃ t, v = .int (modeF n) t) := by
  refine gives_def (binds := [("number", .int n t)]) R B X (fun pm tk => BindsTo.of_eq rfl) (by decide +kernel) (by rfl) fun pm L h₀ tk htk F => ?_
  refine r_assign ?_
  repeat' (first | with_reducible refine r_ret ?_ | with_reducible refine wpAny_IfExp ?_ | with_reducible refine wpAny_BinOp ?_ | ((with_reducible refine wpAny_isTrue_value ?_ ?mk); (case mk => rfl)) | ((with_reducible refine r_int ?_)) | ((with_reducible show wpAny _ _ (eval (Expr.Name _ _) _) _ _ _); refine nmL (by assumption) (by first | rfl | assumption) ?_) | ((with_reducible show wpAny _ _ (storeName _ _ _) _ _ _); refine stL (by assumption) ?_; intro _ _ _ _) | ((with_reducible refine r_add ?_)) | ((with_reducible refine r_mul ?mm ?_); (case mm => first | decide +kernel | assumption)) | ((with_reducible refine r_fdiv ?mm ?mn ?_); (case mm => first | decide | assumption | omega); (case mn => first | decide | assumption | omega)) | ((with_reducible refine r_fmod ?mm ?_); (case mm => first | decide | assumption | omega)) | with_reducible refine PyProof.Rows.truthy_int ?_ | ((with_reducible refine r_split ?_ ?_) <;> intro _))
  all_goals refine ⟨_, _, rfl, Fm.keep (by assumption), _, congrArg (Value.int · _) ?_⟩
  all_goals (unfold modeF; simp_all)
end
end Mine
end
section
open PySem PySem.W PySem.Calls PyProof.Rows
set_option Elab.async false
set_option maxRecDepth 100000
namespace Mine

theorem paired_get {α β : Type} {F : α → β → Prop} : ∀ {l : List α} {m : List β}, Paired F l m → ∀ {i : Nat} {a : α}, l[i]? = some a → ∃ b, m[i]? = some b ∧ F a b
  | _, _, .nil, _, _, e => by simp at e
  | _, _, .cons (b := b) f r, 0, a, e => by simp at e; subst e; exact ⟨b, rfl, f⟩
  | _, _, .cons f r, i + 1, a, e => by simp at e; simpa using paired_get r e
theorem paired_imp {α β : Type} {F F' : α → β → Prop} (hm : ∀ a b, F a b → F' a b) {l : List α} {m : List β} (x : Paired F l m) : Paired F' l m := by
  induction x with
  | nil => exact .nil
  | cons f _ ih => exact .cons (hm _ _ f) ih

noncomputable def PairAt (h : Heap) (v : Value) (p : Int × Str) : Prop := ∃ a t u, v = .ref a ∧ h.IsTuple a #[.int p.1 t, .str p.2 u]
noncomputable def RowAt (h : Heap) (v : Value) (r : List (Int × Str)) : Prop := ∃ a vs, v = .ref a ∧ h.IsTuple a vs.toArray ∧ Paired (PairAt h) vs r
noncomputable def TabAt (h : Heap) (a : Addr) (T : List (List (Int × Str))) : Prop := ∃ vs, h.IsTuple a vs.toArray ∧ Paired (RowAt h) vs T
theorem isTup_stay {h h' : Heap} {a : Addr} {its : Array Value} (x : h.IsTuple a its) (k : Stay h h') : h'.IsTuple a its := x.at fun o e => k a o e
theorem isLst_stay {h h' : Heap} {a : Addr} {its : Array Value} (x : h.IsList a its) (k : Stay h h') : h'.IsList a its := let ⟨o, e, r⟩ := x; ⟨o, k _ _ e, r⟩
theorem pairAt_stay {h h' : Heap} (k : Stay h h') (v : Value) (p : Int × Str) : PairAt h v p → PairAt h' v p := fun ⟨a, t, u, e, x⟩ => ⟨a, t, u, e, isTup_stay x k⟩
theorem rowAt_stay {h h' : Heap} (k : Stay h h') (v : Value) (r : List (Int × Str)) : RowAt h v r → RowAt h' v r := fun ⟨a, vs, e, x, y⟩ => ⟨a, vs, e, isTup_stay x k, paired_imp (pairAt_stay k) y⟩
theorem tabAt_stay {h h' : Heap} (k : Stay h h') {a : Addr} {T : List (List (Int × Str))} : TabAt h a T → TabAt h' a T := fun ⟨vs, x, y⟩ => ⟨vs, isTup_stay x k, paired_imp (rowAt_stay k) y⟩

noncomputable def hits (i : Nat) (mode : Int) (p : Int × Str) : Bool := if i = 0 then Builtin.bitAnd mode 61440 == p.1 else Builtin.bitAnd mode p.1 == p.1
noncomputable def pick (i : Nat) (mode : Int) (row : List (Int × Str)) : Str := match row.find? (hits i mode) with
  | some p => p.2
  | none => if i = 0 then "?" else "-"

noncomputable def Off2 (L p : Addr) (h h' : Heap) : Prop := ∀ b o, b ≠ L → b ≠ p → h.get? b = some o → h'.get? b = some o

theorem ns_ne_list {h : Heap} {L p : Addr} {m : Str → Option Value} {its : Array Value} (x : h.Ns L m) (y : h.PlainList p its) : p ≠ L := by
  rintro rfl
  obtain ⟨o, es, ep, e, hd, _⟩ := x
  obtain ⟨n, e'⟩ := y
  rw [e] at e'; cases e'; cases hd

theorem paired_len {α β : Type} {F : α → β → Prop} {l : List α} {m : List β} (x : Paired F l m) : l.length = m.length := by
  induction x with
  | nil => rfl
  | cons _ _ ih => simp [ih]
theorem Fm.off {G h h' : Heap} {L p : Addr} {m : Str → Option Value} (F : Fm G L m h) (pG : G.get? p = none) (O : Off p h h') (hn : p ≠ L) : Fm G L m h' :=
  ⟨F.ns.at' fun o e => O _ o (Ne.symm hn) e, fun b o e => O b o (fun q => by rw [q, pG] at e; cases e) (F.keep b o e), F.fresh⟩
theorem off2_off {L p : Addr} {h h' h'' : Heap} (x : Off2 L p h h') (y : Off p h' h'') : Off2 L p h h'' := fun b o n1 n2 e => y b o n2 (x b o n1 n2 e)
theorem off2_offL {L p : Addr} {h h' h'' : Heap} (x : Off2 L p h h') (y : Off L h' h'') : Off2 L p h h'' := fun b o n1 n2 e => y b o n1 (x b o n1 n2 e)
theorem off2_stay {L p : Addr} {h h' h'' : Heap} (x : Off2 L p h h') (y : Stay h' h'') : Off2 L p h h'' := fun b o n1 n2 e => y b o (x b o n1 n2 e)

section
variable {prog : Program} {w : World} {A : Around} {s : Shared} {h : Heap} {mg mb : Str → Option Value}

theorem r_cwD {M : Model} {E : Value → Shared → Prop} {env : Env} {pos : Pos} {tk : Nat} {f c n : Nat} {dV : Value} {e : Expr} {more : List Expr} {first : List Value} {Q : Value → Shared → Prop}
    (X : FnAt h f c n dV)
    (k : wpAny M A (spliced (backTo pos (starEach (e :: more) env))) (fun vs s₁ => Stay h s₁.heap ∧ wpAny M A (call (.ref f) (first ++ vs)) Q E s₁) E (st s h tk))
    (he : starEach (e :: more) env = (false, eval e env) :: starEach more env := by rfl) :
    wpAny M A (callWith pos (.ref f) first (backTo pos (starEach (e :: more) env)) []) Q E (st s h tk) := by
  obtain ⟨pm, e, _⟩ := X
  exact r_cwF rfl (wpAny_mono k (fun vs s₁ q => ⟨q.1 _ _ e, q.2⟩) fun _ _ x => x) he

set_option maxHeartbeats 2000000 in
theorem c_ifmt {n : Int} {t : Tok} (R : Rm 1 A) (B : Bas mg mb h) (X : FnAt h 38 37 2 .none) :
    Gives prog w A (call (.ref 38) [.int n t]) s h (fun v _ => ∃ t, v = .int (Builtin.bitAnd n 61440) t) := by
  refine gives_def (binds := [("mode", .int n t)]) R B X (fun pm tk => BindsTo.of_eq rfl) (by decide +kernel) (by rfl) fun pm L h₀ tk htk F => ?_
  refine r_ret ?_
  repeat' (first | with_reducible refine wpAny_BinOp ?_ | ((with_reducible refine r_int ?_)) | ((with_reducible show wpAny _ _ (eval (Expr.Name _ _) _) _ _ _); refine nmL (by assumption) (by first | rfl | assumption) ?_) | ((with_reducible refine r_band ?_)))
  exact ⟨_, _, rfl, Fm.keep (by assumption), _, rfl⟩

noncomputable def stmtAt (n j : Nat) : Stmt := (bodyAt n).getD j (.Pass default)
noncomputable def loopBody : Stmt → List Stmt
  | .For _ _ b _ _ => b
  | _ => []

set_option maxHeartbeats 4000000 in
theorem fm_inner {G : Heap} {L p ta : Addr} {m : Str → Option Value} {pm : Value} {tk : Nat} {mode : Int} {i : Nat} {t t' : Tok} {row : List (Int × Str)} {cs : Array Value} {N : Heap → Prop}
    (R : Rm 2 A) (B : Bas mg mb G) (X : FnAt G 38 37 2 .none) (hS : mg "S_IFMT" = some (.ref 38))
    (F : Fm G L m h) (hm : m "mode" = some (.int mode t)) (hp : m "perm" = some (.ref p)) (hi : m "index" = some (.int i t')) (ht : m "table" = some (.ref ta))
    (hrow : RowAt G (.ref ta) row) (hl : h.PlainList p cs) (pG : G.get? p = none) (hz : cs.size ≤ 20)
    (k : ∀ h' m' u, Fm G L m' h' → m' "mode" = some (.int mode t) → m' "perm" = some (.ref p) → h'.PlainList p (cs.push (.str (pick i mode row) u)) → Off2 L p h h' → N h') :
    wpAny (model prog w) A (execs (loopBody (stmtAt 23 1)) (callEnv (fnD 23 77 pm .none) L 78)) (fun f s' => f = .next ∧ ∃ h' tk', s' = st s h' tk' ∧ N h') (fun _ _ => False) (st s h tk) := by
  obtain ⟨ta', vs, e, htup, hpr⟩ := hrow
  cases e
  have hlen : vs.toArray.size = row.length := by have := paired_len hpr; simpa using this
  refine r_for ?_
  (((with_reducible show wpAny _ _ (eval (Expr.Name _ _) _) _ _ _); refine nmL (by assumption) (by first | rfl | assumption) ?_))
  refine r_iterT (isTup_stay htup F.keep) fun I h₁ hI hit st₁ htup₁ hne => ?_
  have hIL : L ≠ I := fun q => by obtain ⟨o, es, ep, e, _⟩ := F.ns; rw [q, hI] at e; cases e
  have hIp : p ≠ I := fun q => by obtain ⟨n, e⟩ := hl; rw [q, hI] at e; cases e
  have hIG : G.get? I = none := by
    cases e : G.get? I with
    | none => rfl
    | some o => have := F.keep _ _ e; rw [hI] at this; cases this
  refine ⟨N, fun _ _ => False, ?_, fun h' tk' hN => r_nil ⟨rfl, h', tk', rfl, hN⟩, fun _ _ _ f => f.elim⟩
  refine r_loop (KTurns.ofWalks (Walks.tuple R.hd I ta hne vs.toArray) fun i v s Q E st q => letGo_tupleiter st.1 q)
    (fun j h' => ∃ m', Fm G L m' h' ∧ m' "mode" = some (.int mode t) ∧ m' "perm" = some (.ref p) ∧ m' "index" = some (.int i t') ∧ h'.PlainList p cs ∧ Off2 L p h h' ∧ ∀ q ∈ row.take j, hits i mode q = false)
    N (fun _ _ => False) ?hJ ?turn ?fin ⟨hit, htup₁⟩ ⟨m, F.stay st₁, hm, hp, hi, hl.at fun o e => st₁ _ _ e, fun b o _ _ e => st₁ b o e, by simp⟩
  case hJ =>
    rintro j h₂ h₃ ⟨m', F', a1, a2, a3, a4, a5, a6⟩ hk
    refine ⟨m', ⟨F'.ns.at' fun o e => hk _ o (by simpa using hIL) e, fun b o e => hk b o (fun q => ?_) (F'.keep b o e), F'.fresh⟩, a1, a2, a3, a4.at fun o e => hk _ o (by simpa using hIp) e, fun b o n1 n2 e => hk b o (fun q => ?_) (a5 b o n1 n2 e), a6⟩
    · simp at q; rw [q, hIG] at e; cases e
    · simp at q; rw [q, hI] at e; cases e
  case fin =>
    rintro h₂ tk₂ ⟨m', F', a1, a2, a3, a4, a5, a6⟩
    have hpk : pick i mode row = if i = 0 then ("?" : Str) else ("-" : Str) := by
      have : row.find? (hits i mode) = none := by
        rw [List.find?_eq_none]
        intro q hq
        rw [a6 q (by rwa [hlen, List.take_length])]; simp
      unfold pick; rw [this]
    refine r_if ?_
    repeat' (first | ((with_reducible refine wpAny_isTrue_Compare1 ?_ ?mk); (case mk => with_unfolding_all rfl)) | ((with_reducible refine r_int ?_)) | ((with_reducible show wpAny _ _ (eval (Expr.Name _ _) _) _ _ _); refine nmL (by assumption) (by first | rfl | assumption) ?_) | with_reducible refine PyProof.Rows.eq_int ?_ | with_reducible refine wpAny_truthy_bool ?_ | ((with_reducible refine r_split ?_ ?_) <;> intro _))
    all_goals (refine r_expr (r_appendM ?_); (((with_reducible show wpAny _ _ (eval (Expr.Name _ _) _) _ _ _); refine nmL (by assumption) (by first | rfl | assumption) ?_)); refine ⟨p, cs, rfl, a4, ?_⟩; (((with_reducible refine r_str ?_))); refine r_append a4 (by (first | lia | omega)) fun h₃ hl₃ O₃ => ⟨rfl, ?_⟩)
    all_goals (repeat' (first | with_reducible refine r_nil ?_ | with_reducible refine then_next ?_))
    all_goals refine ⟨_, _, rfl, k _ m' (tk₂ + 1) (F'.off pG O₃ (ns_ne_list F'.ns a4)) a1 a2 ?_ (off2_off a5 O₃)⟩
    · rename_i hc'
      rw [hpk, if_pos (by simp at hc'; (first | lia | omega))]; exact hl₃
    · rename_i hc'
      rw [hpk, if_neg (by simp at hc'; (first | lia | omega))]; exact hl₃
  case turn =>
    rintro j v h₂ tk₂ hj hP hst ⟨m', F', a1, a2, a3, a4, a5, a6⟩
    obtain ⟨q, hq, hpq⟩ := paired_get hpr (show vs[j]? = some v by simpa using hP)
    obtain ⟨pa, tb, tc, rfl, htp⟩ := pairAt_stay F'.keep _ _ hpq
    refine r_unpack2 R.hd F' htp fun h₃ tk₃ F₃ O₃ => ?_
    have hp₃ : h₃.PlainList p cs := a4.at fun o e => O₃ _ o (ns_ne_list F'.ns a4) e
    have hI₃ : ∀ h₄, Stay h₃ h₄ → LoopPost [I, ta] (fun h' => ∃ m', Fm G L m' h' ∧ m' "mode" = some (.int mode t) ∧ m' "perm" = some (.ref p) ∧ m' "index" = some (.int i t') ∧ h'.PlainList p cs ∧ Off2 L p h h' ∧ ∀ q ∈ row.take (j + 1), hits i mode q = false)
        N (fun _ _ => False) h₂ .next h₄ ∨ hits i mode q = true := by
      intro h₄ S₄
      cases hh : hits i mode q with
      | true => exact .inr rfl
      | false =>
        refine .inl ⟨?_, _, F₃.stay S₄, a1, a2, a3, hp₃.at fun o e => S₄ _ o e, off2_stay (off2_offL a5 O₃) S₄, ?_⟩
        · intro b hb o e
          refine S₄ _ _ (O₃ b o (fun q => ?_) e)
          simp at hb
          rcases hb with rfl | rfl
          · exact hIL q.symm
          · rw [q] at htup
            obtain ⟨o, e, _⟩ := htup
            rw [F.fresh] at e; cases e
        · intro q' hq'
          rw [List.take_add_one, hq] at hq'
          rcases List.mem_append.mp hq' with x | x
          · exact a6 _ x
          · simp at x; rw [x]; exact hh
    have hN : ∀ h₄, hits i mode q = true → Stay h₃ h₄ → ∀ h₅, Off p h₄ h₅ → h₅.PlainList p (cs.push (.str q.2 tc)) → N h₅ := by
      intro h₄ hh S₄ h₅ O₅ hp₅
      have hpk : pick i mode row = q.2 := by
        have : row.find? (hits i mode) = some q := by
          rw [List.find?_eq_some_iff_append]
          refine ⟨hh, row.take j, row.drop (j + 1), ?_, fun a ha => by simpa using a6 a ha⟩
          have : j < row.length := by rw [← hlen]; exact hj
          rw [List.getElem?_eq_getElem this] at hq
          cases hq
          simp
        unfold pick; rw [this]
      have F₄ := F₃.stay S₄
      exact k h₅ _ tc (F₄.off pG O₅ (ns_ne_list F'.ns a4)) a1 a2 (by rw [hpk]; exact hp₅) (off2_off (off2_stay (off2_offL a5 O₃) S₄) O₅)
    refine r_if ?_
    (((with_reducible refine wpAny_isTrue_Compare1 ?_ ?mk); (case mk => with_unfolding_all rfl)))
    (((with_reducible show wpAny _ _ (eval (Expr.Name _ _) _) _ _ _); refine nmL (by assumption) (by first | rfl | assumption) ?_))
    (((with_reducible refine r_int ?_)))
    (with_reducible refine PyProof.Rows.eq_int ?_)
    (with_reducible refine wpAny_truthy_bool ?_)
    refine r_split (fun hc => ?_) (fun hc => ?_)
    · have hi0 : i = 0 := by simp at hc; (first | lia | omega)
      refine r_if ?_
      (((with_reducible refine wpAny_isTrue_Compare1 ?_ ?mk); (case mk => with_unfolding_all rfl)))
      (with_reducible refine r_call ?_)
      refine nmG (B.stay F₃.keep) hS ?_
      refine r_cwD (X.stay F₃.keep) (r_sp1 ?_)
      (((with_reducible show wpAny _ _ (eval (Expr.Name _ _) _) _ _ _); refine nmL (by assumption) (by first | rfl | assumption) ?_))
      refine r_sp0 ⟨Stay.refl _, ?_⟩
      refine (c_ifmt (R.less (by decide)) (B.stay F₃.keep) (X.stay F₃.keep)) _ _ _ fun v h₄ tk₄ S₄ hv => ?_
      obtain ⟨t₄, rfl⟩ := hv
      have F₄ := F₃.stay S₄
      (((with_reducible show wpAny _ _ (eval (Expr.Name _ _) _) _ _ _); refine nmL (by assumption) (by first | rfl | assumption) ?_))
      (with_reducible refine PyProof.Rows.eq_int ?_)
      (with_reducible refine wpAny_truthy_bool ?_)
      refine r_split (fun hc => ?_) (fun hc => ?_)
      · have hp₄ : h₄.PlainList p cs := hp₃.at fun o e => S₄ _ o e
        refine r_expr (r_appendM ?_)
        (((with_reducible show wpAny _ _ (eval (Expr.Name _ _) _) _ _ _); refine nmL (by assumption) (by first | rfl | assumption) ?_))
        refine ⟨p, cs, rfl, hp₄, ?_⟩
        (((with_reducible show wpAny _ _ (eval (Expr.Name _ _) _) _ _ _); refine nmL (by assumption) (by first | rfl | assumption) ?_))
        refine r_append hp₄ (by (first | lia | omega)) fun h₅ hp₅ O₅ => ⟨rfl, ?_⟩
        repeat' (first | with_reducible refine r_brk ?_ | with_reducible refine then_brk ?_)
        exact ⟨_, _, rfl, hN h₄ (by unfold hits; rw [if_pos hi0]; exact hc) S₄ h₅ O₅ hp₅⟩
      · repeat' (first | with_reducible refine r_nil ?_ | with_reducible refine then_next ?_)
        refine ⟨_, _, rfl, (hI₃ h₄ S₄).resolve_right fun hh => ?_⟩
        unfold hits at hh; rw [if_pos hi0] at hh; exact hc hh
    · have hi0 : ¬ i = 0 := by simp at hc; (first | lia | omega)
      refine r_if ?_
      repeat' (first | with_reducible refine r_nil ?_ | with_reducible refine then_next ?_ | with_reducible refine wpAny_BinOp ?_ | ((with_reducible refine wpAny_isTrue_Compare1 ?_ ?mk); (case mk => with_unfolding_all rfl)) | ((with_reducible show wpAny _ _ (eval (Expr.Name _ _) _) _ _ _); refine nmL (by assumption) (by first | rfl | assumption) ?_) | ((with_reducible refine r_band ?_)) | with_reducible refine PyProof.Rows.eq_int ?_ | with_reducible refine wpAny_truthy_bool ?_ | ((with_reducible refine r_split ?_ ?_) <;> intro _))
      · refine r_expr (r_appendM ?_)
        (((with_reducible show wpAny _ _ (eval (Expr.Name _ _) _) _ _ _); refine nmL (by assumption) (by first | rfl | assumption) ?_))
        refine ⟨p, cs, rfl, hp₃, ?_⟩
        (((with_reducible show wpAny _ _ (eval (Expr.Name _ _) _) _ _ _); refine nmL (by assumption) (by first | rfl | assumption) ?_))
        refine r_append hp₃ (by (first | lia | omega)) fun h₅ hp₅ O₅ => ⟨rfl, ?_⟩
        repeat' (first | with_reducible refine r_brk ?_ | with_reducible refine then_brk ?_)
        exact ⟨_, _, rfl, hN h₃ (by unfold hits; rw [if_neg hi0]; assumption) (Stay.refl _) h₅ O₅ hp₅⟩
      · refine ⟨_, _, rfl, (hI₃ h₃ (Stay.refl _)).resolve_right fun hh => ?_⟩
        unfold hits at hh; rw [if_neg hi0] at hh; contradiction
end
end Mine
end
section
open PySem PySem.W PySem.Calls PyProof.Rows
set_option Elab.async false
set_option maxRecDepth 100000
namespace Mine

theorem strsAre_push {a : List Value} {b : List Str} (x : StrsAre a b) (y : Str) (t : Tok) : StrsAre (a ++ [.str y t]) (b ++ [y]) := by
  induction x with
  | nil => exact .cons y t .nil
  | cons z u _ ih => exact .cons z u ih
noncomputable def picks (mode : Int) (T : List (List (Int × Str))) : List Str := T.mapIdx fun i r => pick i mode r
theorem picks_take {mode : Int} {T : List (List (Int × Str))} {j : Nat} {row : List (Int × Str)} (e : T[j]? = some row) : picks mode (T.take (j + 1)) = picks mode (T.take j) ++ [pick j mode row] := by
  have hj : j < T.length := by
    rcases Nat.lt_or_ge j T.length with h | h
    · exact h
    · rw [List.getElem?_eq_none h] at e; cases e
  unfold picks
  rw [List.take_add_one, e, Option.toList_some, List.mapIdx_concat, List.length_take, Nat.min_eq_left (Nat.le_of_lt hj)]

section
variable {prog : Program} {w : World} {A : Around} {s : Shared} {h : Heap} {mg mb : Str → Option Value}

theorem picks_len (mode : Int) (T : List (List (Int × Str))) : (picks mode T).length = T.length := by simp [picks]

set_option maxHeartbeats 4000000 in
theorem c_filemode {mode : Int} {t : Tok} {T : List (List (Int × Str))} (R : Rm 3 A) (B : Bas mg mb h) (X : FnAt h 78 77 23 .none) (XS : FnAt h 38 37 2 .none) (hS : mg "S_IFMT" = some (.ref 38))
    (hT : mg "_filemode_table" = some (.ref 71)) (hmE : mg "enumerate" = none) (hTab : TabAt h 71 T) (hTn : T.length ≤ 10) (hok : ∀ y ∈ picks mode T, y.length ≤ 10) :
    Gives prog w A (call (.ref 78) [.int mode t]) s h (fun v _ => ∃ t, v = .str (PySem.Builtin.Str.glued "" (picks mode T)) t) := by
  refine gives_def (binds := [("mode", .int mode t)]) (R.less (by decide)) B X (fun pm tk => BindsTo.of_eq rfl) (by decide +kernel) (by rfl) fun pm L h₀ tk htk F => ?_
  have R' : Rm 2 (A.deeper (callEnv (fnD 23 77 pm .none) L 78)) := R.deeper
  generalize hA' : A.deeper (callEnv (fnD 23 77 pm .none) L 78) = A' at *
  refine r_assign (r_list (r_sp0 (r_newList (by simp) fun p h₁ hp₁ hpl S₁ => ?_)))
  have F₁ := F.stay S₁
  have pG : h.get? p = none := by
    cases e : h.get? p with
    | none => rfl
    | some o => have := F.keep _ _ e; rw [hp₁] at this; cases this
  have hpL := ns_ne_list F₁.ns hpl
  refine stL F₁ fun h₂ tk₂ F₂ O₂ => ?_
  have hpl₂ : h₂.PlainList p #[] := hpl.at fun o e => O₂ _ o hpL e
  refine r_for ?_
  (with_reducible refine r_call ?_)
  refine nmB (B.stay F₂.keep) hmE rfl ?_
  refine r_cwT (r_sp1 (nmG (B.stay F₂.keep) hT (r_sp0 ?_)))
  obtain ⟨vs, htup, hpr⟩ := hTab
  have hlen : vs.toArray.size = T.length := by have := paired_len hpr; simpa using this
  refine call_enumerate_tuple (s := st s h₂ tk₂) (isTup_stay htup F₂.keep) fun h₃ hen hit hsz S₃ => ?_
  refine wpAny_pyIter_enum (s := st s h₃ tk₂) hen ?_
  generalize hI : (st s h₂ tk₂).heap.objs.size = I at *
  have hI₂ : h₂.get? I = none := Heap.get?_none_of_le (Nat.le_of_eq hI)
  have hJ₂ : h₂.get? (I + 1) = none := Heap.get?_none_of_le (by have : h₂.objs.size = I := hI; (first | lia | omega))
  have F₃ := F₂.stay S₃
  have hLI : L ≠ I := fun q => by obtain ⟨o, es, ep, e, _⟩ := F₂.ns; rw [q, hI₂] at e; cases e
  have hLJ : L ≠ I + 1 := fun q => by obtain ⟨o, es, ep, e, _⟩ := F₂.ns; rw [q, hJ₂] at e; cases e
  have hpI : p ≠ I := fun q => by obtain ⟨n, e⟩ := hpl₂; rw [q, hI₂] at e; cases e
  have hpJ : p ≠ I + 1 := fun q => by obtain ⟨n, e⟩ := hpl₂; rw [q, hJ₂] at e; cases e
  have hGI : ∀ b, h₂.get? b = none → h.get? b = none := fun b hb => by
    cases e : h.get? b with
    | none => rfl
    | some o => have := F₂.keep _ _ e; rw [hb] at this; cases this
  have h71 : ∃ o, h.get? 71 = some o := let ⟨o, e, _⟩ := htup; ⟨o, e⟩
  have n71 : ∀ b, h.get? b = none → (71 : Addr) ≠ b := fun b hb q => by obtain ⟨o, e⟩ := h71; rw [q, hb] at e; cases e
  refine ⟨fun h' => ∃ m' cs, Fm h L m' h' ∧ m' "perm" = some (.ref p) ∧ h'.PlainList p cs ∧ StrsAre cs.toList (picks mode T), fun _ _ => False, ?_, ?_, fun _ _ _ f => f.elim⟩
  · refine r_loop (KTurns.ofWalksU (WalksT.enumerateD (drawsTuple (A := A'.in1) R'.hd I 71 (n71 _ (hGI _ hI₂)) vs.toArray) (I + 1) (by simp) (by simp; exact fun q => n71 _ (hGI _ hJ₂) (congrArg Nat.succ q).symm) (by simp)).toU)
      (fun j h' => ∃ m' cs, Fm h L m' h' ∧ m' "mode" = some (.int mode t) ∧ m' "perm" = some (.ref p) ∧ h'.PlainList p cs ∧ cs.size ≤ j ∧ StrsAre cs.toList (picks mode (T.take j)))
      _ _ ?hJ ?turn ?fin ⟨⟨_, hen⟩, hit, isTup_stay htup F₃.keep⟩ ⟨_, #[], F₃, rfl, rfl, hpl₂.at fun o e => S₃ _ o e, by simp, .nil⟩
    case hJ =>
      rintro j h₄ h₅ ⟨m', cs, F', a1, a2, a3, a4, a5⟩ hk
      refine ⟨m', cs, ⟨F'.ns.at' fun o e => hk _ o (by simp; exact ⟨hLJ, hLI⟩) e, fun b o e => hk b o (fun q => ?_) (F'.keep b o e), F'.fresh⟩, a1, a2, a3.at fun o e => hk _ o (by simp; exact ⟨hpJ, hpI⟩) e, a4, a5⟩
      simp at q
      rcases q with q | q
      · rw [q, hGI _ hJ₂] at e; cases e
      · rw [q, hGI _ hI₂] at e; cases e
    case fin =>
      rintro h₄ tk₄ ⟨m', cs, F', a1, a2, a3, a4, a5⟩
      refine r_nil ⟨_, _, rfl, m', cs, F', a2, a3, ?_⟩
      rwa [hlen, List.take_length] at a5
    case turn =>
      rintro j v h₄ tk₄ hj ⟨TT, vals, rfl, ⟨u, x, hx, rfl⟩, hTT⟩ hst ⟨m', cs, F', a1, a2, a3, a4, a5⟩
      obtain ⟨row, hrow, hra⟩ := paired_get hpr (show vs[j]? = some x by simpa using hx)
      obtain ⟨ta, rv, rfl, hra1, hra2⟩ := id hra
      refine r_unpack2 R'.hd F' hTT fun h₅ tk₅ F₅ O₅ => ?_
      have hpl₅ : h₅.PlainList p cs := a3.at fun o e => O₅ _ o hpL e
      refine wpAny_mono (fm_inner (N := fun h' => ∃ m' u, Fm h L m' h' ∧ m' "mode" = some (.int mode t) ∧ m' "perm" = some (.ref p) ∧ h'.PlainList p (cs.push (.str (pick j mode row) u)) ∧ Off2 L p h₅ h') (R'.less (by decide)) B XS hS F₅ a1 a2 rfl rfl hra hpl₅ pG (by (first | lia | omega)) (fun h' m' u c1 c2 c3 c4 c5 => ⟨m', u, c1, c2, c3, c4, c5⟩)) (fun f s' q => ?_) fun _ _ e => e.elim
      obtain ⟨rfl, h₆, tk₆, rfl, m₆, u₆, c1, c2, c3, c4, c5⟩ := q
      refine ⟨h₆, tk₆, rfl, fun b hb o e => ?_, m₆, _, c1, c2, c3, c4, by simp; (first | lia | omega), ?_⟩
      · have nL : b ≠ L := by
          rintro rfl
          simp at hb
          rcases hb with q | q | q
          · exact hLJ q
          · exact hLI q
          · exact n71 _ F.fresh q.symm
        have np : b ≠ p := by
          rintro rfl
          simp at hb
          rcases hb with q | q | q
          · exact hpJ q
          · exact hpI q
          · exact n71 _ pG q.symm
        exact c5 b o nL np (O₅ b o nL e)
      · rw [picks_take hrow, Array.toList_push]
        exact strsAre_push a5 _ _
  · rintro h₆ tk₆ ⟨m', cs, F', a2, a3, a5⟩
    refine r_ret (r_meth PySem.F.plainAttrs_str PySem.F.slot_str_join PySem.F.type_str_join (r_str ⟨typeIs_str _ _ _, fun a e => (by cases e), r_cwB (r_sp1 (nmL F' a2 (r_sp0 ?_)))⟩))
    have hsum : ∀ l : List Str, (∀ y ∈ l, y.length ≤ 10) → (l.map (·.length)).sum ≤ l.length * 10 := by
      intro l
      induction l with
      | nil => simp
      | cons a l ih => intro hl; have := ih fun y hy => hl y (by simp [hy]); have := hl a (by simp); simp; (first | lia | omega)
    refine join_list (s := st s h₆ (tk₆ + 1)) a3.isList a5 ?_ fun t' k' => ?_
    · have := hsum _ hok; rw [picks_len] at *; rw [show (Str.ofString "").length = 0 from rfl]; (first | lia | omega)
    · exact ⟨h₆, k', rfl, F'.keep, t', rfl⟩
end
end Mine
end
section
open PySem PySem.Sre
set_option Elab.async false
set_option maxRecDepth 100000
namespace Mine

inductive Ends (P : Sre.M → Prop) : Nat → Sre.M → Prop
  | done {k : Nat} {m : Sre.M} : m.outcome.isSome = true → P m → Ends P k m
  | step {k : Nat} {m : Sre.M} : Ends P k m.step → Ends P (k + 1) m

theorem step_done {m : Sre.M} (h : m.outcome.isSome = true) : m.step = m := by unfold Sre.M.step; rw [if_pos h]
theorem Ends.more {P : Sre.M → Prop} {k j : Nat} {m : Sre.M} (e : Ends P k m) (h : k ≤ j) : Ends P j m := by
  induction e generalizing j with
  | done a b => exact .done a b
  | step _ ih =>
    obtain ⟨j, rfl⟩ : ∃ i, j = i + 1 := ⟨j - 1, by (first | lia | omega)⟩
    exact .step (ih (by (first | lia | omega)))
theorem Ends.fin {P : Sre.M → Prop} {k : Nat} {m : Sre.M} (e : Ends P k m) (h : m.outcome.isSome = true) : P m := by
  induction e with
  | done _ b => exact b
  | step _ ih => rw [step_done h] at ih; exact ih h
theorem Ends.run {P : Sre.M → Prop} {k : Nat} {m : Sre.M} (e : Ends P k m) (n : Nat) : Ends P (k - n) (Sre.M.runFor n m) := by
  induction n generalizing k m with
  | zero => exact e
  | succ n ih =>
    show Ends P _ (if m.outcome.isSome then m else Sre.M.runFor n m.step)
    cases h : m.outcome.isSome with
    | true => exact .done h (e.fin h)
    | false =>
      cases e with
      | done a _ => rw [a] at h; cases h
      | step e => have := ih e; rw [show _ + 1 - (n + 1) = _ - n from Nat.add_sub_add_right ..]; exact this

section
variable {prog : Program} {w : World} {A : Around} {E : Value → Shared → Prop} {s : Shared}
theorem wp_drive {P : Sre.M → Prop} {Q : Sre.M → Shared → Prop} : ∀ (turns : Nat) {k : Nat} {m : Sre.M}, Ends P k m → k < 4 * turns → (∀ m', m'.outcome.isSome = true → P m' → Q m' s) →
    wpAny (model prog w) A (Builtin.Re.reDrive turns m) Q E s
  | 0, _, _, _, h, _ => by (first | lia | omega)
  | turns + 1, k, m, e, h, q => by
    unfold Builtin.Re.reDrive
    have e' := e.run Builtin.Re.reTurnSteps
    show wpAny _ _ (if ((m.runFor Builtin.Re.reTurnSteps).outcome.isSome) = true then pure (m.runFor Builtin.Re.reTurnSteps) else do rule "sre.turn"; Builtin.Re.reDrive turns (m.runFor Builtin.Re.reTurnSteps)) _ _ _
    by_cases hd : (m.runFor Builtin.Re.reTurnSteps).outcome.isSome = true
    · rw [if_pos hd]; exact wpAny_pure (q _ hd (e'.fin hd))
    · rw [if_neg hd]
      refine wpAny_bind (wpAny_rule ?_)
      refine wp_drive turns e' ?_ q
      rcases Nat.eq_zero_or_pos (k - Builtin.Re.reTurnSteps) with h0 | h0
      · rw [h0] at e'
        cases e' with
        | done a _ => exact absurd a hd
      · have : Builtin.Re.reTurnSteps = 4 := rfl
        (first | lia | omega)

theorem wp_seen {α : Type} (f : α → Bool) (g : α → String) {Q : PUnit → Shared → Prop} (q : Q () s) : ∀ l : List α,
    wpAny (model prog w) A (forIn l PUnit.unit (fun i _ => (if f i = true then (do rule (g i); pure (ForInStep.yield PUnit.unit)) else pure (ForInStep.yield PUnit.unit) : Sem (ForInStep PUnit)))) Q E s
  | [] => by rw [List.forIn_nil]; exact wpAny_pure q
  | a :: l => by
    rw [List.forIn_cons]
    refine wpAny_bind ?_
    by_cases h : f a = true
    · rw [if_pos h]; exact wpAny_bind (wpAny_rule (wpAny_pure (wp_seen f g q l)))
    · rw [if_neg h]; exact wpAny_pure (wp_seen f g q l)

noncomputable def Found (P : Option (Nat × Nat)) (m : Sre.M) : Prop := match m.outcome with
  | some .matched => P = some (m.start, m.handed)
  | some .failed => P = none
  | _ => False

theorem wp_runToEnd {o : Option (Nat × Nat)} {k : Nat} {m : Sre.M} {Q : Option Sre.M → Shared → Prop} (e : Ends (Found o) k m) (hk : k < 1000000000)
    (hn : o = none → Q none s) (hs : ∀ m', o = some (m'.start, m'.handed) → Q (some m') s) : wpAny (model prog w) A (Builtin.Re.reRunToEnd m) Q E s := by
  unfold Builtin.Re.reRunToEnd
  refine wpAny_bind (wp_drive (2 ^ 64) e (by (first | lia | omega)) fun m' hd hp => ?_)
  refine wpAny_bind ?_
  refine wpAny_mono (wp_seen (fun i => m'.seen.has i) (fun i => Sre.names.getD i "") (Q := fun _ s' => s' = s) rfl _) (fun _ s' q => ?_) fun _ _ e => e
  subst q
  unfold Found at hp
  cases ho : m'.outcome with
  | none => rw [ho] at hd; cases hd
  | some oc =>
    rw [ho] at hp
    cases oc with
    | matched => exact wpAny_pure (hs m' hp)
    | failed => exact wpAny_pure (hn hp)
    | stuck _ => exact hp.elim
end
end Mine
end
section
open PySem PySem.Sre
set_option Elab.async false
set_option maxRecDepth 100000
namespace Mine

noncomputable def codeDot : Array Nat := #[14, 4, 0, 1, 1, 6, 1, 16, 46, 1]
noncomputable def codeEnd : Array Nat := #[14, 9, 4, 1, 2, 16, 10, 16, 13, 0, 7, 7, 16, 13, 16, 10, 15, 18, 5, 16, 10, 15, 13, 11, 16, 13, 5, 5, 0, 16, 10, 1, 15, 2, 0, 1]

noncomputable def findFrom (p : Nat → Option Nat) : Nat → Nat → Option (Nat × Nat)
  | 0, _ => none
  | f + 1, s => match p s with
    | some e => some (s, e)
    | none => findFrom p f (s + 1)

noncomputable def dotAt (x : Array Nat) (s : Nat) : Option Nat := if (s = 0 ∨ x[s - 1]?.getD 0 = 10) ∧ s < x.size ∧ x[s]?.getD 0 = 46 then some (s + 1) else none

theorem ends_no {P : Sre.M → Prop} {m : Sre.M} (ho : m.outcome = none) (ha : m.answer = some false) (hf : m.frames = []) (h : ∀ m', m'.outcome = some .failed → P m') : Ends P 1 m := by
  refine .step (.done ?_ ?_)
  · unfold Sre.M.step; rw [ho, ha, hf]; rfl
  · refine h _ ?_; unfold Sre.M.step; rw [ho, ha, hf]; rfl
theorem found_none {m : Sre.M} (h : m.outcome = some .failed) : Found none m := by unfold Found; rw [h]

theorem Ends.to {P : Sre.M → Prop} {k : Nat} {m m' : Sre.M} (h : m.step = m') (e : Ends P k m') : Ends P (k + 1) m := .step (h ▸ e)
/-- the machine of the first pattern -/
noncomputable def dF (s : Nat) (o : Bool) : Sre.Frame := { wait := .nextStart, pc := 5, pos := s, outermost := o }
noncomputable def U (x : Array Nat) (s pc pos hd : Nat) (o : Bool) (fr : List Sre.Frame) (w : Nat) (ans : Option Bool) (sn : Sre.Seen) : Sre.M :=
  { code := codeDot, text := x, lim := x.size, start := s, lastStart := x.size, pc := pc, pos := pos, handed := hd, outermost := o, marks := #[], frames := fr, weight := w, answer := ans, seen := sn }
section
variable (x : Array Nat) (s pos hd : Nat) (o : Bool) (fr : List Sre.Frame) (w : Nat) (sn : Sre.Seen)
theorem u5 : (U x s 5 pos hd o fr w none sn).step = match (pos == 0 || x.getD (pos - 1) 0 == 10) with
    | true => U x s 7 pos hd o fr w none ((sn.add 6).add 44)
    | false => U x s 5 pos hd o fr w (some false) ((sn.add 6).add 44) := by
  cases h : (pos == 0 || x.getD (pos - 1) 0 == 10) with
  | true =>
    have e : (U x s 5 pos hd o fr w none sn).step = if (pos == 0 || x.getD (pos - 1) 0 == 10) = true then U x s 7 pos hd o fr w none ((sn.add 6).add 44) else U x s 5 pos hd o fr w (some false) ((sn.add 6).add 44) := by kernel_rfl
    rw [e, if_pos h]
  | false =>
    have e : (U x s 5 pos hd o fr w none sn).step = if (pos == 0 || x.getD (pos - 1) 0 == 10) = true then U x s 7 pos hd o fr w none ((sn.add 6).add 44) else U x s 5 pos hd o fr w (some false) ((sn.add 6).add 44) := by kernel_rfl
    rw [e, if_neg (by rw [h]; decide)]
theorem u7 : (U x s 7 pos hd o fr w none sn).step = if pos ≥ x.size then U x s 7 pos hd o fr w (some false) (sn.add 16) else (match (x.getD pos 0 == 46) with
    | false => U x s 7 pos hd o fr w (some false) (sn.add 16)
    | true => U x s 9 (pos + 1) hd o fr w none (sn.add 16)) := by kernel_rfl
theorem u9 : (U x s 9 pos hd o fr w none sn).step = U x s 9 pos pos o fr w (some true) (sn.add 1) := by
  cases o <;> kernel_rfl
theorem u_yes (pc : Nat) (f : Bool) : (U x s pc pos hd o [dF s f] 1 (some true) sn).step = U x s 5 s hd f [] 0 (some true) sn := by kernel_rfl
theorem u_end (pc : Nat) : (U x s pc pos hd o [] 0 (some true) sn).step = { U x s pc pos hd o [] 0 (some true) sn with outcome := some .matched } := by kernel_rfl
theorem u_no (pc : Nat) (f : Bool) : (U x s pc pos hd o [dF s f] 1 (some false) sn).step = if s < x.size then U x (s + 1) 5 (s + 1) (s + 1) false [dF (s + 1) false] 1 none sn else U x s 5 s hd f [] 0 (some false) sn := by kernel_rfl
end
theorem getD_at (x : Array Nat) (i : Nat) : x.getD i 0 = x[i]?.getD 0 := by simp
theorem dots_from (x : Array Nat) : ∀ (f s hd : Nat) (first : Bool) (sn : Sre.Seen), f = x.size + 1 - s → s ≤ x.size → Ends (Found (findFrom (dotAt x) f s)) (6 * f + 6) (U x s 5 s hd first [dF s first] 1 none sn) := by
  intro f
  induction f with
  | zero => intro s hd first sn h1 h2; (first | lia | omega)
  | succ f ih =>
    intro s hd first sn h1 h2
    have fail : dotAt x s = none → ∀ pc pos hd o sn, Ends (Found (findFrom (dotAt x) (f + 1) s)) (6 * f + 6 + 1) (U x s pc pos hd o [dF s first] 1 (some false) sn) := by
      intro hn pc pos hd o sn
      have e : findFrom (dotAt x) (f + 1) s = findFrom (dotAt x) f (s + 1) := by simp only [findFrom, hn]
      rw [e]
      refine .to (u_no x s pos hd o sn pc first) ?_
      by_cases hs : s < x.size
      · rw [if_pos hs]
        exact ih (s + 1) _ false sn (by (first | lia | omega)) (by (first | lia | omega))
      · rw [if_neg hs]
        have : f = 0 := by (first | lia | omega)
        subst this
        exact (ends_no rfl rfl rfl fun m' h => found_none h).more (by (first | lia | omega))
    rw [show 6 * (f + 1) + 6 = 6 * f + 6 + 5 + 1 by (first | lia | omega)]
    refine .to (u5 x s s hd first [dF s first] 1 sn) ?_
    cases hb : (s == 0 || x.getD (s - 1) 0 == 10) with
    | false =>
      have hb' : ¬ (s = 0 ∨ x[s - 1]?.getD 0 = 10) := fun q => by
        rw [← getD_at] at q
        rcases q with q | q
        · rw [q] at hb; cases hb
        · rw [q] at hb; simp at hb
      exact (fail (by unfold dotAt; rw [if_neg (fun q => hb' q.1)]) _ _ _ _ _).more (by (first | lia | omega))
    | true =>
      have hb' : s = 0 ∨ x[s - 1]?.getD 0 = 10 := by
        rw [← getD_at]
        simpa using hb
      refine .to (u7 x s s hd first [dF s first] 1 _) ?_
      by_cases hs : s < x.size
      · rw [if_neg (by (first | lia | omega))]
        cases hx : (x.getD s 0 == 46) with
        | true =>
          have hx' : x[s]?.getD 0 = 46 := by rw [← getD_at]; simpa using hx
          have e : findFrom (dotAt x) (f + 1) s = some (s, s + 1) := by simp only [findFrom]; unfold dotAt; rw [if_pos ⟨hb', hs, hx'⟩]
          rw [e]
          refine Ends.more (k := 4) ?_ (by (first | lia | omega))
          refine .to (u9 ..) (.to (u_yes ..) (.to (u_end ..) (.done rfl rfl)))
        | false =>
          have hx' : ¬ x[s]?.getD 0 = 46 := fun q => by rw [← getD_at] at q; rw [q] at hx; cases hx
          exact (fail (by unfold dotAt; rw [if_neg (fun q => hx' q.2.2)]) _ _ _ _ _).more (by (first | lia | omega))
      · rw [if_pos (by (first | lia | omega))]
        exact (fail (by unfold dotAt; rw [if_neg (fun q => hs q.2.1)]) _ _ _ _ _).more (by (first | lia | omega))

theorem search_dot (x : Array Nat) (s : Nat) : Sre.forSearch codeDot x 0 s x.size false = if s > x.size ∨ x.size - s < 1 then (Sre.M.say { code := codeDot, text := x, lim := x.size, start := s, pc := 5, pos := s, handed := s, marks := #[], seen := ({} : Sre.Seen).add 14 } false) else U x s 5 s s true [dF s true] 1 none (({} : Sre.Seen).add 14) := by
  by_cases h : s > x.size ∨ x.size - s < 1
  · rw [if_pos h]
    unfold Sre.forSearch
    rw [if_pos (by have e : (Sre.header codeDot).1 = 1 := rfl
                   simp only [e]; simpa using h)]
    rfl
  · rw [if_neg h]
    unfold Sre.forSearch
    rw [if_neg (by have e : (Sre.header codeDot).1 = 1 := rfl
                   simp only [e]; simpa using h)]
    rfl
theorem dots_search (x : Array Nat) (s : Nat) : Ends (Found (findFrom (dotAt x) (x.size + 1 - s) s)) (6 * x.size + 20) (Sre.forSearch codeDot x 0 s x.size false) := by
  rw [search_dot]
  by_cases h : s < x.size
  · rw [if_neg (by (first | lia | omega))]
    exact (dots_from x (x.size + 1 - s) s s true _ rfl (by (first | lia | omega))).more (by (first | lia | omega))
  · rw [if_pos (by (first | lia | omega))]
    have e : findFrom (dotAt x) (x.size + 1 - s) s = none := by
      have hn : dotAt x s = none := by unfold dotAt; rw [if_neg (fun q => h q.2.1)]
      rcases Nat.lt_or_ge x.size s with h' | h'
      · rw [show x.size + 1 - s = 0 by (first | lia | omega)]; rfl
      · rw [show x.size + 1 - s = 0 + 1 by (first | lia | omega)]; simp only [findFrom, hn]
    rw [e]
    exact (ends_no rfl rfl rfl fun m' h => found_none h).more (by (first | lia | omega))
end Mine
end
section
open PySem PySem.Sre
set_option Elab.async false
set_option maxRecDepth 100000
set_option linter.unusedSimpArgs false
namespace Mine

noncomputable def endAt (x : Array Nat) (s : Nat) : Option Nat := if s < x.size then if x[s]?.getD 0 = 10 then some (s + 1) else if x[s]?.getD 0 = 13 then if s + 1 < x.size ∧ x[s + 1]?.getD 0 = 10 then some (s + 2) else some (s + 1) else none else none


/-- the machine of the second pattern -/
noncomputable def eF (a : Nat) : Sre.Frame := { wait := .nextStart, pc := 10, pos := a, outermost := true }
noncomputable def bF (a alt : Nat) : Sre.Frame := { wait := .nextBranch, pc := alt, pos := a, outermost := true }
noncomputable def nF (p : Nat) : Sre.Frame := { wait := .lookNot, pc := 26, pos := p, outermost := true }
noncomputable def V (x : Array Nat) (a pc pos hd : Nat) (o : Bool) (fr : List Sre.Frame) (w : Nat) (ans : Option Bool) (sn : Sre.Seen) : Sre.M :=
  { code := codeEnd, text := x, lim := x.size, start := a, lastStart := x.size, pc := pc, pos := pos, handed := hd, outermost := o, marks := #[], frames := fr, weight := w, answer := ans, seen := sn }
section
variable (x : Array Nat) (a pos hd : Nat) (o : Bool) (fr : List Sre.Frame) (w : Nat) (sn : Sre.Seen)
theorem v10 : (V x a 10 a hd true [eF a] 1 none sn).step = V x a 12 a a true [bF a 11, eF a] 2 none (sn.add 7) := by kernel_rfl
theorem v12 : (V x a 12 pos hd o fr w none sn).step = if pos ≥ x.size then V x a 12 pos hd o fr w (some false) (sn.add 16) else (match (x.getD pos 0 == 13) with
    | false => V x a 12 pos hd o fr w (some false) (sn.add 16) | true => V x a 14 (pos + 1) hd o fr w none (sn.add 16)) := by kernel_rfl
theorem v14 : (V x a 14 pos hd o fr w none sn).step = if pos ≥ x.size then V x a 14 pos hd o fr w (some false) (sn.add 16) else (match (x.getD pos 0 == 10) with
    | false => V x a 14 pos hd o fr w (some false) (sn.add 16) | true => V x a 16 (pos + 1) hd o fr w none (sn.add 16)) := by kernel_rfl
theorem v19 : (V x a 19 pos hd o fr w none sn).step = if pos ≥ x.size then V x a 19 pos hd o fr w (some false) (sn.add 16) else (match (x.getD pos 0 == 10) with
    | false => V x a 19 pos hd o fr w (some false) (sn.add 16) | true => V x a 21 (pos + 1) hd o fr w none (sn.add 16)) := by kernel_rfl
theorem v24 : (V x a 24 pos hd o fr w none sn).step = if pos ≥ x.size then V x a 24 pos hd o fr w (some false) (sn.add 16) else (match (x.getD pos 0 == 13) with
    | false => V x a 24 pos hd o fr w (some false) (sn.add 16) | true => V x a 26 (pos + 1) hd o fr w none (sn.add 16)) := by kernel_rfl
theorem v29 : (V x a 29 pos hd o fr w none sn).step = if pos ≥ x.size then V x a 29 pos hd o fr w (some false) (sn.add 16) else (match (x.getD pos 0 == 10) with
    | false => V x a 29 pos hd o fr w (some false) (sn.add 16) | true => V x a 31 (pos + 1) hd o fr w none (sn.add 16)) := by kernel_rfl
theorem v16 : (V x a 16 pos hd o fr w none sn).step = V x a 35 pos hd o fr w none (sn.add 15) := by kernel_rfl
theorem v21 : (V x a 21 pos hd o fr w none sn).step = V x a 35 pos hd o fr w none (sn.add 15) := by kernel_rfl
theorem v32 : (V x a 32 pos hd o fr w none sn).step = V x a 35 pos hd o fr w none (sn.add 15) := by kernel_rfl
theorem v35 : (V x a 35 pos hd o fr w none sn).step = V x a 35 pos pos o fr w (some true) (sn.add 1) := by cases o <;> kernel_rfl
theorem v26 : (V x a 26 (pos + 1) hd true [bF a 23, eF a] 2 none sn).step = V x a 29 (pos + 1) (pos + 1) false [nF (pos + 1), bF a 23, eF a] 3 none (sn.add 5) := by kernel_rfl
theorem v_look (pc p : Nat) : (V x a pc p hd o [nF pos, bF a 23, eF a] 3 (some false) sn).step = V x a 32 pos hd true [bF a 23, eF a] 2 none sn := by kernel_rfl
theorem v_alt1 (pc : Nat) : (V x a pc pos hd o [bF a 11, eF a] 2 (some false) sn).step = V x a 19 a a true [bF a 18, eF a] 2 none sn := by kernel_rfl
theorem v_alt2 (pc : Nat) : (V x a pc pos hd o [bF a 18, eF a] 2 (some false) sn).step = V x a 24 a a true [bF a 23, eF a] 2 none sn := by kernel_rfl
theorem v_yes1 (pc alt : Nat) : (V x a pc pos hd o [bF a alt, eF a] 2 (some true) sn).step = V x a alt a hd true [eF a] 1 (some true) sn := by kernel_rfl
theorem v_yes2 (pc : Nat) : (V x a pc pos hd o [eF a] 1 (some true) sn).step = V x a 10 a hd true [] 0 (some true) sn := by kernel_rfl
theorem v_end (pc : Nat) : (V x a pc pos hd o [] 0 (some true) sn).step = { V x a pc pos hd o [] 0 (some true) sn with outcome := some .matched } := by kernel_rfl
theorem v_fin (alt : Nat) : Ends (Found (some (a, pos))) 4 (V x a 35 pos hd o [bF a alt, eF a] 2 none sn) :=
  .to (v35 ..) (.to (v_yes1 ..) (.to (v_yes2 ..) (.to (v_end ..) (.done rfl rfl))))
end
theorem ne13 {c : Nat} (h : c = 10) : (c == 13) = false := by subst h; rfl
theorem ne10 {c : Nat} (h : c = 13) : (c == 10) = false := by subst h; rfl
theorem end_hit (x : Array Nat) (a e : Nat) (sn : Sre.Seen) (he : endAt x a = some e) : Ends (Found (some (a, e))) 40 (V x a 10 a a true [eF a] 1 none sn) := by
  unfold endAt at he
  by_cases hs : a < x.size
  · rw [if_pos hs, ← getD_at] at he
    have hs' : ¬ a ≥ x.size := by (first | lia | omega)
    refine Ends.more (k := 30) ?_ (by decide)
    refine .to (v10 ..) (.to (v12 ..) ?_)
    rw [if_neg hs']
    by_cases h10 : x.getD a 0 = 10
    · rw [if_pos h10] at he
      cases he
      rw [ne13 h10]
      refine .to (v_alt1 ..) (.to (v19 ..) ?_)
      rw [if_neg hs', h10]
      exact .to (v21 ..) ((v_fin ..).more (by decide))
    · rw [if_neg h10] at he
      by_cases h13 : x.getD a 0 = 13
      · rw [if_pos h13] at he
        rw [h13]
        show Ends _ _ (V x a 14 _ _ _ _ _ _ _)
        have alt3 : (a + 1 < x.size → x.getD (a + 1) 0 ≠ 10) → ∀ pc pos hd sn, Ends (Found (some (a, a + 1))) 20 (V x a pc pos hd true [bF a 11, eF a] 2 (some false) sn) := by
          intro hn pc pos hd sn
          refine .to (v_alt1 ..) (.to (v19 ..) ?_)
          rw [if_neg hs', ne10 h13]
          refine .to (v_alt2 ..) (.to (v24 ..) ?_)
          rw [if_neg hs', h13]
          refine .to (v26 ..) (.to (v29 ..) ?_)
          by_cases h1 : a + 1 < x.size
          · have hb : (x.getD (a + 1) 0 == 10) = false := by simpa using hn h1
            rw [if_neg (by (first | lia | omega)), hb]
            exact .to (v_look ..) (.to (v32 ..) ((v_fin ..).more (by decide)))
          · rw [if_pos (by (first | lia | omega))]
            exact .to (v_look ..) (.to (v32 ..) ((v_fin ..).more (by decide)))
        refine .to (v14 ..) ?_
        by_cases hn : a + 1 < x.size ∧ x[a + 1]?.getD 0 = 10
        · rw [if_pos hn] at he
          cases he
          rw [← getD_at] at hn
          rw [if_neg (by (first | lia | omega)), hn.2]
          exact .to (v16 ..) ((v_fin ..).more (by decide))
        · rw [if_neg hn] at he
          cases he
          rw [← getD_at] at hn
          have hn' : a + 1 < x.size → x.getD (a + 1) 0 ≠ 10 := fun q z => hn ⟨q, z⟩
          by_cases h1 : a + 1 < x.size
          · have hb : (x.getD (a + 1) 0 == 10) = false := by simpa using hn' h1
            rw [if_neg (by (first | lia | omega)), hb]
            exact (alt3 hn' ..).more (by decide)
          · rw [if_pos (by (first | lia | omega))]
            exact (alt3 hn' ..).more (by decide)
      · rw [if_neg h13] at he; cases he
  · rw [if_neg hs] at he; cases he

theorem inSet_end (c : Nat) (seen : Sre.Seen) : ∃ seen', Sre.inSet codeEnd c codeEnd.size 5 true seen = .ok (decide (c = 10 ∨ c = 13), seen') := by
  have e : Sre.inSet codeEnd c codeEnd.size 5 true seen = if (c == 10) = true then .ok (true, seen.add 16) else if (c == 13) = true then .ok (true, (seen.add 16).add 16) else .ok (false, ((seen.add 16).add 16).add 0) := by kernel_rfl
  rw [e]
  by_cases h : c = 10
  · subst h; exact ⟨_, rfl⟩
  · by_cases h' : c = 13
    · subst h'; exact ⟨_, rfl⟩
    · have e1 : (c == 10) = false := by simpa using h
      have e2 : (c == 13) = false := by simpa using h'
      rw [e1, e2, decide_eq_false (by intro q; rcases q with q | q; exact h q; exact h' q)]
      exact ⟨_, rfl⟩

theorem findFrom_isSome {p : Nat → Option Nat} : ∀ {f s a e : Nat}, findFrom p f s = some (a, e) → p a = some e ∧ s ≤ a ∧ a < s + f ∧ ∀ i, s ≤ i → i < a → p i = none
  | 0, _, _, _, h => by cases h
  | f + 1, s, a, e, h => by
    simp only [findFrom] at h
    cases hp : p s with
    | some e' => rw [hp] at h; simp at h; obtain ⟨rfl, rfl⟩ := h; exact ⟨hp, Nat.le_refl _, by (first | lia | omega), fun i h1 h2 => by (first | lia | omega)⟩
    | none =>
      rw [hp] at h
      obtain ⟨h1, h2, h3, h4⟩ := findFrom_isSome h
      exact ⟨h1, by (first | lia | omega), by (first | lia | omega), fun i hi1 hi2 => by
        rcases Nat.eq_or_lt_of_le hi1 with rfl | hi
        · exact hp
        · exact h4 i hi hi2⟩
theorem findFrom_isNone {p : Nat → Option Nat} : ∀ {f s : Nat}, findFrom p f s = none → ∀ i, s ≤ i → i < s + f → p i = none
  | 0, _, _, i, h1, h2 => by (first | lia | omega)
  | f + 1, s, h, i, h1, h2 => by
    simp only [findFrom] at h
    cases hp : p s with
    | some e' => rw [hp] at h; cases h
    | none =>
      rw [hp] at h
      rcases Nat.eq_or_lt_of_le h1 with rfl | hi
      · exact hp
      · exact findFrom_isNone h i hi (by (first | lia | omega))

theorem endAt_none {x : Array Nat} {s : Nat} : endAt x s = none ↔ ¬ (s < x.size ∧ (x.getD s 0 = 10 ∨ x.getD s 0 = 13)) := by
  unfold endAt
  by_cases h : s < x.size
  · simp [h]
    by_cases h1 : x[s] = 10
    · simp [h1]
    · by_cases h2 : x[s] = 13
      · simp [h2]; split <;> simp
      · simp [h1, h2]
  · simp [h]

theorem admitted_end {m : Sre.M} (hc : m.code = codeEnd) (hl : m.lim = m.text.size) : ∀ (f s : Nat) (seen : Sre.Seen), ∃ seen', Sre.M.admitted m f s seen = .ok ((findFrom (endAt m.text) f s).map (·.1), seen')
  | 0, s, seen => ⟨seen, rfl⟩
  | f + 1, s, seen => by
    unfold Sre.M.admitted
    rw [hl, hc]
    by_cases h : s ≥ m.text.size
    · rw [if_pos h]
      refine ⟨seen, ?_⟩
      have : findFrom (endAt m.text) (f + 1) s = none := by
        cases hf : findFrom (endAt m.text) (f + 1) s with
        | none => rfl
        | some p =>
          obtain ⟨a, e⟩ := p
          obtain ⟨h1, h2, h3, h4⟩ := findFrom_isSome hf
          have : endAt m.text a = none := by rw [endAt_none]; intro q; (first | lia | omega)
          rw [this] at h1; cases h1
      rw [this]; rfl
    · rw [if_neg h]
      obtain ⟨seen1, e1⟩ := inSet_end (m.text.getD s 0) seen
      rw [e1]
      by_cases hh : m.text.getD s 0 = 10 ∨ m.text.getD s 0 = 13
      · rw [decide_eq_true hh]
        refine ⟨seen1, ?_⟩
        cases he : endAt m.text s with
        | none => rw [endAt_none] at he; exact absurd ⟨by (first | lia | omega), hh⟩ he
        | some e => simp only [findFrom, he]; rfl
      · rw [decide_eq_false hh]
        have he : endAt m.text s = none := by rw [endAt_none]; exact fun q => hh q.2
        obtain ⟨seen2, e2⟩ := admitted_end hc hl f (s + 1) seen1
        exact ⟨seen2, by simp only [findFrom, he]; exact e2⟩

noncomputable def M0 (x : Array Nat) (s : Nat) : Sre.M := { code := codeEnd, text := x, lim := x.size, start := s, lastStart := x.size, pc := 10, pos := s, handed := s, marks := #[], seen := ({} : Sre.Seen).add 14 }
theorem from_eq (x : Array Nat) (s : Nat) : (M0 x s).attemptFrom s true = match Sre.M.admitted (M0 x s) (x.size + 1 - s) s (({} : Sre.Seen).add 14) with
    | .ok (some a, seen) => V x a 10 a a true [eF a] 1 none seen
    | .ok (none, seen) => { M0 x s with seen := seen }.say false
    | .error why => (M0 x s).stick why := by kernel_rfl
theorem ends_search (x : Array Nat) (s : Nat) : Ends (Found (findFrom (endAt x) (x.size + 1 - s) s)) (6 * x.size + 50) (Sre.forSearch codeEnd x 0 s x.size false) := by
  by_cases h : s < x.size
  · unfold Sre.forSearch
    rw [if_neg]
    · show Ends _ _ ((M0 x s).attemptFrom s true)
      obtain ⟨seen', e⟩ := admitted_end (m := M0 x s) rfl rfl (x.size + 1 - s) s (({} : Sre.Seen).add 14)
      have e : Sre.M.admitted (M0 x s) (x.size + 1 - s) s (({} : Sre.Seen).add 14) = .ok ((findFrom (endAt x) (x.size + 1 - s) s).map (·.1), seen') := e
      rw [from_eq, e]
      cases hf : findFrom (endAt x) (x.size + 1 - s) s with
      | none => exact (ends_no rfl rfl rfl fun m' h => found_none h).more (by (first | lia | omega))
      | some p =>
        obtain ⟨a, e⟩ := p
        exact (end_hit x a e _ (findFrom_isSome hf).1).more (by (first | lia | omega))
    · have e : (Sre.header codeEnd).1 = 1 := rfl
      simp only [e]
      simp; (first | lia | omega)
  · have e : findFrom (endAt x) (x.size + 1 - s) s = none := by
      have hn : endAt x s = none := by rw [endAt_none]; exact fun q => h q.1
      rcases Nat.lt_or_ge x.size s with h' | h'
      · rw [show x.size + 1 - s = 0 by (first | lia | omega)]; rfl
      · rw [show x.size + 1 - s = 0 + 1 by (first | lia | omega)]; simp only [findFrom, hn]
    rw [e]
    refine (ends_no ?_ ?_ ?_ fun m' h => found_none h).more (by (first | lia | omega))
    all_goals
      unfold Sre.forSearch
      rw [if_pos (by have e : (Sre.header codeEnd).1 = 1 := rfl
                     simp only [e]; simp; (first | lia | omega))]
      rfl
end Mine
end
section
open PySem PySem.Sre PyProof.Rows
set_option Elab.async false
set_option maxRecDepth 100000
namespace Mine
open PySem.F

theorem plainAttrs_rePattern : PlainAttrs "re.Pattern" :=
  ⟨⟨"object.__getattribute__", by rw [typeLookup_type, builtinLookup_eq_fast]; kernel_rfl, by decide +kernel⟩, by rw [typeLookup_type, builtinLookup_eq_fast]; kernel_rfl⟩
theorem slot_reSub : Slot "re.Pattern" "sub" "re.Pattern.sub" :=
  .of (owner := "re.Pattern") (n := "sub") (by rw [typeLookup_type, builtinLookup_eq_fast]; kernel_rfl) (by decide +kernel) (by decide +kernel) (by decide +kernel)
    (by first | exact .inl (by decide +kernel) | exact .inr (by decide +kernel)) (by rw [isSubtype_type]; kernel_rfl)
theorem type_reSub : typeOf (.builtin "re.Pattern.sub") = pure (.type "method_descriptor") := by show builtinType _ = _; rw [builtinType_eq_fast]; kernel_rfl
theorem entry_reSub : entryFor table "re.Pattern.sub" = some Builtin.«re.Pattern.sub» := entryFor_of_tree (by kernel_rfl)
theorem entry_reLoop : entryFor table "re.Pattern.sub.loop" = some Builtin.«re.Pattern.sub.loop» := entryFor_of_tree (by kernel_rfl)
theorem args_reSub (a b c : Value) : argsOk "re.Pattern.sub" ⟨[a, b, c], []⟩ := by
  unfold argsOk; rw [signature?_of (id := "re.Pattern.sub") (n := ['b', 'u', 's']) (o := "re.Pattern".toList.reverse) (rows := Manifest.sig_re_Pattern) (by kernel_rfl) (by kernel_rfl)]; kernel_rfl
theorem plain_reLoop : plainId "re.Pattern.sub.loop" = true := by decide +kernel
theorem plain_reSub : plainId "re.Pattern.sub" = true := by decide +kernel
theorem nocall_str : typeLookup (.type "str") "__call__" = pure none := by rw [typeLookup_type, builtinLookup_eq_fast]; kernel_rfl

structure PatAt (h : Heap) (P : Addr) (code : Array Nat) : Prop where
  ex : ∃ o fs C ot its n, h.get? P = some o ∧ o.cls = .type "re.Pattern" ∧ o.dict = none ∧ o.data = .fields fs ∧ Builtin.Re.reRawNat (fs.getD 2 .none) = 0 ∧ fs.getD 5 .none = .ref C ∧ Builtin.Re.reRawNat (fs.getD 6 .none) = 0 ∧
    h.get? C = some ot ∧ ot.data = .seq its n ∧ (its.map Builtin.Re.reRawOf).map (·.toNat) = code
theorem PatAt.stay {h h' : Heap} {P : Addr} {code : Array Nat} (x : PatAt h P code) (k : Stay h h') : PatAt h' P code := by
  obtain ⟨o, fs, C, ot, its, n, a1, a2, a3, a4, a5, a6, a7, a8, a9⟩ := x.ex
  exact ⟨o, fs, C, ot, its, n, k _ _ a1, a2, a3, a4, a5, a6, a7, k _ _ a8, a9⟩

section
variable {prog : Program} {w : World} {A : Around} {E : Value → Shared → Prop} {s : Shared} {h : Heap} {tk : Nat}
theorem wp_whole {P : Addr} {code : Array Nat} {x : Str} {t : Tok} {Q : Builtin.Re.ReTarget → Shared → Prop} (hp : PatAt h P code)
    (q : Q ⟨.ref P, .str x t, code, x.cps, 0, 0, 0, x.cps.size⟩ (st s h tk)) : wpAny (model prog w) A (Builtin.Re.reWholeTarget (.ref P) (.str x t)) Q E (st s h tk) := by
  obtain ⟨o, fs, C, ot, its, n, a1, a2, a3, a4, a5, a6, a7, a8, a9, a10⟩ := hp.ex
  unfold Builtin.Re.reWholeTarget
  refine wpAny_bind (wpAny_fieldsOf (s := st s h tk) a1 a4 ?_)
  refine wpAny_bind ?_
  show wpAny _ _ (pure (x.cps, 0)) _ _ _
  refine wpAny_pure ?_
  simp only [a7, a6, a5]
  refine wpAny_bind ?_
  show wpAny _ _ (pure ()) _ _ _
  refine wpAny_pure (wpAny_bind ?_)
  show wpAny _ _ (seqItems? (.ref C) >>= fun its => pure ((its.getD #[]).map Builtin.Re.reRawOf)) _ _ _
  refine wpAny_bind (wpAny_seqItems (s := st s h tk) a8 a9 (wpAny_pure (wpAny_pure ?_)))
  show Q ⟨_, _, (its.map Builtin.Re.reRawOf).map (·.toNat), _, _, _, _, _⟩ _
  rw [a10]; exact q

noncomputable def subF (x : Array Nat) (find : Nat → Option (Nat × Nat)) (r : Array Nat) : Nat → Nat → Array Nat
  | 0, d => x.extract d x.size
  | f + 1, d => match find d with
    | none => x.extract d x.size
    | some (a, e) => x.extract d a ++ r ++ subF x find r f e

noncomputable def Searches (code x : Array Nat) (find : Nat → Option (Nat × Nat)) : Prop :=
  ∀ d, d ≤ x.size → (∃ k, k < 1000000000 ∧ Ends (Found (find d)) k (Sre.forSearch code x 0 d x.size false)) ∧ ∀ a e, find d = some (a, e) → d ≤ a ∧ a < e ∧ e ≤ x.size

theorem wp_push {l : Addr} {cs : Array Value} {v : Value} {Q : Unit → Shared → Prop} (hl : h.PlainList l cs) (hz : cs.size ≤ 300000) (q : ∀ h', h'.PlainList l (cs.push v) → Off l h h' → Q () (st s h' tk)) :
    wpAny (model prog w) A (updateSeq l (·.push v)) Q E (st s h tk) := by
  obtain ⟨n, ho⟩ := hl
  refine wpAny_updateSeq (s := st s h tk) ho rfl (q _ ⟨n + 1, ?_⟩ ?_) (by rw [sizeLine_eq]; (first | lia | omega)) (by rw [sizeLine_eq]; simp; (first | lia | omega))
  · show (Heap.update h l _).get? l = _
    rw [Heap.get?_update_self _ ho (by rw [Obj.mapSeq_push_plain]; rfl), Obj.mapSeq_push_plain]
  · intro b o hb e
    exact ((Heap.SameBut.update h l _).2 b hb).trans e

theorem cat_fold (ys : List Str) : ∀ a : Array Nat, ys.foldl (fun acc (p : Str) => acc ++ (Str.ofString "").cps ++ p.cps) a = a ++ (ys.map (·.cps.toList)).flatten.toArray := by
  induction ys with
  | nil => intro a; simp
  | cons y ys ih => 
    intro a
    rw [List.foldl_cons, ih, show (Str.ofString "").cps = #[] from rfl]
    apply Array.toList_inj.mp
    simp
theorem glued_cat (ys : List Str) : (PySem.Builtin.Str.glued "" ys).cps = (ys.map (·.cps.toList)).flatten.toArray := by
  cases ys with
  | nil => rfl
  | cons y ys =>
    show (((y :: ys).drop 1).foldl (fun acc (p : Str) => acc ++ (Str.ofString "").cps ++ p.cps) y.cps) = _
    rw [List.drop_one, List.tail_cons, cat_fold]
    apply Array.toList_inj.mp
    simp
theorem glued_push (ys : List Str) (y : Str) : (PySem.Builtin.Str.glued "" (ys ++ [y])).cps = (PySem.Builtin.Str.glued "" ys).cps ++ y.cps := by
  rw [glued_cat, glued_cat]; apply Array.toList_inj.mp; simp
theorem sum_len (ys : List Str) : (ys.map (·.length)).sum = (PySem.Builtin.Str.glued "" ys).cps.size := by
  rw [glued_cat]
  simp [List.length_flatten]
  rfl
theorem strs_push {a : List Value} {b : List Str} (x : StrsAre a b) (y : Str) (t : Tok) : StrsAre (a ++ [.str y t]) (b ++ [y]) := by
  induction x with
  | nil => exact .cons y t .nil
  | cons z u _ ih => exact .cons z u ih

set_option maxHeartbeats 2000000 in
theorem wp_loop {P l : Addr} {code : Array Nat} {x r : Str} {t u : Tok} {find : Nat → Option (Nat × Nat)} {F : Array Nat} (hp : PatAt h P code) (hs : Searches code x.cps find) (hx : x.cps.size ≤ 100000) (hF : F.size ≤ 1000000)
    (hl : h.get? l = none) (f : Nat) : ∀ (d : Nat) (n : Int) (h₁ : Heap) (cs : Array Value) (ys : List Str) (tk : Nat) (R : Result → Shared → Prop), Stay h h₁ → h₁.PlainList l cs → StrsAre cs.toList ys → cs.size ≤ 2 * d → d ≤ x.cps.size → x.cps.size - d ≤ f →
      (PySem.Builtin.Str.glued "" ys).cps ++ subF x.cps find r.cps (f + 1) d = F → 
      (∀ h' tk' t', Stay h h' → R (.ok (.ret (.str ⟨F⟩ t'))) (st s h' tk')) →
      codeAny (model prog w) A (.builtin "re.Pattern.sub.loop" ⟨[.ref P, .str x t, .str r u, rawInt 0, rawInt 0, rawInt n, rawInt d, rawInt d, .bool false, .ref l, .bool false], []⟩) R (st s h₁ tk) := by
  induction f using Nat.strongRecOn with
  | ind f ih =>
    intro d n h₁ cs ys tk R S₁ hpl hys hcz hd hf hg hR
    refine codeAny_builtin entry_reLoop ?_
    rw [Around.under_plainId plain_reLoop _]
    unfold Builtin.«re.Pattern.sub.loop»
    refine wpAny_bind (wp_whole (hp.stay S₁) ?_)
    simp only [rawInt]
    rw [if_pos (by decide)]
    refine wpAny_bind ?_
    show wpAny _ _ (pure ()) _ _ _
    refine wpAny_pure (wpAny_bind ?_)
    rw [if_neg (by simp)]
    obtain ⟨⟨k, hk, he⟩, hfind⟩ := hs d hd
    have keepS : ∀ {h₂ h₃ : Heap}, Stay h h₂ → Off l h₂ h₃ → Stay h h₃ := fun S O b o e => O b o (fun q => by rw [q, hl] at e; cases e) (S b o e)
    refine wp_runToEnd he hk (fun hno => ?_) (fun m' hm => ?_)
    · have hsub : subF x.cps find r.cps (f + 1) d = x.cps.extract d x.cps.size := by simp only [subF, hno]
      rw [hsub] at hg
      have fin : ∀ (h₂ : Heap) (tk₂ : Nat) (cs₂ : Array Value) (ys₂ : List Str), Stay h h₂ → h₂.PlainList l cs₂ → StrsAre cs₂.toList ys₂ → (PySem.Builtin.Str.glued "" ys₂).cps = F →
          wpAny (model prog w) A.in1 (do
            let joiner ← Builtin.Re.reSlice x.cps 0 0 0
            let its ← seqItems? (.ref l)
            if (its.getD #[]).isEmpty = true then do
              let text ← pure joiner
              if false = true then do
                let v ← holding [text] (do newTuple [text, ← mkInt n])
                ret v
              else ret text
            else do
              let text ← call (.builtin (if ((0 : Nat) == 0) = true then "str.join" else "bytes.join")) [joiner, .ref l]
              if false = true then do
                let v ← holding [text] (do newTuple [text, ← mkInt n])
                ret v
              else ret text) (fun fin s' => match fin with | .done f => R (.ok f) s' | .again c' => c'.quiet = true ∧ codeAny (model prog w) A c' R s') (fun e s' => R (.error e) s') (st s h₂ tk₂) := by
        intro h₂ tk₂ cs₂ ys₂ S₂ hpl₂ hys₂ hg₂
        refine wpAny_bind ?_
        show wpAny _ _ (mkStr ⟨x.cps.extract 0 0⟩) _ _ _
        refine wpAny_mkStr (s := st s h₂ tk₂) ?_ (by rw [sizeLine_eq]; simp [Str.length])
        obtain ⟨nl, hnl⟩ := id hpl₂
        refine wpAny_bind (wpAny_seqItems (s := st s h₂ (tk₂ + 1)) hnl rfl ?_)
        have hj : (⟨x.cps.extract 0 0⟩ : Str) = Str.ofString "" := by
          have : x.cps.extract 0 0 = #[] := by simp
          rw [this]; rfl
        rw [hj]
        simp only [Option.getD_some]
        by_cases hemp : cs₂.isEmpty = true
        · rw [if_pos hemp]
          refine wpAny_bind (wpAny_pure ?_)
          rw [if_neg (by simp)]
          have : cs₂ = #[] := by simpa using hemp
          subst this
          cases hys₂
          have : F = #[] := by rw [← hg₂]; rfl
          subst this
          exact wpAny_pure (hR h₂ (tk₂ + 1) tk₂ S₂)
        · rw [if_neg hemp]
          refine wpAny_bind ?_
          refine join_list (s := st s h₂ (tk₂ + 1)) hpl₂.isList hys₂ ?_ fun t' k' => ?_
          · rw [sum_len, hg₂, show (Str.ofString "").length = 0 from rfl]; (first | lia | omega)
          · rw [if_neg (by simp)]
            refine wpAny_pure ?_
            have e : Txt.join (Str.ofString "") ys₂ = ⟨F⟩ := by rw [← hg₂]; rfl
            show R (.ok (.ret (.str (Txt.join (Str.ofString "") ys₂) t'))) _
            rw [e]
            exact hR h₂ k' t' S₂
      simp only [Int.toNat_natCast]
      by_cases hdl : d < x.cps.size
      · rw [if_pos hdl]
        refine wpAny_bind ?_
        show wpAny _ _ (mkStr ⟨x.cps.extract d x.cps.size⟩) _ _ _
        refine wpAny_mkStr (s := st s h₁ tk) ?_ (by rw [sizeLine_eq]; simp [Str.length]; (first | lia | omega))
        refine wpAny_bind (wp_push (tk := tk + 1) hpl (by (first | lia | omega)) fun h₂ hpl₂ O₂ => ?_)
        exact fin h₂ _ _ _ (keepS S₁ O₂) hpl₂ (by rw [Array.toList_push]; exact strs_push hys _ _) (by rw [glued_push]; exact hg)
      · rw [if_neg hdl]
        refine fin h₁ _ _ _ S₁ hpl hys ?_
        rw [← hg]
        have : x.cps.extract d x.cps.size = #[] := by apply Array.toList_inj.mp; simp; (first | lia | omega)
        rw [this]; simp
    · obtain ⟨h1, h2, h3⟩ := hfind _ _ hm
      have hsub : subF x.cps find r.cps (f + 1) d = x.cps.extract d m'.start ++ r.cps ++ subF x.cps find r.cps f m'.handed := by simp only [subF, hm]
      rw [hsub] at hg
      have fin : ∀ (h₂ : Heap) (tk₂ : Nat) (cs₂ : Array Value) (ys₂ : List Str), Stay h h₂ → h₂.PlainList l cs₂ → StrsAre cs₂.toList ys₂ → cs₂.size ≤ 2 * d + 1 → (PySem.Builtin.Str.glued "" ys₂).cps = (PySem.Builtin.Str.glued "" ys).cps ++ x.cps.extract d m'.start →
          wpAny (model prog w) A.in1 (do
            updateSeq l fun x => x.push (.str r u)
            again (Code.builtin "re.Pattern.sub.loop" ⟨[.ref P, .str x t, .str r u, .int 0 0, .int 0 0, .int (n + 1) 0, .int m'.handed 0, .int m'.handed 0, .bool (m'.handed == m'.start), .ref l, .bool false], []⟩)) 
            (fun fin s' => match fin with | .done f => R (.ok f) s' | .again c' => c'.quiet = true ∧ codeAny (model prog w) A c' R s') (fun e s' => R (.error e) s') (st s h₂ tk₂) := by
        intro h₂ tk₂ cs₂ ys₂ S₂ hpl₂ hys₂ hz₂ hg₂
        refine wpAny_bind (wp_push hpl₂ (by (first | lia | omega)) fun h₃ hpl₃ O₃ => ?_)
        refine wpAny_pure ⟨plainId_quiet plain_reLoop _, ?_⟩
        rw [show (m'.handed == m'.start) = false by simp; (first | lia | omega)]
        obtain ⟨f, rfl⟩ : ∃ i, f = i + 1 := ⟨f - 1, by (first | lia | omega)⟩
        refine ih f (by (first | lia | omega)) m'.handed (n + 1) h₃ (cs₂.push (.str r u)) (ys₂ ++ [r]) tk₂ R (keepS S₂ O₃) hpl₃ (by rw [Array.toList_push]; exact strs_push hys₂ _ _) (by simp; (first | lia | omega)) h3 (by (first | lia | omega)) ?_ hR
        rw [glued_push, hg₂, ← hg]
        simp only [Array.append_assoc]
      simp only [Int.toNat_natCast]
      by_cases hdl : d < m'.start
      · rw [if_pos hdl]
        refine wpAny_bind ?_
        show wpAny _ _ (mkStr ⟨x.cps.extract d m'.start⟩) _ _ _
        refine wpAny_mkStr (s := st s h₁ tk) ?_ (by rw [sizeLine_eq]; simp [Str.length]; (first | lia | omega))
        refine wpAny_bind (wp_push (tk := tk + 1) hpl (by (first | lia | omega)) fun h₂ hpl₂ O₂ => ?_)
        rw [if_pos (by decide)]
        refine wpAny_bind (wpAny_pure ?_)
        rw [if_pos (show (Value.str r u != Value.none) = true from rfl)]
        exact fin h₂ _ _ _ (keepS S₁ O₂) hpl₂ (by rw [Array.toList_push]; exact strs_push hys _ _) (by simp; (first | lia | omega)) (by rw [glued_push])
      · rw [if_neg hdl]
        rw [if_pos (by decide)]
        refine wpAny_bind (wpAny_pure ?_)
        rw [if_pos (show (Value.str r u != Value.none) = true from rfl)]
        refine fin h₁ _ _ _ S₁ hpl hys (by (first | lia | omega)) ?_
        have : x.cps.extract d m'.start = #[] := by apply Array.toList_inj.mp; simp; (first | lia | omega)
        rw [this]; simp

theorem wp_reSub {P : Addr} {code : Array Nat} {x r : Str} {t u : Tok} {find : Nat → Option (Nat × Nat)} {Q : Value → Shared → Prop} (hp : PatAt h P code) (hs : Searches code x.cps find) (hx : x.cps.size ≤ 100000)
    (hF : (subF x.cps find r.cps (x.cps.size + 1) 0).size ≤ 1000000) (hr : r.cps.contains 92 = false)
    (q : ∀ h' tk' t', Stay h h' → Q (.str ⟨subF x.cps find r.cps (x.cps.size + 1) 0⟩ t') (st s h' tk')) :
    wpAny (model prog w) A (call (.builtin "re.Pattern.sub") [.ref P, .str r u, .str x t]) Q E (st s h tk) := by
  obtain ⟨o, fs, C, ot, its, n, a1, a2, a3, a4, a5, a6, a7, a8, a9, a10⟩ := hp.ex
  refine wpAny_call (codeAny_call_builtin slot_reSub.plain entry_reSub (slot_reSub.check _ _ _ _ _ _ _ _ (show Shared.TypeIs (st s h tk) (.ref P) "re.Pattern" from ⟨o, a1, a2⟩) (args_reSub _ _ _) ?_))
  unfold Builtin.«re.Pattern.sub» Builtin.Re.reSubstitute
  refine wpAny_bind ?_
  show wpAny _ _ (pure [some (Value.str r u), some (Value.str x t), none]) _ _ _
  refine wpAny_pure (wpAny_bind (wpAny_pure (wpAny_bind ?_)))
  refine wpAny_specialOf (typeIs_str _ _ _) nocall_str ?_
  simp only [Option.isSome_none, Bool.false_eq_true, if_false, asStr?]
  refine wpAny_bind (wpAny_pure ?_)
  simp only [hr, Bool.not_false]
  refine wpAny_bind (wpAny_pure ?_)
  simp only [if_true]
  refine wpAny_bind (wpAny_pure ?_)
  refine wpAny_bind (wpAny_holding (wp_whole hp ?_))
  dsimp only
  rw [if_neg (by simp)]
  refine wpAny_bind (r_newList (by simp) fun l h₁ hl hpl S₁ => ?_)
  refine wpAny_pure ⟨plainId_quiet plain_reLoop _, ?_⟩
  exact wp_loop hp hs hx hF hl x.cps.size 0 0 h₁ _ [] tk _ S₁ hpl .nil (by simp) (Nat.zero_le _) (by (first | lia | omega)) (by show (PySem.Builtin.Str.glued "" []).cps ++ _ = _; rw [show (PySem.Builtin.Str.glued "" []).cps = #[] from rfl]; simp) q
end
end Mine
end
section
open PySem PySem.Sre PyProof.Rows
set_option Elab.async false
set_option maxRecDepth 100000
namespace Mine

noncomputable def fnd (x : Array Nat) (p : Nat → Option Nat) (d : Nat) : Option (Nat × Nat) := findFrom p (x.size + 1 - d) d

theorem extract_cons (x : Array Nat) {d a : Nat} (h : d < x.size) (h' : d < a) : (x.extract d a).toList = x[d] :: (x.extract (d + 1) a).toList := by
  simp only [Array.toList_extract, List.extract_eq_take_drop]
  rw [List.drop_eq_getElem_cons (by simpa using h), show a - d = (a - (d + 1)) + 1 by (first | lia | omega), List.take_succ_cons]
  simp

section
variable {x r : Array Nat} {p : Nat → Option Nat}
theorem sub_none {f d : Nat} (hd : d < x.size) (hp : p d = none) : (subF x (fnd x p) r f d).toList = x[d] :: (subF x (fnd x p) r f (d + 1)).toList := by
  cases f with
  | zero => exact extract_cons x hd hd
  | succ f =>
    have e : fnd x p d = fnd x p (d + 1) := by
      unfold fnd
      rw [show x.size + 1 - d = (x.size + 1 - (d + 1)) + 1 by (first | lia | omega)]
      simp only [findFrom, hp]
    simp only [subF]
    rw [e]
    cases hf : fnd x p (d + 1) with
    | none => exact extract_cons x hd hd
    | some q =>
      obtain ⟨a, b⟩ := q
      have := (findFrom_isSome hf).2.1
      simp only [Array.toList_append]
      rw [extract_cons x hd (by (first | lia | omega))]
      simp
theorem sub_some {f d e : Nat} (hd : d ≤ x.size) (hp : p d = some e) : (subF x (fnd x p) r (f + 1) d).toList = r.toList ++ (subF x (fnd x p) r f e).toList := by
  have : fnd x p d = some (d, e) := by
    unfold fnd
    rw [show x.size + 1 - d = (x.size - d) + 1 by (first | lia | omega)]
    simp only [findFrom, hp]
  simp only [subF, this]
  simp
theorem sub_end {f : Nat} (hp : p x.size = none) : (subF x (fnd x p) r f x.size).toList = [] := by
  cases f with
  | zero => simp [subF]
  | succ f =>
    have : fnd x p x.size = none := by
      unfold fnd
      rw [show x.size + 1 - x.size = 0 + 1 by (first | lia | omega)]
      simp only [findFrom, hp]
    simp only [subF, this]; simp
end

noncomputable def crlfP : Bool → List Nat → List Nat
  | _, [] => []
  | b, c :: r => if c = 10 then (if b = true then crlfP false r else 13 :: 10 :: crlfP false r) else if c = 13 then 13 :: 10 :: crlfP true r else c :: crlfP false r
noncomputable abbrev crlfL (l : List Nat) : List Nat := crlfP false l
theorem crlfP_true {l : List Nat} (h : ∀ r, l ≠ 10 :: r) : crlfP true l = crlfP false l := by
  cases l with
  | nil => rfl
  | cons c r =>
    have : ¬ c = 10 := fun q => h r (by rw [q])
    unfold crlfP
    rw [if_neg this, if_neg this]
noncomputable def dotL : Bool → List Nat → List Nat
  | _, [] => []
  | b, c :: r => if b = true ∧ c = 46 then 46 :: 46 :: dotL false r else c :: dotL (c == 10) r

theorem sub_crlf (x : Array Nat) : ∀ (n d f : Nat), x.size - d = n → d ≤ x.size → n ≤ f → (subF x (fnd x (endAt x)) #[13, 10] f d).toList = crlfL (x.toList.drop d) := by
  intro n
  induction n using Nat.strongRecOn with
  | ind n ih =>
    intro d f hn hd hf
    rcases Nat.eq_or_lt_of_le hd with rfl | hd'
    · rw [sub_end (by rw [endAt_none]; (first | lia | omega)), List.drop_of_length_le (by simp)]
      rfl
    · have hdr : x.toList.drop d = x[d] :: x.toList.drop (d + 1) := by rw [List.drop_eq_getElem_cons (by simpa using hd')]; simp
      rw [hdr]
      obtain ⟨f, rfl⟩ : ∃ i, f = i + 1 := ⟨f - 1, by (first | lia | omega)⟩
      by_cases h10 : x[d] = 10
      · have he : endAt x d = some (d + 1) := by unfold endAt; simp [hd', h10]
        rw [sub_some hd he, ih (n - 1) (by (first | lia | omega)) (d + 1) f (by (first | lia | omega)) (by (first | lia | omega)) (by (first | lia | omega))]
        simp [crlfP, h10]
      · by_cases h13 : x[d] = 13
        · by_cases hx : d + 1 < x.size ∧ x[d + 1]?.getD 0 = 10
          · have he : endAt x d = some (d + 2) := by unfold endAt; rw [if_pos hd']; simp only [Array.getElem?_eq_getElem hd', Option.getD_some, h13]; rw [if_neg (by decide), if_pos trivial, if_pos hx]
            have hdr' : x.toList.drop (d + 1) = 10 :: x.toList.drop (d + 2) := by
              rw [List.drop_eq_getElem_cons (by simpa using hx.1)]
              have := hx.2
              simp [hx.1] at this
              simp [this]
            rw [sub_some hd he, ih (n - 2) (by (first | lia | omega)) (d + 2) f (by (first | lia | omega)) (by (first | lia | omega)) (by (first | lia | omega)), hdr']
            simp [crlfP, h13]
          · have he : endAt x d = some (d + 1) := by unfold endAt; rw [if_pos hd']; simp only [Array.getElem?_eq_getElem hd', Option.getD_some, h13]; rw [if_neg (by decide), if_pos trivial, if_neg hx]
            rw [sub_some hd he, ih (n - 1) (by (first | lia | omega)) (d + 1) f (by (first | lia | omega)) (by (first | lia | omega)) (by (first | lia | omega))]
            have : ∀ r', x.toList.drop (d + 1) ≠ 10 :: r' := by
              intro r' q
              have hl : d + 1 < x.size := by
                have := congrArg List.length q
                simp at this; (first | lia | omega)
              refine hx ⟨hl, ?_⟩
              rw [List.drop_eq_getElem_cons (by simpa using hl)] at q
              simp at q
              simp [hl, q.1]
            rw [h13]
            show _ = (if (13 : Nat) = 10 then _ else if (13 : Nat) = 13 then 13 :: 10 :: crlfP true (x.toList.drop (d + 1)) else _)
            rw [if_neg (by decide), if_pos rfl, crlfP_true this]
            simp
        · have he : endAt x d = none := by rw [endAt_none]; simp [hd', h10, h13]
          rw [sub_none hd' he, ih (n - 1) (by (first | lia | omega)) (d + 1) (f + 1) (by (first | lia | omega)) (by (first | lia | omega)) (by (first | lia | omega))]
          simp [crlfP, h10, h13]

theorem sub_dots (x : Array Nat) : ∀ (n d f : Nat), x.size - d = n → d ≤ x.size → n ≤ f → (subF x (fnd x (dotAt x)) #[46, 46] f d).toList = dotL (decide (d = 0 ∨ x[d - 1]?.getD 0 = 10)) (x.toList.drop d) := by
  intro n
  induction n using Nat.strongRecOn with
  | ind n ih =>
    intro d f hn hd hf
    rcases Nat.eq_or_lt_of_le hd with rfl | hd'
    · rw [sub_end (by unfold dotAt; rw [if_neg]; (first | lia | omega)), List.drop_of_length_le (by simp)]
      simp [dotL]
    · have hdr : x.toList.drop d = x[d] :: x.toList.drop (d + 1) := by rw [List.drop_eq_getElem_cons (by simpa using hd')]; simp
      rw [hdr]
      obtain ⟨f, rfl⟩ : ∃ i, f = i + 1 := ⟨f - 1, by (first | lia | omega)⟩
      by_cases hb : (d = 0 ∨ x[d - 1]?.getD 0 = 10) ∧ x[d] = 46
      · have he : dotAt x d = some (d + 1) := by unfold dotAt; rw [if_pos ⟨hb.1, hd', by simpa [hd'] using hb.2⟩]
        rw [sub_some hd he, ih (n - 1) (by (first | lia | omega)) (d + 1) f (by (first | lia | omega)) (by (first | lia | omega)) (by (first | lia | omega)), dotL, if_pos ⟨by simpa using hb.1, hb.2⟩]
        simp [hd', hb.2]
      · have he : dotAt x d = none := by unfold dotAt; rw [if_neg]; exact fun q => hb ⟨q.1, by simpa [hd'] using q.2.2⟩
        rw [sub_none hd' he, ih (n - 1) (by (first | lia | omega)) (d + 1) (f + 1) (by (first | lia | omega)) (by (first | lia | omega)) (by (first | lia | omega)), dotL, if_neg (fun q => hb ⟨by simpa using q.1, q.2⟩)]
        simp [hd']
        rfl

theorem searches_end (x : Array Nat) (hx : x.size ≤ 100000) : Searches codeEnd x (fnd x (endAt x)) := by
  intro d hd
  refine ⟨⟨_, ?_, ends_search x d⟩, fun a e h => ?_⟩
  · (first | lia | omega)
  · obtain ⟨h1, h2, _⟩ := findFrom_isSome h
    unfold endAt at h1
    by_cases hs : a < x.size
    · rw [if_pos hs] at h1
      split at h1
      · cases h1; (first | lia | omega)
      · split at h1
        · split at h1
          · cases h1; (first | lia | omega)
          · cases h1; (first | lia | omega)
        · cases h1
    · rw [if_neg hs] at h1; cases h1
theorem searches_dot (x : Array Nat) (hx : x.size ≤ 100000) : Searches codeDot x (fnd x (dotAt x)) := by
  intro d hd
  refine ⟨⟨_, ?_, dots_search x d⟩, fun a e h => ?_⟩
  · (first | lia | omega)
  · obtain ⟨h1, h2, _⟩ := findFrom_isSome h
    unfold dotAt at h1
    split at h1
    · rename_i q; cases h1; (first | lia | omega)
    · cases h1

theorem crlfP_len : ∀ (l : List Nat) (b : Bool), (crlfP b l).length ≤ 2 * l.length
  | [], _ => by simp [crlfP]
  | c :: r, b => by
    have h1 := crlfP_len r false
    have h2 := crlfP_len r true
    unfold crlfP
    split
    · split
      · simp; (first | lia | omega)
      · simp; (first | lia | omega)
    · split
      · simp; (first | lia | omega)
      · simp; (first | lia | omega)
theorem dotL_len : ∀ (l : List Nat) (b : Bool), (dotL b l).length ≤ 2 * l.length
  | [], _ => by simp [dotL]
  | c :: r, b => by
    have h1 := dotL_len r false
    have h2 := dotL_len r (c == 10)
    unfold dotL
    split
    · simp; (first | lia | omega)
    · simp; (first | lia | omega)

section
variable {prog : Program} {w : World} {A : Around} {E : Value → Shared → Prop} {s : Shared} {h : Heap} {tk : Nat}
theorem sub_end_call {P : Addr} {x : Str} {t u : Tok} {Q : Value → Shared → Prop} (hp : PatAt h P codeEnd) (hx : x.cps.size ≤ 50000)
    (q : ∀ h' tk' t', Stay h h' → Q (.str ⟨(crlfL x.cps.toList).toArray⟩ t') (st s h' tk')) :
    wpAny (model prog w) A (call (.builtin "re.Pattern.sub") [.ref P, .str "\r\n" u, .str x t]) Q E (st s h tk) := by
  have e : subF x.cps (fnd x.cps (endAt x.cps)) (Str.ofString "\r\n").cps (x.cps.size + 1) 0 = (crlfL x.cps.toList).toArray := by
    apply Array.toList_inj.mp
    rw [show (Str.ofString "\r\n").cps = #[13, 10] by decide +kernel, sub_crlf x.cps x.cps.size 0 _ (by (first | lia | omega)) (by (first | lia | omega)) (by (first | lia | omega))]
    simp
  refine wp_reSub hp (searches_end _ (by (first | lia | omega))) (by (first | lia | omega)) ?_ (by decide +kernel) ?_
  · rw [e]; have := crlfP_len x.cps.toList false; simp at this; simp [crlfL]; (first | lia | omega)
  · rw [e]; exact q
theorem sub_dot_call {P : Addr} {x : Str} {t u : Tok} {Q : Value → Shared → Prop} (hp : PatAt h P codeDot) (hx : x.cps.size ≤ 100000)
    (q : ∀ h' tk' t', Stay h h' → Q (.str ⟨(dotL true x.cps.toList).toArray⟩ t') (st s h' tk')) :
    wpAny (model prog w) A (call (.builtin "re.Pattern.sub") [.ref P, .str ".." u, .str x t]) Q E (st s h tk) := by
  have e : subF x.cps (fnd x.cps (dotAt x.cps)) (Str.ofString "..").cps (x.cps.size + 1) 0 = (dotL true x.cps.toList).toArray := by
    apply Array.toList_inj.mp
    rw [show (Str.ofString "..").cps = #[46, 46] by decide +kernel, sub_dots x.cps x.cps.size 0 _ (by (first | lia | omega)) (by (first | lia | omega)) (by (first | lia | omega))]
    simp
  refine wp_reSub hp (searches_dot _ (by (first | lia | omega))) (by (first | lia | omega)) ?_ (by decide +kernel) ?_
  · rw [e]; have := dotL_len x.cps.toList true; simp at this; simp; (first | lia | omega)
  · rw [e]; exact q
end
end Mine
end
section
open PySem PySem.W PySem.Calls PyProof.Rows
set_option Elab.async false
set_option maxRecDepth 100000
namespace Mine

noncomputable def quoteL (l : List Nat) : List Nat := dotL true (crlfL l)

section
variable {prog : Program} {w : World} {A : Around} {s : Shared} {h : Heap} {mg mb : Str → Option Value}

set_option maxHeartbeats 2000000 in
theorem c_quote {x : Str} {t u : Tok} (R : Rm 1 A) (B : Bas mg mb h) (X : FnAt h 111 110 32 .none) (h1 : mg "_twin_re_1" = some (.ref 99)) (h2 : mg "_twin_re_2" = some (.ref 104)) (h3 : mg "CRLF" = some (.str "\r\n" u))
    (p1 : PatAt h 99 codeDot) (p2 : PatAt h 104 codeEnd) (hx : x.cps.size ≤ 10000) :
    Gives prog w A (call (.ref 111) [.str x t]) s h (fun v _ => ∃ t, v = .str ⟨(quoteL x.cps.toList).toArray⟩ t) := by
  refine gives_def (binds := [("data", .str x t)]) R B X (fun pm tk => BindsTo.of_eq rfl) (by decide +kernel) (by rfl) fun pm L h₀ tk htk F => ?_
  have B₀ := B.stay F.keep
  have p1' := p1.stay F.keep
  have p2' := p2.stay F.keep
  refine r_ret (r_meth plainAttrs_rePattern slot_reSub type_reSub (nmG B₀ h1 ⟨?_, ?_, r_cwB (r_sp1 (r_str (r_sp1 (r_meth plainAttrs_rePattern slot_reSub type_reSub (nmG B₀ h2 ⟨?_, ?_, r_cwB (r_sp1 (nmG B₀ h3 (r_sp1 (nmL F rfl (r_sp0 ?_)))))⟩)))))⟩))
  · obtain ⟨o, fs, C, ot, its, n, a1, a2, a3, _⟩ := p1'.ex
    exact ⟨o, a1, a2⟩
  · obtain ⟨o, fs, C, ot, its, n, a1, a2, a3, _⟩ := p1'.ex
    rintro a ⟨⟩; exact ⟨o, a1, a3⟩
  · obtain ⟨o, fs, C, ot, its, n, a1, a2, a3, _⟩ := p2'.ex
    exact ⟨o, a1, a2⟩
  · obtain ⟨o, fs, C, ot, its, n, a1, a2, a3, _⟩ := p2'.ex
    rintro a ⟨⟩; exact ⟨o, a1, a3⟩
  · refine sub_end_call p2' (by (first | lia | omega)) fun h₁ tk₁ t₁ S₁ => ?_
    refine r_sp0 ?_
    refine sub_dot_call (p1'.stay S₁) ?_ fun h₂ tk₂ t₂ S₂ => ?_
    · have := crlfP_len x.cps.toList false
      simp at this; simp [crlfL]; (first | lia | omega)
    · exact ⟨_, _, rfl, (F.keep.trans S₁).trans S₂, t₂, rfl⟩
end
end Mine
end
section
open PySem PySem.W PySem.Calls PyProof.Rows
set_option Elab.async false
set_option maxRecDepth 100000
namespace Mine
section
variable {prog : Program} {w : World} {A : Around} {E : Value → Shared → Prop} {s : Shared} {h : Heap} {tk : Nat}

theorem sl_dict : Builtin.Slots.givesDict (.type "object") = pure false := by kernel_rfl
theorem sl_weak : Builtin.Slots.givesWeak (.type "object") = pure false := by kernel_rfl
theorem sl_var : Builtin.Slots.varSize (.type "object") = pure false := by kernel_rfl
theorem sl_best : Builtin.Slots.bestBase [.type "object"] = pure (.type "object") := by kernel_rfl
theorem sl_names : Builtin.Slots.slotNamesOf (.type "object") = pure [] := by kernel_rfl

set_option maxHeartbeats 2000000 in
theorem wp_slotsRead {es : Array DictEntry} {e : DictEntry} {sl : Addr} {ts : Tok} {Q : Builtin.Slots.Plan → Shared → Prop}
    (hsl : h.IsList sl #[.str "obj" ts]) (hobj : ∃ o, h.get? sl = some o ∧ o.data = .seq #[.str "obj" ts] 0)
    (hfind : (es.find? fun x => x.key.isStr "__slots__") = some e) (hval : e.val = .ref sl) (hany : (es.any fun x => x.key.isStr "obj") = false)
    (q : ∀ h', Stay h h' → Q { names := ["obj"], dict := false, weak := false, inherited := [] } (st s h' tk)) :
    wpAny (model prog w) A (Builtin.Slots.read "K" [.type "object"] es) Q E (st s h tk) := by
  unfold Builtin.Slots.read
  refine wpAny_bind (wpAny_of_eq sl_best (wpAny_bind (wpAny_of_eq sl_names (wpAny_bind (wpAny_of_eq sl_dict (wpAny_bind (wpAny_of_eq sl_weak (wpAny_bind (wpAny_of_eq sl_var ?_)))))))))
  rw [hfind]
  refine wpAny_bind (wpAny_rule ?_)
  rw [hval]
  obtain ⟨o, ho, hd⟩ := hobj
  refine wpAny_bind ?_
  show wpAny _ _ (load sl >>= fun o => match o.data with | .prim (.str s _) => pure (some s) | _ => pure none) _ _ _
  refine wpAny_bind (wpAny_load (s := st s h tk) ho ?_)
  rw [hd]
  refine wpAny_pure ?_
  rw [if_neg (by simp)]
  refine wpAny_bind (collect_list (s := st s h tk) (vs := [.str "obj" ts]) hsl ?_ (by rw [sizeLine_eq]; simp))
  have S' : Stay h ((h.push (seqObj "list" #[] 0)).update h.objs.size (Obj.mapSeq (· ++ [Value.str "obj" ts].toArray))) := by
    intro b o e
    rw [Heap.get?_update_ne _ _ _ _ (Nat.ne_of_lt (Heap.lt_size e))]
    exact Heap.get?_push_of_some _ e
  have e12 := sl_var
  obtain ⟨h0, g, d, t0, os⟩ := s
  simp only [st]
  repeat (first | with_reducible (first | refine wpAny_pure ?_ | refine wpAny_bind ?_ | refine wpAny_holding ?_ | refine wpAny_standAt ?_ | refine wpAny_point ?_ | refine wpAny_rule ?_ | refine wpAny_letGo ?_ | refine wpAny_mkInt' ?_ | refine wpAny_mkStr' ?_ | refine wpAny_fresh' ?_ | refine wpAny_alloc' ?_ | refine wpAny_attempt ?_ | refine wpAny_of_eq (by assumption) ?_ | refine wpAny_typeOf (by assumption) ?_ | refine wpAny_specialOf_val (by assumption) (by assumption) ?_ | refine wpAny_specialOf (by assumption) (by assumption) ?_ | refine wpAny_isInstance_val (by assumption) (by assumption) ?_ | refine wpAny_isInstance (by assumption) (by assumption) ?_ | refine wpAny_call ?_ | refine wpAny_runValue ?_ | refine wpAny_run ?_) | ((with_reducible show wpAny _ _ (load _) _ _ _); (with_reducible apply wpAny_load'); focus (heap_get; done)) | ((with_reducible show wpAny _ _ (update _ _) _ _ _); (with_reducible apply wpAny_update'); focus (heap_get; done)) | ((with_reducible show wpAny _ _ (loadPart _ _) _ _ _); (with_reducible apply wpAny_loadPart'); focus (heap_get; done)) | ((with_reducible show wpAny _ _ (updatePart _ _ _) _ _ _); (with_reducible apply wpAny_updatePart'); focus (heap_get; done)) | ((with_reducible refine wpAny_ite_false ?hc ?_); (case hc => first | (decide +kernel; done) | (rfl; done))) | ((with_reducible refine wpAny_ite_true ?hc ?_); (case hc => first | (decide +kernel; done) | (rfl; done))) | wp_delta | with_reducible_and_instances refine wpAny_pure ?_ | with_reducible_and_instances refine wpAny_bind ?_)
  rw [show Builtin.Slots.isIdentifier (Str.ofString "obj") = some true by decide +kernel]
  repeat (first | with_reducible (first | refine wpAny_pure ?_ | refine wpAny_bind ?_ | refine wpAny_holding ?_ | refine wpAny_standAt ?_ | refine wpAny_point ?_ | refine wpAny_rule ?_ | refine wpAny_letGo ?_ | refine wpAny_mkInt' ?_ | refine wpAny_mkStr' ?_ | refine wpAny_fresh' ?_ | refine wpAny_alloc' ?_ | refine wpAny_attempt ?_ | refine wpAny_of_eq (by assumption) ?_ | refine wpAny_typeOf (by assumption) ?_ | refine wpAny_specialOf_val (by assumption) (by assumption) ?_ | refine wpAny_specialOf (by assumption) (by assumption) ?_ | refine wpAny_isInstance_val (by assumption) (by assumption) ?_ | refine wpAny_isInstance (by assumption) (by assumption) ?_ | refine wpAny_call ?_ | refine wpAny_runValue ?_ | refine wpAny_run ?_) | ((with_reducible show wpAny _ _ (load _) _ _ _); (with_reducible apply wpAny_load'); focus (heap_get; done)) | ((with_reducible show wpAny _ _ (update _ _) _ _ _); (with_reducible apply wpAny_update'); focus (heap_get; done)) | ((with_reducible show wpAny _ _ (loadPart _ _) _ _ _); (with_reducible apply wpAny_loadPart'); focus (heap_get; done)) | ((with_reducible show wpAny _ _ (updatePart _ _ _) _ _ _); (with_reducible apply wpAny_updatePart'); focus (heap_get; done)) | ((with_reducible refine wpAny_ite_false ?hc ?_); (case hc => first | (decide +kernel; done) | (rfl; done))) | ((with_reducible refine wpAny_ite_true ?hc ?_); (case hc => first | (decide +kernel; done) | (rfl; done))) | wp_delta | with_reducible_and_instances refine wpAny_pure ?_ | with_reducible_and_instances refine wpAny_bind ?_)
  have hmg : Builtin.Slots.mangle (Str.ofString "K") (Str.ofString "obj") = Str.ofString "obj" := by decide +kernel
  refine wpAny_ite_false (decide_eq_false (by
    show ¬ ((es.any fun x => x.key.isStr (Builtin.Slots.mangle (Str.ofString "K") (Str.ofString "obj"))) && _) = true
    rw [hmg, hany]; simp)) ?_
  repeat (first | with_reducible (first | refine wpAny_pure ?_ | refine wpAny_bind ?_ | refine wpAny_holding ?_ | refine wpAny_standAt ?_ | refine wpAny_point ?_ | refine wpAny_rule ?_ | refine wpAny_letGo ?_ | refine wpAny_mkInt' ?_ | refine wpAny_mkStr' ?_ | refine wpAny_fresh' ?_ | refine wpAny_alloc' ?_ | refine wpAny_attempt ?_ | refine wpAny_of_eq (by assumption) ?_ | refine wpAny_typeOf (by assumption) ?_ | refine wpAny_specialOf_val (by assumption) (by assumption) ?_ | refine wpAny_specialOf (by assumption) (by assumption) ?_ | refine wpAny_isInstance_val (by assumption) (by assumption) ?_ | refine wpAny_isInstance (by assumption) (by assumption) ?_ | refine wpAny_call ?_ | refine wpAny_runValue ?_ | refine wpAny_run ?_) | ((with_reducible show wpAny _ _ (load _) _ _ _); (with_reducible apply wpAny_load'); focus (heap_get; done)) | ((with_reducible show wpAny _ _ (update _ _) _ _ _); (with_reducible apply wpAny_update'); focus (heap_get; done)) | ((with_reducible show wpAny _ _ (loadPart _ _) _ _ _); (with_reducible apply wpAny_loadPart'); focus (heap_get; done)) | ((with_reducible show wpAny _ _ (updatePart _ _ _) _ _ _); (with_reducible apply wpAny_updatePart'); focus (heap_get; done)) | ((with_reducible refine wpAny_ite_false ?hc ?_); (case hc => first | (decide +kernel; done) | (rfl; done))) | ((with_reducible refine wpAny_ite_true ?hc ?_); (case hc => first | (decide +kernel; done) | (rfl; done))) | wp_delta | with_reducible_and_instances refine wpAny_pure ?_ | with_reducible_and_instances refine wpAny_bind ?_)
  show Q { names := [Builtin.Slots.mangle (Str.ofString "K") (Str.ofString "obj")], dict := false, weak := false, inherited := [] } _
  rw [hmg]
  exact q _ S'
end
end Mine
end
section
open PySem PySem.W PySem.Calls PyProof.Rows
set_option Elab.async false
set_option maxRecDepth 100000
namespace Mine

/-- a class in the making: class object co at a, its namespace at N, over a ground -/
structure CW (h₀ h : Heap) (a N : Addr) (co : Obj) (m : Str → Option Value) : Prop where
  cls : h.get? a = some co
  dict : h.Ns1 N m
  ne : a ≠ N
  keep : Stay h₀ h
  fa : h₀.get? a = none
  fN : h₀.get? N = none
section
variable {h₀ h h' : Heap} {a N : Addr} {co : Obj} {m : Str → Option Value}
theorem CW.ground (W : CW h₀ h a N co m) : CW (hideAll h [a, N]) h a N co m ∧ Stay h₀ (hideAll h [a, N]) :=
  ⟨⟨W.cls, W.dict, W.ne, fun b o e => of_hideAll _ e, hideAll_none _ (by simp), hideAll_none _ (by simp)⟩, fun b o e => hideAll_get _ (W.keep b o e) (fun q => by
    simp at q
    rcases q with q | q
    · rw [q, W.fa] at e; cases e
    · rw [q, W.fN] at e; cases e)⟩
theorem CW.stay (W : CW h₀ h a N co m) (S : Stay h h') : CW h₀ h' a N co m := ⟨S _ _ W.cls, W.dict.at fun o e => S _ o e, W.ne, W.keep.trans S, W.fa, W.fN⟩
theorem CW.setN (W : CW h₀ h a N co m) {m' : Str → Option Value} (hn : h'.Ns1 N m') (hs : Heap.SameBut N h h') : CW h₀ h' a N co m' :=
  ⟨(hs.2 a W.ne).trans W.cls, hn, W.ne, fun b o e => (hs.2 b (fun q => by rw [q, W.fN] at e; cases e)).trans (W.keep b o e), W.fa, W.fN⟩
theorem CW.setA (W : CW h₀ h a N co m) {co' : Obj} (hn : h'.get? a = some co') (hs : Heap.SameBut a h h') : CW h₀ h' a N co' m :=
  ⟨hn, W.dict.sameBut hs (Ne.symm W.ne), W.ne, fun b o e => (hs.2 b (fun q => by rw [q, W.fa] at e; cases e)).trans (W.keep b o e), W.fa, W.fN⟩
end
section
variable {prog : Program} {w : World} {A : Around} {E : Value → Shared → Prop} {g : Array GenState} {d : Drawn} {os : OsState} {h₀ h : Heap} {tk : Nat} {a N : Addr} {co : Obj} {m : Str → Option Value}
theorem ns_get {name : Str} {r : Option Value} {Q : Option Value → Shared → Prop} (W : h.Ns N m) (hr : m name = r) (k : Q r ⟨h, g, d, tk, os⟩) : wpAny (model prog w) A (nsGet N name) Q E ⟨h, g, d, tk, os⟩ := wpAny_nsGet W (hr ▸ k)
theorem cw_get' {name : Str} {r : Option Value} {Q : Option Value → Shared → Prop} (W : CW h₀ h a N co m) (hr : m name = r) (k : Q r ⟨h, g, d, tk, os⟩) : wpAny (model prog w) A (nsGet N name) Q E ⟨h, g, d, tk, os⟩ := wpAny_nsGet W.dict.ns (hr ▸ k)
theorem cw_get {name : Str} {Q : Option Value → Shared → Prop} (W : CW h₀ h a N co m) (k : Q (m name) ⟨h, g, d, tk, os⟩) : wpAny (model prog w) A (nsGet N name) Q E ⟨h, g, d, tk, os⟩ := wpAny_nsGet W.dict.ns k
theorem cw_set {name : Str} {v : Value} {Q : Unit → Shared → Prop} (W : CW h₀ h a N co m) (k : ∀ h', CW h₀ h' a N co (fun x => if x = name then some v else m x) → Q () ⟨h', g, d, tk + 1, os⟩) :
    wpAny (model prog w) A (nsSet N name v) Q E ⟨h, g, d, tk, os⟩ := wpAny_nsSet1 (s := ⟨h, g, d, tk, os⟩) W.dict fun h' hn hs => k h' (W.setN hn hs)
theorem cw_setV {name : Str} {v : Value} {Q : Unit → Shared → Prop} (W : CW h₀ h a N co m) (hz : ∃ o es ep, h.get? N = some o ∧ o.data = .dict es ep ∧ es.size ≤ sizeLine) (k : ∀ h', CW h₀ h' a N co (fun x => if x = name then some v else m x) → Q () ⟨h', g, d, tk + 1, os⟩) :
    wpAny (model prog w) A (nsSetByValue N name v) Q E ⟨h, g, d, tk, os⟩ := by
  obtain ⟨o, es, ep, ho, hd, hz⟩ := hz
  unfold nsSetByValue
  refine wpAny_bind (wpAny_loadPart (s := ⟨h, g, d, tk, os⟩) ho ?_)
  rw [hd]
  simp only
  rw [if_neg (by simp; (first | lia | omega))]
  exact cw_set W k
theorem cw_del {name : Str} {Q : Bool → Shared → Prop} (W : CW h₀ h a N co m) (k : ∀ h', CW h₀ h' a N co (fun x => if x = name then none else m x) → Q (m name).isSome ⟨h', g, d, tk, os⟩) :
    wpAny (model prog w) A (nsDel N name) Q E ⟨h, g, d, tk, os⟩ := wpAny_nsDel1 (s := ⟨h, g, d, tk, os⟩) W.dict fun h' hn hs => k h' (W.setN hn hs)
theorem cw_slot {i : Nat} {v : Option Value} {Q : Unit → Shared → Prop} (W : CW h₀ h a N co m) (hf : co.isFreed = false) (hi : i < 1000)
    (k : ∀ h', CW h₀ h' a N { co with slots := (co.slots ++ Array.replicate (i + 1 - co.slots.size) none).setIfInBounds i v } m → Q () ⟨h', g, d, tk, os⟩) :
    wpAny (model prog w) A (setSlotAt a i v) Q E ⟨h, g, d, tk, os⟩ := by
  unfold setSlotAt
  rw [if_neg (by rw [sizeLine_eq]; (first | lia | omega))]
  refine wpAny_updatePart (s := ⟨h, g, d, tk, os⟩) W.cls (k _ (W.setA (Heap.get?_update_self _ W.cls ?_) (Heap.SameBut.update ..)))
  obtain ⟨c, dd, dt, sl⟩ := co
  cases dt <;> first | rfl | exact hf
theorem cw_upd {cd : ClassData} {f : ClassData → ClassData} {Q : Unit → Shared → Prop} (W : CW h₀ h a N co m) (hd : co.data = .cls cd) (hp : (Data.cls (f cd)).pastItsLine = none)
    (k : ∀ h', CW h₀ h' a N { co with data := .cls (f cd) } m → Q () ⟨h', g, d, tk, os⟩) :
    wpAny (model prog w) A (updateCls a f) Q E ⟨h, g, d, tk, os⟩ := by
  obtain ⟨c, dd, dt, sl⟩ := co
  simp only at hd
  subst hd
  unfold updateCls
  refine wpAny_bind (wpAny_load (s := ⟨h, g, d, tk, os⟩) W.cls ?_)
  simp only
  have hg : (h.update a (Obj.mapCls f)).get? a = some (Obj.mapCls f ⟨c, dd, .cls cd, sl⟩) := Heap.get?_update_self _ W.cls rfl
  refine wpAny_bind (wpAny_update (s := ⟨h, g, d, tk, os⟩) W.cls (wpAny_lookBehind hg ?_ (k _ (W.setA hg (Heap.SameBut.update ..)))))
  exact hp
end
structure DN (h : Heap) (a : Addr) (m : Str → Option Value) (es : Array DictEntry) (ep : Nat) : Prop where
  at' : h.get? a = some { cls := .type "dict", data := .dict es ep }
  sk : StrKeys es
  uk : UniqKeys es
  ns : ∀ name, nsFind es name = m name
theorem DN.ns1 {h : Heap} {a : Addr} {m : Str → Option Value} {es : Array DictEntry} {ep : Nat} (x : DN h a m es ep) : h.Ns1 a m := ⟨_, es, ep, x.at', rfl, x.sk, x.uk, x.ns⟩
theorem any_of {es : Array DictEntry} {m : Str → Option Value} (hm : ∀ name, nsFind es name = m name) (name : Str) : (es.any fun x => x.key.isStr name) = (m name).isSome := by
  rw [← hm name]; simp only [nsFind, findBy, Option.isSome_map]
  rw [Bool.eq_iff_iff]; simp only [Array.find?_isSome, Array.any_eq_true]
  constructor
  · rintro ⟨i, hi, hp⟩; exact ⟨_, Array.getElem_mem hi, hp⟩
  · rintro ⟨x, hx, hp⟩; obtain ⟨i, hi, rfl⟩ := Array.mem_iff_getElem.mp hx; exact ⟨i, hi, hp⟩
theorem find_of {es : Array DictEntry} {m : Str → Option Value} (hm : ∀ name, nsFind es name = m name) {name : Str} {v : Value} (hv : m name = some v) : ∃ e, (es.find? fun x => x.key.isStr name) = some e ∧ e.val = v := by
  have := hm name
  rw [hv] at this
  simp only [nsFind, findBy, Option.map_eq_some_iff] at this
  exact this
theorem pigeon {α : Type} [BEq α] [LawfulBEq α] : ∀ (l k : List α), l.Nodup → (∀ x ∈ l, x ∈ k) → l.length ≤ k.length
  | [], _, _, _ => by simp
  | a :: l, k, hn, hs => by
    rw [List.nodup_cons] at hn
    have ha := hs a (by simp)
    have := pigeon l (k.erase a) hn.2 fun x hx => (List.mem_erase_of_ne (fun (q : x = a) => hn.1 (by rw [← q]; exact hx))).mpr (hs x (by simp [hx]))
    rw [List.length_erase_of_mem ha] at this
    have hk : 0 < k.length := List.length_pos_of_mem ha
    simp; (first | lia | omega)
noncomputable def keyName (e : DictEntry) : Str := match e.key with | .str n _ => n | _ => default
theorem isStr_eq {v : Value} {n : Str} : v.isStr n = true ↔ ∃ t, v = .str n t := by
  cases v <;> simp [Value.isStr]
theorem entry_find {es : Array DictEntry} (sk : StrKeys es) (uk : UniqKeys es) {e : DictEntry} (he : e ∈ es) : nsFind es (keyName e) = some e.val := by
  obtain ⟨l⟩ := es
  simp only [nsFind, findBy, List.find?_toArray]
  replace uk : l.Pairwise fun a b => ∀ n, a.key.isStr n = true → b.key.isStr n = true → False := uk
  have he' : e ∈ l := by simpa using he
  have sk' : ∀ e ∈ l, ∃ n t, e.key = .str n t := fun e he => sk e (by simpa using he)
  clear he sk
  induction l with
  | nil => simp at he'
  | cons a l ih =>
    rw [List.pairwise_cons] at uk
    rw [List.find?_cons]
    rcases List.mem_cons.mp he' with rfl | hm
    · obtain ⟨n, t, hk⟩ := sk' e (by simp)
      have : e.key.isStr (keyName e) = true := by unfold keyName; rw [hk]; simp [Value.isStr]
      rw [this]; rfl
    · cases hq : a.key.isStr (keyName e) with
      | true =>
        obtain ⟨n, t, hk⟩ := sk' e (by simp [hm])
        have : e.key.isStr (keyName e) = true := by unfold keyName; rw [hk]; simp [Value.isStr]
        exact (uk.1 e hm _ hq this).elim
      | false => exact ih uk.2 hm fun e he => sk' e (by simp [he])
theorem es_size {es : Array DictEntry} {m : Str → Option Value} (sk : StrKeys es) (uk : UniqKeys es) (ns : ∀ name, nsFind es name = m name) (k : List Str) (hm : ∀ x, m x ≠ none → x ∈ k) : es.size ≤ k.length := by
  have := pigeon (es.toList.map keyName) k ?_ ?_
  · simpa using this
  · rw [List.Nodup, List.pairwise_map]
    refine List.Pairwise.imp_of_mem ?_ uk
    intro a b ha hb hab q
    obtain ⟨n, t, hk⟩ := sk a (by simpa using ha)
    obtain ⟨n', t', hk'⟩ := sk b (by simpa using hb)
    simp only [keyName, hk, hk'] at q
    subst q
    exact hab n (by rw [hk]; simp [Value.isStr]) (by rw [hk']; simp [Value.isStr])
  · intro x hx
    obtain ⟨e, he, rfl⟩ := List.mem_map.mp hx
    refine hm _ ?_
    rw [← ns, entry_find sk uk (by simpa using he)]
    simp
end Mine
end
section
open PySem PySem.W PySem.Calls PyProof.Rows
set_option Elab.async false
set_option maxRecDepth 100000
namespace Mine
section
variable {prog : Program} {w : World} {A : Around} {E : Value → Shared → Prop} {g : Array GenState} {d : Drawn} {os : OsState} {h₀ h : Heap} {tk : Nat} {a N : Addr} {co : Obj} {m : Str → Option Value}

theorem cw_slotE {i : Nat} {v : Option Value} {Q : Unit → Shared → Prop} (co' : Obj) (W : CW h₀ h a N co m) (he : ({ co with slots := (co.slots ++ Array.replicate (i + 1 - co.slots.size) none).setIfInBounds i v } : Obj) = co') (hf : co.isFreed = false) (hi : i < 1000)
    (k : ∀ h', CW h₀ h' a N co' m → Q () ⟨h', g, d, tk, os⟩) : wpAny (model prog w) A (setSlotAt a i v) Q E ⟨h, g, d, tk, os⟩ := cw_slot W hf hi (he ▸ k)
theorem cw_updE {cd : ClassData} {f : ClassData → ClassData} {Q : Unit → Shared → Prop} (co' : Obj) (W : CW h₀ h a N co m) (hd : co.data = .cls cd) (he : ({ co with data := .cls (f cd) } : Obj) = co') (hp : (Data.cls (f cd)).pastItsLine = none)
    (k : ∀ h', CW h₀ h' a N co' m → Q () ⟨h', g, d, tk, os⟩) : wpAny (model prog w) A (updateCls a f) Q E ⟨h, g, d, tk, os⟩ := cw_upd W hd hp (he ▸ k)
theorem wp_mroC {cd : ClassData} {Q : List Value → Shared → Prop} (ho : h.get? a = some co) (hd : co.data = .cls cd) (k : Q cd.mro ⟨h, g, d, tk, os⟩) : wpAny (model prog w) A (mroOf (.ref a)) Q E ⟨h, g, d, tk, os⟩ := by
  obtain ⟨c, dd, dt, sl⟩ := co
  simp only at hd
  subst hd
  unfold mroOf classData
  repeat (any_goals (first | assumption | wp_step))
theorem wp_lookC {cd : ClassData} {name : Str} {y : Option Value} {Q : Option Value → Shared → Prop} (ho : h.get? a = some co) (hd : co.data = .cls cd) (hm : cd.mro = [.ref a, .type "object"]) (hN : h.Ns cd.ns m)
    (hy : typeLookup (.type "object") name = pure y) (k : Q (match m name with | some v => some v | none => y) ⟨h, g, d, tk, os⟩) : wpAny (model prog w) A (typeLookup (.ref a) name) Q E ⟨h, g, d, tk, os⟩ := by
  have hmro : mroOf (.type "object") = pure [.type "object"] := by kernel_rfl
  have hrest : lookupAlong [.type "object"] name = pure y := by rw [typeLookup_eq, hmro] at hy; exact hy
  rw [typeLookup_eq]
  refine wpAny_bind (wp_mroC ho hd ?_)
  rw [hm, lookupAlong_cons]
  refine wpAny_bind ?_
  unfold classOwn
  refine wpAny_bind ?_
  unfold classData
  refine wpAny_bind (wpAny_load (s := ⟨h, g, d, tk, os⟩) ho ?_)
  rw [hd]
  refine wpAny_pure (wpAny_nsGet hN ?_)
  cases hv : m name with
  | some v => rw [hv] at k; exact wpAny_pure k
  | none => rw [hv] at k; simp only; rw [hrest]; exact wpAny_pure k

theorem obj_new_look : typeLookup (.type "object") "__new__" = pure (some (.builtin "object.__new__")) := by rw [typeLookup_type, builtinLookup_eq_fast]; kernel_rfl
theorem wp_refresh {cd : ClassData} {Q : Unit → Shared → Prop} (W : CW h₀ h a N co m) (hd : co.data = .cls cd) (hm : cd.mro = [.ref a, .type "object"]) (hN : cd.ns = N) (h4 : co.slots[4]? = some (some (.builtin "object.__new__"))) (m5 : m "__new__" = none)
    (k : Q () ⟨h, g, d, tk, os⟩) : wpAny (model prog w) A (Bind.refreshMaker a) Q E ⟨h, g, d, tk, os⟩ := by
  unfold Bind.refreshMaker
  refine wpAny_bind ?_
  unfold slotAt
  refine wpAny_bind (wpAny_loadPart (s := ⟨h, g, d, tk, os⟩) W.cls (wpAny_pure ?_))
  rw [h4]
  refine wpAny_ite_false (by rfl) ?_
  refine wpAny_bind (wp_lookC W.cls hd hm (hN ▸ W.dict.ns) obj_new_look ?_)
  rw [m5]
  simp only
  refine wpAny_ite_false (by decide +kernel) (wpAny_pure k)

theorem sl_dict' : Builtin.Slots.givesDict (.type "object") = pure false := by kernel_rfl
set_option maxHeartbeats 2000000 in
theorem wp_install {cd : ClassData} {Q : Unit → Shared → Prop} (W : CW h₀ h a N co m) (hd : co.data = .cls cd) (m2 : m "obj" = none) (hz : ∃ o es ep, h.get? N = some o ∧ o.data = .dict es ep ∧ es.size ≤ 1000)
    (hp : (Data.cls { cd with hasDict := false, slotNames := ["obj"] }).pastItsLine = none)
    (k : ∀ h₁ h' md t' t2, Stay h₀ h₁ → CW h₁ h' a N { co with data := .cls { cd with hasDict := false, slotNames := ["obj"] } } (fun x => if x = "obj" then some (.ref md) else m x) →
      h₁.get? md = some { cls := .type "member_descriptor", data := .fields #[.str "obj" t', .ref a, .builtin "proto.slot", .builtin "proto.slot#set", .int 0 0] } → Q () ⟨h', g, d, t2, os⟩) :
    wpAny (model prog w) A (Builtin.Slots.install (.ref a) N [.type "object"] { names := ["obj"], dict := false, weak := false, inherited := [] }) Q E ⟨h, g, d, tk, os⟩ := by
  unfold Builtin.Slots.install
  have e1 := sl_dict'
  repeat ((fail_if_success (with_reducible show wpAny _ _ (nsGet _ _) _ _ _)); (first | with_reducible (first | refine wpAny_pure ?_ | refine wpAny_bind ?_ | refine wpAny_holding ?_ | refine wpAny_standAt ?_ | refine wpAny_point ?_ | refine wpAny_rule ?_ | refine wpAny_letGo ?_ | refine wpAny_mkInt' ?_ | refine wpAny_mkStr' ?_ | refine wpAny_fresh' ?_ | refine wpAny_alloc' ?_ | refine wpAny_attempt ?_ | refine wpAny_of_eq (by assumption) ?_ | refine wpAny_typeOf (by assumption) ?_ | refine wpAny_specialOf_val (by assumption) (by assumption) ?_ | refine wpAny_specialOf (by assumption) (by assumption) ?_ | refine wpAny_isInstance_val (by assumption) (by assumption) ?_ | refine wpAny_isInstance (by assumption) (by assumption) ?_ | refine wpAny_call ?_ | refine wpAny_runValue ?_ | refine wpAny_run ?_) | ((with_reducible show wpAny _ _ (load _) _ _ _); (with_reducible apply wpAny_load'); focus (heap_get; done)) | ((with_reducible show wpAny _ _ (update _ _) _ _ _); (with_reducible apply wpAny_update'); focus (heap_get; done)) | ((with_reducible show wpAny _ _ (loadPart _ _) _ _ _); (with_reducible apply wpAny_loadPart'); focus (heap_get; done)) | ((with_reducible show wpAny _ _ (updatePart _ _ _) _ _ _); (with_reducible apply wpAny_updatePart'); focus (heap_get; done)) | ((with_reducible refine wpAny_ite_false ?hc ?_); (case hc => first | (decide +kernel; done) | (rfl; done))) | ((with_reducible refine wpAny_ite_true ?hc ?_); (case hc => first | (decide +kernel; done) | (rfl; done))) | wp_delta | with_reducible_and_instances refine wpAny_pure ?_ | with_reducible_and_instances refine wpAny_bind ?_))
  refine cw_get' W m2 ?_
  repeat ((fail_if_success (with_reducible show wpAny _ _ (nsSetByValue _ _ _) _ _ _)); (first | with_reducible (first | refine wpAny_pure ?_ | refine wpAny_bind ?_ | refine wpAny_holding ?_ | refine wpAny_standAt ?_ | refine wpAny_point ?_ | refine wpAny_rule ?_ | refine wpAny_letGo ?_ | refine wpAny_mkInt' ?_ | refine wpAny_mkStr' ?_ | refine wpAny_fresh' ?_ | refine wpAny_alloc' ?_ | refine wpAny_attempt ?_ | refine wpAny_of_eq (by assumption) ?_ | refine wpAny_typeOf (by assumption) ?_ | refine wpAny_specialOf_val (by assumption) (by assumption) ?_ | refine wpAny_specialOf (by assumption) (by assumption) ?_ | refine wpAny_isInstance_val (by assumption) (by assumption) ?_ | refine wpAny_isInstance (by assumption) (by assumption) ?_ | refine wpAny_call ?_ | refine wpAny_runValue ?_ | refine wpAny_run ?_) | ((with_reducible show wpAny _ _ (load _) _ _ _); (with_reducible apply wpAny_load'); focus (heap_get; done)) | ((with_reducible show wpAny _ _ (update _ _) _ _ _); (with_reducible apply wpAny_update'); focus (heap_get; done)) | ((with_reducible show wpAny _ _ (loadPart _ _) _ _ _); (with_reducible apply wpAny_loadPart'); focus (heap_get; done)) | ((with_reducible show wpAny _ _ (updatePart _ _ _) _ _ _); (with_reducible apply wpAny_updatePart'); focus (heap_get; done)) | ((with_reducible refine wpAny_ite_false ?hc ?_); (case hc => first | (decide +kernel; done) | (rfl; done))) | ((with_reducible refine wpAny_ite_true ?hc ?_); (case hc => first | (decide +kernel; done) | (rfl; done))) | wp_delta | with_reducible_and_instances refine wpAny_pure ?_ | with_reducible_and_instances refine wpAny_bind ?_))
  have hmd : (h.push { cls := .type "member_descriptor", data := .fields #[.str "obj" tk, .ref a, .builtin "proto.slot", .builtin "proto.slot#set", .int 0 0] }).get? h.objs.size = some { cls := .type "member_descriptor", data := .fields #[.str "obj" tk, .ref a, .builtin "proto.slot", .builtin "proto.slot#set", .int 0 0] } := Heap.get?_push_size _ rfl
  have W1 := W.stay (h' := h.push { cls := .type "member_descriptor", data := .fields #[.str "obj" tk, .ref a, .builtin "proto.slot", .builtin "proto.slot#set", .int 0 0] }) fun _ _ e => Heap.get?_push_of_some _ e
  have hmN : h.objs.size ≠ N := by obtain ⟨o, _, _, e, _⟩ := W.dict; exact Nat.ne_of_gt (Heap.lt_size e)
  have hma : h.objs.size ≠ a := Nat.ne_of_gt (Heap.lt_size W.cls)
  obtain ⟨W1', S1⟩ := W1.ground
  refine cw_setV W1' ?_ fun h₂ W2 => ?_
  · obtain ⟨o, es, ep, e1, e2, e3⟩ := hz
    exact ⟨o, es, ep, Heap.get?_push_of_some _ e1, e2, by rw [sizeLine_eq]; omega⟩
  repeat ((fail_if_success (with_reducible show wpAny _ _ (updateCls _ _) _ _ _)); (first | with_reducible (first | refine wpAny_pure ?_ | refine wpAny_bind ?_ | refine wpAny_holding ?_ | refine wpAny_standAt ?_ | refine wpAny_point ?_ | refine wpAny_rule ?_ | refine wpAny_letGo ?_ | refine wpAny_mkInt' ?_ | refine wpAny_mkStr' ?_ | refine wpAny_fresh' ?_ | refine wpAny_alloc' ?_ | refine wpAny_attempt ?_ | refine wpAny_of_eq (by assumption) ?_ | refine wpAny_typeOf (by assumption) ?_ | refine wpAny_specialOf_val (by assumption) (by assumption) ?_ | refine wpAny_specialOf (by assumption) (by assumption) ?_ | refine wpAny_isInstance_val (by assumption) (by assumption) ?_ | refine wpAny_isInstance (by assumption) (by assumption) ?_ | refine wpAny_call ?_ | refine wpAny_runValue ?_ | refine wpAny_run ?_) | ((with_reducible show wpAny _ _ (load _) _ _ _); (with_reducible apply wpAny_load'); focus (heap_get; done)) | ((with_reducible show wpAny _ _ (update _ _) _ _ _); (with_reducible apply wpAny_update'); focus (heap_get; done)) | ((with_reducible show wpAny _ _ (loadPart _ _) _ _ _); (with_reducible apply wpAny_loadPart'); focus (heap_get; done)) | ((with_reducible show wpAny _ _ (updatePart _ _ _) _ _ _); (with_reducible apply wpAny_updatePart'); focus (heap_get; done)) | ((with_reducible refine wpAny_ite_false ?hc ?_); (case hc => first | (decide +kernel; done) | (rfl; done))) | ((with_reducible refine wpAny_ite_true ?hc ?_); (case hc => first | (decide +kernel; done) | (rfl; done))) | wp_delta | with_reducible_and_instances refine wpAny_pure ?_ | with_reducible_and_instances refine wpAny_bind ?_))
  refine cw_upd W2 hd hp fun h₃ W3 => ?_
  exact k _ h₃ _ tk _ S1 W3 (hideAll_get _ hmd (by simp; exact ⟨hma, hmN⟩))
end
end Mine
end
section
open PySem PySem.W PySem.Calls PyProof.Rows
set_option Elab.async false
set_option maxRecDepth 100000
namespace Mine
section
variable {prog : Program} {w : World} {A : Around} {E : Value → Shared → Prop} {g : Array GenState} {d : Drawn} {os : OsState} {h : Heap} {tk : Nat} {C N : Addr} {m : Str → Option Value}
variable {nm q : Str} {k0 k1 k2 k3 k5 : Option Value}

noncomputable abbrev kObj (nm q : Str) (C N : Addr) (k0 k1 k2 k3 k5 : Option Value) : Obj := excClassObj nm q C N [.type "object"] [.type "object"] false ["obj"] [] false none none k0 k1 k2 k3 k5 "object.__new__"

theorem sup_mro : ∃ c tl, mroOf (.type "super") = pure (c :: tl) := ⟨.type "super", [.type "object"], by kernel_rfl⟩
theorem sup_slot : Slot "super" "__init__" "super.__init__" :=
  .of (owner := "super") (n := "__init__") (by rw [typeLookup_type, builtinLookup_eq_fast]; kernel_rfl) (by decide +kernel) (by decide +kernel) (by decide +kernel)
    (by first | exact .inl (by decide +kernel) | exact .inr (by decide +kernel)) (by rw [isSubtype_type]; kernel_rfl)
theorem sup_called : TypeCalled "super" "super.__new__" "super.__init__" :=
  ⟨by decide +kernel, by decide +kernel, sup_mro, by kernel_rfl, by decide +kernel, by rw [isSubtype_type]; kernel_rfl, sup_slot⟩
theorem sup_ca (a b : Value) : (match Manifest.signature? s!"type.{"super"}" with | some sig => Bind.checkArgs s!"type.{"super"}" sig ⟨[a, b], []⟩ | none => pure ()) = pure () := by kernel_rfl
theorem wp_ctc {Q : Unit → Shared → Prop} (hC : h.get? C = some (kObj nm q C N k0 k1 k2 k3 k5)) (k : Q () ⟨h, g, d, tk, os⟩) : wpAny (model prog w) A (checkTypeCall "super" ⟨[.ref C, .ref C], []⟩) Q E ⟨h, g, d, tk, os⟩ := by
  have e3 : isSubtype (.type "type") (.type "type") = pure true := by rw [isSubtype_type]; kernel_rfl
  unfold checkTypeCall
  have := sup_ca (.ref C) (.ref C)
  cases hs : Manifest.signature? s!"type.{"super"}" with
  | none =>
    repeat (first | with_reducible refine wpAny_loadPart_at hC ?_ | (first | with_reducible (first | refine wpAny_pure ?_ | refine wpAny_bind ?_ | refine wpAny_holding ?_ | refine wpAny_standAt ?_ | refine wpAny_point ?_ | refine wpAny_rule ?_ | refine wpAny_letGo ?_ | refine wpAny_mkInt' ?_ | refine wpAny_mkStr' ?_ | refine wpAny_fresh' ?_ | refine wpAny_alloc' ?_ | refine wpAny_attempt ?_ | refine wpAny_of_eq (by assumption) ?_ | refine wpAny_typeOf (by assumption) ?_ | refine wpAny_specialOf_val (by assumption) (by assumption) ?_ | refine wpAny_specialOf (by assumption) (by assumption) ?_ | refine wpAny_isInstance_val (by assumption) (by assumption) ?_ | refine wpAny_isInstance (by assumption) (by assumption) ?_ | refine wpAny_call ?_ | refine wpAny_runValue ?_ | refine wpAny_run ?_) | ((with_reducible show wpAny _ _ (load _) _ _ _); (with_reducible apply wpAny_load'); focus (heap_get; done)) | ((with_reducible show wpAny _ _ (update _ _) _ _ _); (with_reducible apply wpAny_update'); focus (heap_get; done)) | ((with_reducible show wpAny _ _ (loadPart _ _) _ _ _); (with_reducible apply wpAny_loadPart'); focus (heap_get; done)) | ((with_reducible show wpAny _ _ (updatePart _ _ _) _ _ _); (with_reducible apply wpAny_updatePart'); focus (heap_get; done)) | ((with_reducible refine wpAny_ite_false ?hc ?_); (case hc => first | (decide +kernel; done) | (rfl; done))) | ((with_reducible refine wpAny_ite_true ?hc ?_); (case hc => first | (decide +kernel; done) | (rfl; done))) | wp_delta | with_reducible_and_instances refine wpAny_pure ?_ | with_reducible_and_instances refine wpAny_bind ?_))
    exact k
  | some sig =>
    rw [hs] at this
    repeat (first | with_reducible refine wpAny_loadPart_at hC ?_ | (first | with_reducible (first | refine wpAny_pure ?_ | refine wpAny_bind ?_ | refine wpAny_holding ?_ | refine wpAny_standAt ?_ | refine wpAny_point ?_ | refine wpAny_rule ?_ | refine wpAny_letGo ?_ | refine wpAny_mkInt' ?_ | refine wpAny_mkStr' ?_ | refine wpAny_fresh' ?_ | refine wpAny_alloc' ?_ | refine wpAny_attempt ?_ | refine wpAny_of_eq (by assumption) ?_ | refine wpAny_typeOf (by assumption) ?_ | refine wpAny_specialOf_val (by assumption) (by assumption) ?_ | refine wpAny_specialOf (by assumption) (by assumption) ?_ | refine wpAny_isInstance_val (by assumption) (by assumption) ?_ | refine wpAny_isInstance (by assumption) (by assumption) ?_ | refine wpAny_call ?_ | refine wpAny_runValue ?_ | refine wpAny_run ?_) | ((with_reducible show wpAny _ _ (load _) _ _ _); (with_reducible apply wpAny_load'); focus (heap_get; done)) | ((with_reducible show wpAny _ _ (update _ _) _ _ _); (with_reducible apply wpAny_update'); focus (heap_get; done)) | ((with_reducible show wpAny _ _ (loadPart _ _) _ _ _); (with_reducible apply wpAny_loadPart'); focus (heap_get; done)) | ((with_reducible show wpAny _ _ (updatePart _ _ _) _ _ _); (with_reducible apply wpAny_updatePart'); focus (heap_get; done)) | ((with_reducible refine wpAny_ite_false ?hc ?_); (case hc => first | (decide +kernel; done) | (rfl; done))) | ((with_reducible refine wpAny_ite_true ?hc ?_); (case hc => first | (decide +kernel; done) | (rfl; done))) | wp_delta | with_reducible_and_instances refine wpAny_pure ?_ | with_reducible_and_instances refine wpAny_bind ?_))
    exact k
theorem sup_nc (a b : Value) : checkBuiltinCall "super.__new__" ⟨[.type "super", a, b], []⟩ = pure () := by kernel_rfl
theorem sup_en : entryFor table "super.__new__" = some Builtin.«super.__new__» := PySem.entryFor_of_tree (by kernel_rfl)
theorem sup_ei : entryFor table "super.__init__" = some Builtin.«super.__init__» := PySem.entryFor_of_tree (by kernel_rfl)
theorem sup_args (a b c : Value) : argsOk "super.__init__" ⟨[a, b, c], []⟩ := by
  unfold argsOk; kernel_rfl
theorem sup_new (a b : Value) : Meets (Builtin.«super.__new__» ⟨[.type "super", a, b], []⟩) (fun _ R s => R (.ok (.ret (.ref s.heap.objs.size))) { s with heap := s.heap.push { cls := .type "super", data := .fields #[.none, .none, .none] } }) :=
  .of_wp fun prog w A R s h => by
    obtain ⟨hp, g, d, tk, os⟩ := s
    unfold Builtin.«super.__new__»
    wp_walk
    exact ⟨_, rfl, h⟩
theorem sup_init (X C N : Addr) (nm q : Str) (k0 k1 k2 k3 k5 : Option Value) (hX : C ≠ X) : Meets (Builtin.«super.__init__» ⟨[.ref X, .ref C, .ref C], []⟩) (fun _ R s => s.heap.get? C = some (kObj nm q C N k0 k1 k2 k3 k5) ∧
    s.heap.get? X = some { cls := .type "super", data := .fields #[.none, .none, .none] } ∧ ∀ h', h'.get? X = some { cls := .type "super", data := .fields #[.ref C, .ref C, .ref C] } → Off X s.heap h' → R (.ok (.ret .none)) { s with heap := h' }) :=
  .of_wp fun prog w A R s h => by
    obtain ⟨hp, g, d, tk, os⟩ := s
    obtain ⟨hC, hS, k⟩ := h
    have e3 : isSubtype (.type "type") (.type "type") = pure true := by rw [isSubtype_type]; kernel_rfl
    unfold Builtin.«super.__init__»
    simp only at hC hS k
    repeat (first | with_reducible refine wpAny_loadPart_at hC ?_ | with_reducible refine wpAny_isSubtype_exc hC ?_ | (first | with_reducible (first | refine wpAny_pure ?_ | refine wpAny_bind ?_ | refine wpAny_holding ?_ | refine wpAny_standAt ?_ | refine wpAny_point ?_ | refine wpAny_rule ?_ | refine wpAny_letGo ?_ | refine wpAny_mkInt' ?_ | refine wpAny_mkStr' ?_ | refine wpAny_fresh' ?_ | refine wpAny_alloc' ?_ | refine wpAny_attempt ?_ | refine wpAny_of_eq (by assumption) ?_ | refine wpAny_typeOf (by assumption) ?_ | refine wpAny_specialOf_val (by assumption) (by assumption) ?_ | refine wpAny_specialOf (by assumption) (by assumption) ?_ | refine wpAny_isInstance_val (by assumption) (by assumption) ?_ | refine wpAny_isInstance (by assumption) (by assumption) ?_ | refine wpAny_call ?_ | refine wpAny_runValue ?_ | refine wpAny_run ?_) | ((with_reducible show wpAny _ _ (load _) _ _ _); (with_reducible apply wpAny_load'); focus (heap_get; done)) | ((with_reducible show wpAny _ _ (update _ _) _ _ _); (with_reducible apply wpAny_update'); focus (heap_get; done)) | ((with_reducible show wpAny _ _ (loadPart _ _) _ _ _); (with_reducible apply wpAny_loadPart'); focus (heap_get; done)) | ((with_reducible show wpAny _ _ (updatePart _ _ _) _ _ _); (with_reducible apply wpAny_updatePart'); focus (heap_get; done)) | ((with_reducible refine wpAny_ite_false ?hc ?_); (case hc => first | (decide +kernel; done) | (rfl; done))) | ((with_reducible refine wpAny_ite_true ?hc ?_); (case hc => first | (decide +kernel; done) | (rfl; done))) | wp_delta | with_reducible_and_instances refine wpAny_pure ?_ | with_reducible_and_instances refine wpAny_bind ?_))
    refine wpAny_ite_true (by simp) ?_
    repeat (first | with_reducible refine wpAny_loadPart_at hC ?_ | with_reducible refine wpAny_isSubtype_exc hC ?_ | (first | with_reducible (first | refine wpAny_pure ?_ | refine wpAny_bind ?_ | refine wpAny_holding ?_ | refine wpAny_standAt ?_ | refine wpAny_point ?_ | refine wpAny_rule ?_ | refine wpAny_letGo ?_ | refine wpAny_mkInt' ?_ | refine wpAny_mkStr' ?_ | refine wpAny_fresh' ?_ | refine wpAny_alloc' ?_ | refine wpAny_attempt ?_ | refine wpAny_of_eq (by assumption) ?_ | refine wpAny_typeOf (by assumption) ?_ | refine wpAny_specialOf_val (by assumption) (by assumption) ?_ | refine wpAny_specialOf (by assumption) (by assumption) ?_ | refine wpAny_isInstance_val (by assumption) (by assumption) ?_ | refine wpAny_isInstance (by assumption) (by assumption) ?_ | refine wpAny_call ?_ | refine wpAny_runValue ?_ | refine wpAny_run ?_) | ((with_reducible show wpAny _ _ (load _) _ _ _); (with_reducible apply wpAny_load'); focus (heap_get; done)) | ((with_reducible show wpAny _ _ (update _ _) _ _ _); (with_reducible apply wpAny_update'); focus (heap_get; done)) | ((with_reducible show wpAny _ _ (loadPart _ _) _ _ _); (with_reducible apply wpAny_loadPart'); focus (heap_get; done)) | ((with_reducible show wpAny _ _ (updatePart _ _ _) _ _ _); (with_reducible apply wpAny_updatePart'); focus (heap_get; done)) | ((with_reducible refine wpAny_ite_false ?hc ?_); (case hc => first | (decide +kernel; done) | (rfl; done))) | ((with_reducible refine wpAny_ite_true ?hc ?_); (case hc => first | (decide +kernel; done) | (rfl; done))) | wp_delta | with_reducible_and_instances refine wpAny_pure ?_ | with_reducible_and_instances refine wpAny_bind ?_))
    refine ⟨_, rfl, k _ ?_ ?_⟩
    · rw [Heap.get?_update_self _ (Heap.get?_update_self _ (Heap.get?_update_self _ hS rfl) rfl) rfl]; rfl
    · intro b o hb e
      rw [Heap.get?_update_ne _ _ _ _ hb, Heap.get?_update_ne _ _ _ _ hb, Heap.get?_update_ne _ _ _ _ hb]; exact e

set_option maxHeartbeats 2000000 in
theorem wp_super {Q : Value → Shared → Prop} (hC : h.get? C = some (kObj nm q C N k0 k1 k2 k3 k5))
    (k : ∀ S h', h.get? S = none → Stay h h' → h'.get? S = some { cls := .type "super", data := .fields #[.ref C, .ref C, .ref C] } → Q (.ref S) ⟨h', g, d, tk, os⟩) :
    wpAny (model prog w) A (call (.type "super") [.ref C, .ref C]) Q E ⟨h, g, d, tk, os⟩ := by
  have hlt := Heap.lt_size hC
  obtain ⟨c, tl, hmro⟩ := sup_called.mro
  have hmade := sup_called.made
  have hsub := sup_called.sub
  refine wpAny_call (codeAny_of_tree ?_)
  show wpAny _ _ (callAny (.type "super") _) _ _ _
  refine wpAny_pure ⟨Code.quiet_builtin _ (by decide +kernel), codeAny_builtin PySem.F.entry_type_call ?_⟩
  rw [Around.under_plain (weight_type_call_type "super" _ []) (units_type_call_type "super" _ [])]
  have h1 := sup_called.notType
  have h2 := sup_called.canCreate
  repeat (any_goals (first | assumption | with_reducible refine wp_ctc hC ?_ | wp_step))
  have hnew : codeAny (model prog w) A.in1 (.call (.builtin "super.__new__") ⟨[.type "super", .ref C, .ref C], []⟩) (fun r s₁ => r = .ok (.ret (.ref h.objs.size)) ∧ s₁ = ⟨h.push { cls := .type "super", data := .fields #[.none, .none, .none] }, g, d, tk, os⟩) ⟨h, g, d, tk, os⟩ :=
    codeAny_call_builtin sup_called.plain sup_en (wpAny_of_eq (sup_nc _ _) (sup_new _ _ prog w A.in1 (fun r s₁ => r = .ok (.ret (.ref h.objs.size)) ∧ s₁ = ⟨h.push { cls := .type "super", data := .fields #[.none, .none, .none] }, g, d, tk, os⟩) ⟨h, g, d, tk, os⟩ ⟨rfl, rfl⟩))
  refine codeAny_mono hnew fun r s₁ hr => ?_
  obtain ⟨rfl, rfl⟩ := hr
  have hli := sup_slot.lookup
  have hbi := sup_slot.bind (.ref h.objs.size)
  have hT : Shared.TypeIs ⟨h.push { cls := .type "super", data := .fields #[.none, .none, .none] }, g, d, tk, os⟩ (.ref h.objs.size) "super" := ⟨_, Heap.get?_push_size _ rfl, rfl⟩
  show wpAny _ _ _ _ _ _
  repeat (any_goals (first | assumption | wp_step))
  have hini : codeAny (model prog w) A.in1 (.call (.builtin "super.__init__") ⟨[.ref h.objs.size, .ref C, .ref C], []⟩) (fun r s₁ => r = .ok (.ret .none) ∧ ∃ h', s₁ = ⟨h', g, d, tk, os⟩ ∧ h'.get? h.objs.size = some { cls := .type "super", data := .fields #[.ref C, .ref C, .ref C] } ∧
      Off h.objs.size (h.push { cls := .type "super", data := .fields #[.none, .none, .none] }) h') ⟨h.push { cls := .type "super", data := .fields #[.none, .none, .none] }, g, d, tk, os⟩ :=
    codeAny_call_builtin sup_slot.plain sup_ei (sup_slot.check _ _ _ _ _ _ _ _ hT (sup_args _ _ _) (sup_init _ C N nm q k0 k1 k2 k3 k5 (Nat.ne_of_lt hlt) prog w A.in1 (fun r s₁ => r = .ok (.ret .none) ∧ ∃ h', s₁ = ⟨h', g, d, tk, os⟩ ∧ h'.get? h.objs.size = some { cls := .type "super", data := .fields #[.ref C, .ref C, .ref C] } ∧ Off h.objs.size (h.push { cls := .type "super", data := .fields #[.none, .none, .none] }) h') _ ⟨Heap.get?_push_of_some _ hC, Heap.get?_push_size _ rfl, fun h' hX O => ⟨rfl, h', rfl, hX, O⟩⟩))
  refine codeAny_mono hini fun r s₁ hr => ?_
  obtain ⟨rfl, h', rfl, hX, O⟩ := hr
  show wpAny _ _ _ _ _ _
  repeat (any_goals (first | assumption | wp_step))
  exact k _ h' (Heap.get?_none_of_le (Nat.le_refl _)) (fun b o e => O b o (Nat.ne_of_lt (Heap.lt_size e)) (Heap.get?_push_of_some _ e)) hX
end
end Mine
end
section
open PySem PySem.W PySem.Calls PyProof.Rows
set_option Elab.async false
set_option maxRecDepth 100000
namespace Mine
section
variable {prog : Program} {w : World} {A : Around} {E : Value → Shared → Prop} {g : Array GenState} {d : Drawn} {os : OsState} {h : Heap} {tk : Nat} {C N S : Addr} {m mc : Str → Option Value}
variable {nm q : Str} {k0 k1 k2 k3 k5 : Option Value}

theorem sga_slot : Slot "super" "__getattribute__" "super.__getattribute__" :=
  .of (owner := "super") (n := "__getattribute__") (by rw [typeLookup_type, builtinLookup_eq_fast]; kernel_rfl) (by decide +kernel) (by decide +kernel) (by decide +kernel)
    (by first | exact .inl (by decide +kernel) | exact .inr (by decide +kernel)) (by rw [isSubtype_type]; kernel_rfl)
theorem sga_entry : entryFor table "super.__getattribute__" = some Builtin.«super.__getattribute__» := entryFor_of_tree (by kernel_rfl)
theorem sga_args (a b : Value) : argsOk "super.__getattribute__" ⟨[a, b], []⟩ := by unfold argsOk; kernel_rfl
theorem sga_own : classOwn (.type "object") "__init_subclass__" = pure (some (.builtin "object.__init_subclass__")) := by kernel_rfl
theorem sga_type : typeOf (.builtin "object.__init_subclass__") = pure (.type "classmethod_descriptor") := by show builtinType _ = _; rw [builtinType_eq_fast]; kernel_rfl
theorem sga_get : typeLookup (.type "classmethod_descriptor") "__get__" = pure (some (.builtin "classmethod_descriptor.__get__")) := by rw [typeLookup_type, builtinLookup_eq_fast]; kernel_rfl

theorem cdg_slot : Slot "classmethod_descriptor" "__get__" "classmethod_descriptor.__get__" :=
  .of (owner := "classmethod_descriptor") (n := "__get__") (by rw [typeLookup_type, builtinLookup_eq_fast]; kernel_rfl) (by decide +kernel) (by decide +kernel) (by decide +kernel)
    (by first | exact .inl (by decide +kernel) | exact .inr (by decide +kernel)) (by rw [isSubtype_type]; kernel_rfl)
theorem cdg_entry : entryFor table "classmethod_descriptor.__get__" = some Builtin.«classmethod_descriptor.__get__» := entryFor_of_tree (by kernel_rfl)
theorem cdg_args (a b c : Value) : argsOk "classmethod_descriptor.__get__" ⟨[a, b, c], []⟩ := by unfold argsOk; kernel_rfl
set_option maxHeartbeats 2000000 in
theorem wp_cdg {R : Result → Shared → Prop} (hC : h.get? C = some (kObj nm q C N k0 k1 k2 k3 k5))
    (k : R (.ok (.ret (.ref h.objs.size))) ⟨h.push { cls := .type "builtin_function_or_method", data := .fields #[.builtin "object.__init_subclass__", .ref C] }, g, d, tk, os⟩) :
    codeAny (model prog w) A (.call (.builtin "classmethod_descriptor.__get__") ⟨[.builtin "object.__init_subclass__", .none, .ref C], []⟩) R ⟨h, g, d, tk, os⟩ := by
  refine codeAny_call_builtin cdg_slot.plain cdg_entry (cdg_slot.check _ _ _ _ _ _ _ _ (show Shared.TypeIs ⟨h, g, d, tk, os⟩ (.builtin "object.__init_subclass__") "classmethod_descriptor" from sga_type) (cdg_args _ _ _) ?_)
  have e3 : isSubtype (.type "type") (.type "type") = pure true := by rw [isSubtype_type]; kernel_rfl
  have hc : [Value.ref C, Value.type "object"].contains (.type "object") = true := by simp
  unfold Builtin.«classmethod_descriptor.__get__»
  repeat (first | with_reducible refine wpAny_loadPart_at hC ?_ | with_reducible refine wpAny_isSubtype_exc hC ?_ | (first | with_reducible (first | refine wpAny_pure ?_ | refine wpAny_bind ?_ | refine wpAny_holding ?_ | refine wpAny_standAt ?_ | refine wpAny_point ?_ | refine wpAny_rule ?_ | refine wpAny_letGo ?_ | refine wpAny_mkInt' ?_ | refine wpAny_mkStr' ?_ | refine wpAny_fresh' ?_ | refine wpAny_alloc' ?_ | refine wpAny_attempt ?_ | refine wpAny_of_eq (by assumption) ?_ | refine wpAny_typeOf (by assumption) ?_ | refine wpAny_specialOf_val (by assumption) (by assumption) ?_ | refine wpAny_specialOf (by assumption) (by assumption) ?_ | refine wpAny_isInstance_val (by assumption) (by assumption) ?_ | refine wpAny_isInstance (by assumption) (by assumption) ?_ | refine wpAny_call ?_ | refine wpAny_runValue ?_ | refine wpAny_run ?_) | ((with_reducible show wpAny _ _ (load _) _ _ _); (with_reducible apply wpAny_load'); focus (heap_get; done)) | ((with_reducible show wpAny _ _ (update _ _) _ _ _); (with_reducible apply wpAny_update'); focus (heap_get; done)) | ((with_reducible show wpAny _ _ (loadPart _ _) _ _ _); (with_reducible apply wpAny_loadPart'); focus (heap_get; done)) | ((with_reducible show wpAny _ _ (updatePart _ _ _) _ _ _); (with_reducible apply wpAny_updatePart'); focus (heap_get; done)) | ((with_reducible refine wpAny_ite_false ?hc ?_); (case hc => first | (decide +kernel; done) | (rfl; done))) | ((with_reducible refine wpAny_ite_true ?hc ?_); (case hc => first | (decide +kernel; done) | (rfl; done))) | wp_delta | with_reducible_and_instances refine wpAny_pure ?_ | with_reducible_and_instances refine wpAny_bind ?_))
  exact k
set_option maxHeartbeats 4000000 in
theorem wp_sga {t : Tok} {Q : PySem.Fin → Shared → Prop} (hC : h.get? C = some (kObj nm q C N k0 k1 k2 k3 k5)) (hS : h.get? S = some { cls := .type "super", data := .fields #[.ref C, .ref C, .ref C] }) (hst : h.Ns cStatics mc) (hmc : mc "thirdparty.any" = none)
    (k : ∀ b h', h.get? b = none → Stay h h' → h'.get? b = some { cls := .type "builtin_function_or_method", data := .fields #[.builtin "object.__init_subclass__", .ref C] } → Q (.done (.ret (.ref b))) ⟨h', g, d, tk, os⟩) :
    wpAny (model prog w) A (Builtin.«super.__getattribute__» ⟨[.ref S, .str "__init_subclass__" t], []⟩) Q E ⟨h, g, d, tk, os⟩ := by
  have e1 := sga_own
  have e2 := sga_type
  have e3 := sga_get
  unfold Builtin.«super.__getattribute__»
  repeat ((fail_if_success (with_reducible show wpAny _ _ (forIn _ _ _) _ _ _)); first | with_reducible refine ns_get hst hmc ?_ | with_reducible refine wpAny_loadPart_at hS ?_ | with_reducible refine wpAny_mroOf_exc hC ?_ | (first | with_reducible (first | refine wpAny_pure ?_ | refine wpAny_bind ?_ | refine wpAny_holding ?_ | refine wpAny_standAt ?_ | refine wpAny_point ?_ | refine wpAny_rule ?_ | refine wpAny_letGo ?_ | refine wpAny_mkInt' ?_ | refine wpAny_mkStr' ?_ | refine wpAny_fresh' ?_ | refine wpAny_alloc' ?_ | refine wpAny_attempt ?_ | refine wpAny_of_eq (by assumption) ?_ | refine wpAny_typeOf (by assumption) ?_ | refine wpAny_specialOf_val (by assumption) (by assumption) ?_ | refine wpAny_specialOf (by assumption) (by assumption) ?_ | refine wpAny_isInstance_val (by assumption) (by assumption) ?_ | refine wpAny_isInstance (by assumption) (by assumption) ?_ | refine wpAny_call ?_ | refine wpAny_runValue ?_ | refine wpAny_run ?_) | ((with_reducible show wpAny _ _ (load _) _ _ _); (with_reducible apply wpAny_load'); focus (heap_get; done)) | ((with_reducible show wpAny _ _ (update _ _) _ _ _); (with_reducible apply wpAny_update'); focus (heap_get; done)) | ((with_reducible show wpAny _ _ (loadPart _ _) _ _ _); (with_reducible apply wpAny_loadPart'); focus (heap_get; done)) | ((with_reducible show wpAny _ _ (updatePart _ _ _) _ _ _); (with_reducible apply wpAny_updatePart'); focus (heap_get; done)) | ((with_reducible refine wpAny_ite_false ?hc ?_); (case hc => first | (decide +kernel; done) | (rfl; done))) | ((with_reducible refine wpAny_ite_true ?hc ?_); (case hc => first | (decide +kernel; done) | (rfl; done))) | wp_delta | with_reducible_and_instances refine wpAny_pure ?_ | with_reducible_and_instances refine wpAny_bind ?_))
  have hl : List.drop 1 (List.dropWhile (fun x => x != Value.ref C) [Value.ref C, Value.type "object"]) = [Value.type "object"] := by simp
  show wpAny _ _ (forIn (List.drop 1 (List.dropWhile (fun x => x != Value.ref C) [Value.ref C, Value.type "object"])) _ _) _ _ _
  rw [hl]
  have hi : (if (Value.ref C == Value.ref C) = true then Value.none else Value.ref C) = Value.none := by simp
  repeat ((fail_if_success (with_reducible show codeAny _ _ _ _ _)); (first | with_reducible (first | refine wpAny_pure ?_ | refine wpAny_bind ?_ | refine wpAny_holding ?_ | refine wpAny_standAt ?_ | refine wpAny_point ?_ | refine wpAny_rule ?_ | refine wpAny_letGo ?_ | refine wpAny_mkInt' ?_ | refine wpAny_mkStr' ?_ | refine wpAny_fresh' ?_ | refine wpAny_alloc' ?_ | refine wpAny_attempt ?_ | refine wpAny_of_eq (by assumption) ?_ | refine wpAny_typeOf (by assumption) ?_ | refine wpAny_specialOf_val (by assumption) (by assumption) ?_ | refine wpAny_specialOf (by assumption) (by assumption) ?_ | refine wpAny_isInstance_val (by assumption) (by assumption) ?_ | refine wpAny_isInstance (by assumption) (by assumption) ?_ | refine wpAny_call ?_ | refine wpAny_runValue ?_ | refine wpAny_run ?_) | ((with_reducible show wpAny _ _ (load _) _ _ _); (with_reducible apply wpAny_load'); focus (heap_get; done)) | ((with_reducible show wpAny _ _ (update _ _) _ _ _); (with_reducible apply wpAny_update'); focus (heap_get; done)) | ((with_reducible show wpAny _ _ (loadPart _ _) _ _ _); (with_reducible apply wpAny_loadPart'); focus (heap_get; done)) | ((with_reducible show wpAny _ _ (updatePart _ _ _) _ _ _); (with_reducible apply wpAny_updatePart'); focus (heap_get; done)) | ((with_reducible refine wpAny_ite_false ?hc ?_); (case hc => first | (decide +kernel; done) | (rfl; done))) | ((with_reducible refine wpAny_ite_true ?hc ?_); (case hc => first | (decide +kernel; done) | (rfl; done))) | wp_delta | with_reducible_and_instances refine wpAny_pure ?_ | with_reducible_and_instances refine wpAny_bind ?_))
  show codeAny _ _ (.call (.builtin "classmethod_descriptor.__get__") ⟨[.builtin "object.__init_subclass__", if (Value.ref C == Value.ref C) = true then Value.none else Value.ref C, .ref C], []⟩) _ _
  rw [hi]
  refine wp_cdg hC ?_
  show wpAny _ _ _ _ _ _
  repeat (first | with_reducible (first | refine wpAny_pure ?_ | refine wpAny_bind ?_ | refine wpAny_holding ?_ | refine wpAny_standAt ?_ | refine wpAny_point ?_ | refine wpAny_rule ?_ | refine wpAny_letGo ?_ | refine wpAny_mkInt' ?_ | refine wpAny_mkStr' ?_ | refine wpAny_fresh' ?_ | refine wpAny_alloc' ?_ | refine wpAny_attempt ?_ | refine wpAny_of_eq (by assumption) ?_ | refine wpAny_typeOf (by assumption) ?_ | refine wpAny_specialOf_val (by assumption) (by assumption) ?_ | refine wpAny_specialOf (by assumption) (by assumption) ?_ | refine wpAny_isInstance_val (by assumption) (by assumption) ?_ | refine wpAny_isInstance (by assumption) (by assumption) ?_ | refine wpAny_call ?_ | refine wpAny_runValue ?_ | refine wpAny_run ?_) | ((with_reducible show wpAny _ _ (load _) _ _ _); (with_reducible apply wpAny_load'); focus (heap_get; done)) | ((with_reducible show wpAny _ _ (update _ _) _ _ _); (with_reducible apply wpAny_update'); focus (heap_get; done)) | ((with_reducible show wpAny _ _ (loadPart _ _) _ _ _); (with_reducible apply wpAny_loadPart'); focus (heap_get; done)) | ((with_reducible show wpAny _ _ (updatePart _ _ _) _ _ _); (with_reducible apply wpAny_updatePart'); focus (heap_get; done)) | ((with_reducible refine wpAny_ite_false ?hc ?_); (case hc => first | (decide +kernel; done) | (rfl; done))) | ((with_reducible refine wpAny_ite_true ?hc ?_); (case hc => first | (decide +kernel; done) | (rfl; done))) | wp_delta | with_reducible_and_instances refine wpAny_pure ?_ | with_reducible_and_instances refine wpAny_bind ?_)
  exact k _ _ (Heap.get?_none_of_le (Nat.le_refl _)) (fun _ _ e => Heap.get?_push_of_some _ e) (Heap.get?_push_size _ rfl)

set_option maxHeartbeats 4000000 in
theorem wp_supAttr {Q : Value → Shared → Prop} (hC : h.get? C = some (kObj nm q C N k0 k1 k2 k3 k5)) (hS : h.get? S = some { cls := .type "super", data := .fields #[.ref C, .ref C, .ref C] }) (hst : h.Ns cStatics mc) (hmc : mc "thirdparty.any" = none)
    (k : ∀ b h' tk', h.get? b = none → Stay h h' → h'.get? b = some { cls := .type "builtin_function_or_method", data := .fields #[.builtin "object.__init_subclass__", .ref C] } → Q (.ref b) ⟨h', g, d, tk', os⟩) :
    wpAny (model prog w) A (getAttr (.ref S) "__init_subclass__") Q E ⟨h, g, d, tk, os⟩ := by
  have e1 := sga_slot.lookup
  have e2 := sga_slot.bind (.ref S)
  have hT : Shared.TypeIs ⟨h, g, d, tk + 1, os⟩ (.ref S) "super" := ⟨_, hS, rfl⟩
  unfold getAttr
  repeat ((fail_if_success (with_reducible show codeAny _ _ _ _ _)); first | with_reducible refine wpAny_loadPart_at hS ?_ | (first | with_reducible (first | refine wpAny_pure ?_ | refine wpAny_bind ?_ | refine wpAny_holding ?_ | refine wpAny_standAt ?_ | refine wpAny_point ?_ | refine wpAny_rule ?_ | refine wpAny_letGo ?_ | refine wpAny_mkInt' ?_ | refine wpAny_mkStr' ?_ | refine wpAny_fresh' ?_ | refine wpAny_alloc' ?_ | refine wpAny_attempt ?_ | refine wpAny_of_eq (by assumption) ?_ | refine wpAny_typeOf (by assumption) ?_ | refine wpAny_specialOf_val (by assumption) (by assumption) ?_ | refine wpAny_specialOf (by assumption) (by assumption) ?_ | refine wpAny_isInstance_val (by assumption) (by assumption) ?_ | refine wpAny_isInstance (by assumption) (by assumption) ?_ | refine wpAny_call ?_ | refine wpAny_runValue ?_ | refine wpAny_run ?_) | ((with_reducible show wpAny _ _ (load _) _ _ _); (with_reducible apply wpAny_load'); focus (heap_get; done)) | ((with_reducible show wpAny _ _ (update _ _) _ _ _); (with_reducible apply wpAny_update'); focus (heap_get; done)) | ((with_reducible show wpAny _ _ (loadPart _ _) _ _ _); (with_reducible apply wpAny_loadPart'); focus (heap_get; done)) | ((with_reducible show wpAny _ _ (updatePart _ _ _) _ _ _); (with_reducible apply wpAny_updatePart'); focus (heap_get; done)) | ((with_reducible refine wpAny_ite_false ?hc ?_); (case hc => first | (decide +kernel; done) | (rfl; done))) | ((with_reducible refine wpAny_ite_true ?hc ?_); (case hc => first | (decide +kernel; done) | (rfl; done))) | wp_delta | with_reducible_and_instances refine wpAny_pure ?_ | with_reducible_and_instances refine wpAny_bind ?_))
  refine codeAny_call_builtin sga_slot.plain sga_entry (sga_slot.check _ _ _ _ _ _ _ _ hT (sga_args _ _) ?_)
  refine wp_sga hC hS hst hmc fun b h' hb S' hb' => ?_
  show wpAny _ _ _ _ _ _
  repeat (first | with_reducible (first | refine wpAny_pure ?_ | refine wpAny_bind ?_ | refine wpAny_holding ?_ | refine wpAny_standAt ?_ | refine wpAny_point ?_ | refine wpAny_rule ?_ | refine wpAny_letGo ?_ | refine wpAny_mkInt' ?_ | refine wpAny_mkStr' ?_ | refine wpAny_fresh' ?_ | refine wpAny_alloc' ?_ | refine wpAny_attempt ?_ | refine wpAny_of_eq (by assumption) ?_ | refine wpAny_typeOf (by assumption) ?_ | refine wpAny_specialOf_val (by assumption) (by assumption) ?_ | refine wpAny_specialOf (by assumption) (by assumption) ?_ | refine wpAny_isInstance_val (by assumption) (by assumption) ?_ | refine wpAny_isInstance (by assumption) (by assumption) ?_ | refine wpAny_call ?_ | refine wpAny_runValue ?_ | refine wpAny_run ?_) | ((with_reducible show wpAny _ _ (load _) _ _ _); (with_reducible apply wpAny_load'); focus (heap_get; done)) | ((with_reducible show wpAny _ _ (update _ _) _ _ _); (with_reducible apply wpAny_update'); focus (heap_get; done)) | ((with_reducible show wpAny _ _ (loadPart _ _) _ _ _); (with_reducible apply wpAny_loadPart'); focus (heap_get; done)) | ((with_reducible show wpAny _ _ (updatePart _ _ _) _ _ _); (with_reducible apply wpAny_updatePart'); focus (heap_get; done)) | ((with_reducible refine wpAny_ite_false ?hc ?_); (case hc => first | (decide +kernel; done) | (rfl; done))) | ((with_reducible refine wpAny_ite_true ?hc ?_); (case hc => first | (decide +kernel; done) | (rfl; done))) | wp_delta | with_reducible_and_instances refine wpAny_pure ?_ | with_reducible_and_instances refine wpAny_bind ?_)
  exact k b h' _ hb S' hb'

theorem ois_entry : entryFor table "object.__init_subclass__" = some Builtin.«object.__init_subclass__» := entryFor_of_tree (by kernel_rfl)
set_option maxHeartbeats 4000000 in
theorem wp_callInit {b : Addr} {Q : Value → Shared → Prop} (hC : h.get? C = some (kObj nm "cmp_to_key.<locals>.K" C N k0 k1 k2 k3 k5)) (hb : h.get? b = some { cls := .type "builtin_function_or_method", data := .fields #[.builtin "object.__init_subclass__", .ref C] })
    (k : Q .none ⟨h, g, d, tk, os⟩) : wpAny (model prog w) A (call (.ref b) [] []) Q E ⟨h, g, d, tk, os⟩ := by
  have e3 : isSubtype (.type "type") (.type "type") = pure true := by rw [isSubtype_type]; kernel_rfl
  have e4 : isSubtype (.type "type") (.type "module") = pure false := by rw [isSubtype_type]; kernel_rfl
  refine wpAny_call (codeAny_of_tree ?_)
  show wpAny _ _ (callAny (.ref b) _) _ _ _
  repeat (first | with_reducible refine wpAny_loadPart_at hb ?_ | with_reducible refine wpAny_loadPart_at hC ?_ | (first | with_reducible (first | refine wpAny_pure ?_ | refine wpAny_bind ?_ | refine wpAny_holding ?_ | refine wpAny_standAt ?_ | refine wpAny_point ?_ | refine wpAny_rule ?_ | refine wpAny_letGo ?_ | refine wpAny_mkInt' ?_ | refine wpAny_mkStr' ?_ | refine wpAny_fresh' ?_ | refine wpAny_alloc' ?_ | refine wpAny_attempt ?_ | refine wpAny_of_eq (by assumption) ?_ | refine wpAny_typeOf (by assumption) ?_ | refine wpAny_specialOf_val (by assumption) (by assumption) ?_ | refine wpAny_specialOf (by assumption) (by assumption) ?_ | refine wpAny_isInstance_val (by assumption) (by assumption) ?_ | refine wpAny_isInstance (by assumption) (by assumption) ?_ | refine wpAny_call ?_ | refine wpAny_runValue ?_ | refine wpAny_run ?_) | ((with_reducible show wpAny _ _ (load _) _ _ _); (with_reducible apply wpAny_load'); focus (heap_get; done)) | ((with_reducible show wpAny _ _ (update _ _) _ _ _); (with_reducible apply wpAny_update'); focus (heap_get; done)) | ((with_reducible show wpAny _ _ (loadPart _ _) _ _ _); (with_reducible apply wpAny_loadPart'); focus (heap_get; done)) | ((with_reducible show wpAny _ _ (updatePart _ _ _) _ _ _); (with_reducible apply wpAny_updatePart'); focus (heap_get; done)) | ((with_reducible refine wpAny_ite_false ?hc ?_); (case hc => first | (decide +kernel; done) | (rfl; done))) | ((with_reducible refine wpAny_ite_true ?hc ?_); (case hc => first | (decide +kernel; done) | (rfl; done))) | wp_delta | with_reducible_and_instances refine wpAny_pure ?_ | with_reducible_and_instances refine wpAny_bind ?_))
  refine ⟨Code.quiet_builtin _ (by decide +kernel), codeAny_builtin ois_entry ?_⟩
  show wpAny _ _ (Builtin.«object.__init_subclass__» ⟨[.ref C], []⟩) _ _ _
  repeat (first | with_reducible (first | refine wpAny_pure ?_ | refine wpAny_bind ?_ | refine wpAny_holding ?_ | refine wpAny_standAt ?_ | refine wpAny_point ?_ | refine wpAny_rule ?_ | refine wpAny_letGo ?_ | refine wpAny_mkInt' ?_ | refine wpAny_mkStr' ?_ | refine wpAny_fresh' ?_ | refine wpAny_alloc' ?_ | refine wpAny_attempt ?_ | refine wpAny_of_eq (by assumption) ?_ | refine wpAny_typeOf (by assumption) ?_ | refine wpAny_specialOf_val (by assumption) (by assumption) ?_ | refine wpAny_specialOf (by assumption) (by assumption) ?_ | refine wpAny_isInstance_val (by assumption) (by assumption) ?_ | refine wpAny_isInstance (by assumption) (by assumption) ?_ | refine wpAny_call ?_ | refine wpAny_runValue ?_ | refine wpAny_run ?_) | ((with_reducible show wpAny _ _ (load _) _ _ _); (with_reducible apply wpAny_load'); focus (heap_get; done)) | ((with_reducible show wpAny _ _ (update _ _) _ _ _); (with_reducible apply wpAny_update'); focus (heap_get; done)) | ((with_reducible show wpAny _ _ (loadPart _ _) _ _ _); (with_reducible apply wpAny_loadPart'); focus (heap_get; done)) | ((with_reducible show wpAny _ _ (updatePart _ _ _) _ _ _); (with_reducible apply wpAny_updatePart'); focus (heap_get; done)) | ((with_reducible refine wpAny_ite_false ?hc ?_); (case hc => first | (decide +kernel; done) | (rfl; done))) | ((with_reducible refine wpAny_ite_true ?hc ?_); (case hc => first | (decide +kernel; done) | (rfl; done))) | wp_delta | with_reducible_and_instances refine wpAny_pure ?_ | with_reducible_and_instances refine wpAny_bind ?_)
  exact k
end
end Mine
end
section
open PySem PySem.W PySem.Calls PyProof.Rows
set_option Elab.async false
set_option maxRecDepth 100000
namespace Mine

section
variable {prog : Program} {w : World} {A : Around} {E : Value → Shared → Prop} {s : Shared} {h : Heap} {tk : Nat}

theorem al_new {o : Obj} {Q : Addr → Shared → Prop} {g : Array GenState} {d : Drawn} {os : OsState} (hf : o.isFreed = false) (k : ∀ a h', h.get? a = none → h'.get? a = some o → Stay h h' → Q a ⟨h', g, d, tk, os⟩) : wpAny (model prog w) A (alloc o) Q E ⟨h, g, d, tk, os⟩ :=
  wpAny_alloc' (k _ _ (Heap.get?_none_of_le (Nat.le_refl _)) (Heap.get?_push_size _ hf) fun _ _ e => Heap.get?_push_of_some _ e)
theorem no_new {T : String} {dt : Data} {Q : Value → Shared → Prop} {g : Array GenState} {d : Drawn} {os : OsState} (hs : sizeOk dt) (hf : ({ cls := .type T, data := dt } : Obj).isFreed = false)
    (k : ∀ a h', h.get? a = none → h'.get? a = some { cls := .type T, data := dt } → Stay h h' → Q (.ref a) ⟨h', g, d, tk, os⟩) : wpAny (model prog w) A (newObj (.type T) dt) Q E ⟨h, g, d, tk, os⟩ :=
  wpAny_newObj_type (s := ⟨h, g, d, tk, os⟩) (k _ _ (Heap.get?_none_of_le (Nat.le_refl _)) (Heap.get?_push_size _ hf) fun _ _ e => Heap.get?_push_of_some _ e) hs

theorem get_none_of {a b : Heap} {x : Addr} (S : Stay a b) (e : b.get? x = none) : a.get? x = none := by
  cases q : a.get? x with
  | none => rfl
  | some o => rw [S _ _ q] at e; cases e
theorem kf1 : isSubtype (.type "tuple") (.type "tuple") = pure true := by rw [isSubtype_type]; kernel_rfl
theorem kf2 : isSubtype (.type "dict") (.type "dict") = pure true := by rw [isSubtype_type]; kernel_rfl
theorem kf3 : isSubtype (.type "type") (.type "type") = pure true := by rw [isSubtype_type]; kernel_rfl
theorem kf4 : typeOf (.type "object") = pure (.type "type") := by kernel_rfl
theorem kf5 : isSubtype (.type "object") (.type "object") = pure true := by rw [isSubtype_type]; kernel_rfl
theorem kf6 : Builtin.notOverATurnedClass [.type "object"] = pure () := by kernel_rfl
theorem kf7 : Builtin.extendedBase [.type "object"] = pure (.type "object") := by kernel_rfl
theorem kf8 : typeLookup (.type "dict") "__iter__" = pure (some (.builtin "dict.__iter__")) := by rw [typeLookup_type, builtinLookup_eq_fast]; kernel_rfl
theorem kf9 : Builtin.mroHook? (.type "type") = pure none := by kernel_rfl
theorem kf10 : Builtin.linearize [.type "object"] mroOf = pure [.type "object"] := by kernel_rfl
theorem kf11 : Bind.madeBy (.type "object") = pure (some "object.__new__") := by kernel_rfl

noncomputable def NSN (h : Heap) (v : Value) : Prop := (∀ id, v ≠ .builtin id) ∧ ∃ T, typeLookup (.type T) "__set_name__" = pure none ∧ ∀ g d tk os, Shared.TypeIs ⟨h, g, d, tk, os⟩ v T
theorem NSN.stay {h h' : Heap} {v : Value} (x : NSN h v) (S : Stay h h') : NSN h' v := by
  obtain ⟨a, T, b, c⟩ := x
  refine ⟨a, T, b, fun g d tk os => ?_⟩
  have := c g d tk os
  cases v <;> first | exact this | skip
  obtain ⟨o, e1, e2⟩ := this
  exact ⟨o, S _ _ e1, e2⟩
theorem nsn_none (h : Heap) : NSN h .none := ⟨fun _ e => (by cases e), "NoneType", by rw [typeLookup_type, builtinLookup_eq_fast]; kernel_rfl, fun _ _ _ _ => by show typeOf _ = _; kernel_rfl⟩
theorem nsn_str (h : Heap) (x : Str) (t : Tok) : NSN h (.str x t) := ⟨fun _ e => (by cases e), "str", by rw [typeLookup_type, builtinLookup_eq_fast]; kernel_rfl, fun _ _ _ _ => typeIs_str _ _ _⟩
theorem nsn_int (h : Heap) (x : Int) (t : Tok) : NSN h (.int x t) := ⟨fun _ e => (by cases e), "int", by rw [typeLookup_type, builtinLookup_eq_fast]; kernel_rfl, fun _ _ _ _ => by show typeOf _ = _; kernel_rfl⟩
theorem nsn_ref {h : Heap} {a : Addr} {o : Obj} {T : String} (e : h.get? a = some o) (hc : o.cls = .type T) (hl : typeLookup (.type T) "__set_name__" = pure none) : NSN h (.ref a) := ⟨fun _ e => (by cases e), T, hl, fun _ _ _ _ => ⟨o, e, hc⟩⟩
theorem nl_list : typeLookup (.type "list") "__set_name__" = pure none := by rw [typeLookup_type, builtinLookup_eq_fast]; kernel_rfl
theorem nl_tuple : typeLookup (.type "tuple") "__set_name__" = pure none := by rw [typeLookup_type, builtinLookup_eq_fast]; kernel_rfl
theorem nl_func : typeLookup (.type "function") "__set_name__" = pure none := by rw [typeLookup_type, builtinLookup_eq_fast]; kernel_rfl
theorem nl_memb : typeLookup (.type "member_descriptor") "__set_name__" = pure none := by rw [typeLookup_type, builtinLookup_eq_fast]; kernel_rfl

set_option maxHeartbeats 8000000 in
theorem wp_typeNew {B N sl : Addr} {t ts tq : Tok} {es : Array DictEntry} {m : Str → Option Value} {n : Nat} {q : Str} {Q : Value → Shared → Prop}
    (hB : h.get? B = some { cls := .type "tuple", data := .seq #[.type "object"] 0 })
    (D : DN h N m es n) (hsl : h.get? sl = some { cls := .type "list", data := .seq #[.str "obj" ts] 0 }) (hNs : N ≠ sysModules)
    (m0 : (m "__module__").isSome = true) (m1 : m "__slots__" = some (.ref sl)) (m2 : m "obj" = none) (m3 : m "__qualname__" = some (.str q tq)) (m4 : m "__doc__" = none) (m5 : m "__new__" = none) (m6 : m "__init_subclass__" = none)
    (m7 : m "__class_getitem__" = none) (m8 : m "__classcell__" = none) (m9 : m "__classdictcell__" = none) (m10 : m "__del__" = none) {ve vh : Value} (m11 : m "__eq__" = some ve) (m12 : m "__hash__" = some vh)
    {ks : List Str} (hks : ∀ x, m x ≠ none → x ∈ ks) (hkl : ks.length ≤ 100) (hq : q = "cmp_to_key.<locals>.K") {mc : Str → Option Value} (hst : h.Ns cStatics mc) (hmc : mc "thirdparty.any" = none) (hvs : ∀ x v, m x = some v → NSN h v)
    (k : ∀ C N' h' tk' md tmd, Stay h h' → h.get? N' = none → h'.get? C = some (kObj "K" q C N' (some (.ref B)) none (some (.str "K" t)) (some (.str q tq)) (some (.bool false))) →
      h'.Ns N' (fun x => if x = "__doc__" then some Value.none else if x = "obj" then some (.ref md) else if x = "__qualname__" then none else m x) →
      h'.get? md = some { cls := .type "member_descriptor", data := .fields #[.str "obj" tmd, .ref C, .builtin "proto.slot", .builtin "proto.slot#set", .int 0 0] } → Q (.ref C) (st s h' tk')) :
    wpAny (model prog w) A (Builtin.«type.__new__» ⟨[.type "type", .str "K" t, .ref B, .ref N], []⟩) (fun fin s' => ∃ v, fin = .done (.ret v) ∧ Q v s') E (st s h tk) := by
  obtain ⟨en, hfind, hval⟩ := find_of D.ns m1
  have hN := D.at'
  have hNs' : (N == sysModules) = false := by simpa using hNs
  obtain ⟨h0, g, d, t0, os⟩ := s
  simp only [st]
  have e1 := kf1
  have e2 := kf2
  have e3 := kf3
  have e4 := kf4
  have e5 := kf5
  have e6 : Builtin.notOverATurnedClass (if ((some #[Value.type "object"]).getD #[]).toList.isEmpty = true then [Value.type "object"] else ((some #[Value.type "object"]).getD #[]).toList) = pure () := kf6
  have e7 : Builtin.extendedBase (if ((some #[Value.type "object"]).getD #[]).toList.isEmpty = true then [Value.type "object"] else ((some #[Value.type "object"]).getD #[]).toList) = pure (.type "object") := kf7
  have e8 := kf8
  have e9 : Shared.TypeIs ⟨h, g, d, tk, os⟩ (.ref N) "dict" := ⟨_, hN, rfl⟩
  have f9 := kf9
  have f10 : Builtin.linearize (if ((some #[Value.type "object"]).getD #[]).toList.isEmpty = true then [Value.type "object"] else ((some #[Value.type "object"]).getD #[]).toList) mroOf = pure [.type "object"] := kf10
  have f11 := kf11
  unfold Builtin.«type.__new__»
  repeat ((fail_if_success (with_reducible show wpAny _ _ (if (_ == sysModules) = true then _ else _) _ _ _)); (first | with_reducible (first | refine wpAny_pure ?_ | refine wpAny_bind ?_ | refine wpAny_holding ?_ | refine wpAny_standAt ?_ | refine wpAny_point ?_ | refine wpAny_rule ?_ | refine wpAny_letGo ?_ | refine wpAny_mkInt' ?_ | refine wpAny_mkStr' ?_ | refine wpAny_fresh' ?_ | refine wpAny_alloc' ?_ | refine wpAny_attempt ?_ | refine wpAny_of_eq (by assumption) ?_ | refine wpAny_typeOf (by assumption) ?_ | refine wpAny_specialOf_val (by assumption) (by assumption) ?_ | refine wpAny_specialOf (by assumption) (by assumption) ?_ | refine wpAny_isInstance_val (by assumption) (by assumption) ?_ | refine wpAny_isInstance (by assumption) (by assumption) ?_ | refine wpAny_call ?_ | refine wpAny_runValue ?_ | refine wpAny_run ?_) | ((with_reducible show wpAny _ _ (load _) _ _ _); (with_reducible apply wpAny_load'); focus (heap_get; done)) | ((with_reducible show wpAny _ _ (update _ _) _ _ _); (with_reducible apply wpAny_update'); focus (heap_get; done)) | ((with_reducible show wpAny _ _ (loadPart _ _) _ _ _); (with_reducible apply wpAny_loadPart'); focus (heap_get; done)) | ((with_reducible show wpAny _ _ (updatePart _ _ _) _ _ _); (with_reducible apply wpAny_updatePart'); focus (heap_get; done)) | ((with_reducible refine wpAny_ite_false ?hc ?_); (case hc => first | (decide +kernel; done) | (rfl; done))) | ((with_reducible refine wpAny_ite_true ?hc ?_); (case hc => first | (decide +kernel; done) | (rfl; done))) | wp_delta | with_reducible_and_instances refine wpAny_pure ?_ | with_reducible_and_instances refine wpAny_bind ?_))
  refine wpAny_ite_false (decide_eq_false (by rw [hNs']; decide)) ?_
  repeat ((fail_if_success (with_reducible show wpAny _ _ (if (_ || (some _ == some _)) = true then _ else _) _ _ _)); (first | with_reducible (first | refine wpAny_pure ?_ | refine wpAny_bind ?_ | refine wpAny_holding ?_ | refine wpAny_standAt ?_ | refine wpAny_point ?_ | refine wpAny_rule ?_ | refine wpAny_letGo ?_ | refine wpAny_mkInt' ?_ | refine wpAny_mkStr' ?_ | refine wpAny_fresh' ?_ | refine wpAny_alloc' ?_ | refine wpAny_attempt ?_ | refine wpAny_of_eq (by assumption) ?_ | refine wpAny_typeOf (by assumption) ?_ | refine wpAny_specialOf_val (by assumption) (by assumption) ?_ | refine wpAny_specialOf (by assumption) (by assumption) ?_ | refine wpAny_isInstance_val (by assumption) (by assumption) ?_ | refine wpAny_isInstance (by assumption) (by assumption) ?_ | refine wpAny_call ?_ | refine wpAny_runValue ?_ | refine wpAny_run ?_) | ((with_reducible show wpAny _ _ (load _) _ _ _); (with_reducible apply wpAny_load'); focus (heap_get; done)) | ((with_reducible show wpAny _ _ (update _ _) _ _ _); (with_reducible apply wpAny_update'); focus (heap_get; done)) | ((with_reducible show wpAny _ _ (loadPart _ _) _ _ _); (with_reducible apply wpAny_loadPart'); focus (heap_get; done)) | ((with_reducible show wpAny _ _ (updatePart _ _ _) _ _ _); (with_reducible apply wpAny_updatePart'); focus (heap_get; done)) | ((with_reducible refine wpAny_ite_false ?hc ?_); (case hc => first | (decide +kernel; done) | (rfl; done))) | ((with_reducible refine wpAny_ite_true ?hc ?_); (case hc => first | (decide +kernel; done) | (rfl; done))) | wp_delta | with_reducible_and_instances refine wpAny_pure ?_ | with_reducible_and_instances refine wpAny_bind ?_))
  refine wpAny_ite_true (decide_eq_true (by rw [show (some (Value.builtin "dict.__iter__") == some (Value.builtin "dict.__iter__")) = true from rfl]; simp)) ?_
  refine wpAny_bind (wpAny_pure ?_)
  refine wpAny_bind (wpAny_holding (wp_slotsRead (s := ⟨h, g, d, tk, os⟩) ⟨_, hsl, rfl, _, rfl⟩ ⟨_, hsl, rfl⟩ hfind hval (by rw [any_of D.ns, m2]; rfl) fun h₁ S₁ => ?_))
  have hz : es.size ≤ 100 := Nat.le_trans (es_size D.sk D.uk D.ns ks hks) hkl
  refine wpAny_bind (no_new (h := h₁) (g := g) (d := d) (tk := tk) (os := os) (by unfold sizeOk; rw [sizeLine_eq]; simp; (first | lia | omega)) rfl fun NN H2 fN hNN kN => ?_)
  refine wpAny_ite_false (decide_eq_false (by show ¬ (!(es.any fun x => x.key.isStr (Str.ofString "__module__"))) = true; rw [any_of D.ns]; simp [m0])) ?_
  have nDn : H2.Ns NN m := ⟨_, es, 0, hNN, rfl, D.sk, D.ns⟩
  have nD1 : H2.Ns1 NN m := ⟨_, es, 0, hNN, rfl, D.sk, D.uk, D.ns⟩
  repeat ((fail_if_success (with_reducible show wpAny _ _ (alloc _) _ _ _)); first | with_reducible refine ns_get nDn m3 ?_ | with_reducible refine ns_get nDn m4 ?_ | (first | with_reducible (first | refine wpAny_pure ?_ | refine wpAny_bind ?_ | refine wpAny_holding ?_ | refine wpAny_standAt ?_ | refine wpAny_point ?_ | refine wpAny_rule ?_ | refine wpAny_letGo ?_ | refine wpAny_mkInt' ?_ | refine wpAny_mkStr' ?_ | refine wpAny_fresh' ?_ | refine wpAny_alloc' ?_ | refine wpAny_attempt ?_ | refine wpAny_of_eq (by assumption) ?_ | refine wpAny_typeOf (by assumption) ?_ | refine wpAny_specialOf_val (by assumption) (by assumption) ?_ | refine wpAny_specialOf (by assumption) (by assumption) ?_ | refine wpAny_isInstance_val (by assumption) (by assumption) ?_ | refine wpAny_isInstance (by assumption) (by assumption) ?_ | refine wpAny_call ?_ | refine wpAny_runValue ?_ | refine wpAny_run ?_) | ((with_reducible show wpAny _ _ (load _) _ _ _); (with_reducible apply wpAny_load'); focus (heap_get; done)) | ((with_reducible show wpAny _ _ (update _ _) _ _ _); (with_reducible apply wpAny_update'); focus (heap_get; done)) | ((with_reducible show wpAny _ _ (loadPart _ _) _ _ _); (with_reducible apply wpAny_loadPart'); focus (heap_get; done)) | ((with_reducible show wpAny _ _ (updatePart _ _ _) _ _ _); (with_reducible apply wpAny_updatePart'); focus (heap_get; done)) | ((with_reducible refine wpAny_ite_false ?hc ?_); (case hc => first | (decide +kernel; done) | (rfl; done))) | ((with_reducible refine wpAny_ite_true ?hc ?_); (case hc => first | (decide +kernel; done) | (rfl; done))) | wp_delta | with_reducible_and_instances refine wpAny_pure ?_ | with_reducible_and_instances refine wpAny_bind ?_))
  refine al_new (h := H2) rfl fun AA H3 fA hA kA => ?_
  have hne : AA ≠ NN := fun q => by rw [q, hNN] at fA; cases fA
  have W0 : CW h₁ H3 AA NN { cls := .type "type", data := .cls { name := "K", bases := [.type "object"], mro := [], ns := NN, qualname := q } } m :=
    ⟨hA, nD1.at fun o e => kA _ o e, hne, kN.trans kA, get_none_of kN fA, fN⟩
  repeat ((fail_if_success (with_reducible show wpAny _ _ (setSlotAt _ _ _) _ _ _)); (first | with_reducible (first | refine wpAny_pure ?_ | refine wpAny_bind ?_ | refine wpAny_holding ?_ | refine wpAny_standAt ?_ | refine wpAny_point ?_ | refine wpAny_rule ?_ | refine wpAny_letGo ?_ | refine wpAny_mkInt' ?_ | refine wpAny_mkStr' ?_ | refine wpAny_fresh' ?_ | refine wpAny_alloc' ?_ | refine wpAny_attempt ?_ | refine wpAny_of_eq (by assumption) ?_ | refine wpAny_typeOf (by assumption) ?_ | refine wpAny_specialOf_val (by assumption) (by assumption) ?_ | refine wpAny_specialOf (by assumption) (by assumption) ?_ | refine wpAny_isInstance_val (by assumption) (by assumption) ?_ | refine wpAny_isInstance (by assumption) (by assumption) ?_ | refine wpAny_call ?_ | refine wpAny_runValue ?_ | refine wpAny_run ?_) | ((with_reducible show wpAny _ _ (load _) _ _ _); (with_reducible apply wpAny_load'); focus (heap_get; done)) | ((with_reducible show wpAny _ _ (update _ _) _ _ _); (with_reducible apply wpAny_update'); focus (heap_get; done)) | ((with_reducible show wpAny _ _ (loadPart _ _) _ _ _); (with_reducible apply wpAny_loadPart'); focus (heap_get; done)) | ((with_reducible show wpAny _ _ (updatePart _ _ _) _ _ _); (with_reducible apply wpAny_updatePart'); focus (heap_get; done)) | ((with_reducible refine wpAny_ite_false ?hc ?_); (case hc => first | (decide +kernel; done) | (rfl; done))) | ((with_reducible refine wpAny_ite_true ?hc ?_); (case hc => first | (decide +kernel; done) | (rfl; done))) | wp_delta | with_reducible_and_instances refine wpAny_pure ?_ | with_reducible_and_instances refine wpAny_bind ?_))
  refine cw_slotE ⟨.type "type", none, .cls { name := "K", bases := [.type "object"], mro := [], ns := NN, qualname := q }, #[some (.ref B)]⟩ W0 rfl rfl (by decide) fun h₂ W1 => ?_
  repeat ((fail_if_success (with_reducible show wpAny _ _ (setSlotAt _ _ _) _ _ _)); (first | with_reducible (first | refine wpAny_pure ?_ | refine wpAny_bind ?_ | refine wpAny_holding ?_ | refine wpAny_standAt ?_ | refine wpAny_point ?_ | refine wpAny_rule ?_ | refine wpAny_letGo ?_ | refine wpAny_mkInt' ?_ | refine wpAny_mkStr' ?_ | refine wpAny_fresh' ?_ | refine wpAny_alloc' ?_ | refine wpAny_attempt ?_ | refine wpAny_of_eq (by assumption) ?_ | refine wpAny_typeOf (by assumption) ?_ | refine wpAny_specialOf_val (by assumption) (by assumption) ?_ | refine wpAny_specialOf (by assumption) (by assumption) ?_ | refine wpAny_isInstance_val (by assumption) (by assumption) ?_ | refine wpAny_isInstance (by assumption) (by assumption) ?_ | refine wpAny_call ?_ | refine wpAny_runValue ?_ | refine wpAny_run ?_) | ((with_reducible show wpAny _ _ (load _) _ _ _); (with_reducible apply wpAny_load'); focus (heap_get; done)) | ((with_reducible show wpAny _ _ (update _ _) _ _ _); (with_reducible apply wpAny_update'); focus (heap_get; done)) | ((with_reducible show wpAny _ _ (loadPart _ _) _ _ _); (with_reducible apply wpAny_loadPart'); focus (heap_get; done)) | ((with_reducible show wpAny _ _ (updatePart _ _ _) _ _ _); (with_reducible apply wpAny_updatePart'); focus (heap_get; done)) | ((with_reducible refine wpAny_ite_false ?hc ?_); (case hc => first | (decide +kernel; done) | (rfl; done))) | ((with_reducible refine wpAny_ite_true ?hc ?_); (case hc => first | (decide +kernel; done) | (rfl; done))) | wp_delta | with_reducible_and_instances refine wpAny_pure ?_ | with_reducible_and_instances refine wpAny_bind ?_))
  refine cw_slotE ⟨.type "type", none, .cls { name := "K", bases := [.type "object"], mro := [], ns := NN, qualname := q }, #[some (.ref B), none, some (.str "K" t)]⟩ W1 rfl rfl (by decide) fun h₃ W2 => ?_
  repeat ((fail_if_success (with_reducible show wpAny _ _ (setSlotAt _ _ _) _ _ _)); (first | with_reducible (first | refine wpAny_pure ?_ | refine wpAny_bind ?_ | refine wpAny_holding ?_ | refine wpAny_standAt ?_ | refine wpAny_point ?_ | refine wpAny_rule ?_ | refine wpAny_letGo ?_ | refine wpAny_mkInt' ?_ | refine wpAny_mkStr' ?_ | refine wpAny_fresh' ?_ | refine wpAny_alloc' ?_ | refine wpAny_attempt ?_ | refine wpAny_of_eq (by assumption) ?_ | refine wpAny_typeOf (by assumption) ?_ | refine wpAny_specialOf_val (by assumption) (by assumption) ?_ | refine wpAny_specialOf (by assumption) (by assumption) ?_ | refine wpAny_isInstance_val (by assumption) (by assumption) ?_ | refine wpAny_isInstance (by assumption) (by assumption) ?_ | refine wpAny_call ?_ | refine wpAny_runValue ?_ | refine wpAny_run ?_) | ((with_reducible show wpAny _ _ (load _) _ _ _); (with_reducible apply wpAny_load'); focus (heap_get; done)) | ((with_reducible show wpAny _ _ (update _ _) _ _ _); (with_reducible apply wpAny_update'); focus (heap_get; done)) | ((with_reducible show wpAny _ _ (loadPart _ _) _ _ _); (with_reducible apply wpAny_loadPart'); focus (heap_get; done)) | ((with_reducible show wpAny _ _ (updatePart _ _ _) _ _ _); (with_reducible apply wpAny_updatePart'); focus (heap_get; done)) | ((with_reducible refine wpAny_ite_false ?hc ?_); (case hc => first | (decide +kernel; done) | (rfl; done))) | ((with_reducible refine wpAny_ite_true ?hc ?_); (case hc => first | (decide +kernel; done) | (rfl; done))) | wp_delta | with_reducible_and_instances refine wpAny_pure ?_ | with_reducible_and_instances refine wpAny_bind ?_))
  refine cw_slotE ⟨.type "type", none, .cls { name := "K", bases := [.type "object"], mro := [], ns := NN, qualname := q }, #[some (.ref B), none, some (.str "K" t), some (.str q tq)]⟩ W2 rfl rfl (by decide) fun h₄ W3 => ?_
  repeat ((fail_if_success (with_reducible show wpAny _ _ (nsDel _ _) _ _ _)); (first | with_reducible (first | refine wpAny_pure ?_ | refine wpAny_bind ?_ | refine wpAny_holding ?_ | refine wpAny_standAt ?_ | refine wpAny_point ?_ | refine wpAny_rule ?_ | refine wpAny_letGo ?_ | refine wpAny_mkInt' ?_ | refine wpAny_mkStr' ?_ | refine wpAny_fresh' ?_ | refine wpAny_alloc' ?_ | refine wpAny_attempt ?_ | refine wpAny_of_eq (by assumption) ?_ | refine wpAny_typeOf (by assumption) ?_ | refine wpAny_specialOf_val (by assumption) (by assumption) ?_ | refine wpAny_specialOf (by assumption) (by assumption) ?_ | refine wpAny_isInstance_val (by assumption) (by assumption) ?_ | refine wpAny_isInstance (by assumption) (by assumption) ?_ | refine wpAny_call ?_ | refine wpAny_runValue ?_ | refine wpAny_run ?_) | ((with_reducible show wpAny _ _ (load _) _ _ _); (with_reducible apply wpAny_load'); focus (heap_get; done)) | ((with_reducible show wpAny _ _ (update _ _) _ _ _); (with_reducible apply wpAny_update'); focus (heap_get; done)) | ((with_reducible show wpAny _ _ (loadPart _ _) _ _ _); (with_reducible apply wpAny_loadPart'); focus (heap_get; done)) | ((with_reducible show wpAny _ _ (updatePart _ _ _) _ _ _); (with_reducible apply wpAny_updatePart'); focus (heap_get; done)) | ((with_reducible refine wpAny_ite_false ?hc ?_); (case hc => first | (decide +kernel; done) | (rfl; done))) | ((with_reducible refine wpAny_ite_true ?hc ?_); (case hc => first | (decide +kernel; done) | (rfl; done))) | wp_delta | with_reducible_and_instances refine wpAny_pure ?_ | with_reducible_and_instances refine wpAny_bind ?_))
  refine cw_del W3 fun h₅ W4 => ?_
  have m5' : (fun x => if x = Str.ofString "__qualname__" then none else m x) (Str.ofString "__new__") = none := m5
  have m6' : (fun x => if x = Str.ofString "__qualname__" then none else m x) (Str.ofString "__init_subclass__") = none := m6
  have m7' : (fun x => if x = Str.ofString "__qualname__" then none else m x) (Str.ofString "__class_getitem__") = none := m7
  have m8' : (fun x => if x = Str.ofString "__qualname__" then none else m x) (Str.ofString "__classcell__") = none := m8
  have m9' : (fun x => if x = Str.ofString "__qualname__" then none else m x) (Str.ofString "__classdictcell__") = none := m9
  repeat ((fail_if_success (with_reducible show wpAny _ _ (List.anyM _ _) _ _ _)); first | with_reducible refine cw_get' W4 m5' ?_ | with_reducible refine cw_get' W4 m6' ?_ | with_reducible refine cw_get' W4 m7' ?_ | with_reducible refine cw_get' W4 m8' ?_ | with_reducible refine cw_get' W4 m9' ?_ | (first | with_reducible (first | refine wpAny_pure ?_ | refine wpAny_bind ?_ | refine wpAny_holding ?_ | refine wpAny_standAt ?_ | refine wpAny_point ?_ | refine wpAny_rule ?_ | refine wpAny_letGo ?_ | refine wpAny_mkInt' ?_ | refine wpAny_mkStr' ?_ | refine wpAny_fresh' ?_ | refine wpAny_alloc' ?_ | refine wpAny_attempt ?_ | refine wpAny_of_eq (by assumption) ?_ | refine wpAny_typeOf (by assumption) ?_ | refine wpAny_specialOf_val (by assumption) (by assumption) ?_ | refine wpAny_specialOf (by assumption) (by assumption) ?_ | refine wpAny_isInstance_val (by assumption) (by assumption) ?_ | refine wpAny_isInstance (by assumption) (by assumption) ?_ | refine wpAny_call ?_ | refine wpAny_runValue ?_ | refine wpAny_run ?_) | ((with_reducible show wpAny _ _ (load _) _ _ _); (with_reducible apply wpAny_load'); focus (heap_get; done)) | ((with_reducible show wpAny _ _ (update _ _) _ _ _); (with_reducible apply wpAny_update'); focus (heap_get; done)) | ((with_reducible show wpAny _ _ (loadPart _ _) _ _ _); (with_reducible apply wpAny_loadPart'); focus (heap_get; done)) | ((with_reducible show wpAny _ _ (updatePart _ _ _) _ _ _); (with_reducible apply wpAny_updatePart'); focus (heap_get; done)) | ((with_reducible refine wpAny_ite_false ?hc ?_); (case hc => first | (decide +kernel; done) | (rfl; done))) | ((with_reducible refine wpAny_ite_true ?hc ?_); (case hc => first | (decide +kernel; done) | (rfl; done))) | wp_delta | with_reducible_and_instances refine wpAny_pure ?_ | with_reducible_and_instances refine wpAny_bind ?_))
  refine wpAny_of_eq (a := false) ?hany ?_
  case hany =>
    rw [show List.filter (fun x => x != Value.ref AA) (Value.ref AA :: [Value.type "object"]) = [Value.type "object"] by simp]
    kernel_rfl
  repeat ((fail_if_success (with_reducible show wpAny _ _ (updateCls _ _) _ _ _)); (first | with_reducible (first | refine wpAny_pure ?_ | refine wpAny_bind ?_ | refine wpAny_holding ?_ | refine wpAny_standAt ?_ | refine wpAny_point ?_ | refine wpAny_rule ?_ | refine wpAny_letGo ?_ | refine wpAny_mkInt' ?_ | refine wpAny_mkStr' ?_ | refine wpAny_fresh' ?_ | refine wpAny_alloc' ?_ | refine wpAny_attempt ?_ | refine wpAny_of_eq (by assumption) ?_ | refine wpAny_typeOf (by assumption) ?_ | refine wpAny_specialOf_val (by assumption) (by assumption) ?_ | refine wpAny_specialOf (by assumption) (by assumption) ?_ | refine wpAny_isInstance_val (by assumption) (by assumption) ?_ | refine wpAny_isInstance (by assumption) (by assumption) ?_ | refine wpAny_call ?_ | refine wpAny_runValue ?_ | refine wpAny_run ?_) | ((with_reducible show wpAny _ _ (load _) _ _ _); (with_reducible apply wpAny_load'); focus (heap_get; done)) | ((with_reducible show wpAny _ _ (update _ _) _ _ _); (with_reducible apply wpAny_update'); focus (heap_get; done)) | ((with_reducible show wpAny _ _ (loadPart _ _) _ _ _); (with_reducible apply wpAny_loadPart'); focus (heap_get; done)) | ((with_reducible show wpAny _ _ (updatePart _ _ _) _ _ _); (with_reducible apply wpAny_updatePart'); focus (heap_get; done)) | ((with_reducible refine wpAny_ite_false ?hc ?_); (case hc => first | (decide +kernel; done) | (rfl; done))) | ((with_reducible refine wpAny_ite_true ?hc ?_); (case hc => first | (decide +kernel; done) | (rfl; done))) | wp_delta | with_reducible_and_instances refine wpAny_pure ?_ | with_reducible_and_instances refine wpAny_bind ?_))
  refine cw_updE ⟨.type "type", none, .cls { name := "K", bases := [.type "object"], mro := [.ref AA, .type "object"], ns := NN, qualname := q }, #[some (.ref B), none, some (.str "K" t), some (.str q tq)]⟩ W4 rfl ?he ?hp fun h₆ W5 => ?_
  case he =>
    show (⟨_, _, .cls { name := "K", bases := [.type "object"], mro := [.ref AA, .type "object"], ns := NN, qualname := q, hasDel := (es.any fun x => x.key.isStr (Str.ofString "__del__")) || false }, _⟩ : Obj) = _
    rw [any_of D.ns, m10]; rfl
  case hp => rfl
  repeat ((fail_if_success (with_reducible show wpAny _ _ (setSlotAt _ _ _) _ _ _)); (first | with_reducible (first | refine wpAny_pure ?_ | refine wpAny_bind ?_ | refine wpAny_holding ?_ | refine wpAny_standAt ?_ | refine wpAny_point ?_ | refine wpAny_rule ?_ | refine wpAny_letGo ?_ | refine wpAny_mkInt' ?_ | refine wpAny_mkStr' ?_ | refine wpAny_fresh' ?_ | refine wpAny_alloc' ?_ | refine wpAny_attempt ?_ | refine wpAny_of_eq (by assumption) ?_ | refine wpAny_typeOf (by assumption) ?_ | refine wpAny_specialOf_val (by assumption) (by assumption) ?_ | refine wpAny_specialOf (by assumption) (by assumption) ?_ | refine wpAny_isInstance_val (by assumption) (by assumption) ?_ | refine wpAny_isInstance (by assumption) (by assumption) ?_ | refine wpAny_call ?_ | refine wpAny_runValue ?_ | refine wpAny_run ?_) | ((with_reducible show wpAny _ _ (load _) _ _ _); (with_reducible apply wpAny_load'); focus (heap_get; done)) | ((with_reducible show wpAny _ _ (update _ _) _ _ _); (with_reducible apply wpAny_update'); focus (heap_get; done)) | ((with_reducible show wpAny _ _ (loadPart _ _) _ _ _); (with_reducible apply wpAny_loadPart'); focus (heap_get; done)) | ((with_reducible show wpAny _ _ (updatePart _ _ _) _ _ _); (with_reducible apply wpAny_updatePart'); focus (heap_get; done)) | ((with_reducible refine wpAny_ite_false ?hc ?_); (case hc => first | (decide +kernel; done) | (rfl; done))) | ((with_reducible refine wpAny_ite_true ?hc ?_); (case hc => first | (decide +kernel; done) | (rfl; done))) | wp_delta | with_reducible_and_instances refine wpAny_pure ?_ | with_reducible_and_instances refine wpAny_bind ?_))
  refine cw_slotE ⟨.type "type", none, .cls { name := "K", bases := [.type "object"], mro := [.ref AA, .type "object"], ns := NN, qualname := q }, #[some (.ref B), none, some (.str "K" t), some (.str q tq), some (.builtin "object.__new__")]⟩ W5 rfl rfl (by decide) fun h₇ W6 => ?_
  refine wpAny_bind (wp_refresh W6 rfl rfl rfl rfl m5' ?_)
  have m2' : (fun x => if x = Str.ofString "__qualname__" then none else m x) (Str.ofString "obj") = none := m2
  refine wpAny_bind (wp_install W6 rfl m2' ?hz rfl fun G₈ h₈ md t8 tk8 SG W7 hmd => ?_)
  case hz =>
    obtain ⟨o, es', ep', e1, e2, e3, e4, e5⟩ := W6.dict
    refine ⟨o, es', ep', e1, e2, Nat.le_trans (es_size e3 e4 e5 ks fun x hx => hks x fun q => hx ?_) (by (first | lia | omega))⟩
    show (if x = Str.ofString "__qualname__" then none else m x) = none
    rw [q]; split <;> rfl
  have e11 := sl_weak
  repeat ((fail_if_success (with_reducible show wpAny _ _ (setSlotAt _ _ _) _ _ _)); (first | with_reducible (first | refine wpAny_pure ?_ | refine wpAny_bind ?_ | refine wpAny_holding ?_ | refine wpAny_standAt ?_ | refine wpAny_point ?_ | refine wpAny_rule ?_ | refine wpAny_letGo ?_ | refine wpAny_mkInt' ?_ | refine wpAny_mkStr' ?_ | refine wpAny_fresh' ?_ | refine wpAny_alloc' ?_ | refine wpAny_attempt ?_ | refine wpAny_of_eq (by assumption) ?_ | refine wpAny_typeOf (by assumption) ?_ | refine wpAny_specialOf_val (by assumption) (by assumption) ?_ | refine wpAny_specialOf (by assumption) (by assumption) ?_ | refine wpAny_isInstance_val (by assumption) (by assumption) ?_ | refine wpAny_isInstance (by assumption) (by assumption) ?_ | refine wpAny_call ?_ | refine wpAny_runValue ?_ | refine wpAny_run ?_) | ((with_reducible show wpAny _ _ (load _) _ _ _); (with_reducible apply wpAny_load'); focus (heap_get; done)) | ((with_reducible show wpAny _ _ (update _ _) _ _ _); (with_reducible apply wpAny_update'); focus (heap_get; done)) | ((with_reducible show wpAny _ _ (loadPart _ _) _ _ _); (with_reducible apply wpAny_loadPart'); focus (heap_get; done)) | ((with_reducible show wpAny _ _ (updatePart _ _ _) _ _ _); (with_reducible apply wpAny_updatePart'); focus (heap_get; done)) | ((with_reducible refine wpAny_ite_false ?hc ?_); (case hc => first | (decide +kernel; done) | (rfl; done))) | ((with_reducible refine wpAny_ite_true ?hc ?_); (case hc => first | (decide +kernel; done) | (rfl; done))) | wp_delta | with_reducible_and_instances refine wpAny_pure ?_ | with_reducible_and_instances refine wpAny_bind ?_))
  refine cw_slotE (kObj "K" q AA NN (some (.ref B)) none (some (.str "K" t)) (some (.str q tq)) (some (.bool false))) W7 rfl rfl (by decide) fun h₉ W8 => ?_
  have m4' : (fun x => if x = Str.ofString "obj" then some (Value.ref md) else if x = Str.ofString "__qualname__" then none else m x) (Str.ofString "__doc__") = none := m4
  repeat ((fail_if_success (with_reducible show wpAny _ _ (nsSet _ _ _) _ _ _)); first | with_reducible refine cw_get' W8 m4' ?_ | (first | with_reducible (first | refine wpAny_pure ?_ | refine wpAny_bind ?_ | refine wpAny_holding ?_ | refine wpAny_standAt ?_ | refine wpAny_point ?_ | refine wpAny_rule ?_ | refine wpAny_letGo ?_ | refine wpAny_mkInt' ?_ | refine wpAny_mkStr' ?_ | refine wpAny_fresh' ?_ | refine wpAny_alloc' ?_ | refine wpAny_attempt ?_ | refine wpAny_of_eq (by assumption) ?_ | refine wpAny_typeOf (by assumption) ?_ | refine wpAny_specialOf_val (by assumption) (by assumption) ?_ | refine wpAny_specialOf (by assumption) (by assumption) ?_ | refine wpAny_isInstance_val (by assumption) (by assumption) ?_ | refine wpAny_isInstance (by assumption) (by assumption) ?_ | refine wpAny_call ?_ | refine wpAny_runValue ?_ | refine wpAny_run ?_) | ((with_reducible show wpAny _ _ (load _) _ _ _); (with_reducible apply wpAny_load'); focus (heap_get; done)) | ((with_reducible show wpAny _ _ (update _ _) _ _ _); (with_reducible apply wpAny_update'); focus (heap_get; done)) | ((with_reducible show wpAny _ _ (loadPart _ _) _ _ _); (with_reducible apply wpAny_loadPart'); focus (heap_get; done)) | ((with_reducible show wpAny _ _ (updatePart _ _ _) _ _ _); (with_reducible apply wpAny_updatePart'); focus (heap_get; done)) | ((with_reducible refine wpAny_ite_false ?hc ?_); (case hc => first | (decide +kernel; done) | (rfl; done))) | ((with_reducible refine wpAny_ite_true ?hc ?_); (case hc => first | (decide +kernel; done) | (rfl; done))) | wp_delta | with_reducible_and_instances refine wpAny_pure ?_ | with_reducible_and_instances refine wpAny_bind ?_))
  refine cw_set W8 fun h₁₀ W9 => ?_
  have m11' : (fun x => if x = Str.ofString "__doc__" then some Value.none else (fun x => if x = Str.ofString "obj" then some (Value.ref md) else (fun x => if x = Str.ofString "__qualname__" then none else m x) x) x) (Str.ofString "__eq__") = some ve := m11
  have m12' : (fun x => if x = Str.ofString "__doc__" then some Value.none else (fun x => if x = Str.ofString "obj" then some (Value.ref md) else (fun x => if x = Str.ofString "__qualname__" then none else m x) x) x) (Str.ofString "__hash__") = some vh := m12
  have e12 : Builtin.noteSubclassOfBuiltin "object" AA = pure () := by kernel_rfl
  repeat ((fail_if_success (with_reducible show wpAny _ _ (Sem.tryCatch _ _) _ _ _)); first | with_reducible refine cw_get' W9 m11' ?_ | with_reducible refine cw_get' W9 m12' ?_ | (first | with_reducible (first | refine wpAny_pure ?_ | refine wpAny_bind ?_ | refine wpAny_holding ?_ | refine wpAny_standAt ?_ | refine wpAny_point ?_ | refine wpAny_rule ?_ | refine wpAny_letGo ?_ | refine wpAny_mkInt' ?_ | refine wpAny_mkStr' ?_ | refine wpAny_fresh' ?_ | refine wpAny_alloc' ?_ | refine wpAny_attempt ?_ | refine wpAny_of_eq (by assumption) ?_ | refine wpAny_typeOf (by assumption) ?_ | refine wpAny_specialOf_val (by assumption) (by assumption) ?_ | refine wpAny_specialOf (by assumption) (by assumption) ?_ | refine wpAny_isInstance_val (by assumption) (by assumption) ?_ | refine wpAny_isInstance (by assumption) (by assumption) ?_ | refine wpAny_call ?_ | refine wpAny_runValue ?_ | refine wpAny_run ?_) | ((with_reducible show wpAny _ _ (load _) _ _ _); (with_reducible apply wpAny_load'); focus (heap_get; done)) | ((with_reducible show wpAny _ _ (update _ _) _ _ _); (with_reducible apply wpAny_update'); focus (heap_get; done)) | ((with_reducible show wpAny _ _ (loadPart _ _) _ _ _); (with_reducible apply wpAny_loadPart'); focus (heap_get; done)) | ((with_reducible show wpAny _ _ (updatePart _ _ _) _ _ _); (with_reducible apply wpAny_updatePart'); focus (heap_get; done)) | ((with_reducible refine wpAny_ite_false ?hc ?_); (case hc => first | (decide +kernel; done) | (rfl; done))) | ((with_reducible refine wpAny_ite_true ?hc ?_); (case hc => first | (decide +kernel; done) | (rfl; done))) | wp_delta | with_reducible_and_instances refine wpAny_pure ?_ | with_reducible_and_instances refine wpAny_bind ?_))
  refine wpAny_tryCatch (wpAny_holding ?_)
  obtain ⟨oD, esD, epD, d1, d2, d3, d4, d5⟩ := W9.dict
  refine wpAny_bind (wpAny_dictEntries (s := ⟨h₁₀, g, d, _, os⟩) d1 d2 ?_)
  refine wpAny_bind (forIn_array_ _ (fun rest b s' => b = false ∧ s' = ⟨h₁₀, g, d, tk8 + 1, os⟩ ∧ ∀ e ∈ rest, ∃ n t, e.key = .str n t) _ ?turn ?fin esD false ⟨rfl, rfl, fun e he => d3 e (by simpa using he)⟩)
  case turn =>
    rintro e rest b s' ⟨rfl, rfl, hall⟩
    obtain ⟨n', t', hk'⟩ := hall e (by simp)
    rw [hk']
    refine wpAny_bind (wpAny_pure (wpAny_ite_false (by rfl) (wpAny_pure ⟨rfl, rfl, fun e' he' => hall e' (by simp [he'])⟩)))
  case fin =>
    rintro b s' ⟨rfl, rfl, -⟩
    refine wpAny_ite_false (by rfl) ?_
    refine wpAny_bind (wpAny_dictEntries (s := ⟨h₁₀, g, d, _, os⟩) d1 d2 ?_)
    have S10 : Stay h h₁₀ := (S₁.trans SG).trans W9.keep
    have hvD : ∀ e ∈ esD, (∃ n t, e.key = .str n t) ∧ NSN h₁₀ e.val := by
      intro e he
      refine ⟨d3 e he, ?_⟩
      have hf := entry_find d3 d4 he
      rw [d5] at hf
      simp only at hf
      split at hf
      · rw [← Option.some.inj hf]; exact nsn_none _
      · split at hf
        · rw [← Option.some.inj hf]; exact nsn_ref (W9.keep _ _ hmd) rfl nl_memb
        · split at hf
          · cases hf
          · exact (hvs _ _ hf).stay S10
    refine wpAny_bind (forIn_array_ _ (fun rest b s' => s' = ⟨h₁₀, g, d, tk8 + 1, os⟩ ∧ ∀ e ∈ rest, (∃ n t, e.key = .str n t) ∧ NSN h₁₀ e.val) _ ?turn2 ?fin2 esD PUnit.unit ⟨rfl, fun e he => hvD e (by simpa using he)⟩)
    case turn2 =>
      rintro e rest b s' ⟨rfl, hall⟩
      obtain ⟨⟨n', t', hk'⟩, hn1, T, hn2, hn3⟩ := hall e (by simp)
      refine wpAny_ite_false (decide_eq_false ?_) ?_
      · rw [hk']
        show ¬ Builtin.heldUnderItsOwnName n' e.val = true
        cases he : e.val <;> first | (exact absurd he (hn1 _)) | (simp [Builtin.heldUnderItsOwnName])
      · refine wpAny_bind (wpAny_specialOf (hn3 g d _ os) hn2 (wpAny_pure ⟨rfl, fun e' he' => hall e' (by simp [he'])⟩))
    case fin2 =>
      rintro b s' ⟨rfl, -⟩
      subst hq
      have hst' := hst.keeps S10
      refine wpAny_bind (wp_super W9.cls fun Sp h₁₁ fS S11 hS => ?_)
      refine wpAny_bind (wpAny_holding (wp_supAttr (S11 _ _ W9.cls) hS (hst'.keeps S11) hmc fun bb h₁₂ tk12 fb S12 hbb => ?_))
      refine wpAny_bind (wp_callInit (S12 _ _ (S11 _ _ W9.cls)) hbb (wpAny_pure ?_))
      refine wpAny_pure ⟨_, rfl, ?_⟩
      have St := S11.trans S12
      exact k AA NN h₁₂ tk12 md t8 (S10.trans St) (get_none_of S₁ fN) (St _ _ W9.cls) (W9.dict.ns.keeps St) (St _ _ (W9.keep _ _ hmd))
end
end Mine
end
section
open PySem PySem.W PySem.Calls PyProof.Rows
set_option Elab.async false
set_option maxRecDepth 100000
namespace Mine
section
variable {prog : Program} {w : World} {A : Around} {E : Value → Shared → Prop} {g : Array GenState} {d : Drawn} {os : OsState} {h : Heap} {tk : Nat}

theorem ty_mro : mroOf (.type "type") = pure [.type "type", .type "object"] := by kernel_rfl
theorem ty_made : Bind.madeBy (.type "type") = pure (some "type.__new__") := by kernel_rfl
theorem ty_can : ((Manifest.find? "type").bind (·.mro.findSome? fun t => (Manifest.find? t).bind fun b => if b.noNew then some true else if b.attrs.any (·.1 == "__new__") then some false else none)).getD false = false := by decide +kernel
theorem ty_ct (a b c : Value) : checkTypeCall "type" ⟨[a, b, c], []⟩ = pure () := by kernel_rfl
theorem ty_nplain : plainId "type.__new__" = true := by decide +kernel
theorem ty_nentry : entryFor table "type.__new__" = some Builtin.«type.__new__» := entryFor_of_tree (by kernel_rfl)
theorem ty_ientry : entryFor table "type.__init__" = some Builtin.«type.__init__» := entryFor_of_tree (by kernel_rfl)
theorem ty_nc (a b c : Value) : checkBuiltinCall "type.__new__" ⟨[.type "type", a, b, c], []⟩ = pure () := by kernel_rfl
theorem ty_islot : Slot "type" "__init__" "type.__init__" :=
  .of (owner := "type") (n := "__init__") (by rw [typeLookup_type, builtinLookup_eq_fast]; kernel_rfl) (by decide +kernel) (by decide +kernel) (by decide +kernel)
    (by first | exact .inl (by decide +kernel) | exact .inr (by decide +kernel)) (by rw [isSubtype_type]; kernel_rfl)
theorem ty_iargs (a b c d : Value) : argsOk "type.__init__" ⟨[a, b, c, d], []⟩ := by unfold argsOk; kernel_rfl

set_option maxHeartbeats 8000000 in
theorem wp_type3 {a b c : Value} {Q : Value → Shared → Prop} {s : Shared}
    (hnew : ∀ A, wpAny (model prog w) A (Builtin.«type.__new__» ⟨[.type "type", a, b, c], []⟩) (fun fin s' => ∃ v, fin = .done (.ret v) ∧ ∃ C oC, v = .ref C ∧ s'.heap.get? C = some oC ∧ oC.cls = .type "type" ∧ Q (.ref C) s') (fun _ _ => False) s) :
    wpAny (model prog w) A (call (.type "type") [a, b, c]) Q E s := by
  have hmro := ty_mro
  have hmade := ty_made
  have hsub := kf3
  have hct := ty_ct a b c
  refine wpAny_call (codeAny_of_tree ?_)
  show wpAny _ _ (callAny (.type "type") _) _ _ _
  refine wpAny_pure ⟨Code.quiet_builtin _ (by decide +kernel), codeAny_builtin PySem.F.entry_type_call ?_⟩
  rw [Around.under_plain (weight_type_call_type "type" _ []) (units_type_call_type "type" _ [])]
  have h2 := ty_can
  repeat (any_goals (first | assumption | wp_step))
  have hn : codeAny (model prog w) A.in1 (.call (.builtin "type.__new__") ⟨[.type "type", a, b, c], []⟩) (fun r s₁ => ∃ C oC, r = .ok (.ret (.ref C)) ∧ s₁.heap.get? C = some oC ∧ oC.cls = .type "type" ∧ Q (.ref C) s₁) s :=
    codeAny_call_builtin ty_nplain ty_nentry (wpAny_of_eq (ty_nc _ _ _) (wpAny_mono (hnew _) (fun fin s' q => by
      obtain ⟨v, rfl, C, oC, rfl, e1, e2, e3⟩ := q
      exact ⟨C, oC, rfl, e1, e2, e3⟩) fun _ _ e => e.elim))
  refine codeAny_mono hn fun r s₁ hr => ?_
  obtain ⟨C, oC, rfl, e1, e2, hq⟩ := hr
  have hT : s₁.TypeIs (.ref C) "type" := ⟨oC, e1, e2⟩
  have hli := ty_islot.lookup
  have hbi := ty_islot.bind (.ref C)
  show wpAny _ _ _ _ _ _
  repeat (any_goals (first | assumption | wp_step))
  have hini : codeAny (model prog w) A.in1 (.call (.builtin "type.__init__") ⟨[.ref C, a, b, c], []⟩) (fun r s₂ => r = .ok (.ret .none) ∧ s₂ = s₁) s₁ :=
    codeAny_call_builtin ty_islot.plain ty_ientry (ty_islot.check _ _ _ _ _ _ _ _ hT (ty_iargs _ _ _ _) (wpAny_pure ⟨rfl, rfl⟩))
  refine codeAny_mono hini fun r s₂ hr => ?_
  obtain ⟨rfl, rfl⟩ := hr
  show wpAny _ _ _ _ _ _
  repeat (any_goals (first | assumption | wp_step))
end
end Mine
end
section
open PySem PySem.W PySem.Calls PyProof.Rows
set_option Elab.async false
set_option maxRecDepth 100000
namespace Mine
section
variable {prog : Program} {w : World} {A : Around} {E : Value → Shared → Prop} {g : Array GenState} {d : Drawn} {os : OsState} {h : Heap} {tk : Nat} {N : Addr} {m : Str → Option Value} {es : Array DictEntry} {n : Nat}

theorem dn_set {name : Str} {v : Value} {Q : Unit → Shared → Prop} (D : DN h N m es n) (k : ∀ h' es' n', DN h' N (fun x => if x = name then some v else m x) es' n' → Off N h h' → Q () ⟨h', g, d, tk + 1, os⟩) :
    wpAny (model prog w) A (nsSet N name v) Q E ⟨h, g, d, tk, os⟩ := by
  unfold nsSet strHash
  refine wpAny_bind (wpAny_bind (wpAny_askSetting (wpAny_pure (wpAny_bind (wpAny_mkText ?_)))))
  refine wpAny_bind (wpAny_loadPart (s := ⟨h, g, d, tk + 1, os⟩) D.at' ?_)
  have hany : es.any (·.refKey) = false := by
    rw [Array.any_eq_false']; intro e he; obtain ⟨n, t, h⟩ := D.sk e he; simp [DictEntry.refKey, h]
  simp only [aRefKeyMayBeTheName_eq, aRefKeyMayBeTheNameByArray, hany, Bool.and_false, Bool.false_eq_true, if_false]
  refine wpAny_updatePart (s := ⟨h, g, d, tk + 1, os⟩) D.at' ?_
  have hoff : ∀ f, Off N h (h.update N f) := fun f b o hb e => ((Heap.SameBut.update h N f).2 b hb).trans e
  cases hi : es.findIdx? (·.key.isStr name) with
  | some i =>
    refine k _ _ n ⟨Heap.get?_update_self _ D.at' (by simp only [Obj.putName_eq, Obj.putNameByArray, hi]; rfl) |>.trans (by simp only [Obj.putName_eq, Obj.putNameByArray, hi]; rfl), D.sk.modify _ _, D.uk.modify _ _, fun x => ?_⟩ (hoff _)
    show _ = if x = name then some v else m x
    rw [← D.ns]; exact findBy_modify (fun n v => v.isStr n) Value.isStr_inj es name x v i hi
  | none =>
    refine k _ _ (n + 1) ⟨Heap.get?_update_self _ D.at' (by simp only [Obj.putName_eq, Obj.putNameByArray, hi]; rfl) |>.trans (by simp only [Obj.putName_eq, Obj.putNameByArray, hi]; rfl), D.sk.push _ _ _ _, D.uk.push _ _ _ _ hi, fun x => ?_⟩ (hoff _)
    show _ = if x = name then some v else m x
    rw [← D.ns]
    exact findBy_push (fun n v => v.isStr n) es name x _ _ v (fun y => by
      show (name == y) = decide (y = name)
      by_cases h : y = name
      · subst h; simp
      · have : ¬ name = y := fun e => h e.symm
        simp [h, this]) hi
theorem dn_new {a : Addr} (e : h.get? a = some { cls := .type "dict", data := .dict #[] }) : DN h a (fun _ => none) #[] 0 := ⟨e, fun e he => by simp at he, by simp [UniqKeys], fun _ => rfl⟩
theorem DN.stay {h' : Heap} (D : DN h N m es n) (S : Stay h h') : DN h' N m es n := ⟨S _ _ D.at', D.sk, D.uk, D.ns⟩
theorem DN.off {h' : Heap} {P : Addr} (D : DN h N m es n) (S : Off P h h') (hn : N ≠ P) : DN h' N m es n := ⟨S _ _ hn D.at', D.sk, D.uk, D.ns⟩

theorem tga_slot : Slot "type" "__getattribute__" "type.__getattribute__" :=
  .of (owner := "type") (n := "__getattribute__") (by rw [typeLookup_type, builtinLookup_eq_fast]; kernel_rfl) (by decide +kernel) (by decide +kernel) (by decide +kernel)
    (by first | exact .inl (by decide +kernel) | exact .inr (by decide +kernel)) (by rw [isSubtype_type]; kernel_rfl)
theorem tga_look : typeLookup (Value.type ((Manifest.find? "type").elim "type" fun x => x.metatype)) "__getattribute__" = pure (some (.builtin "type.__getattribute__")) := by
  rw [show (Manifest.find? "type").elim "type" (fun x => x.metatype) = "type" by decide +kernel]
  exact tga_slot.lookup
theorem tga_entry : entryFor table "type.__getattribute__" = some Builtin.«type.__getattribute__» := entryFor_of_tree (by kernel_rfl)
theorem tga_args (a b : Value) : argsOk "type.__getattribute__" ⟨[a, b], []⟩ := by unfold argsOk; kernel_rfl
theorem typeIs_type {s : Shared} : s.TypeIs (.type "type") "type" := by show typeOf _ = _; kernel_rfl

theorem pr_look : typeLookup (.type "type") "__prepare__" = pure (some (.builtin "type.__prepare__")) := by rw [typeLookup_type, builtinLookup_eq_fast]; kernel_rfl
theorem pr_look' : typeLookup (Value.type ((Manifest.find? "type").elim "type" fun x => x.metatype)) "__prepare__" = pure (some (.builtin "type.__prepare__")) := by
  rw [show (Manifest.find? "type").elim "type" (fun x => x.metatype) = "type" by decide +kernel]
  exact pr_look
theorem pr_type : typeOf (.builtin "type.__prepare__") = pure (.type "classmethod_descriptor") := by show builtinType _ = _; rw [builtinType_eq_fast]; kernel_rfl
set_option maxHeartbeats 2000000 in
theorem wp_cdgP {R : Result → Shared → Prop} 
    (k : R (.ok (.ret (.ref h.objs.size))) ⟨h.push { cls := .type "builtin_function_or_method", data := .fields #[.builtin "type.__prepare__", .type "type"] }, g, d, tk, os⟩) :
    codeAny (model prog w) A (.call (.builtin "classmethod_descriptor.__get__") ⟨[.builtin "type.__prepare__", .none, .type "type"], []⟩) R ⟨h, g, d, tk, os⟩ := by
  refine codeAny_call_builtin cdg_slot.plain cdg_entry (cdg_slot.check _ _ _ _ _ _ _ _ (show Shared.TypeIs ⟨h, g, d, tk, os⟩ (.builtin "type.__prepare__") "classmethod_descriptor" from pr_type) (cdg_args _ _ _) ?_)
  have e3 : isSubtype (.type "type") (.type "type") = pure true := by rw [isSubtype_type]; kernel_rfl
  have e4 : isSubtype (.type "type") (.type (".".intercalate ("type.__prepare__".cutAt '.').dropLast)) = pure true := by
    rw [show ".".intercalate ("type.__prepare__".cutAt '.').dropLast = "type" by decide +kernel]; exact e3
  unfold Builtin.«classmethod_descriptor.__get__»
  repeat (first | with_reducible (first | refine wpAny_pure ?_ | refine wpAny_bind ?_ | refine wpAny_holding ?_ | refine wpAny_standAt ?_ | refine wpAny_point ?_ | refine wpAny_rule ?_ | refine wpAny_letGo ?_ | refine wpAny_mkInt' ?_ | refine wpAny_mkStr' ?_ | refine wpAny_fresh' ?_ | refine wpAny_alloc' ?_ | refine wpAny_attempt ?_ | refine wpAny_of_eq (by assumption) ?_ | refine wpAny_typeOf (by assumption) ?_ | refine wpAny_specialOf_val (by assumption) (by assumption) ?_ | refine wpAny_specialOf (by assumption) (by assumption) ?_ | refine wpAny_isInstance_val (by assumption) (by assumption) ?_ | refine wpAny_isInstance (by assumption) (by assumption) ?_ | refine wpAny_call ?_ | refine wpAny_runValue ?_ | refine wpAny_run ?_) | ((with_reducible show wpAny _ _ (load _) _ _ _); (with_reducible apply wpAny_load'); focus (heap_get; done)) | ((with_reducible show wpAny _ _ (update _ _) _ _ _); (with_reducible apply wpAny_update'); focus (heap_get; done)) | ((with_reducible show wpAny _ _ (loadPart _ _) _ _ _); (with_reducible apply wpAny_loadPart'); focus (heap_get; done)) | ((with_reducible show wpAny _ _ (updatePart _ _ _) _ _ _); (with_reducible apply wpAny_updatePart'); focus (heap_get; done)) | ((with_reducible refine wpAny_ite_false ?hc ?_); (case hc => first | (decide +kernel; done) | (rfl; done))) | ((with_reducible refine wpAny_ite_true ?hc ?_); (case hc => first | (decide +kernel; done) | (rfl; done))) | wp_delta | with_reducible_and_instances refine wpAny_pure ?_ | with_reducible_and_instances refine wpAny_bind ?_)
  exact k

theorem cd_set : typeLookup (.type "classmethod_descriptor") "__set__" = pure none := by rw [typeLookup_type, builtinLookup_eq_fast]; kernel_rfl
theorem cd_del : typeLookup (.type "classmethod_descriptor") "__delete__" = pure none := by rw [typeLookup_type, builtinLookup_eq_fast]; kernel_rfl
set_option maxHeartbeats 4000000 in
theorem wp_tga {t : Tok} {Q : PySem.Fin → Shared → Prop} 
    (k : ∀ b h' tk', h.get? b = none → Stay h h' → h'.get? b = some { cls := .type "builtin_function_or_method", data := .fields #[.builtin "type.__prepare__", .type "type"] } → Q (.done (.ret (.ref b))) ⟨h', g, d, tk', os⟩) :
    wpAny (model prog w) A (Builtin.«type.__getattribute__» ⟨[.type "type", .str "__prepare__" t], []⟩) Q E ⟨h, g, d, tk, os⟩ := by
  have e1 := pr_look
  have e2 := pr_look'
  have e3 := pr_type
  have e4 := sga_get
  have e5 := cd_set
  have e6 := cd_del
  unfold Builtin.«type.__getattribute__»
  repeat ((fail_if_success (with_reducible show codeAny _ _ _ _ _)); (first | with_reducible (first | refine wpAny_pure ?_ | refine wpAny_bind ?_ | refine wpAny_holding ?_ | refine wpAny_standAt ?_ | refine wpAny_point ?_ | refine wpAny_rule ?_ | refine wpAny_letGo ?_ | refine wpAny_mkInt' ?_ | refine wpAny_mkStr' ?_ | refine wpAny_fresh' ?_ | refine wpAny_alloc' ?_ | refine wpAny_attempt ?_ | refine wpAny_of_eq (by assumption) ?_ | refine wpAny_typeOf (by assumption) ?_ | refine wpAny_specialOf_val (by assumption) (by assumption) ?_ | refine wpAny_specialOf (by assumption) (by assumption) ?_ | refine wpAny_isInstance_val (by assumption) (by assumption) ?_ | refine wpAny_isInstance (by assumption) (by assumption) ?_ | refine wpAny_call ?_ | refine wpAny_runValue ?_ | refine wpAny_run ?_) | ((with_reducible show wpAny _ _ (load _) _ _ _); (with_reducible apply wpAny_load'); focus (heap_get; done)) | ((with_reducible show wpAny _ _ (update _ _) _ _ _); (with_reducible apply wpAny_update'); focus (heap_get; done)) | ((with_reducible show wpAny _ _ (loadPart _ _) _ _ _); (with_reducible apply wpAny_loadPart'); focus (heap_get; done)) | ((with_reducible show wpAny _ _ (updatePart _ _ _) _ _ _); (with_reducible apply wpAny_updatePart'); focus (heap_get; done)) | ((with_reducible refine wpAny_ite_false ?hc ?_); (case hc => first | (decide +kernel; done) | (rfl; done))) | ((with_reducible refine wpAny_ite_true ?hc ?_); (case hc => first | (decide +kernel; done) | (rfl; done))) | wp_delta | with_reducible_and_instances refine wpAny_pure ?_ | with_reducible_and_instances refine wpAny_bind ?_))
  refine wp_cdgP ?_
  show wpAny _ _ _ _ _ _
  repeat (first | with_reducible (first | refine wpAny_pure ?_ | refine wpAny_bind ?_ | refine wpAny_holding ?_ | refine wpAny_standAt ?_ | refine wpAny_point ?_ | refine wpAny_rule ?_ | refine wpAny_letGo ?_ | refine wpAny_mkInt' ?_ | refine wpAny_mkStr' ?_ | refine wpAny_fresh' ?_ | refine wpAny_alloc' ?_ | refine wpAny_attempt ?_ | refine wpAny_of_eq (by assumption) ?_ | refine wpAny_typeOf (by assumption) ?_ | refine wpAny_specialOf_val (by assumption) (by assumption) ?_ | refine wpAny_specialOf (by assumption) (by assumption) ?_ | refine wpAny_isInstance_val (by assumption) (by assumption) ?_ | refine wpAny_isInstance (by assumption) (by assumption) ?_ | refine wpAny_call ?_ | refine wpAny_runValue ?_ | refine wpAny_run ?_) | ((with_reducible show wpAny _ _ (load _) _ _ _); (with_reducible apply wpAny_load'); focus (heap_get; done)) | ((with_reducible show wpAny _ _ (update _ _) _ _ _); (with_reducible apply wpAny_update'); focus (heap_get; done)) | ((with_reducible show wpAny _ _ (loadPart _ _) _ _ _); (with_reducible apply wpAny_loadPart'); focus (heap_get; done)) | ((with_reducible show wpAny _ _ (updatePart _ _ _) _ _ _); (with_reducible apply wpAny_updatePart'); focus (heap_get; done)) | ((with_reducible refine wpAny_ite_false ?hc ?_); (case hc => first | (decide +kernel; done) | (rfl; done))) | ((with_reducible refine wpAny_ite_true ?hc ?_); (case hc => first | (decide +kernel; done) | (rfl; done))) | wp_delta | with_reducible_and_instances refine wpAny_pure ?_ | with_reducible_and_instances refine wpAny_bind ?_)
  exact k _ _ _ (Heap.get?_none_of_le (Nat.le_refl _)) (fun _ _ e => Heap.get?_push_of_some _ e) (Heap.get?_push_size _ rfl)

set_option maxHeartbeats 4000000 in
theorem wp_prep {Q : Option Value → Shared → Prop}
    (k : ∀ b h' tk', h.get? b = none → Stay h h' → h'.get? b = some { cls := .type "builtin_function_or_method", data := .fields #[.builtin "type.__prepare__", .type "type"] } → Q (some (.ref b)) ⟨h', g, d, tk', os⟩) :
    wpAny (model prog w) A (getAttr? (.type "type") "__prepare__") Q E ⟨h, g, d, tk, os⟩ := by
  have e1 := tga_look
  have e2 := tga_slot.bind (.type "type")
  unfold getAttr?
  repeat ((fail_if_success (with_reducible show codeAny _ _ _ _ _)); (first | with_reducible (first | refine wpAny_pure ?_ | refine wpAny_bind ?_ | refine wpAny_holding ?_ | refine wpAny_standAt ?_ | refine wpAny_point ?_ | refine wpAny_rule ?_ | refine wpAny_letGo ?_ | refine wpAny_mkInt' ?_ | refine wpAny_mkStr' ?_ | refine wpAny_fresh' ?_ | refine wpAny_alloc' ?_ | refine wpAny_attempt ?_ | refine wpAny_of_eq (by assumption) ?_ | refine wpAny_typeOf (by assumption) ?_ | refine wpAny_specialOf_val (by assumption) (by assumption) ?_ | refine wpAny_specialOf (by assumption) (by assumption) ?_ | refine wpAny_isInstance_val (by assumption) (by assumption) ?_ | refine wpAny_isInstance (by assumption) (by assumption) ?_ | refine wpAny_call ?_ | refine wpAny_runValue ?_ | refine wpAny_run ?_) | ((with_reducible show wpAny _ _ (load _) _ _ _); (with_reducible apply wpAny_load'); focus (heap_get; done)) | ((with_reducible show wpAny _ _ (update _ _) _ _ _); (with_reducible apply wpAny_update'); focus (heap_get; done)) | ((with_reducible show wpAny _ _ (loadPart _ _) _ _ _); (with_reducible apply wpAny_loadPart'); focus (heap_get; done)) | ((with_reducible show wpAny _ _ (updatePart _ _ _) _ _ _); (with_reducible apply wpAny_updatePart'); focus (heap_get; done)) | ((with_reducible refine wpAny_ite_false ?hc ?_); (case hc => first | (decide +kernel; done) | (rfl; done))) | ((with_reducible refine wpAny_ite_true ?hc ?_); (case hc => first | (decide +kernel; done) | (rfl; done))) | wp_delta | with_reducible_and_instances refine wpAny_pure ?_ | with_reducible_and_instances refine wpAny_bind ?_))
  refine codeAny_call_builtin tga_slot.plain tga_entry (tga_slot.check _ _ _ _ _ _ _ _ typeIs_type (tga_args _ _) ?_)
  refine wp_tga fun b h' tk' hb S hb' => ?_
  show wpAny _ _ _ _ _ _
  repeat (first | with_reducible (first | refine wpAny_pure ?_ | refine wpAny_bind ?_ | refine wpAny_holding ?_ | refine wpAny_standAt ?_ | refine wpAny_point ?_ | refine wpAny_rule ?_ | refine wpAny_letGo ?_ | refine wpAny_mkInt' ?_ | refine wpAny_mkStr' ?_ | refine wpAny_fresh' ?_ | refine wpAny_alloc' ?_ | refine wpAny_attempt ?_ | refine wpAny_of_eq (by assumption) ?_ | refine wpAny_typeOf (by assumption) ?_ | refine wpAny_specialOf_val (by assumption) (by assumption) ?_ | refine wpAny_specialOf (by assumption) (by assumption) ?_ | refine wpAny_isInstance_val (by assumption) (by assumption) ?_ | refine wpAny_isInstance (by assumption) (by assumption) ?_ | refine wpAny_call ?_ | refine wpAny_runValue ?_ | refine wpAny_run ?_) | ((with_reducible show wpAny _ _ (load _) _ _ _); (with_reducible apply wpAny_load'); focus (heap_get; done)) | ((with_reducible show wpAny _ _ (update _ _) _ _ _); (with_reducible apply wpAny_update'); focus (heap_get; done)) | ((with_reducible show wpAny _ _ (loadPart _ _) _ _ _); (with_reducible apply wpAny_loadPart'); focus (heap_get; done)) | ((with_reducible show wpAny _ _ (updatePart _ _ _) _ _ _); (with_reducible apply wpAny_updatePart'); focus (heap_get; done)) | ((with_reducible refine wpAny_ite_false ?hc ?_); (case hc => first | (decide +kernel; done) | (rfl; done))) | ((with_reducible refine wpAny_ite_true ?hc ?_); (case hc => first | (decide +kernel; done) | (rfl; done))) | wp_delta | with_reducible_and_instances refine wpAny_pure ?_ | with_reducible_and_instances refine wpAny_bind ?_)
  exact k b h' _ hb S hb'

theorem prep_entry : entryFor table "type.__prepare__" = some Builtin.«type.__prepare__» := entryFor_of_tree (by kernel_rfl)
set_option maxHeartbeats 4000000 in
theorem wp_prepCall {b : Addr} {x y : Value} {Q : Value → Shared → Prop} (hb : h.get? b = some { cls := .type "builtin_function_or_method", data := .fields #[.builtin "type.__prepare__", .type "type"] })
    (k : ∀ N h', h.get? N = none → (∀ b o, h.get? b = some o → b < N) → Stay h h' → h'.get? N = some { cls := .type "dict", data := .dict #[] } → Q (.ref N) ⟨h', g, d, tk, os⟩) : wpAny (model prog w) A (call (.ref b) [x, y] []) Q E ⟨h, g, d, tk, os⟩ := by
  have e3 : isSubtype (.type "type") (.type "type") = pure true := by rw [isSubtype_type]; kernel_rfl
  have e4 : isSubtype (.type "type") (.type "module") = pure false := by rw [isSubtype_type]; kernel_rfl
  have e5 : isSubtype (Value.type ((Manifest.find? "type").elim "type" fun x => x.metatype)) (Value.type "module") = pure false := by
    rw [show (Manifest.find? "type").elim "type" (fun x => x.metatype) = "type" by decide +kernel]; exact e4
  refine wpAny_call (codeAny_of_tree ?_)
  show wpAny _ _ (callAny (.ref b) _) _ _ _
  repeat (first | with_reducible refine wpAny_loadPart_at hb ?_ | (first | with_reducible (first | refine wpAny_pure ?_ | refine wpAny_bind ?_ | refine wpAny_holding ?_ | refine wpAny_standAt ?_ | refine wpAny_point ?_ | refine wpAny_rule ?_ | refine wpAny_letGo ?_ | refine wpAny_mkInt' ?_ | refine wpAny_mkStr' ?_ | refine wpAny_fresh' ?_ | refine wpAny_alloc' ?_ | refine wpAny_attempt ?_ | refine wpAny_of_eq (by assumption) ?_ | refine wpAny_typeOf (by assumption) ?_ | refine wpAny_specialOf_val (by assumption) (by assumption) ?_ | refine wpAny_specialOf (by assumption) (by assumption) ?_ | refine wpAny_isInstance_val (by assumption) (by assumption) ?_ | refine wpAny_isInstance (by assumption) (by assumption) ?_ | refine wpAny_call ?_ | refine wpAny_runValue ?_ | refine wpAny_run ?_) | ((with_reducible show wpAny _ _ (load _) _ _ _); (with_reducible apply wpAny_load'); focus (heap_get; done)) | ((with_reducible show wpAny _ _ (update _ _) _ _ _); (with_reducible apply wpAny_update'); focus (heap_get; done)) | ((with_reducible show wpAny _ _ (loadPart _ _) _ _ _); (with_reducible apply wpAny_loadPart'); focus (heap_get; done)) | ((with_reducible show wpAny _ _ (updatePart _ _ _) _ _ _); (with_reducible apply wpAny_updatePart'); focus (heap_get; done)) | ((with_reducible refine wpAny_ite_false ?hc ?_); (case hc => first | (decide +kernel; done) | (rfl; done))) | ((with_reducible refine wpAny_ite_true ?hc ?_); (case hc => first | (decide +kernel; done) | (rfl; done))) | wp_delta | with_reducible_and_instances refine wpAny_pure ?_ | with_reducible_and_instances refine wpAny_bind ?_))
  refine ⟨Code.quiet_builtin _ (by decide +kernel), codeAny_builtin prep_entry ?_⟩
  show wpAny _ _ (Builtin.«type.__prepare__» ⟨[.type "type", x, y], []⟩) _ _ _
  repeat (first | with_reducible (first | refine wpAny_pure ?_ | refine wpAny_bind ?_ | refine wpAny_holding ?_ | refine wpAny_standAt ?_ | refine wpAny_point ?_ | refine wpAny_rule ?_ | refine wpAny_letGo ?_ | refine wpAny_mkInt' ?_ | refine wpAny_mkStr' ?_ | refine wpAny_fresh' ?_ | refine wpAny_alloc' ?_ | refine wpAny_attempt ?_ | refine wpAny_of_eq (by assumption) ?_ | refine wpAny_typeOf (by assumption) ?_ | refine wpAny_specialOf_val (by assumption) (by assumption) ?_ | refine wpAny_specialOf (by assumption) (by assumption) ?_ | refine wpAny_isInstance_val (by assumption) (by assumption) ?_ | refine wpAny_isInstance (by assumption) (by assumption) ?_ | refine wpAny_call ?_ | refine wpAny_runValue ?_ | refine wpAny_run ?_) | ((with_reducible show wpAny _ _ (load _) _ _ _); (with_reducible apply wpAny_load'); focus (heap_get; done)) | ((with_reducible show wpAny _ _ (update _ _) _ _ _); (with_reducible apply wpAny_update'); focus (heap_get; done)) | ((with_reducible show wpAny _ _ (loadPart _ _) _ _ _); (with_reducible apply wpAny_loadPart'); focus (heap_get; done)) | ((with_reducible show wpAny _ _ (updatePart _ _ _) _ _ _); (with_reducible apply wpAny_updatePart'); focus (heap_get; done)) | ((with_reducible refine wpAny_ite_false ?hc ?_); (case hc => first | (decide +kernel; done) | (rfl; done))) | ((with_reducible refine wpAny_ite_true ?hc ?_); (case hc => first | (decide +kernel; done) | (rfl; done))) | wp_delta | with_reducible_and_instances refine wpAny_pure ?_ | with_reducible_and_instances refine wpAny_bind ?_)
  exact k _ _ (Heap.get?_none_of_le (Nat.le_refl _)) (fun _ _ e => Heap.lt_size e) (fun _ _ e => Heap.get?_push_of_some _ e) (Heap.get?_push_size _ rfl)
end
end Mine
end
section
open PySem PySem.W PySem.Calls PyProof.Rows
set_option Elab.async false
set_option maxRecDepth 100000
namespace Mine

noncomputable def BM (h : Heap) (mg : Str → Option Value) : Prop := ∃ bm o, mg "__builtins__" = some (.ref bm) ∧ bm ≠ builtinsNs ∧ bm ≠ mainGlobals ∧ h.get? bm = some o ∧ o.cls = .type "module" ∧ o.dict = some builtinsNs ∧ o.data = .plain
theorem BM.stay {h h' : Heap} {mg : Str → Option Value} (x : BM h mg) (S : Stay h h') : BM h' mg := let ⟨bm, o, a, b, c, e, r⟩ := x; ⟨bm, o, a, b, c, S _ _ e, r⟩
theorem BM.at {h : Heap} {mg : Str → Option Value} {P : Addr} {ps : Array Value} (x : BM h mg) (hP : h.get? P = some (tabObj ps)) : h.BuiltinsAt mg P :=
by
  obtain ⟨bm, o, a, b, c, e, f, r⟩ := x
  refine ⟨bm, o, a, b, c, fun q => ?_, e, f, r⟩
  rw [q, hP] at e; cases e; cases f
theorem ns_ne_tab {h : Heap} {a P : Addr} {m : Str → Option Value} {ps : Array Value} (x : h.Ns a m) (hP : h.get? P = some (tabObj ps)) : a ≠ P := by
  rintro rfl
  obtain ⟨o, es, ep, e, hd, _⟩ := x
  rw [hP] at e; cases e; cases hd

section
variable {prog : Program} {w : World} {A : Around} {E : Value → Shared → Prop} {s : Shared} {h : Heap} {tk : Nat} {mg : Str → Option Value}

theorem mk_fn {name qual : Str} {params : Arguments} {body : List Stmt} {scope : Scope} {env : Env} {c P : Addr} {ps : Array Value} {pos : Pos} {fl : Nat} {clos : List (Str × Addr)} {Q : Value → Shared → Prop}
    (hg : h.Ns mainGlobals mg) (bm : BM h mg) (C : CodeHd h c P) (hP : h.get? P = some (tabObj ps)) (ht : TriplesOk ps.toList) (hnf : codeAmong pos ps.toList = none)
    (hcl : closureFor scope env = pure clos) (hcode : env.code = .ref c)
    (k : ∀ f c' ctv doc h' tk', h.get? f = none → h.get? c' = none → Off P h h' → h'.get? f = some (fnMade name qual params body scope clos doc ((mg "__name__").getD .none) c' ctv) → h'.CodeRec (.ref c') qual →
      h'.get? P = some (tabObj (ps ++ #[rawInt pos.line, rawInt pos.col, .ref c'])) → Q (.ref f) (st s h' tk')) (hge0 : env.globals = mainGlobals := by rfl) :
    wpAny (model prog w) A (makeFunction name qual params (.stmts body) scope env [] [] [] pos fl) Q E (st s h tk) := by
  refine makeFunction_K (s := st s h tk) hcl hge0 hg hcode C hP ht hnf (ns_ne_tab hg hP) (bm.at hP) fun c' ctv doc h' tk' hx hge hlt hrec htb => ?_
  refine k h'.objs.size c' ctv doc _ tk' (Heap.get?_none_of_le (Nat.le_trans hge (Nat.le_of_lt hlt))) (Heap.get?_none_of_le hge) (fun b o hb e => Heap.get?_push_of_some _ (hx b o hb e)) (Heap.get?_push_size _ rfl)
    (hrec.keeps fun b o e => Heap.get?_push_of_some _ e) (Heap.get?_push_of_some _ htb)

theorem mk_lam {name qual : Str} {params : Arguments} {body : Expr} {scope : Scope} {env : Env} {c P : Addr} {ps : Array Value} {pos : Pos} {fl : Nat} {clos : List (Str × Addr)} {Q : Value → Shared → Prop}
    (hg : h.Ns mainGlobals mg) (bm : BM h mg) (C : CodeHd h c P) (hP : h.get? P = some (tabObj ps)) (ht : TriplesOk ps.toList)
    (hnf : codeAmong pos ps.toList = none ∨ ∃ c', codeAmong pos ps.toList = some (.ref c') ∧ h.CodeRec (.ref c') qual)
    (hcl : closureFor scope env = pure clos) (hcode : env.code = .ref c)
    (k : ∀ f c' ctv h' tk' ps', h.get? f = none → Off P h h' → h'.get? f = some (kla_obj name qual params body scope clos ((mg "__name__").getD .none) c' ctv) → h'.CodeRec (.ref c') qual →
      h'.get? P = some (tabObj ps') → TriplesOk ps'.toList → codeAmong pos ps'.toList = some (.ref c') → (∀ p, p ≠ pos → codeAmong p ps.toList = codeAmong p ps'.toList ∨ True) → Q (.ref f) (st s h' tk')) (hge0 : env.globals = mainGlobals := by rfl) :
    wpAny (model prog w) A (makeFunction name qual params (.expr body) scope env [] [] [] pos fl) Q E (st s h tk) := by
  rcases hnf with hnf | ⟨c', hf, hrec⟩
  · refine kla_makeFunction (s := st s h tk) hcl hge0 hg hcode C hP ht hnf (ns_ne_tab hg hP) (bm.at hP) fun c' ctv h' tk' hx hge hlt hrec htb => ?_
    refine k h'.objs.size c' ctv _ tk' _ (Heap.get?_none_of_le (Nat.le_trans hge (Nat.le_of_lt hlt))) (fun b o hb e => Heap.get?_push_of_some _ (hx b o hb e)) (Heap.get?_push_size _ rfl)
      (hrec.keeps fun b o e => Heap.get?_push_of_some _ e) (Heap.get?_push_of_some _ htb) ?_ ?_ fun _ _ => .inr trivial
    · have : (ps ++ #[rawInt pos.line, rawInt pos.col, Value.ref c']).toList = ps.toList ++ [rawInt pos.line, rawInt pos.col, .ref c'] := by simp
      rw [this]; exact TriplesOk_snoc _ _ _ _ ht
    · have : (ps ++ #[rawInt pos.line, rawInt pos.col, Value.ref c']).toList = ps.toList ++ [rawInt pos.line, rawInt pos.col, .ref c'] := by simp
      rw [this]; exact codeAmong_snoc _ ht hnf
  · refine kla_makeFunctionHit (s := st s h tk) hcl hge0 hg hcode C hP ht hf (bm.at hP) fun ctv h' tk' hk hsz => ?_
    exact k h'.objs.size c' ctv _ tk' ps (Heap.get?_none_of_le hsz) (fun b o _ e => Heap.get?_push_of_some _ (hk b o e)) (Heap.get?_push_size _ rfl)
      ((hrec.keeps hk).keeps fun b o e => Heap.get?_push_of_some _ e) (Heap.get?_push_of_some _ (hk _ _ hP)) ht hf fun _ _ => .inr trivial

theorem wp_classCode {env : Env} {c P : Addr} {ps : Array Value} {pos : Pos} {fl : Nat} {name qual : Str} {scope : Scope} {Q : Value → Shared → Prop} (hc : env.code = .ref c) (C : CodeHd h c P) (hP : h.get? P = some (tabObj ps)) (ht : TriplesOk ps.toList)
    (hnf : codeAmong pos ps.toList = none)
    (k : ∀ c' P' h' tk', h.get? c' = none → h.get? P' = none → Off P h h' → CodeHd h' c' P' → h'.get? P' = some (tabObj #[]) → h'.get? P = some (tabObj (ps ++ #[rawInt pos.line, rawInt pos.col, .ref c'])) → Q (.ref c') (st s h' tk')) :
    wpAny (model prog w) A (classCode env pos fl name qual scope) Q E (st s h tk) := by
  have hok := C.code hP ht
  have htab := C.tab hP
  obtain ⟨o, vs, file, tf, flags, tg, inF, text, tt, op, ho, hd, h11, h2, h7, h9, h10, hop, hpd, htr, hne⟩ := id hok
  have eop : op = tabObj ps := Option.some.inj (hop.symm.trans hP)
  subst eop
  unfold classCode codeAt
  rw [hc, if_neg (show ¬ ((Value.ref c == Value.none) = true) from Bool.false_ne_true)]
  refine wpAny_bind (wpAny_fieldsOf (s := st s h tk) ho hd ?_)
  rw [h11]
  refine wpAny_bind (wpAny_fieldsOf (s := st s h tk) hop hpd ?_)
  rw [hnf, h2, h7, h9, h10]
  refine wpAny_bind (wpAny_newCodeX (s := st s h tk) fun c' P' h' tk' hk hc' hP' hcode' htab' hrec' => ?_)
  have hop' := hk _ _ hop
  refine wpAny_bind (wpAny_updateFieldsOfTheText (s := st s h' tk') hop' hpd ?_)
  have hnew : (Obj.mapFields (fun vs => if (codeAmong pos vs.toList).isSome = true then vs else vs ++ #[rawInt pos.line, rawInt pos.col, .ref c']) (tabObj ps)) = tabObj (ps ++ #[rawInt pos.line, rawInt pos.col, .ref c']) := by
    simp only [Obj.mapFields, hnf]; rfl
  have hget := (Heap.get?_update_self (h := h') (fun o => Obj.mapFields (fun vs => if (codeAmong pos vs.toList).isSome = true then vs else vs ++ #[rawInt pos.line, rawInt pos.col, .ref c']) o) hop' (by rw [hnew]; rfl)).trans (congrArg some hnew)
  refine wpAny_bind (wpAny_fieldsOf (s := st s _ tk') hget rfl ?_)
  have hl : (ps ++ #[rawInt pos.line, rawInt pos.col, Value.ref c']).toList = ps.toList ++ [rawInt pos.line, rawInt pos.col, .ref c'] := by simp
  rw [hl, codeAmong_snoc _ htr hnf]
  have hcP : c' ≠ P := Nat.ne_of_gt (Nat.lt_of_lt_of_le (Heap.lt_size hop) hc')
  have hP'P : P' ≠ P := Nat.ne_of_gt (Nat.lt_of_lt_of_le (Heap.lt_size hop) hP')
  have C' := CodeHd.of hcode' htab'
  obtain ⟨o2, vs2, file2, tf2, flags2, tg2, inF2, text2, tt2, e1, r⟩ := C'
  exact wpAny_pure (k c' P' _ tk' (Heap.get?_none_of_le hc') (Heap.get?_none_of_le hP') (fun b o' hb e => (Heap.SameBut.update ..).extBut b o' hb (hk b o' e))
    ⟨o2, vs2, file2, tf2, flags2, tg2, inF2, text2, tt2, (Heap.SameBut.update ..).extBut _ _ hcP e1, r⟩ ((Heap.SameBut.update ..).extBut _ _ hP'P htab'.2) hget)
end
end Mine
end
section
open PySem PySem.W PySem.Calls PyProof.Rows
set_option Elab.async false
set_option maxRecDepth 100000
namespace Mine

/-- a class body under way -/
structure CB (G h : Heap) (N P : Addr) (m : Str → Option Value) (ps : Array Value) : Prop where
  keep : Stay G h
  dn : ∃ es n, DN h N m es n
  tab : h.get? P = some (tabObj ps)
  tr : TriplesOk ps.toList
  fN : G.get? N = none
  fP : G.get? P = none
section
variable {G h h' : Heap} {N P : Addr} {m : Str → Option Value} {ps : Array Value}
theorem CB.ne (W : CB G h N P m ps) : N ≠ P := fun q => by
  obtain ⟨es, n, D⟩ := W.dn
  have := D.at'
  rw [q, W.tab] at this; cases this
theorem CB.ground (W : CB G h N P m ps) : CB (hideAll h [N, P]) h N P m ps ∧ Stay G (hideAll h [N, P]) :=
  ⟨⟨fun b o e => of_hideAll _ e, W.dn, W.tab, W.tr, hideAll_none _ (by simp), hideAll_none _ (by simp)⟩, fun b o e => hideAll_get _ (W.keep b o e) (fun q => by
    simp at q
    rcases q with q | q
    · rw [q, W.fN] at e; cases e
    · rw [q, W.fP] at e; cases e)⟩
theorem CB.stay (W : CB G h N P m ps) (S : Stay h h') : CB G h' N P m ps := let ⟨es, n, D⟩ := W.dn; ⟨W.keep.trans S, ⟨es, n, D.stay S⟩, S _ _ W.tab, W.tr, W.fN, W.fP⟩
theorem CB.setN (W : CB G h N P m ps) {m' : Str → Option Value} {es : Array DictEntry} {n : Nat} (D : DN h' N m' es n) (O : Off N h h') : CB G h' N P m' ps :=
  ⟨fun b o e => O b o (fun q => by rw [q, W.fN] at e; cases e) (W.keep b o e), ⟨es, n, D⟩, O _ _ (Ne.symm W.ne) W.tab, W.tr, W.fN, W.fP⟩
theorem CB.setP (W : CB G h N P m ps) {ps' : Array Value} (hP : h'.get? P = some (tabObj ps')) (tr : TriplesOk ps'.toList) (O : Off P h h') : CB G h' N P m ps' :=
  let ⟨es, n, D⟩ := W.dn; ⟨fun b o e => O b o (fun q => by rw [q, W.fP] at e; cases e) (W.keep b o e), ⟨es, n, D.off O W.ne⟩, hP, tr, W.fN, W.fP⟩
end

section
variable {prog : Program} {w : World} {A : Around} {E : Value → Shared → Prop} {s : Shared} {G h : Heap} {tk : Nat} {mg m : Str → Option Value} {N P c : Addr} {ps : Array Value} {cenv : Env}

theorem st_cls {name : Str} {v : Value} {Q : Unit → Shared → Prop} (W : CB G h N P m ps) (hs : storeName cenv name v = localSet cenv name v) (k : ∀ h' tk', CB G h' N P (fun x => if x = name then some v else m x) ps → Q () (st s h' tk')) (hL : cenv.locals = N) :
    wpAny (model prog w) A (storeName cenv name v) Q E (st s h tk) := by
  subst hL
  obtain ⟨es, n, D⟩ := W.dn
  rw [hs]
  unfold localSet
  refine wpAny_bind (wpAny_load (s := st s h tk) D.at' ?_)
  rw [if_pos (by rfl)]
  exact dn_set (h := h) D fun h' es' n' D' O => k h' _ (W.setN D' O)

theorem step_def {name : Str} {args : Arguments} {body rest : List Stmt} {scope : Scope} {pos : Pos} {clos : List (Str × Addr)} {Q : Flow → Shared → Prop}
    (W : CB G h N P m ps) (hC : CodeHd G c P) (hg : G.Ns mainGlobals mg) (bm : BM G mg) (hnf : codeAmong pos ps.toList = none) (hcl : closureFor scope cenv = pure clos) (hcode : cenv.code = .ref c) (hL : cenv.locals = N) (hG : cenv.globals = mainGlobals)
    (hs : ∀ v, storeName cenv name v = localSet cenv name v) (hd1 : args.defaults = []) (hd2 : args.kw_defaults = []) (ha : annTrees args none cenv = [])
    (k : ∀ G' h' f c' ctv doc tk', Stay G G' → CB G' h' N P (fun x => if x = name then some (.ref f) else m x) (ps ++ #[rawInt pos.line, rawInt pos.col, .ref c']) →
      G'.get? f = some (fnMade name (qualnameIn cenv name name) args body scope clos doc ((mg "__name__").getD .none) c' ctv) → G'.CodeRec (.ref c') (qualnameIn cenv name name) → wpAny (model prog w) A (execs rest cenv) Q E (st s h' tk')) :
    wpAny (model prog w) A (execs (.FunctionDef name args body [] none [] scope none name pos :: rest) cenv) Q E (st s h tk) := by
  refine wpAny_execs_cons ?_
  rw [exec_def, defaultsOf_eq, hd1, hd2, ha]
  refine wpAny_bind (wpAny_standAt (wpAny_bind (wpAny_holding ?_)))
  refine wpAny_bind (wpAny_pure ?_)
  refine wpAny_bind (wpAny_holding (wpAny_pure ?_))
  refine wpAny_holding (wpAny_bind (wpAny_pure ?_))
  refine mk_fn (hg.keeps W.keep) (bm.stay W.keep) (hC.keeps W.keep) W.tab W.tr hnf hcl hcode (fun f c' ctv doc h' tk' ff fc O hf hrec htb => ?_) hG
  have tr' : TriplesOk (ps ++ #[rawInt pos.line, rawInt pos.col, Value.ref c']).toList := by
    have : (ps ++ #[rawInt pos.line, rawInt pos.col, Value.ref c']).toList = ps.toList ++ [rawInt pos.line, rawInt pos.col, .ref c'] := by simp
    rw [this]; exact TriplesOk_snoc _ _ _ _ W.tr
  have W1 := W.setP htb tr' O
  obtain ⟨W2, S2⟩ := W1.ground
  have fnN : f ≠ N := fun q => by obtain ⟨es, n, D⟩ := W.dn; have := D.at'; rw [← q, ff] at this; cases this
  have fnP : f ≠ P := fun q => by have := W.tab; rw [← q, ff] at this; cases this
  have hfG : (hideAll h' [N, P]).get? f = _ := hideAll_get _ hf (by simp; exact ⟨fnN, fnP⟩)
  have hrG : (hideAll h' [N, P]).CodeRec (.ref c') (qualnameIn cenv name name) := by
    obtain ⟨c2, oc, vs, t, e2, hoc, hd, hv⟩ := hrec
    cases e2
    refine ⟨c', oc, vs, t, rfl, hideAll_get _ hoc ?_, hd, hv⟩
    simp
    constructor
    · rintro rfl
      obtain ⟨es, n, D⟩ := W1.dn
      have := D.at'; rw [hoc] at this; cases this; cases hd
    · rintro rfl
      have := W.tab; rw [fc] at this; cases this
  refine wpAny_bind (wpAny_standAt (wpAny_bind (wpAny_bindName (st_cls W2 (hs _) (fun h'' tk'' W3 => ?_) hL))))
  exact wpAny_pure (k _ h'' f c' ctv doc tk'' S2 W3 hfG hrG)
end
end Mine
end
section
open PySem PySem.W PySem.Calls PyProof.Rows
set_option Elab.async false
set_option maxRecDepth 100000
namespace Mine

noncomputable def kSt : Stmt := stmtAt 25 0
noncomputable def kBody : List Stmt := match kSt with | .ClassDef _ _ _ b _ _ _ _ _ _ _ => b | _ => []
noncomputable def kScope : Scope := match kSt with | .ClassDef _ _ _ _ _ _ s _ _ _ _ => s | _ => default
noncomputable def kStat : List Str := match kSt with | .ClassDef _ _ _ _ _ _ _ _ _ s _ => s | _ => default
noncomputable def kPos : Pos := match kSt with | .ClassDef _ _ _ _ _ _ _ _ _ _ p => p | _ => default
noncomputable abbrev kQ : Str := "cmp_to_key.<locals>.K"
noncomputable abbrev cenvK (N fr c : Addr) (clos : List (Str × Addr)) : Env :=
  { scope := kScope, locals := N, globals := mainGlobals, qual := kQ ++ ".", code := .ref c, frame := some fr, builtins := builtinsNs, cells := clos }

section
variable {prog : Program} {w : World} {A : Around} {E : Value → Shared → Prop} {s : Shared} {G h : Heap} {tk : Nat} {mg mb m : Str → Option Value} {L c P N fr cl : Addr} {ps : Array Value}

theorem kf_get : typeLookup (.type "dict") "__getitem__" = pure (some (.builtin "dict.__getitem__")) := by rw [typeLookup_type, builtinLookup_eq_fast]; kernel_rfl

theorem ld_name {Q : Value → Shared → Prop} {v : Value} {clos : List (Str × Addr)} (W : CB G h N P m ps) (hg : G.Ns mainGlobals mg) (hm : m "__name__" = none) (hv : mg "__name__" = some v) (k : Q v (st s h tk)) :
    wpAny (model prog w) A (loadName (cenvK N fr c clos) "__name__") Q E (st s h tk) := by
  obtain ⟨es, n, D⟩ := W.dn
  have hD := D.at'
  have nD := D.ns1.ns
  have hg' := hg.keeps W.keep
  obtain ⟨h0, g, d, t0, os⟩ := s
  simp only [st] at k ⊢
  unfold loadName
  repeat (first | with_reducible refine ns_get nD hm ?_ | with_reducible refine ns_get hg' hv ?_ | (first | with_reducible (first | refine wpAny_pure ?_ | refine wpAny_bind ?_ | refine wpAny_holding ?_ | refine wpAny_standAt ?_ | refine wpAny_point ?_ | refine wpAny_rule ?_ | refine wpAny_letGo ?_ | refine wpAny_mkInt' ?_ | refine wpAny_mkStr' ?_ | refine wpAny_fresh' ?_ | refine wpAny_alloc' ?_ | refine wpAny_attempt ?_ | refine wpAny_of_eq (by assumption) ?_ | refine wpAny_typeOf (by assumption) ?_ | refine wpAny_specialOf_val (by assumption) (by assumption) ?_ | refine wpAny_specialOf (by assumption) (by assumption) ?_ | refine wpAny_isInstance_val (by assumption) (by assumption) ?_ | refine wpAny_isInstance (by assumption) (by assumption) ?_ | refine wpAny_call ?_ | refine wpAny_runValue ?_ | refine wpAny_run ?_) | ((with_reducible show wpAny _ _ (load _) _ _ _); (with_reducible apply wpAny_load'); focus (heap_get; done)) | ((with_reducible show wpAny _ _ (update _ _) _ _ _); (with_reducible apply wpAny_update'); focus (heap_get; done)) | ((with_reducible show wpAny _ _ (loadPart _ _) _ _ _); (with_reducible apply wpAny_loadPart'); focus (heap_get; done)) | ((with_reducible show wpAny _ _ (updatePart _ _ _) _ _ _); (with_reducible apply wpAny_updatePart'); focus (heap_get; done)) | ((with_reducible refine wpAny_ite_false ?hc ?_); (case hc => first | (decide +kernel; done) | (rfl; done))) | ((with_reducible refine wpAny_ite_true ?hc ?_); (case hc => first | (decide +kernel; done) | (rfl; done))) | wp_delta | with_reducible_and_instances refine wpAny_pure ?_ | with_reducible_and_instances refine wpAny_bind ?_))
  exact k
theorem hid_ns {X : List Addr} {a : Addr} (x : h.Ns a m) (hn : a ∉ X) : (hideAll h X).Ns a m := let ⟨o, es, ep, e, r⟩ := x; ⟨o, es, ep, hideAll_get _ e hn, r⟩
theorem hid_bm {X : List Addr} (x : BM h mg) (hn : ∀ b o, h.get? b = some o → o.cls = .type "module" → b ∉ X) : BM (hideAll h X) mg := let ⟨bm, o, a, b, c, e, f, r⟩ := x; ⟨bm, o, a, b, c, hideAll_get _ e (hn _ _ e f), f, r⟩
theorem ns_ne_none {a b : Addr} (x : h.Ns a m) (e : h.get? b = none) : a ≠ b := fun q => by obtain ⟨o, es, ep, e', _⟩ := x; rw [q, e] at e'; cases e'

theorem k_st {N fr c : Addr} {clos : List (Str × Addr)} (name : Str) (hn : name ∈ (["__module__", "__qualname__", "__firstlineno__", "__slots__", "__init__", "__lt__", "__gt__", "__eq__", "__le__", "__ge__", "__hash__", "__static_attributes__"] : List Str)) (v : Value) :
    storeName (cenvK N fr c clos) name v = localSet (cenvK N fr c clos) name v := by
  simp only [List.mem_cons, List.not_mem_nil, or_false] at hn
  rcases hn with rfl | rfl | rfl | rfl | rfl | rfl | rfl | rfl | rfl | rfl | rfl | rfl <;> rfl

noncomputable def dName : Stmt → Str | .FunctionDef n _ _ _ _ _ _ _ _ _ => n | _ => default
noncomputable def dArgs : Stmt → Arguments | .FunctionDef _ a _ _ _ _ _ _ _ _ => a | _ => default
noncomputable def dBody : Stmt → List Stmt | .FunctionDef _ _ b _ _ _ _ _ _ _ => b | _ => []
noncomputable def dScope : Stmt → Scope | .FunctionDef _ _ _ _ _ _ s _ _ _ => s | _ => default
noncomputable def kDef (i : Nat) : Stmt := kBody.getD i (.Pass default)
noncomputable abbrev kFn (i : Nat) (qual : Str) (clos : List (Str × Addr)) (doc pm : Value) (c : Addr) (ctv : Value) : Obj := fnMade (dName (kDef i)) qual (dArgs (kDef i)) (dBody (kDef i)) (dScope (kDef i)) clos doc pm c ctv

noncomputable def kM (m : Str → Option Value) (um : Tok) (sl f1 f2 f3 f4 f5 f6 : Addr) : Str → Option Value := fun x =>
  if x = "__hash__" then some .none else if x = "__ge__" then some (.ref f6) else if x = "__le__" then some (.ref f5) else if x = "__eq__" then some (.ref f4) else if x = "__gt__" then some (.ref f3) else
  if x = "__lt__" then some (.ref f2) else if x = "__init__" then some (.ref f1) else if x = "__slots__" then some (.ref sl) else if x = "__module__" then some (.str "cpy313.functools" um) else m x

noncomputable def IsFun (h : Heap) (f : Addr) : Prop := ∃ o, h.get? f = some o ∧ o.cls = .type "function"
theorem IsFun.stay {h h' : Heap} {f : Addr} (x : IsFun h f) (S : Stay h h') : IsFun h' f := let ⟨o, e, r⟩ := x; ⟨o, S _ _ e, r⟩

theorem r_newListE {vs : List Value} {Q : Value → Shared → Prop} (hz : vs.length ≤ 1000)
    (k : ∀ a h', h.get? a = none → h'.get? a = some { cls := .type "list", data := .seq vs.toArray } → Stay h h' → Q (.ref a) (st s h' tk)) : wpAny (model prog w) A (newList vs) Q E (st s h tk) :=
  wpAny_newList (s := st s h tk) (k _ _ (Heap.get?_none_of_le (Nat.le_refl _)) (Heap.get?_push_size _ rfl) fun _ _ e => Heap.get?_push_of_some _ e) (by rw [sizeLine_eq]; (first | lia | omega))

set_option maxHeartbeats 4000000 in
theorem wp_kbody {Q : Flow → Shared → Prop} {cc : Addr} (W : CB G h N P m #[]) (hg : G.Ns mainGlobals mg) (bm : BM G mg) (hC : CodeHd G c P)
    (k : ∀ G' h' tk' um sl ts f1 c1 t1 d1 f2 c2 t2 d2 f3 f4 f5 f6 ps', Stay G G' → CB G' h' N P (kM m um sl f1 f2 f3 f4 f5 f6) ps' → G'.get? sl = some { cls := .type "list", data := .seq #[.str "obj" ts] } →
      G'.get? f1 = some (kFn 2 "cmp_to_key.<locals>.K.__init__" [] d1 ((mg "__name__").getD .none) c1 t1) → G'.CodeRec (.ref c1) "cmp_to_key.<locals>.K.__init__" →
      G'.get? f2 = some (kFn 3 "cmp_to_key.<locals>.K.__lt__" [("mycmp", cc)] d2 ((mg "__name__").getD .none) c2 t2) → G'.CodeRec (.ref c2) "cmp_to_key.<locals>.K.__lt__" →
      IsFun G' f3 → IsFun G' f4 → IsFun G' f5 → IsFun G' f6 → Q .next (st s h' tk')) :
    wpAny (model prog w) A (execs kBody (cenvK N fr c [("mycmp", cc)])) Q E (st s h tk) := by
  refine r_assign (r_str (st_cls W (k_st "__module__" (by simp) _) (fun h₁ tk₁ W₁ => ?_) rfl))
  refine r_assign (r_list (r_sp1 (r_str (r_sp0 (r_newListE (by simp) fun sl h₂ fsl hsl S₂ => ?_)))))
  have W₂ := W₁.stay S₂
  obtain ⟨W₂', SG₂⟩ := W₂.ground
  have hslG : (hideAll h₂ [N, P]).get? sl = _ := hideAll_get _ hsl (by
    simp
    constructor
    · rintro rfl
      obtain ⟨es, n, D⟩ := W₁.dn
      have := D.at'; rw [fsl] at this; cases this
    · rintro rfl
      have := W₁.tab; rw [fsl] at this; cases this)
  refine st_cls W₂' (k_st "__slots__" (by simp) _) (fun h₃ tk₃ W₃ => ?_) rfl
  refine step_def W₃ (hC.keeps SG₂) (hg.keeps SG₂) (bm.stay SG₂) rfl rfl rfl rfl rfl (k_st "__init__" (by simp)) rfl rfl rfl fun G₄ h₄ f1 c1 t1 d1 tk₄ SG₄ W₄ hf1 hc1 => ?_
  refine step_def W₄ ((hC.keeps SG₂).keeps SG₄) ((hg.keeps SG₂).keeps SG₄) ((bm.stay SG₂).stay SG₄) rfl rfl rfl rfl rfl (k_st "__lt__" (by simp)) rfl rfl rfl fun G₅ h₅ f2 c2 t2 d2 tk₅ SG₅ W₅ hf2 hc2 => ?_
  have T₅ := (SG₂.trans SG₄).trans SG₅
  refine step_def W₅ (hC.keeps T₅) (hg.keeps T₅) (bm.stay T₅) rfl rfl rfl rfl rfl (k_st "__gt__" (by simp)) rfl rfl rfl fun G₆ h₆ f3 c3 t3 d3 tk₆ SG₆ W₆ hf3 hc3 => ?_
  have T₆ := T₅.trans SG₆
  refine step_def W₆ (hC.keeps T₆) (hg.keeps T₆) (bm.stay T₆) rfl rfl rfl rfl rfl (k_st "__eq__" (by simp)) rfl rfl rfl fun G₇ h₇ f4 c4 t4 d4 tk₇ SG₇ W₇ hf4 hc4 => ?_
  have T₇ := T₆.trans SG₇
  refine step_def W₇ (hC.keeps T₇) (hg.keeps T₇) (bm.stay T₇) rfl rfl rfl rfl rfl (k_st "__le__" (by simp)) rfl rfl rfl fun G₈ h₈ f5 c5 t5 d5 tk₈ SG₈ W₈ hf5 hc5 => ?_
  have T₈ := T₇.trans SG₈
  refine step_def W₈ (hC.keeps T₈) (hg.keeps T₈) (bm.stay T₈) rfl rfl rfl rfl rfl (k_st "__ge__" (by simp)) rfl rfl rfl fun G₉ h₉ f6 c6 t6 d6 tk₉ SG₉ W₉ hf6 hc6 => ?_
  refine r_assign ?_
  show wpAny _ _ (pure Value.none) _ _ _
  refine wpAny_pure (st_cls W₉ (k_st "__hash__" (by simp) _) (fun h₁₀ tk₁₀ W₁₀ => ?_) rfl)
  refine r_nil ?_
  have U₇ := SG₈.trans SG₉
  have U₆ := SG₇.trans U₇
  have U₅ := SG₆.trans U₆
  have U₄ := SG₅.trans U₅
  have U₂ := SG₄.trans U₄
  exact k G₉ h₁₀ tk₁₀ _ sl _ f1 c1 t1 d1 f2 c2 t2 d2 f3 f4 f5 f6 _ (T₈.trans SG₉) W₁₀ (U₂ _ _ hslG) (U₄ _ _ hf1) (hc1.keeps U₄) (U₅ _ _ hf2) (hc2.keeps U₅)
    ⟨_, U₆ _ _ hf3, rfl⟩ ⟨_, U₇ _ _ hf4, rfl⟩ ⟨_, SG₉ _ _ hf5, rfl⟩ ⟨_, hf6, rfl⟩

end
end Mine
end
section
open PySem PySem.W PySem.Calls PyProof.Rows
set_option Elab.async false
set_option maxRecDepth 100000
namespace Mine
section
variable {prog : Program} {w : World} {A : Around} {E : Value → Shared → Prop} {s : Shared} {G h : Heap} {tk : Nat} {mg mb m : Str → Option Value} {L c P N fr cl : Addr} {ps : Array Value}

noncomputable def kMN (m : Str → Option Value) (md : Addr) : Str → Option Value := fun x => if x = "__doc__" then some Value.none else if x = "obj" then some (.ref md) else if x = "__qualname__" then none else m x
noncomputable def kM0 (v0 : Value) (t1 t2 : Tok) : Str → Option Value := fun x => if x = "__firstlineno__" then some (.int 45 t2) else if x = "__qualname__" then some (.str kQ t1) else if x = "__module__" then some v0 else none

/-- the class K of cmp_to_key, over the cell cc -/
structure KCls (h : Heap) (C cc : Addr) (nm : Value) : Prop where
  ex : ∃ N k0 k2 k3 md tmd v0 t1 t2 um sl f1 c1 u1 d1 f2 c2 u2 d2 f3 f4 f5 f6 sa, h.get? C = some (kObj "K" kQ C N k0 none k2 k3 (some (.bool false))) ∧
    h.Ns N (kMN (fun x => if x = "__static_attributes__" then some (.ref sa) else kM (kM0 v0 t1 t2) um sl f1 f2 f3 f4 f5 f6 x) md) ∧
    h.get? md = some { cls := .type "member_descriptor", data := .fields #[.str "obj" tmd, .ref C, .builtin "proto.slot", .builtin "proto.slot#set", .int 0 0] } ∧
    h.get? f1 = some (kFn 2 "cmp_to_key.<locals>.K.__init__" [] d1 nm c1 u1) ∧ h.CodeRec (.ref c1) "cmp_to_key.<locals>.K.__init__" ∧
    h.get? f2 = some (kFn 3 "cmp_to_key.<locals>.K.__lt__" [("mycmp", cc)] d2 nm c2 u2) ∧ h.CodeRec (.ref c2) "cmp_to_key.<locals>.K.__lt__"
/-- what stood ahead of the class and may be hidden -/
noncomputable def OldKind (o : Obj) : Prop := (∃ es ep, o.data = .dict es ep) ∨ (∃ v, o.data = .cell v) ∨ (∃ ps : Array Value, o = tabObj ps ∧ ∀ q t, ps[1]? ≠ some (.str q t))
theorem KCls.stay {h h' : Heap} {C cc : Addr} {nm : Value} (x : KCls h C cc nm) (S : Stay h h') : KCls h' C cc nm := by
  obtain ⟨N, k0, k2, k3, md, tmd, v0, t1, t2, um, sl, f1, c1, u1, d1, f2, c2, u2, d2, f3, f4, f5, f6, sa, a1, a2, a3, a4, a5, a6, a7⟩ := x.ex
  exact ⟨N, k0, k2, k3, md, tmd, v0, t1, t2, um, sl, f1, c1, u1, d1, f2, c2, u2, d2, f3, f4, f5, f6, sa, S _ _ a1, a2.keeps S, S _ _ a3, S _ _ a4, a5.keeps S, S _ _ a6, a7.keeps S⟩

theorem ite_ne {c : Prop} [Decidable c] {a : Value} {r : Option Value} (h : (if c then some a else r) ≠ none) : c ∨ r ≠ none := by
  by_cases q : c
  · exact .inl q
  · rw [if_neg q] at h; exact .inr h
theorem ite_some {c : Prop} [Decidable c] {a v : Value} {r : Option Value} (h : (if c then some a else r) = some v) : a = v ∨ r = some v := by
  by_cases q : c
  · rw [if_pos q] at h; exact .inl (Option.some.inj h)
  · rw [if_neg q] at h; exact .inr h
theorem r_textTuple {vs : List Value} {Q : Value → Shared → Prop} (k : ∀ a h', h.get? a = none → h'.get? a = some { cls := .type "tuple", data := .seq vs.toArray } → Stay h h' → Q (.ref a) (st s h' tk)) : wpAny (model prog w) A (newTextTuple vs) Q E (st s h tk) :=
  wpAny_newTextTuple (s := st s h tk) (k _ _ (Heap.get?_none_of_le (Nat.le_refl _)) (Heap.get?_push_size _ rfl) fun _ _ e => Heap.get?_push_of_some _ e)

set_option maxHeartbeats 4000000 in
theorem wp_build {pm : Value} {env : Env} (henv : env = callEnvC (fnD 25 84 pm .none) L 85) {Q : Value → Shared → Prop} (B : Bas mg mb h) (bm : BM h mg) (hdp : A.depth < recursionLimit)
    (hLf : ∃ o es ep, h.get? L = some o ∧ o.data = .dict es ep) (hC : CodeHd h 84 80) (hP : h.get? 80 = some (tabObj #[])) (hnm : ∃ v, mg "__name__" = some v ∧ ∃ x t, v = .str x t) {mc : Str → Option Value} (hst : h.Ns cStatics mc) (hmc : mc "thirdparty.any" = none)
    (k : ∀ C h' tk', Off 80 h h' → GrownAt 80 h' → (∀ Z : List Addr, (∀ z ∈ Z, ∃ o, h.get? z = some o ∧ OldKind o) → KCls (hideAll h' Z) C (L + 1) ((mg "__name__").getD .none)) → Q (.ref C) (st s h' tk')) :
    wpAny (model prog w) A (buildClass "K" kQ [.type "object"] [] kBody kScope kStat kPos.line env kPos none) Q E (st s h tk) := by
  have e3 : isSubtype (.type "type") (.type "type") = pure true := kf3
  have e4 := kf4
  have e5 := kf_get
  obtain ⟨h0, g, d, t0, os⟩ := s
  simp only [st]
  unfold buildClass
  refine wpAny_bind (wpAny_newTuple (s := ⟨h, g, d, tk, os⟩) ?_ (by rw [sizeLine_eq]; simp))
  have hB1 : (h.push { cls := .type "tuple", data := .seq [Value.type "object"].toArray }).get? h.objs.size = some { cls := .type "tuple", data := .seq [Value.type "object"].toArray } := Heap.get?_push_size _ rfl
  have SB : Stay h (h.push { cls := .type "tuple", data := .seq [Value.type "object"].toArray }) := fun _ _ e => Heap.get?_push_of_some _ e
  repeat ((fail_if_success (with_reducible show wpAny _ _ (getAttr? _ _) _ _ _)); (first | with_reducible (first | refine wpAny_pure ?_ | refine wpAny_bind ?_ | refine wpAny_holding ?_ | refine wpAny_standAt ?_ | refine wpAny_point ?_ | refine wpAny_rule ?_ | refine wpAny_letGo ?_ | refine wpAny_mkInt' ?_ | refine wpAny_mkStr' ?_ | refine wpAny_fresh' ?_ | refine wpAny_alloc' ?_ | refine wpAny_attempt ?_ | refine wpAny_of_eq (by assumption) ?_ | refine wpAny_typeOf (by assumption) ?_ | refine wpAny_specialOf_val (by assumption) (by assumption) ?_ | refine wpAny_specialOf (by assumption) (by assumption) ?_ | refine wpAny_isInstance_val (by assumption) (by assumption) ?_ | refine wpAny_isInstance (by assumption) (by assumption) ?_ | refine wpAny_call ?_ | refine wpAny_runValue ?_ | refine wpAny_run ?_) | ((with_reducible show wpAny _ _ (load _) _ _ _); (with_reducible apply wpAny_load'); focus (heap_get; done)) | ((with_reducible show wpAny _ _ (update _ _) _ _ _); (with_reducible apply wpAny_update'); focus (heap_get; done)) | ((with_reducible show wpAny _ _ (loadPart _ _) _ _ _); (with_reducible apply wpAny_loadPart'); focus (heap_get; done)) | ((with_reducible show wpAny _ _ (updatePart _ _ _) _ _ _); (with_reducible apply wpAny_updatePart'); focus (heap_get; done)) | ((with_reducible refine wpAny_ite_false ?hc ?_); (case hc => first | (decide +kernel; done) | (rfl; done))) | ((with_reducible refine wpAny_ite_true ?hc ?_); (case hc => first | (decide +kernel; done) | (rfl; done))) | wp_delta | with_reducible_and_instances refine wpAny_pure ?_ | with_reducible_and_instances refine wpAny_bind ?_))
  refine wp_prep fun b h₁ tk₁ fb S₁ hb => ?_
  repeat ((fail_if_success (with_reducible show wpAny _ _ (call _ _ _) _ _ _)); (first | with_reducible (first | refine wpAny_pure ?_ | refine wpAny_bind ?_ | refine wpAny_holding ?_ | refine wpAny_standAt ?_ | refine wpAny_point ?_ | refine wpAny_rule ?_ | refine wpAny_letGo ?_ | refine wpAny_mkInt' ?_ | refine wpAny_mkStr' ?_ | refine wpAny_fresh' ?_ | refine wpAny_alloc' ?_ | refine wpAny_attempt ?_ | refine wpAny_of_eq (by assumption) ?_ | refine wpAny_typeOf (by assumption) ?_ | refine wpAny_specialOf_val (by assumption) (by assumption) ?_ | refine wpAny_specialOf (by assumption) (by assumption) ?_ | refine wpAny_isInstance_val (by assumption) (by assumption) ?_ | refine wpAny_isInstance (by assumption) (by assumption) ?_ | refine wpAny_call ?_ | refine wpAny_runValue ?_ | refine wpAny_run ?_) | ((with_reducible show wpAny _ _ (load _) _ _ _); (with_reducible apply wpAny_load'); focus (heap_get; done)) | ((with_reducible show wpAny _ _ (update _ _) _ _ _); (with_reducible apply wpAny_update'); focus (heap_get; done)) | ((with_reducible show wpAny _ _ (loadPart _ _) _ _ _); (with_reducible apply wpAny_loadPart'); focus (heap_get; done)) | ((with_reducible show wpAny _ _ (updatePart _ _ _) _ _ _); (with_reducible apply wpAny_updatePart'); focus (heap_get; done)) | ((with_reducible refine wpAny_ite_false ?hc ?_); (case hc => first | (decide +kernel; done) | (rfl; done))) | ((with_reducible refine wpAny_ite_true ?hc ?_); (case hc => first | (decide +kernel; done) | (rfl; done))) | wp_delta | with_reducible_and_instances refine wpAny_pure ?_ | with_reducible_and_instances refine wpAny_bind ?_))
  refine wp_prepCall hb fun N h₂ fN lN S₂ hN => ?_
  have T₂ : Stay h h₂ := (SB.trans S₁).trans S₂
  have fNh : h.get? N = none := get_none_of (SB.trans S₁) fN
  have hNs : (N == sysModules) = false := by
    obtain ⟨o, es, ep, e, _⟩ := B.g
    have hlt := lN _ _ ((SB.trans S₁) _ _ e)
    exact beq_eq_false_iff_ne.mpr fun q => absurd (q ▸ hlt : mainGlobals < sysModules) (by decide)
  have e6 : Shared.TypeIs ⟨h₂, g, d, tk₁, os⟩ (.ref N) "dict" := ⟨_, hN, rfl⟩
  repeat ((fail_if_success (with_reducible show wpAny _ _ (if (_ == sysModules) = true then _ else _) _ _ _)); (first | with_reducible (first | refine wpAny_pure ?_ | refine wpAny_bind ?_ | refine wpAny_holding ?_ | refine wpAny_standAt ?_ | refine wpAny_point ?_ | refine wpAny_rule ?_ | refine wpAny_letGo ?_ | refine wpAny_mkInt' ?_ | refine wpAny_mkStr' ?_ | refine wpAny_fresh' ?_ | refine wpAny_alloc' ?_ | refine wpAny_attempt ?_ | refine wpAny_of_eq (by assumption) ?_ | refine wpAny_typeOf (by assumption) ?_ | refine wpAny_specialOf_val (by assumption) (by assumption) ?_ | refine wpAny_specialOf (by assumption) (by assumption) ?_ | refine wpAny_isInstance_val (by assumption) (by assumption) ?_ | refine wpAny_isInstance (by assumption) (by assumption) ?_ | refine wpAny_call ?_ | refine wpAny_runValue ?_ | refine wpAny_run ?_) | ((with_reducible show wpAny _ _ (load _) _ _ _); (with_reducible apply wpAny_load'); focus (heap_get; done)) | ((with_reducible show wpAny _ _ (update _ _) _ _ _); (with_reducible apply wpAny_update'); focus (heap_get; done)) | ((with_reducible show wpAny _ _ (loadPart _ _) _ _ _); (with_reducible apply wpAny_loadPart'); focus (heap_get; done)) | ((with_reducible show wpAny _ _ (updatePart _ _ _) _ _ _); (with_reducible apply wpAny_updatePart'); focus (heap_get; done)) | ((with_reducible refine wpAny_ite_false ?hc ?_); (case hc => first | (decide +kernel; done) | (rfl; done))) | ((with_reducible refine wpAny_ite_true ?hc ?_); (case hc => first | (decide +kernel; done) | (rfl; done))) | wp_delta | with_reducible_and_instances refine wpAny_pure ?_ | with_reducible_and_instances refine wpAny_bind ?_))
  refine wpAny_ite_false (decide_eq_false (by rw [hNs]; decide)) ?_
  repeat ((fail_if_success (with_reducible show wpAny _ _ (classCode _ _ _ _ _ _) _ _ _)); (first | with_reducible (first | refine wpAny_pure ?_ | refine wpAny_bind ?_ | refine wpAny_holding ?_ | refine wpAny_standAt ?_ | refine wpAny_point ?_ | refine wpAny_rule ?_ | refine wpAny_letGo ?_ | refine wpAny_mkInt' ?_ | refine wpAny_mkStr' ?_ | refine wpAny_fresh' ?_ | refine wpAny_alloc' ?_ | refine wpAny_attempt ?_ | refine wpAny_of_eq (by assumption) ?_ | refine wpAny_typeOf (by assumption) ?_ | refine wpAny_specialOf_val (by assumption) (by assumption) ?_ | refine wpAny_specialOf (by assumption) (by assumption) ?_ | refine wpAny_isInstance_val (by assumption) (by assumption) ?_ | refine wpAny_isInstance (by assumption) (by assumption) ?_ | refine wpAny_call ?_ | refine wpAny_runValue ?_ | refine wpAny_run ?_) | ((with_reducible show wpAny _ _ (load _) _ _ _); (with_reducible apply wpAny_load'); focus (heap_get; done)) | ((with_reducible show wpAny _ _ (update _ _) _ _ _); (with_reducible apply wpAny_update'); focus (heap_get; done)) | ((with_reducible show wpAny _ _ (loadPart _ _) _ _ _); (with_reducible apply wpAny_loadPart'); focus (heap_get; done)) | ((with_reducible show wpAny _ _ (updatePart _ _ _) _ _ _); (with_reducible apply wpAny_updatePart'); focus (heap_get; done)) | ((with_reducible refine wpAny_ite_false ?hc ?_); (case hc => first | (decide +kernel; done) | (rfl; done))) | ((with_reducible refine wpAny_ite_true ?hc ?_); (case hc => first | (decide +kernel; done) | (rfl; done))) | wp_delta | with_reducible_and_instances refine wpAny_pure ?_ | with_reducible_and_instances refine wpAny_bind ?_))
  subst henv
  refine wp_classCode (s := ⟨h₂, g, d, tk₁, os⟩) (c := 84) (P := 80) rfl (hC.keeps T₂) (T₂ _ _ hP) trivial rfl fun c P h₃ tk₃ fc fP O₃ C₃ hP₃ h80 => ?_
  have n80 : ∀ b o, h₂.get? b = some o → o.cls ≠ .none → h₃.get? b = some o := fun b o e hc => O₃ b o (fun q => by rw [q, T₂ _ _ hP] at e; cases e; exact hc rfl) e
  have hg₃ : h₃.Ns mainGlobals mg := by
    obtain ⟨o, es, ep, e, hd, r⟩ := (B.g.keeps T₂)
    exact ⟨o, es, ep, O₃ _ _ (fun q => by rw [q, T₂ _ _ hP] at e; cases e; cases hd) e, hd, r⟩
  obtain ⟨bmA, ob, b1, b2, b3, b4, b5, b6, b7⟩ := bm
  refine wpAny_bind (wpAny_builtinsFor (s := ⟨h₃, g, d, tk₃, os⟩) hg₃ b1 b2 (n80 _ _ (T₂ _ _ b4) (by rw [b5]; nofun)) b5 b6 b7 ?_)
  obtain ⟨nv, hnv, hnvs⟩ := hnm
  have hnsn : ∀ {h : Heap}, NSN h nv := fun {h} => by obtain ⟨x, t, rfl⟩ := hnvs; exact nsn_str _ _ _
  refine wpAny_bind (wpAny_bind (wpAny_nsGet (s := ⟨h₃, g, d, tk₃, os⟩) hg₃ ?_))
  refine al_new rfl fun fr h₄ ffr hfr S₄ => ?_
  refine wpAny_bind (wpAny_of_eq (a := [(Str.ofString "mycmp", L + 1)]) (by rfl) ?_)
  refine wpAny_holding (wpAny_bind ?_)
  have hN80 : N ≠ 80 := fun q => by rw [q, T₂ _ _ hP] at hN; cases hN
  have hN₄ : DN h₄ N (fun _ => none) #[] 0 := dn_new (S₄ _ _ (O₃ _ _ hN80 hN))
  have hNP : N ≠ P := fun q => by rw [← q, hN] at fP; cases fP
  have W0 : CB (hideAll h₄ [N, P]) h₄ N P (fun _ => none) #[] := ⟨fun b o e => of_hideAll _ e, ⟨_, _, hN₄⟩, S₄ _ _ hP₃, trivial, hideAll_none _ (by simp), hideAll_none _ (by simp)⟩
  have lim₄ : h₄.NoLimit := by
    obtain ⟨mc, a, r⟩ := B.lim.keeps T₂
    refine ⟨mc, ?_, r⟩
    obtain ⟨o, es, ep, e, hd, r⟩ := a
    exact ⟨o, es, ep, S₄ _ _ (O₃ _ _ (fun q => by rw [q, T₂ _ _ hP] at e; cases e; cases hd) e), hd, r⟩
  refine wpAny_enterFrame (s := ⟨h₄, g, d, tk₃, os⟩) lim₄ hdp ?_
  have hgne : mainGlobals ∉ [N, P] := by
    simp
    exact ⟨ns_ne_none (B.g) fNh, ns_ne_none (B.g.keeps T₂) fP⟩
  have hgG : (hideAll h₄ [N, P]).Ns mainGlobals mg := hid_ns (hg₃.keeps S₄) hgne
  refine wpAny_bind (wpAny_onRaise ?_)
  refine wpAny_bind (ld_name (s := ⟨h₄, g, d, tk₃, os⟩) W0 hgG rfl hnv ?_)
  refine wpAny_bind (st_cls (s := ⟨h₄, g, d, tk₃, os⟩) W0 (k_st "__module__" (by simp) _) (fun h₅ tk₅ W1 => ?_) rfl)
  refine wpAny_bind (wpAny_mkText ?_)
  refine wpAny_bind (st_cls (s := ⟨h₄, g, d, tk₃, os⟩) W1 (k_st "__qualname__" (by simp) _) (fun h₆ tk₆ W2 => ?_) rfl)
  refine wpAny_bind (wpAny_mkInt ?_)
  refine wpAny_bind (st_cls (s := ⟨h₄, g, d, tk₃, os⟩) W2 (k_st "__firstlineno__" (by simp) _) (fun h₇ tk₇ W3 => ?_) rfl)
  refine wpAny_pure ?_
  refine wpAny_bind (wpAny_run (codeAny_body (by rfl) (by rfl) ?_))
  have hC₄ : CodeHd (hideAll h₄ [N, P]) c P := by
    obtain ⟨o2, vs2, file2, tf2, flags2, tg2, inF2, text2, tt2, e1, hcl, r⟩ := C₃.keeps S₄
    refine ⟨o2, vs2, file2, tf2, flags2, tg2, inF2, text2, tt2, hideAll_get _ e1 ?_, hcl, r⟩
    simp
    constructor
    · rintro rfl
      have := hN₄.at'; rw [e1] at this; cases this; simp at hcl
    · rintro rfl
      have := S₄ _ _ hP₃; rw [e1] at this; cases this; cases hcl
  have bm₄ : BM (hideAll h₄ [N, P]) mg := by
    have e := S₄ _ _ (n80 _ _ (T₂ _ _ b4) (by rw [b5]; nofun))
    refine ⟨bmA, ob, b1, b2, b3, hideAll_get _ e ?_, b5, b6, b7⟩
    simp
    constructor
    · rintro rfl
      have := hN₄.at'; rw [e] at this; cases this; simp at b5
    · rintro rfl
      have := S₄ _ _ hP₃; rw [e] at this; cases this; cases b5
  refine wp_kbody (s := ⟨h₄, g, d, tk₃, os⟩) W3 hgG bm₄ hC₄ fun G₈ h₈ tk₈ um sl ts f1 c1 t1 d1 f2 c2 t2 d2 f3 f4 f5 f6 ps' SG W4 hsl hf1 hc1 hf2 hc2 i3 i4 i5 i6 => ?_
  show wpAny _ _ _ _ _ _
  refine wpAny_bind (wpAny_onRaise ?_)
  refine wpAny_bind (wpAny_mkStrs fun sv => ?_)
  refine wpAny_bind (r_textTuple (s := ⟨h₄, g, d, tk₃, os⟩) (h := h₈) (tk := tk₈ + kStat.length) fun sa h₉ fsa hsa S₉ => ?_)
  have W5 := W4.stay S₉
  obtain ⟨W5', SG5⟩ := W5.ground
  refine wpAny_bind (st_cls (s := ⟨h₄, g, d, tk₃, os⟩) W5' (k_st "__static_attributes__" (by simp) _) (fun h₁₀ tk₁₀ W6 => ?_) rfl)
  refine wpAny_pure ?_
  obtain ⟨es, n, D6⟩ := W6.dn
  have T4 : Stay h₄ h₄ := Stay.refl _
  have G8 : Stay (hideAll h₄ [N, P]) h₁₀ := (SG.trans SG5).trans W6.keep
  have up3 : ∀ b o, h₂.get? b = some o → b ≠ 80 → b ≠ N → h₁₀.get? b = some o := fun b o e n1 n2 => G8 _ _ (hideAll_get _ (S₄ _ _ (O₃ _ _ n1 e)) (by
    simp
    exact ⟨n2, fun q => by rw [q, fP] at e; cases e⟩))
  have up : ∀ b o, h.get? b = some o → b ≠ 80 → h₁₀.get? b = some o := fun b o e n1 => up3 b o (T₂ _ _ e) n1 fun q => by rw [q, fNh] at e; cases e
  have hB₁₀ : h₁₀.get? h.objs.size = some { cls := .type "tuple", data := .seq #[.type "object"] 0 } :=
    up3 _ _ (S₂ _ _ (S₁ _ _ hB1)) (fun q => by have := Heap.lt_size hP; rw [← q] at this; exact absurd this (Nat.lt_irrefl _)) (fun q => by rw [← q, S₁ _ _ hB1] at fN; cases fN)
  have hst₁₀ : h₁₀.Ns cStatics mc := by
    obtain ⟨o, es, ep, e, hd, r⟩ := hst
    exact ⟨o, es, ep, up _ _ e (fun q => by rw [q, hP] at e; cases e; cases hd), hd, r⟩
  refine wpAny_bind (wp_type3 fun A' => ?_)
  refine wp_typeNew (s := ⟨h₄, g, d, tk₃, os⟩) (tk := tk₁₀) (t := tk) hB₁₀ D6 (W6.keep _ _ (SG5 _ _ hsl)) (fun q => by rw [q] at hNs; simp at hNs) rfl rfl rfl rfl rfl rfl rfl rfl rfl rfl rfl rfl rfl
    (ks := ["__static_attributes__", "__hash__", "__ge__", "__le__", "__eq__", "__gt__", "__lt__", "__init__", "__slots__", "__module__", "__firstlineno__", "__qualname__"]) ?hks (by simp) rfl hst₁₀ hmc ?hvs fun C N' h₁₁ tk₁₁ md tmd S₁₁ fN' hC₁₁ hN₁₁ hmd => ?_
  case hks =>
    intro x hx
    simp only [List.mem_cons, List.not_mem_nil, or_false]
    rcases ite_ne hx with q | hx
    · exact .inl q
    rcases ite_ne hx with q | hx
    · exact .inr (.inl q)
    rcases ite_ne hx with q | hx
    · exact .inr (.inr (.inl q))
    rcases ite_ne hx with q | hx
    · exact .inr (.inr (.inr (.inl q)))
    rcases ite_ne hx with q | hx
    · exact .inr (.inr (.inr (.inr (.inl q))))
    rcases ite_ne hx with q | hx
    · exact .inr (.inr (.inr (.inr (.inr (.inl q)))))
    rcases ite_ne hx with q | hx
    · exact .inr (.inr (.inr (.inr (.inr (.inr (.inl q))))))
    rcases ite_ne hx with q | hx
    · exact .inr (.inr (.inr (.inr (.inr (.inr (.inr (.inl q)))))))
    rcases ite_ne hx with q | hx
    · exact .inr (.inr (.inr (.inr (.inr (.inr (.inr (.inr (.inl q))))))))
    rcases ite_ne hx with q | hx
    · exact .inr (.inr (.inr (.inr (.inr (.inr (.inr (.inr (.inr (.inl q)))))))))
    rcases ite_ne hx with q | hx
    · exact .inr (.inr (.inr (.inr (.inr (.inr (.inr (.inr (.inr (.inr (.inl q))))))))))
    rcases ite_ne hx with q | hx
    · exact .inr (.inr (.inr (.inr (.inr (.inr (.inr (.inr (.inr (.inr (.inr q))))))))))
    rcases ite_ne hx with q | hx
    · exact .inr (.inr (.inr (.inr (.inr (.inr (.inr (.inr (.inr (.inl q)))))))))
    exact absurd rfl hx
  case hvs =>
    intro x v hx
    have fun_nsn : ∀ {f : Addr}, IsFun G₈ f → NSN h₁₀ (.ref f) := fun {f} x => let ⟨o, e, r⟩ := x; nsn_ref (W6.keep _ _ (SG5 _ _ e)) r nl_func
    have hsa₁₀ : NSN h₁₀ (.ref sa) := nsn_ref (W6.keep _ _ (hideAll_get _ hsa (by
      simp
      constructor
      · rintro rfl
        obtain ⟨es, n, D⟩ := W4.dn
        have := D.at'; rw [fsa] at this; cases this
      · rintro rfl
        have := W4.tab; rw [fsa] at this; cases this))) rfl nl_tuple
    rcases ite_some hx with rfl | hx
    · exact hsa₁₀
    rcases ite_some hx with rfl | hx
    · exact nsn_none _
    rcases ite_some hx with rfl | hx
    · exact fun_nsn i6
    rcases ite_some hx with rfl | hx
    · exact fun_nsn i5
    rcases ite_some hx with rfl | hx
    · exact fun_nsn i4
    rcases ite_some hx with rfl | hx
    · exact fun_nsn i3
    rcases ite_some hx with rfl | hx
    · exact fun_nsn ⟨_, hf2, rfl⟩
    rcases ite_some hx with rfl | hx
    · exact fun_nsn ⟨_, hf1, rfl⟩
    rcases ite_some hx with rfl | hx
    · exact nsn_ref (W6.keep _ _ (SG5 _ _ hsl)) rfl nl_list
    rcases ite_some hx with rfl | hx
    · exact nsn_str _ _ _
    rcases ite_some hx with rfl | hx
    · exact nsn_int _ _ _
    rcases ite_some hx with rfl | hx
    · exact nsn_str _ _ _
    rcases ite_some hx with rfl | hx
    · exact hnsn
    · cases hx
  refine ⟨C, _, rfl, hC₁₁, rfl, wpAny_pure (k C h₁₁ tk₁₁ (fun b o n e => S₁₁ _ _ (up b o e n)) ?_ ?_)⟩
  · exact ⟨_, S₁₁ _ _ (G8 _ _ (hideAll_get _ (S₄ _ _ h80) (by
      simp
      exact ⟨Ne.symm hN80, fun q => by rw [← q, T₂ _ _ hP] at fP; cases fP⟩)))⟩
  · have U := (SG5.trans W6.keep).trans S₁₁
    intro Z hZ
    have h80' := S₁₁ _ _ (G8 _ _ (hideAll_get [N, P] (S₄ _ _ h80) (by
      simp
      exact ⟨Ne.symm hN80, fun q => by rw [← q, T₂ _ _ hP] at fP; cases fP⟩)))
    have hZ' : ∀ z ∈ Z, ∃ o, h₁₁.get? z = some o ∧ OldKind o := by
      intro z hz
      by_cases q : z = 80
      · subst q
        exact ⟨_, h80', .inr (.inr ⟨_, rfl, fun q t e => by simp [rawInt] at e⟩)⟩
      · obtain ⟨o, e, r⟩ := hZ z hz
        exact ⟨o, S₁₁ _ _ (up _ _ e q), r⟩
    have lift : ∀ b o, h₁₁.get? b = some o → ¬ OldKind o → (hideAll h₁₁ Z).get? b = some o := fun b o e hn => hideAll_get _ e fun hb => by
      obtain ⟨o', e', r⟩ := hZ' b hb
      rw [e] at e'; cases e'; exact hn r
    have liftC : ∀ c q, h₁₁.CodeRec (.ref c) q → (hideAll h₁₁ Z).CodeRec (.ref c) q := by
      rintro c q ⟨c2, oc, vs, t, e2, hoc, hd, hv⟩
      cases e2
      refine ⟨c, oc, vs, t, rfl, lift _ _ hoc ?_, hd, hv⟩
      rintro (⟨es, ep, q⟩ | ⟨v, q⟩ | ⟨ps, q, r⟩)
      · rw [hd] at q; cases q
      · rw [hd] at q; cases q
      · subst q; cases hd; exact r _ _ hv
    have nf : ∀ {o : Obj}, o.cls ≠ .none → (∀ es ep, o.data ≠ .dict es ep) → (∀ v, o.data ≠ .cell v) → ¬ OldKind o := by
      rintro o a b c (⟨es, ep, q⟩ | ⟨v, q⟩ | ⟨ps, q, r⟩)
      · exact b _ _ q
      · exact c _ q
      · subst q; exact a rfl
    exact ⟨N', _, _, _, md, tmd, nv, _, _, um, sl, f1, c1, t1, d1, f2, c2, t2, d2, f3, f4, f5, f6, sa, lift _ _ hC₁₁ (nf nofun nofun nofun), hid_ns hN₁₁ (fun hb => by
      by_cases q : N' = 80
      · have e80 := G8 _ _ (hideAll_get [N, P] (S₄ _ _ h80) (by
          simp
          exact ⟨Ne.symm hN80, fun q => by rw [← q, T₂ _ _ hP] at fP; cases fP⟩))
        rw [q, e80] at fN'; cases fN'
      · obtain ⟨o, e, r⟩ := hZ N' hb; rw [up _ _ e q] at fN'; cases fN'), lift _ _ hmd (nf nofun nofun nofun), lift _ _ (U _ _ hf1) (nf nofun nofun nofun), liftC _ _ (hc1.keeps U), lift _ _ (U _ _ hf2) (nf nofun nofun nofun), liftC _ _ (hc2.keeps U)⟩
end
end Mine
end
section
open PySem PySem.W PySem.Calls PyProof.Rows
set_option Elab.async false
set_option maxRecDepth 100000
namespace Mine
section
variable {prog : Program} {w : World} {A : Around} {E : Value → Shared → Prop} {s : Shared} {h : Heap} {tk : Nat} {mg mb : Str → Option Value}

theorem exec_cls {name : Str} {bases : List Expr} {keywords : List Keyword} {body : List Stmt} {decorators : List Expr} {scope : Scope} {ts : Option Scope} {bind : Str} {statics : List Str} {pos : Pos} {env : Env} :
    exec (.ClassDef name bases keywords body decorators [] scope ts bind statics pos) env = (do
    let decos ← evalAll (evalEach decorators env)
    standAt pos
    buildClassGuard env
    let c ← holding decos do
      let a ← evalArgs (.builtin "__build_class__") false (backTo pos (starEach bases env)) (backToKw pos (keywordEach keywords env))
      standAt pos
      holding (a.pos ++ a.kw.map (·.2)) (buildClass name (qualnameIn env name bind) a.pos a.kw body scope statics (firstLineOf decorators pos) env pos none)
    let c ← decorate (decos.zip (decorators.map (·.pos))).reverse c
    standAt pos
    bindName env bind c
    pure .next) := rfl

set_option maxHeartbeats 4000000 in
theorem c_cmpkey {f : Value} {Q : Value → Shared → Prop} (R : Rm 2 A) (B : Bas mg mb h) (bm : BM h mg) (X : FnAt h 85 84 25 .none)
    (hC : CodeHd h 84 80) (hP : h.get? 80 = some (tabObj #[])) (hnm : ∃ v, mg "__name__" = some v ∧ ∃ x t, v = .str x t) {mc : Str → Option Value} (hst : h.Ns cStatics mc) (hmc : mc "thirdparty.any" = none) (hob : mg "object" = none)
    (k : ∀ C cc h' tk', Off 80 h h' → GrownAt 80 h' → (∀ Z : List Addr, (∀ z ∈ Z, ∃ o, h.get? z = some o ∧ OldKind o) → KCls (hideAll h' Z) C cc ((mg "__name__").getD .none) ∧ (hideAll h' Z).IsCell cc (some f)) → Q (.ref C) (st s h' tk')) :
    wpAny (model prog w) A (call (.ref 85) [f]) Q E (st s h tk) := by
  obtain ⟨pm, ho, hc⟩ := X
  refine wpAny_call (codeAny_call_cells (s := st s h tk) (binds := [("mycmp", f)]) R.room ho rfl B.lim hc (body := bodyAt 25) rfl rfl rfl ?hkind ?_)
  case hkind =>
    intro x hx
    simp at hx; subst hx
    exact .inr ⟨rfl, rfl⟩
  intro s₁ I
  have hL : (callEnvC (fnD 25 84 pm .none) (st s h tk).heap.objs.size 85).locals = h.objs.size := rfl
  generalize hl : (st s h tk).heap.objs.size = L at *
  have hcell := I.cell "mycmp" (L + 1) rfl
  obtain ⟨h₁, tk₁, rfl⟩ := I.toInCall.same
  have keep := I.toInCall.keep
  have ns := I.toInCall.ns
  change Stay h h₁ at keep
  change h₁.Ns L _ at ns
  change h₁.IsCell (L + 1) (some f) at hcell
  have hh : (st s h tk).gens = s.gens := rfl
  generalize hA : A.deeper (callEnvC (fnD 25 84 pm .none) L 85) = A'
  have R' : Rm 1 A' := hA ▸ R.deeper
  generalize he : callEnvC (fnD 25 84 pm .none) L 85 = env
  show wpAny _ _ (execs (bodyAt 25) env) (fun fl s' => Q (flowV fl) s') _ (st s h₁ tk₁)
  refine wpAny_execs_cons ?_
  rw [exec_cls]
  have B₁ := B.stay keep
  have gk : env.kindOf "object" = some .globalImplicit := he ▸ rfl
  have gl : env.globals = mainGlobals := he ▸ rfl
  have gb : env.builtins = builtinsNs := he ▸ rfl
  have gs : env.scope.kind = .function := he ▸ rfl
  have gL : env.locals = L := he ▸ rfl
  have gK : env.kindOf "K" = some .local := he ▸ rfl
  have gq : qualnameIn env (Str.ofString "K") (Str.ofString "K") = kQ := he ▸ rfl
  refine wpAny_bind (wpAny_pure ?_)
  refine wpAny_bind (wpAny_standAt (wpAny_bind ?_))
  have gg : wpAny (model prog w) A' (buildClassGuard env) (fun _ s' => s' = st s h₁ tk₁) (fun _ _ => False) (st s h₁ tk₁) := by
    unfold buildClassGuard
    rw [gb]
    refine wpAny_bind (wpAny_nsGet (s := st s h₁ tk₁) B₁.b ?_)
    rw [B₁.bi _ (by decide)]
    exact wpAny_pure rfl
  refine wpAny_mono gg (fun _ s' e => ?_) fun _ _ e => e.elim
  subst e
  refine wpAny_bind (wpAny_holding (wpAny_bind ?_))
  refine evalArgs_plain (r_sp1 (nmB B₁ hob rfl (r_sp0 ?_) (by decide) gl gb gs gk))
  refine wpAny_bind (wpAny_standAt (wpAny_holding ?_))
  rw [gq]
  obtain ⟨ofr, fes, fep, hLo, hLd, hLr⟩ := id ns
  have n80 : (80 : Addr) ≠ L := fun q => by rw [← q, keep _ _ hP] at hLo; cases hLo; cases hLd
  have hLh : h.get? L = none := Heap.get?_none_of_le (Nat.le_of_eq hl)
  refine wp_build he.symm B₁ (bm.stay keep) R'.room ⟨ofr, fes, fep, hLo, hLd⟩ (hC.keeps keep) (keep _ _ hP) hnm (hst.keeps keep) hmc fun C h₂ tk₂ O₂ g₂ K₂ => ?_
  refine wpAny_bind (wpAny_pure (wpAny_bind (wpAny_standAt (wpAny_bind (wpAny_bindName ?_)))))
  have F₂ : Fm (hideAll h₁ [80, L]) L _ h₂ := ⟨ns.at' fun o e => O₂ _ o n80.symm e, fun b o e => O₂ _ _ (fun q => by rw [q, hideAll_none _ (by simp)] at e; cases e) (of_hideAll _ e), hideAll_none _ (by simp)⟩
  refine stL F₂ (fun h₃ tk₃ F₃ O₃ => ?_) gL gs gK
  refine wpAny_pure ?_
  show wpAny _ _ (execs _ env) (fun fl s' => Q (flowV fl) s') _ _
  refine r_ret (nmL F₃ rfl ?_ gL gs gK)
  refine k C (L + 1) h₃ tk₃ (fun b o n e => O₃ _ _ (fun q => by rw [q, hLh] at e; cases e) (O₂ _ _ n (keep _ _ e))) ?_ fun Z hZ => ⟨?_, ?_⟩
  · obtain ⟨ps, e⟩ := g₂
    exact ⟨ps, O₃ _ _ n80 e⟩
  · refine (K₂ (L :: Z) ?_).stay fun b o e => ?_
    · intro z hz
      rcases List.mem_cons.mp hz with rfl | hz
      · exact ⟨_, hLo, .inl ⟨_, _, hLd⟩⟩
      · obtain ⟨o, e, r⟩ := hZ z hz
        exact ⟨o, keep _ _ e, r⟩
    · have hb : b ∉ L :: Z := fun q => by rw [hideAll_none _ q] at e; cases e
      exact hideAll_get _ (O₃ _ _ (fun q => hb (q ▸ List.mem_cons_self)) (of_hideAll _ e)) fun q => hb (List.mem_cons_of_mem _ q)
  · obtain ⟨oc, hoc, hod⟩ := hcell
    refine ⟨oc, hideAll_get _ (O₃ _ _ (Nat.succ_ne_self L) (O₂ _ _ (fun q => ?_) hoc)) (fun hb => ?_), hod⟩
    · rw [q, keep _ _ hP] at hoc; cases hoc; cases hod
    · obtain ⟨o, e, _⟩ := hZ _ hb
      have : h.get? (L + 1) = none := Heap.get?_none_of_le (by rw [← hl]; exact Nat.le_succ _)
      rw [this] at e; cases e
end
end Mine
end
section
open PySem PySem.W PySem.Calls PyProof.Rows
set_option Elab.async false
set_option maxRecDepth 100000
set_option linter.unusedVariables false
namespace Mine
section
variable {prog : Program} {w : World} {A : Around} {E : Value → Shared → Prop} {h : Heap} {g : Array GenState} {d : Drawn} {t : Nat} {os : OsState}
variable {nm q : Str} {C N : Addr} {k0 k1 k2 k3 k5 : Option Value}

theorem ko_check {M : Model} {rest : List Value} {Q : Unit → Shared → Prop} (hC : h.get? C = some (kObj nm q C N k0 k1 k2 k3 k5)) (hq : Q () ⟨h, g, d, t, os⟩) :
    wpAny M A (checkBuiltinCall "object.__new__" ⟨.ref C :: rest, []⟩) Q E ⟨h, g, d, t, os⟩ := by
  have F := PySem.F.objNew
  have hcont : (Value.ref C :: [Value.type "object"]).contains (.type "object") = true := by rw [List.contains_cons, show [Value.type "object"].contains (.type "object") = true from by decide, Bool.or_true]
  simp only [checkBuiltinCall, F.kind, F.split, F.row]
  repeat (first | refine wpAny_loadPart_at hC ?_ | (refine wpAny_isSubtype_exc hC ?_; rw [hcont]) | refine wpAny_staticBase_exc hC ?_ | refine wpAny_madeBy_exc hC ?_ | simp only [bne_self_eq_false, Bool.false_eq_true, if_false] | wp_step)
  exact hq

theorem ko_new {R : Result → Shared → Prop} {mN : Str → Option Value} {rest : List Value} {fI : Addr}
    (hC : h.get? C = some (kObj nm q C N k0 k1 k2 k3 k5)) (hn : h.Ns N mN) (hi : mN "__init__" = some (.ref fI))
    (hq : R (.ok (.ret (.ref (h.objs.size + 1)))) ⟨(h.push { cls := .type "dict", data := .dict #[] }).push { cls := .ref C, dict := some h.objs.size, data := .plain }, g, d, t, os⟩) :
    codeAny (model prog w) A (.builtin "object.__new__" ⟨.ref C :: rest, []⟩) R ⟨h, g, d, t, os⟩ := by
  have F := PySem.F.objNew
  have hmro : mroOf (.type "object") = pure [.type "object"] := by kernel_rfl
  have hlk : typeLookup (.type "object") "__init__" = pure (some (.builtin "object.__init__")) := by rw [typeLookup_type, builtinLookup_eq_fast]; kernel_rfl
  have hne : (some (Value.ref fI) != some (Value.builtin "object.__init__")) = true := rfl
  have hsame : (some "object.__new__" != some "object.__new__") = false := by decide
  refine codeAny_builtin F.entry ?_
  unfold Builtin.«object.__new__»
  rcases rest with _ | ⟨r0, rr⟩
  all_goals
    repeat (first | with_reducible refine wpAny_madeHere_exc F.canon hC ?_ | (with_reducible refine wpAny_madeBy_exc hC ?_; simp only [hsame]) | with_reducible refine wpAny_loadPart_at hC ?_ | (with_reducible refine wpAny_typeLookup_exc hC hn hmro hlk ?_; rw [hi]; simp only [hne]) | wp_step)
  all_goals
    show wpAny _ _ (alloc { cls := .type "dict", data := .dict #[] } >>= fun x => pure (some x)) _ _ _
    refine wpAny_bind (wpAny_alloc' (wpAny_pure ?_))
    unfold newObj
    repeat wp_step
    show R _ _
    rw [Heap.size_push]
    exact hq

noncomputable def instK (C dx : Addr) (sl : Array (Option Value)) : Obj := { cls := .ref C, dict := some dx, data := .plain, slots := sl }

theorem ko_typeCall {mN : Str → Option Value} {rest : List Value} {fI : Addr} {oI : Obj} {Q : PySem.Fin → Shared → Prop}
    (hC : h.get? C = some (kObj nm q C N k0 k1 k2 k3 k5)) (hn : h.Ns N mN) (hi : mN "__init__" = some (.ref fI))
    (hfI : h.get? fI = some oI) (hfc : oI.cls = .type "function")
    (hq : ∀ h' x dx, h.get? x = none → h.get? dx = none → Stay h h' → h'.get? x = some (instK C dx #[]) → h'.get? dx = some { cls := .type "dict", data := .dict #[] } →
      wpAny (model prog w) A (call (.ref fI) (.ref x :: rest)) (fun r s' => r = .none ∧ Q (.done (.ret (.ref x))) s') E ⟨h', g, d, t, os⟩) :
    wpAny (model prog w) A (Builtin.«type.__call__» ⟨.ref C :: rest, []⟩) Q E ⟨h, g, d, t, os⟩ := by
  have F := PySem.F.objNew
  have hmro : mroOf (.type "object") = pure [.type "object"] := by kernel_rfl
  have hlk : typeLookup (.type "object") "__init__" = pure (some (.builtin "object.__init__")) := by rw [typeLookup_type, builtinLookup_eq_fast]; kernel_rfl
  repeat (first | with_reducible refine wpAny_loadPart_at hC ?_ | with_reducible refine wpAny_madeBy_exc hC ?_ | wp_step)
  refine codeAny_call_builtin_code (Code.quiet_builtin _ F.quiet) (ko_check hC ?_)
  refine ko_new hC hn hi ?_
  show wpAny _ _ _ _ _ _
  have hC₁ := Heap.get?_push_of_some { cls := .ref C, dict := some h.objs.size, data := .plain } (Heap.get?_push_of_some { cls := .type "dict", data := .dict #[] } hC)
  have hfI₁ := Heap.get?_push_of_some { cls := .ref C, dict := some h.objs.size, data := .plain } (Heap.get?_push_of_some { cls := .type "dict", data := .dict #[] } hfI)
  have hn₁ : ((h.push { cls := .type "dict", data := .dict #[] }).push { cls := .ref C, dict := some h.objs.size, data := .plain }).Ns N mN :=
    let ⟨o, es, ep, e, r⟩ := hn; ⟨o, es, ep, Heap.get?_push_of_some _ (Heap.get?_push_of_some _ e), r⟩
  have hget : ((h.push { cls := .type "dict", data := .dict #[] }).push { cls := .ref C, dict := some h.objs.size, data := .plain }).get? (h.objs.size + 1) = some { cls := .ref C, dict := some h.objs.size, data := .plain } := by heap_get
  have hgd : ((h.push { cls := .type "dict", data := .dict #[] }).push { cls := .ref C, dict := some h.objs.size, data := .plain }).get? h.objs.size = some { cls := .type "dict", data := .dict #[] } :=
    Heap.get?_push_of_some _ (Heap.get?_push_at rfl rfl)
  have hcC : (Value.ref C :: [Value.type "object"]).contains (.ref C) = true := by simp
  unfold isInstance
  repeat (first | with_reducible refine wpAny_loadPart_at hget ?_ | (with_reducible refine wpAny_isSubtype_exc hC₁ ?_; rw [hcC]) | wp_step)
  show wpAny _ _ (typeLookup (.ref C) _) _ _ _
  refine wpAny_typeLookup_exc hC₁ hn₁ hmro hlk ?_
  rw [hi]
  refine wpAny_holding (wpAny_bind ?_)
  unfold bindSpecial
  refine wpAny_bind (wpAny_typeOf (T := "function") ⟨_, hfI₁, hfc⟩ ?_)
  rw [if_pos (by decide)]
  refine wpAny_pure (wpAny_bind (wpAny_mono (hq _ (h.objs.size + 1) h.objs.size (Heap.get?_none_of_le (Nat.le_succ _)) (Heap.get?_none_of_le (Nat.le_refl _)) (fun b o hb => Heap.get?_push_of_some _ (Heap.get?_push_of_some _ hb)) hget hgd) (fun r s' hr => ?_) fun _ _ x => x))
  obtain ⟨rfl, hQ⟩ := hr
  wp_walk
  exact hQ

theorem ko_call {mN : Str → Option Value} {rest : List Value} {fI : Addr} {oI : Obj} {Q : Value → Shared → Prop}
    (hC : h.get? C = some (kObj nm q C N k0 k1 k2 k3 k5)) (hn : h.Ns N mN) (hi : mN "__init__" = some (.ref fI))
    (hfI : h.get? fI = some oI) (hfc : oI.cls = .type "function")
    (hq : ∀ h' x dx, h.get? x = none → h.get? dx = none → Stay h h' → h'.get? x = some (instK C dx #[]) → h'.get? dx = some { cls := .type "dict", data := .dict #[] } →
      wpAny (model prog w) (A.under (.builtin "type.__call__" ⟨.ref C :: rest, []⟩)) (call (.ref fI) (.ref x :: rest)) (fun r s' => r = .none ∧ Q (.ref x) s') E ⟨h', g, d, t, os⟩) :
    wpAny (model prog w) A (call (.ref C) rest) Q E ⟨h, g, d, t, os⟩ := by
  have f1 := tc_lookup
  have f2 := tc_bind (.ref C)
  have hT : (⟨h, g, d, t, os⟩ : Shared).TypeIs (.ref C) "type" := ⟨_, hC, rfl⟩
  refine wpAny_call (codeAny_of_tree ?_)
  show wpAny _ _ (callAny (.ref C) _) _ _ _
  repeat (any_goals (first | assumption | with_reducible refine wpAny_loadPart_at hC ?_ | wp_step))
  refine ⟨rfl, ?_⟩
  refine codeAny_call_builtin_at (Code.quiet_builtin _ (by decide +kernel)) entry_typeCall (wpAny_check_type_call_sub hC (ko_typeCall hC hn hi hfI hfc fun h' x dx a b c d e => ?_))
  exact hq h' x dx a b c d e
end
end Mine
end
section
open PySem PySem.W PySem.Calls PyProof.Rows
set_option Elab.async false
set_option maxRecDepth 100000
namespace Mine

noncomputable def OffL (X : List Addr) (h h' : Heap) : Prop := ∀ b o, b ∉ X → h.get? b = some o → h'.get? b = some o
theorem OffL.trans {X : List Addr} {a b c : Heap} (x : OffL X a b) (y : OffL X b c) : OffL X a c := fun i o n e => y i o n (x i o n e)
theorem Stay.offL {X : List Addr} {h h' : Heap} (x : Stay h h') : OffL X h h' := fun i o _ e => x i o e
theorem Off.offL {X : List Addr} {L : Addr} {h h' : Heap} (x : Off L h h') (hm : L ∈ X) : OffL X h h' := fun i o n e => x i o (fun q => n (q ▸ hm)) e
noncomputable def Kept (X : List Addr) (h h' : Heap) : Prop := ∀ b ∈ X, ∀ o, h.get? b = some o → h'.get? b = some o

theorem compTurn2_0 (elt t0 i0 t1 i1 : Expr) (scope : Scope) (pos : Pos) (it acc : Value) (env : Env) :
    compTurn (.ListComp elt [⟨t0, i0, [], 0⟩, ⟨t1, i1, [], 0⟩] scope pos) 0 it acc env = (standAt i0.pos >>= fun _ => pyNext it >>= fun r => match r with
      | none => pure (.done .next)
      | some v => letOwnedTupleGo t0 it v >>= fun _ => assign t0 env v >>= fun _ => eval i1 env >>= fun x => standAt i1.pos >>= fun _ => foldedSetIterable i1 env x >>= fun x =>
        holding [x] (pyIter x) >>= fun it1 => runOwn (.compStart (.ListComp elt [⟨t0, i0, [], 0⟩, ⟨t1, i1, [], 0⟩] scope pos) 1 it1 acc env) env >>= fun _ =>
          again (.compLoop (.ListComp elt [⟨t0, i0, [], 0⟩, ⟨t1, i1, [], 0⟩] scope pos) 0 it acc env)) := by rfl
theorem compTurn2_1 (elt t0 i0 t1 i1 : Expr) (scope : Scope) (pos : Pos) (it acc : Value) (env : Env) :
    compTurn (.ListComp elt [⟨t0, i0, [], 0⟩, ⟨t1, i1, [], 0⟩] scope pos) 1 it acc env = (standAt i1.pos >>= fun _ => pyNext it >>= fun r => match r with
      | none => pure (.done .next)
      | some v => letOwnedTupleGo t1 it v >>= fun _ => assign t1 env v >>= fun _ => (eval elt env >>= fun x => call (.builtin "list.append") [acc, x] >>= fun _ => pure ()) >>= fun _ =>
          again (.compLoop (.ListComp elt [⟨t0, i0, [], 0⟩, ⟨t1, i1, [], 0⟩] scope pos) 1 it acc env)) := by rfl

section
variable {prog : Program} {w : World} {A : Around} {s : Shared} {R : Result → Shared → Prop}

theorem comp_loop1 {h : Heap} {tk : Nat} {elt target iter : Expr} {ifs : List Expr} {scope : Scope} {pos : Pos} {acc : Value} {env : Env} {I : Addr} {fp wr : List Addr} {n : Nat} {P Md : Nat → Value → Heap → Prop} {St : Nat → Heap → Prop}
    (W : KTurns prog w A target I fp wr n P Md St) (J : Nat → Heap → Prop) (hJ : ∀ i h h', J i h → OffL wr h h' → J i h')
    (turn : ∀ i v h tk, i < n → P i v h → St (i + 1) h → J i h →
      wpAny (model prog w) A (assign target env v) (fun _ s₂ => 
        wpAny (model prog w) A (forIn ifs true fun c r => if r = true then do let ok ← isTrue c env (eval c env); pure (ForInStep.yield ok) else pure (ForInStep.yield r)) (fun ok s₃ =>
          if ok = true then wpAny (model prog w) A (eval elt env) (fun x s₄ => wpAny (model prog w) A (call (.builtin "list.append") [acc, x]) (fun _ s₅ => ∃ h₅ tk₅, s₅ = st s h₅ tk₅ ∧ Kept fp h h₅ ∧ J (i + 1) h₅) (fun _ _ => False) s₄) (fun _ _ => False) s₃
          else ∃ h₃ tk₃, s₃ = st s h₃ tk₃ ∧ Kept fp h h₃ ∧ J (i + 1) h₃) (fun _ _ => False) s₂) (fun _ _ => False) (st s h tk))
    (fin : ∀ h tk, J n h → R (.ok .next) (st s h tk)) (h0 : St 0 h) (j0 : J 0 h) :
    codeAny (model prog w) A (.compLoop (.ListComp elt [⟨target, iter, ifs, 0⟩] scope pos) 0 (.ref I) acc env) R (st s h tk) := by
  refine codeAny_loop rfl (fun k s' => ∃ i h tk, s' = st s h tk ∧ St i h ∧ J i h ∧ i ≤ n ∧ k = n + 1 - i) ?_ (n + 1) ⟨0, h, tk, rfl, h0, j0, Nat.zero_le _, rfl⟩
  rintro k s' ⟨i, h', tk', rfl, hst, hj, hi, rfl⟩
  show wpAny _ A ((compTurn (.ListComp elt [⟨target, iter, ifs, 0⟩] scope pos) 0 (.ref I) acc env).onRaise (fun x => do noteFrame x env; theTreesLotGoes x)) _ _ _
  refine wpAny_noted ?_
  rw [compTurn_list]
  refine wpAny_bind (wpAny_standAt (wpAny_bind ?_))
  by_cases hlt : i < n
  · refine W.item i _ _ _ hlt hst fun v h₁ tk₁ hMd hk₁ => ?_
    refine wpAny_bind (W.go i v _ _ _ hMd fun h₂ hP hst₂ hk₂ => ?_)
    have hj₂ : J i h₂ := hJ i h' h₂ hj fun b o hb e => hk₂ b o hb (hk₁ b o hb e)
    refine wpAny_bind (wpAny_mono (turn i v h₂ tk₁ hlt hP hst₂ hj₂) (fun _ s₂ q => wpAny_bind (wpAny_mono q (fun ok s₃ q₃ => ?_) fun _ _ e => e.elim)) fun _ _ e => e.elim)
    cases ok with
    | false =>
      obtain ⟨h₃, tk₃, rfl, kp, j⟩ := q₃
      exact wpAny_pure ⟨rfl, n + 1 - (i + 1), by omega, i + 1, h₃, tk₃, rfl, W.frame _ _ _ hst₂ kp, j, hlt, rfl⟩
    | true =>
      refine wpAny_bind (wpAny_bind (wpAny_mono q₃ (fun x s₄ q₄ => wpAny_bind (wpAny_mono q₄ (fun _ s₅ q₅ => wpAny_pure (wpAny_pure ?_)) fun _ _ e => e.elim)) fun _ _ e => e.elim))
      obtain ⟨h₃, tk₃, rfl, kp, j⟩ := q₅
      exact ⟨rfl, n + 1 - (i + 1), by omega, i + 1, h₃, tk₃, rfl, W.frame _ _ _ hst₂ kp, j, hlt, rfl⟩
  · have hin : i = n := by omega
    subst hin
    refine W.done _ _ _ hst fun h₁ tk₁ hk₁ => ?_
    exact wpAny_pure (fin h₁ tk₁ (hJ i h' h₁ hj hk₁))

theorem comp_loop2_1 {h : Heap} {tk : Nat} {elt t0 i0 t1 i1 : Expr} {scope : Scope} {pos : Pos} {acc : Value} {env : Env} {I : Addr} {fp wr : List Addr} {n : Nat} {P Md : Nat → Value → Heap → Prop} {St : Nat → Heap → Prop}
    (W : KTurns prog w A t1 I fp wr n P Md St) (J : Nat → Heap → Prop) (hJ : ∀ i h h', J i h → OffL wr h h' → J i h')
    (turn : ∀ i v h tk, i < n → P i v h → St (i + 1) h → J i h →
      wpAny (model prog w) A (assign t1 env v) (fun _ s₂ => wpAny (model prog w) A (eval elt env) (fun x s₄ => wpAny (model prog w) A (call (.builtin "list.append") [acc, x]) (fun _ s₅ => ∃ h₅ tk₅, s₅ = st s h₅ tk₅ ∧ Kept fp h h₅ ∧ J (i + 1) h₅) (fun _ _ => False) s₄) (fun _ _ => False) s₂) (fun _ _ => False) (st s h tk))
    (fin : ∀ h tk, J n h → R (.ok .next) (st s h tk)) (h0 : St 0 h) (j0 : J 0 h) :
    codeAny (model prog w) A (.compLoop (.ListComp elt [⟨t0, i0, [], 0⟩, ⟨t1, i1, [], 0⟩] scope pos) 1 (.ref I) acc env) R (st s h tk) := by
  refine codeAny_loop rfl (fun k s' => ∃ i h tk, s' = st s h tk ∧ St i h ∧ J i h ∧ i ≤ n ∧ k = n + 1 - i) ?_ (n + 1) ⟨0, h, tk, rfl, h0, j0, Nat.zero_le _, rfl⟩
  rintro k s' ⟨i, h', tk', rfl, hst, hj, hi, rfl⟩
  show wpAny _ A ((compTurn (.ListComp elt [⟨t0, i0, [], 0⟩, ⟨t1, i1, [], 0⟩] scope pos) 1 (.ref I) acc env).onRaise (fun x => do noteFrame x env; theTreesLotGoes x)) _ _ _
  refine wpAny_noted ?_
  rw [compTurn2_1]
  refine wpAny_bind (wpAny_standAt (wpAny_bind ?_))
  by_cases hlt : i < n
  · refine W.item i _ _ _ hlt hst fun v h₁ tk₁ hMd hk₁ => ?_
    refine wpAny_bind (W.go i v _ _ _ hMd fun h₂ hP hst₂ hk₂ => ?_)
    have hj₂ : J i h₂ := hJ i h' h₂ hj fun b o hb e => hk₂ b o hb (hk₁ b o hb e)
    refine wpAny_bind (wpAny_mono (turn i v h₂ tk₁ hlt hP hst₂ hj₂) (fun _ s₂ q => wpAny_bind (wpAny_bind (wpAny_mono q (fun x s₄ q₄ => wpAny_bind (wpAny_mono q₄ (fun _ s₅ q₅ => wpAny_pure (wpAny_pure ?_)) fun _ _ e => e.elim)) fun _ _ e => e.elim))) fun _ _ e => e.elim)
    obtain ⟨h₃, tk₃, rfl, kp, j⟩ := q₅
    exact ⟨rfl, n + 1 - (i + 1), by omega, i + 1, h₃, tk₃, rfl, W.frame _ _ _ hst₂ kp, j, hlt, rfl⟩
  · have hin : i = n := by omega
    subst hin
    refine W.done _ _ _ hst fun h₁ tk₁ hk₁ => ?_
    exact wpAny_pure (fin h₁ tk₁ (hJ i h' h₁ hj hk₁))

theorem comp_loop2_0 {h : Heap} {tk : Nat} {elt t0 i0 t1 i1 : Expr} {scope : Scope} {pos : Pos} {acc : Value} {env : Env} {I : Addr} {fp wr : List Addr} {n : Nat} {P Md : Nat → Value → Heap → Prop} {St : Nat → Heap → Prop}
    (W : KTurns prog w A t0 I fp wr n P Md St) (J : Nat → Heap → Prop) (hJ : ∀ i h h', J i h → OffL wr h h' → J i h')
    (turn : ∀ i v h tk, i < n → P i v h → St (i + 1) h → J i h →
      wpAny (model prog w) A (assign t0 env v) (fun _ s₂ => wpAny (model prog w) A (eval i1 env) (fun x s₃ => wpAny (model prog w) A (pyIter x) (fun it s₄ => 
        codeAny (model prog w) A (.compStart (.ListComp elt [⟨t0, i0, [], 0⟩, ⟨t1, i1, [], 0⟩] scope pos) 1 it acc env) (fun r s₅ => ∃ f, r = .ok f ∧ ∃ h₅ tk₅, s₅ = st s h₅ tk₅ ∧ Kept fp h h₅ ∧ J (i + 1) h₅) s₄) (fun _ _ => False) s₃) (fun _ _ => False) s₂) (fun _ _ => False) (st s h tk))
    (fin : ∀ h tk, J n h → R (.ok .next) (st s h tk)) (h0 : St 0 h) (j0 : J 0 h)
    (hs : ∀ x, foldedSetIterable i1 env x = pure x := by intro _; rfl) :
    codeAny (model prog w) A (.compLoop (.ListComp elt [⟨t0, i0, [], 0⟩, ⟨t1, i1, [], 0⟩] scope pos) 0 (.ref I) acc env) R (st s h tk) := by
  refine codeAny_loop rfl (fun k s' => ∃ i h tk, s' = st s h tk ∧ St i h ∧ J i h ∧ i ≤ n ∧ k = n + 1 - i) ?_ (n + 1) ⟨0, h, tk, rfl, h0, j0, Nat.zero_le _, rfl⟩
  rintro k s' ⟨i, h', tk', rfl, hst, hj, hi, rfl⟩
  show wpAny _ A ((compTurn (.ListComp elt [⟨t0, i0, [], 0⟩, ⟨t1, i1, [], 0⟩] scope pos) 0 (.ref I) acc env).onRaise (fun x => do noteFrame x env; theTreesLotGoes x)) _ _ _
  refine wpAny_noted ?_
  rw [compTurn2_0]
  refine wpAny_bind (wpAny_standAt (wpAny_bind ?_))
  by_cases hlt : i < n
  · refine W.item i _ _ _ hlt hst fun v h₁ tk₁ hMd hk₁ => ?_
    refine wpAny_bind (W.go i v _ _ _ hMd fun h₂ hP hst₂ hk₂ => ?_)
    have hj₂ : J i h₂ := hJ i h' h₂ hj fun b o hb e => hk₂ b o hb (hk₁ b o hb e)
    refine wpAny_bind (wpAny_mono (turn i v h₂ tk₁ hlt hP hst₂ hj₂) (fun _ s₂ q => wpAny_bind (wpAny_mono q (fun x s₃ q₃ => wpAny_bind (wpAny_standAt (wpAny_bind (wpAny_of_eq (hs x)
      (wpAny_bind (wpAny_holding (wpAny_mono q₃ (fun it s₄ q₄ => wpAny_bind (wpAny_runOwn (codeAny_mono q₄ fun r s₅ q₅ => ?_))) fun _ _ e => e.elim))))))) fun _ _ e => e.elim)) fun _ _ e => e.elim)
    obtain ⟨f, rfl, h₃, tk₃, rfl, kp, j⟩ := q₅
    exact wpAny_pure ⟨rfl, n + 1 - (i + 1), by omega, i + 1, h₃, tk₃, rfl, W.frame _ _ _ hst₂ kp, j, hlt, rfl⟩
  · have hin : i = n := by omega
    subst hin
    refine W.done _ _ _ hst fun h₁ tk₁ hk₁ => ?_
    exact wpAny_pure (fin h₁ tk₁ (hJ i h' h₁ hj hk₁))
end

theorem compStart_two {prog : Program} {w : World} {A : Around} {R : Result → Shared → Prop} {s : Shared} {elt g0 target iter ifs rest scope pos it acc env}
    (h0 : codeAny (model prog w) A (.compLoop (.ListComp elt (g0 :: ⟨target, iter, ifs, 0⟩ :: rest) scope pos) 1 it acc env) R s)
    (h : wpAny (model prog w) A (pyIter it) (fun it' s' => codeAny (model prog w) A (.compLoop (.ListComp elt (g0 :: ⟨target, iter, ifs, 0⟩ :: rest) scope pos) 1 it' acc env) R s')
      (notedBy (model prog w) A env fun x s' => R (.error x) s') s) :
    codeAny (model prog w) A (.compStart (.ListComp elt (g0 :: ⟨target, iter, ifs, 0⟩ :: rest) scope pos) 1 it acc env) R s := by
  refine codeAny_of_tree ?_
  show wpAny _ _ ((compStart (.ListComp elt (g0 :: ⟨target, iter, ifs, 0⟩ :: rest) scope pos) 1 it acc env).onRaise (fun x => do noteFrame x env; standAt theWindowsPlace)) _ _ s
  refine wpAny_notedAt ?_
  unfold compStart
  show wpAny _ _ (ask >>= _) _ _ s
  refine wpAny_bind (wpAny_askSetting (wpAny_ite ?_))
  split
  · first
      | exact wpAny_bind (wpAny_pure (wpAny_pure (And.intro rfl h0)))
      | exact wpAny_pure (And.intro rfl h0)
  · first
      | exact wpAny_bind (wpAny_rule (wpAny_bind (wpAny_standAt (wpAny_bind (wpAny_mono h (fun it' s' h' => wpAny_pure (And.intro rfl h')) fun _ _ x => x)))))
      | (refine wpAny_bind (wpAny_rule ?_); show wpAny _ _ (standAt iter.pos >>= _) _ _ s; exact wpAny_bind (wpAny_standAt (wpAny_bind (wpAny_mono h (fun it' s' h' => wpAny_pure (And.intro rfl h')) fun _ _ x => x))))

section
variable {prog : Program} {w : World} {A : Around} {E : Value → Shared → Prop} {s : Shared} {env : Env}

theorem wp_lc {e : Expr} {scope : Scope} {pos : Pos} {first : Sem Value} {g : Comprehension} {gs : List Comprehension} {cl : List (Str × Addr)} {use : Option (Value → Sem Unit)} {Q : Value → Shared → Prop} {S : Shared}
    (hcl : clausesOf e = g :: gs) (hs : ∀ x, foldedSetIterable g.iter env x = pure x) (hclos : closureFor scope env = pure cl) (hcell : ∀ y ∈ scope.names, y.2 ≠ .cell)
    (hkind : scope.kind = .function) (hnames : ∀ x ∈ scope.names, x.2 = .local → scope.names.lookup x.1 = some .local)
    (k : wpAny (model prog w) A first (fun x s₁ => wpAny (model prog w) A (pyIter x) (fun it s₂ => ∃ h₂ tk₂, s₂ = st s h₂ tk₂ ∧ ∀ D C h₃ tk₃, h₂.get? D = none → h₂.get? C = none → D ≠ C → Stay h₂ h₃ → h₃.PlainList D #[] → h₃.Ns C (fun _ => none) →
      codeAny (model prog w) A (.compStart e 0 it (.ref D) (compEnvC scope cl C env)) (compPost (model prog w) A E use Q (.ref D) C) (st s h₃ tk₃)) E s₁) E S) :
    wpAny (model prog w) A (comprehension e scope env pos (newList []) false first use) Q E S := by
  refine wpAny_comprehension_free hcl hs hclos hkind hnames (wpAny_mono k (fun x s₁ k₁ => wpAny_mono k₁ (fun it s₂ k₂ => ?_) fun _ _ e => e) fun _ _ e => e)
  obtain ⟨h₂, tk₂, rfl, k₂⟩ := k₂
  refine wpAny_newObj_type (wpAny_newFunctionEnv hcell (by intro y hy; simp at hy) (fun h₁ hns₁ hsb₁ => ?_) hkind) (by size_fits)
  dsimp only [st] at hns₁ hsb₁ ⊢
  generalize hH2 : h₂.push { cls := .type "list", dict := none, data := .seq ([] : List Value).toArray } = H2 at hns₁ hsb₁ ⊢
  have hC : H2.objs.size = h₂.objs.size + 1 := by rw [← hH2, Heap.size_push]
  refine k₂ h₂.objs.size H2.objs.size h₁ _ (Heap.get?_none_of_le (Nat.le_refl _)) (Heap.get?_none_of_le (by rw [hC]; exact Nat.le_succ _)) (by rw [hC]; exact Nat.ne_of_lt (Nat.lt_succ_self _)) (fun b o e => ?_) ⟨_, hsb₁.extBut _ _ (by rw [hC]; exact Nat.ne_of_lt (Nat.lt_succ_self _)) (Heap.get?_push_of_some _ (hH2 ▸ Heap.get?_push_size _ rfl))⟩ ?_
  · have hb := Heap.lt_size e
    exact hsb₁.extBut b o (by rw [hC]; exact Nat.ne_of_lt (Nat.lt_succ_of_lt hb)) (Heap.get?_push_of_some _ (hH2 ▸ Heap.get?_push_of_some _ e))
  · exact hns₁
end
end Mine
end
section
open PySem PySem.W PySem.Calls PyProof.Rows
set_option Elab.async false
set_option maxRecDepth 100000
namespace Mine

theorem fresh_of {a b : Heap} {x : Addr} (S : Stay a b) (e : b.get? x = none) : a.get? x = none := by
  cases q : a.get? x with
  | none => rfl
  | some o => rw [S _ _ q] at e; cases e
theorem plain_stay {h h' : Heap} {a : Addr} {its : Array Value} (x : h.PlainList a its) (k : Stay h h') : h'.PlainList a its := x.at fun o e => k a o e
theorem slice_upto (items : Array Value) (b : Nat) (hb : b ≤ items.size) : slicePick items none (some (b : Int)) none = (items.toList.take b).toArray := by
  have e : sliceBounds none (some (b : Int)) none items.size = (0, (b : Int), 1) := by
    simp only [sliceBounds, Option.getD_none]
    have h2 : ¬ ((b : Int) < 0) := by (first | lia | omega)
    simp only [h2, if_false, show (1 : Int) > 0 by decide, if_true]
    congr 1
    congr 1
    (first | lia | omega)
  have := slicePick_run items 0 b hb (Nat.zero_le _)
  have e0 : sliceBounds (some ((0 : Nat) : Int)) (some (b : Int)) none items.size = (0, (b : Int), 1) := by
    simp only [sliceBounds, Option.getD_none]
    have h2 : ¬ ((b : Int) < 0) := by (first | lia | omega)
    have h1 : ¬ (((0 : Nat) : Int) < 0) := by (first | lia | omega)
    simp only [h1, h2, if_false, show (1 : Int) > 0 by decide, if_true]
    rw [Int.min_eq_left (by (first | lia | omega)), Int.min_eq_left (by (first | lia | omega))]; rfl
  unfold slicePick at this ⊢
  rw [e0] at this
  rw [e]
  simpa using this
theorem slice_from (items : Array Value) (a : Nat) (ha : a ≤ items.size) : slicePick items (some (a : Int)) none none = (items.toList.drop a).toArray := by
  have := slicePick_run items a items.size (Nat.le_refl _) ha
  have e1 : sliceBounds (some (a : Int)) none none items.size = ((a : Int), (items.size : Int), 1) := by
    simp only [sliceBounds, Option.getD_none]
    have h1 : ¬ ((a : Int) < 0) := by (first | lia | omega)
    simp only [h1, if_false, show (1 : Int) > 0 by decide, if_true]
    congr 1
    (first | lia | omega)
  have e0 : sliceBounds (some (a : Int)) (some (items.size : Int)) none items.size = ((a : Int), (items.size : Int), 1) := by
    simp only [sliceBounds, Option.getD_none]
    have h1 : ¬ ((a : Int) < 0) := by (first | lia | omega)
    have h2 : ¬ ((items.size : Int) < 0) := by (first | lia | omega)
    simp only [h1, h2, if_false, show (1 : Int) > 0 by decide, if_true]
    congr 1
    · (first | lia | omega)
    · congr 1; (first | lia | omega)
  unfold slicePick at this ⊢
  rw [e0] at this
  rw [e1, this]
  have : items.toList.length - a = (items.toList.drop a).length := by simp
  rw [show items.size - a = (items.toList.drop a).length by simp, List.take_length]

section
variable {prog : Program} {w : World} {A : Around} {E : Value → Shared → Prop} {s : Shared} {h : Heap} {tk : Nat} {env : Env} {pos : Pos} {S : Shared} {Q : Value → Shared → Prop}
theorem r_addL {l b : Addr} {xs ys : Array Value} (hl : h.PlainList l xs) (hb : h.PlainList b ys) (hz : xs.size + ys.size ≤ 10000)
    (k : ∀ a h', h.get? a = none → h'.PlainList a (xs ++ ys) → Stay h h' → Q (.ref a) (st s h' tk)) : wpAny (model prog w) A (binaryOp .Add (.ref l) (.ref b)) Q E (st s h tk) := by
  obtain ⟨n, hl⟩ := hl
  obtain ⟨n', hb⟩ := hb
  exact PySem.P.add_list (s := st s h tk) hl hb (k _ _ (Heap.get?_none_of_le (Nat.le_refl _)) ⟨_, Heap.get?_push_size _ rfl⟩ fun _ _ e => Heap.get?_push_of_some _ e) (by rw [sizeLine_eq]; (first | lia | omega))
theorem r_lenL {l : Addr} {xs : Array Value} (hl : h.IsList l xs) (hz : xs.size ≤ 10000) (k : ∀ t tk', Q (.int xs.size t) (st s h tk')) : wpAny (model prog w) A (call (.builtin "len") [.ref l]) Q E (st s h tk) :=
  call_len_list (s := st s h tk) hl (by (first | lia | omega)) (k _ _)
theorem r_lenS {x : Str} {t : Tok} (hz : x.length ≤ 100000) (k : ∀ t tk', Q (.int x.length t) (st s h tk')) : wpAny (model prog w) A (call (.builtin "len") [.str x t]) Q E (st s h tk) :=
  len_str (s := st s h tk) (by (first | lia | omega)) (k _ _)
theorem r_range1 {n : Int} {t : Tok} (k : ∀ r h' t' u' v' tk', h.get? r = none → IsRange h' r 0 n 1 t' u' v' → Stay h h' → Q (.ref r) (st s h' tk')) : wpAny (model prog w) A (call (.type "range") [.int n t]) Q E (st s h tk) :=
  call_range_1 (s := st s h tk) (k _ _ _ _ _ _ (Heap.get?_none_of_le (Nat.le_refl _)) (Heap.get?_push_size _ rfl) fun _ _ e => Heap.get?_push_of_some _ e)
theorem r_range2 {a n : Int} {t u : Tok} (k : ∀ r h' t' u' v' tk', h.get? r = none → IsRange h' r a n 1 t' u' v' → Stay h h' → Q (.ref r) (st s h' tk')) : wpAny (model prog w) A (call (.type "range") [.int a t, .int n u]) Q E (st s h tk) :=
  call_range_2 (s := st s h tk) (k _ _ _ _ _ _ (Heap.get?_none_of_le (Nat.le_refl _)) (Heap.get?_push_size _ rfl) fun _ _ e => Heap.get?_push_of_some _ e)
/-- row[:i], row[i:] -/
theorem r_slice {value : Expr} {lower upper : Option Expr} {p : Pos}
    (k : wpAny (model prog w) A (eval value env) (fun o s₁ => wpAny (model prog w) A (evalPart lower env) (fun vl s₂ => wpAny (model prog w) A (evalPart upper env) (fun vu s₃ =>
      ∃ h₃ tk₃ l items lo hi, s₃ = st s h₃ tk₃ ∧ o = .ref l ∧ h₃.IsList l items ∧ items.size ≤ 10000 ∧ IsPart vl lo ∧ IsPart vu hi ∧
        ∀ a h', h₃.get? a = none → h'.PlainList a (slicePick items lo hi none) → Stay h₃ h' → Q (.ref a) (st s h' tk₃)) E s₂) E s₁) E S)
    (ht : ∀ o r, letTemporaryGo value o r = pure () := by intro _ _; rfl) :
    wpAny (model prog w) A (eval (.Subscript value (.Slice lower upper none p) pos) env) Q E S := by
  refine wpAny_Subscript_list_slice (wpAny_mono k (fun o s₁ k₁ => wpAny_mono k₁ (fun vl s₂ k₂ => wpAny_mono k₂ (fun vu s₃ k₃ => ?_) fun _ _ e => e) fun _ _ e => e) fun _ _ e => e) ht
  obtain ⟨h₃, tk₃, l, items, lo, hi, rfl, rfl, hl, hz, pl, pu, k⟩ := k₃
  refine ⟨l, items, lo, hi, rfl, hl, by rw [sizeLine_eq]; (first | lia | omega), pl, pu, k _ _ (Heap.get?_none_of_le (Nat.le_succ _)) ⟨0, ?_⟩ fun _ _ e => Heap.get?_push_of_some _ (Heap.get?_push_of_some _ e)⟩
  have := Heap.get?_push_size (h₃.push { cls := .type "slice", data := .fields #[vl, vu, .none] }) (o := { cls := .type "list", data := .seq (slicePick items lo hi none) }) rfl
  rwa [Heap.size_push] at this
theorem r_partN {Q : Value → Shared → Prop} (k : Q .none S) : wpAny (model prog w) A (evalPart none env) Q E S := by rw [evalPart_none]; exact wpAny_pure k
end


section
variable {prog : Program} {w : World} {A : Around} {s : Shared} {h : Heap} {mg mb : Str → Option Value}
theorem gives_lam {f c : Addr} {name qual : Str} {params : Arguments} {body : Expr} {scope : Scope} {clos : List (Str × Addr)} {pm ctv : Value} {args : List Value} {binds : List (Str × Value)} {φ : Value → Heap → Prop}
    (R : Rm 1 A) (B : Bas mg mb h) (ho : h.get? f = some (kla_obj name qual params body scope clos pm c ctv)) (hcd : h.CodeRec (.ref c) qual)
    (hbind : bindArgs (kla_fn name qual params body scope clos pm (.ref c) ctv) ⟨args, []⟩ = pure binds)
    (hcell : ∀ x ∈ scope.names, x.2 ≠ .cell) (hloc : ∀ x ∈ binds, scope.names.lookup x.1 = some .local)
    (hb : ∀ L h₀ tk, Fm h L (fun x => binds.reverse.lookup x) h₀ →
      wpAny (model prog w) (A.deeper (envX qual scope L f (.ref c) clos)) (eval body (envX qual scope L f (.ref c) clos)) (fun v s' => ∃ h' tk', s' = st s h' tk' ∧ Stay h h' ∧ φ v h') (fun _ _ => False) (st s h₀ tk))
    (hco : scope.isCoroutine = false) (hgen : scope.isGenerator = false) (hk : scope.kind = .function) :
    Gives prog w A (call (.ref f) args) s h φ := by
  intro tk Q E k
  refine wpAny_call (kla_callFunE (s := st s h tk) R.room ho rfl hco hgen rfl hcd ?_)
  rw [hbind]
  refine wpAny_pure (wpAny_newFunctionEnv hcell hloc (fun h₁ hns hsb => ⟨B.lim.fresh _ hsb, ?_⟩) hk)
  have hk₁ : Stay h h₁ := fun b o e => hsb.extBut b o (Nat.ne_of_lt (Heap.lt_size e)) (Heap.get?_push_of_some _ e)
  refine kla_codeExpr (wpAny_mono (hb h.objs.size h₁ _ ⟨hns, hk₁, Heap.get?_none_of_le (Nat.le_refl _)⟩) (fun v s' q => ?_) fun _ _ e => e.elim)
  obtain ⟨h', tk', rfl, S, p⟩ := q
  exact k _ _ _ S p

/-- a lambda with cells of its own, no closure -/
theorem gives_lamC {f c : Addr} {name qual : Str} {params : Arguments} {body : Expr} {scope : Scope} {pm ctv : Value} {args : List Value} {binds : List (Str × Value)} {φ : Value → Heap → Prop}
    (R : Rm 1 A) (B : Bas mg mb h) (ho : h.get? f = some (kla_obj name qual params body scope [] pm c ctv)) (hcd : h.CodeRec (.ref c) qual)
    (hbind : bindArgs (kla_fn name qual params body scope [] pm (.ref c) ctv) ⟨args, []⟩ = pure binds)
    (hkind : ∀ L, ∀ x ∈ binds, scope.names.lookup x.1 = some .local ∨ (scope.names.lookup x.1 = some .cell ∧ ((cellsFrom (L + 1) scope.names []).lookup x.1).isSome = true))
    (hb : ∀ L h₀ tk, h.get? L = none → Stay h h₀ → h₀.Ns L (bindL (fun x => scope.names.lookup x) binds fun _ => none) → (∀ n c, (cellsFrom (L + 1) scope.names []).lookup n = some c → h.get? c = none ∧ c ≠ L ∧ h₀.IsCell c (bindC (fun x => scope.names.lookup x) binds (fun _ => none) n)) →
      wpAny (model prog w) (A.deeper (envX qual scope L f (.ref c) (cellsFrom (L + 1) scope.names []))) (eval body (envX qual scope L f (.ref c) (cellsFrom (L + 1) scope.names []))) (fun v s' => ∃ h' tk', s' = st s h' tk' ∧ Stay h h' ∧ φ v h') (fun _ _ => False) (st s h₀ tk))
    (hco : scope.isCoroutine = false) (hgen : scope.isGenerator = false) (hk : scope.kind = .function) :
    Gives prog w A (call (.ref f) args) s h φ := by
  intro tk Q E k
  refine wpAny_call (kla_callFunE (s := st s h tk) R.room ho rfl hco hgen rfl hcd ?_)
  rw [hbind]
  refine wpAny_pure (wpAny_newFunctionEnv_cells hk (hkind _) fun env he s' x => ?_)
  subst he
  refine ⟨B.lim.keeps x.toInCall.keep, ?_⟩
  obtain ⟨h₁, tk₁, rfl⟩ := x.toInCall.same
  have nL : h.get? h.objs.size = none := Heap.get?_none_of_le (Nat.le_refl _)
  refine kla_codeExpr (wpAny_mono (hb h.objs.size h₁ tk₁ nL x.toInCall.keep x.toInCall.ns fun n c hc => ?_) (fun v s' q => ?_) fun _ _ e => e.elim)
  · have := x.above n c (mem_of_lookup hc)
    have h1 : h.objs.size < c := this
    exact ⟨Heap.get?_none_of_le (Nat.le_of_lt h1), Nat.ne_of_gt h1, x.cell n c hc⟩
  · obtain ⟨h', tk', rfl, S, p⟩ := q
    exact k _ _ _ S p
/-- a cell's name -/
theorem nmC {M : Model} {E : Value → Shared → Prop} {tk : Nat} {env : Env} {x : Str} {pos : Pos} {v : Value} {c : Addr} {Q : Value → Shared → Prop} (hc : h.IsCell c (some v)) (k : Q v (st s h tk)) (hx : env.cells.lookup x = some c) (hkx : env.kindOf x = some .cell)
    (hk : env.scope.kind = .function) (hd : (x == ("__debug__" : Str)) = false) : wpAny M A (eval (.Name x pos) env) Q E (st s h tk) :=
  wpAny_Name (wpAny_loadName_cell (s := st s h tk) hk hkx hx hc k) hd
end
end Mine
end
section
open PySem PySem.W PySem.Calls PyProof.Rows
set_option Elab.async false
set_option maxRecDepth 100000
set_option linter.unusedVariables false
namespace Mine

section
variable {prog : Program} {w : World} {A : Around} {E : Value → Shared → Prop} {s : Shared} {h : Heap} {tk : Nat} {env : Env} {pos : Pos} {S : Shared} {Q : Value → Shared → Prop}
theorem r_subs {value slice : Expr} (k : wpAny (model prog w) A (eval value env) (fun o s₁ => wpAny (model prog w) A (eval slice env) (fun i s₂ => wpAny (model prog w) A (subscriptTail value slice o i) Q E s₂) E s₁) E S) :
    wpAny (model prog w) A (eval (.Subscript value slice pos) env) Q E S := Subscript_ k
theorem r_itemL {value slice : Expr} {l : Addr} {items : Array Value} {i : Int} {j : Nat} {t : Tok} {x : Value} (hl : h.IsList l items) (hj : i = (j : Int)) (hf : j < 100000) (hx : items[j]? = some x) (k : Q x (st s h tk))
    (hs : subscripted slice false (.ref l) (.int i t) = operate [.ref l, .int i t] (getItem (.ref l) (.int i t)) := by with_unfolding_all rfl) (hg : ∀ r, letTemporaryGo value (.ref l) r = pure () := by intro _; with_unfolding_all rfl) :
    wpAny (model prog w) A (subscriptTail value slice (.ref l) (.int i t)) Q E (st s h tk) := by
  subst hj
  exact subscriptTail_builtin (s := st s h tk) (Heap.IsList.typeIs (s := st s h tk) hl) list_getitem_lookup (wpAny_getItem_list (s := st s h tk) hl (by (first | lia | omega)) (by (first | lia | omega)) (by simpa using hx) k) hs hg
theorem r_itemS {value slice : Expr} {x : Str} {i : Int} {j c : Nat} {t u : Tok} (hj : i = (j : Int)) (hf : j < 100000) (hx : x.cps[j]? = some c) (k : ∀ t' tk', Q (.str ⟨#[c]⟩ t') (st s h tk'))
    (hs : subscripted slice false (.str x t) (.int i u) = operate [.str x t, .int i u] (getItem (.str x t) (.int i u)) := by with_unfolding_all rfl) (hg : ∀ r, letTemporaryGo value (.str x t) r = pure () := by intro _; with_unfolding_all rfl) :
    wpAny (model prog w) A (subscriptTail value slice (.str x t) (.int i u)) Q E (st s h tk) := by
  subst hj
  refine subscriptTail_builtin (s := st s h tk) (typeIs_str _ _ _) slot_str_getitem.lookup (getItem_str (s := st s h tk) (c := c) ?_ ?_ (k _ _)) hs hg
  · simp; (first | lia | omega)
  · have hlt : j < x.length := by
      have := (Array.getElem?_eq_some_iff.mp hx).1
      exact this
    have e : seqIndex? (j : Int) x.length = some j := by
      unfold seqIndex?
      simp; (first | lia | omega)
    rw [e]
    exact hx
theorem r_addS {x y : Str} {t u : Tok} (hz : x.length + y.length ≤ 100000) (k : ∀ t' tk', Q (.str (x ++ y) t') (st s h tk')) : wpAny (model prog w) A (binaryOp .Add (.str x t) (.str y u)) Q E (st s h tk) :=
  PyProof.Rows.add_str (s := st s h tk) (fun t' tk' => k t' tk') (by rw [sizeLine_eq]; (first | lia | omega))
theorem r_iaddS {x y : Str} {t u : Tok} (hz : x.length + y.length ≤ 100000) (k : ∀ t' tk', Q (.str (x ++ y) t') (st s h tk')) : wpAny (model prog w) A (inplaceOp .Add (.str x t) (.str y u)) Q E (st s h tk) :=
  PyProof.Rows.iadd_str (s := st s h tk) (fun t' tk' => k t' tk') (by rw [sizeLine_eq]; (first | lia | omega))
theorem nmF {x : Str} {v : Value} {c : Addr} (hc : h.IsCell c (some v)) (k : Q v (st s h tk)) (hx : env.cells.lookup x = some c) (hkx : env.kindOf x = some .free)
    (hk : env.scope.kind = .function) (hd : (x == ("__debug__" : Str)) = false) (hn : (x == ("__classdict__" : Str)) = false) : wpAny (model prog w) A (eval (.Name x pos) env) Q E (st s h tk) :=
  wpAny_Name (wpAny_loadName_free (s := st s h tk) hk hkx hx hc k hn) hd
end
end Mine
end
section
open PySem PySem.W PySem.Calls PyProof.Rows Builtin Builtin.ObjectAttr Builtin.Getset_descriptor
set_option Elab.async false
set_option maxRecDepth 100000
set_option linter.unusedVariables false
namespace Mine
/-- all objects of a heap but one -/
noncomputable def allN (h : Heap) (L : Addr) : List (Addr × Obj) := (List.range h.objs.size).filterMap fun a => if a = L then none else (h.get? a).map fun o => (a, o)
theorem mem_allN {h : Heap} {L a : Addr} {o : Obj} : (a, o) ∈ allN h L ↔ h.get? a = some o ∧ a ≠ L := by
  unfold allN
  rw [List.mem_filterMap]
  constructor
  · rintro ⟨b, hb, e⟩
    split at e
    · cases e
    · rename_i hn
      rw [Option.map_eq_some_iff] at e
      obtain ⟨o', e1, e2⟩ := e
      cases e2
      exact ⟨e1, hn⟩
  · rintro ⟨e, hn⟩
    refine ⟨a, List.mem_range.mpr (Heap.lt_size e), ?_⟩
    rw [if_neg hn, e]; rfl
noncomputable def e0 : Heap := hideAll (default : Heap) []
theorem mem_split {α : Type} {l : List (Addr × α)} {x : Addr} {o : α} (hnd : ∀ a o o', (a, o) ∈ l → (a, o') ∈ l → o = o') (hn : (l.map (·.1)).Nodup) (hm : (x, o) ∈ l) : ∃ pre post, l = pre ++ (x, o) :: post ∧ (∀ p ∈ pre, p.1 ≠ x) ∧ ∀ p ∈ post, p.1 ≠ x := by
  obtain ⟨pre, post, rfl⟩ := List.append_of_mem hm
  refine ⟨pre, post, rfl, fun p hp q => ?_, fun p hp q => ?_⟩
  · rw [List.map_append, List.map_cons, List.nodup_append] at hn
    exact hn.2.2 p.1 (List.mem_map_of_mem hp) x (by simp) q
  · rw [List.map_append, List.map_cons, List.nodup_append, List.nodup_cons] at hn
    exact hn.2.1.1 (List.mem_map.mpr ⟨p, hp, q⟩)
theorem allN_nodup (h : Heap) (L : Addr) : ((allN h L).map (·.1)).Nodup := by
  have : (allN h L).map (·.1) = (List.range h.objs.size).filter fun a => decide (a ≠ L ∧ (h.get? a).isSome) := by
    unfold allN
    induction List.range h.objs.size with
    | nil => rfl
    | cons a r ih =>
      rw [List.filterMap_cons]
      by_cases hL : a = L
      · simp only [hL, if_true, List.filter_cons]; simpa [hL] using ih
      · cases e : h.get? a with
        | none => simp [hL, e, List.filter_cons]; simpa using ih
        | some o => simp [hL, e, List.filter_cons]; simpa using ih
  rw [this]
  exact List.nodup_range.filter _
theorem allN_split {h : Heap} {L x : Addr} {o : Obj} (e : h.get? x = some o) (hn : x ≠ L) : ∃ pre post, allN h L = pre ++ (x, o) :: post ∧ (∀ p ∈ pre, p.1 ≠ x) ∧ ∀ p ∈ post, p.1 ≠ x :=
  mem_split (fun a o o' h1 h2 => by have := (mem_allN.mp h1).1; rw [(mem_allN.mp h2).1] at this; exact (Option.some.inj this).symm) (allN_nodup h L) (mem_allN.mpr ⟨e, hn⟩)
theorem e0_none (b : Addr) : e0.get? b = none := by
  unfold e0
  cases e : (hideAll (default : Heap) []).get? b with
  | none => rfl
  | some o => have := Heap.lt_size (of_hideAll _ e); exact absurd this (Nat.not_lt_zero _)
theorem fr0 {h : Heap} {L : Addr} {m : Str → Option Value} (n : h.Ns L m) : Fr e0 L h m := ⟨n, fun b o e => (by rw [e0_none] at e; cases e), Nat.zero_le _⟩
theorem news0 (h : Heap) (L : Addr) : News e0 L h (allN h L) := fun p hp => ⟨(mem_allN.mp hp).1, (mem_allN.mp hp).2, e0_none _⟩

noncomputable def mdObj (C : Addr) (tmd : Tok) : Obj := { cls := .type "member_descriptor", data := .fields #[.str "obj" tmd, .ref C, .builtin "proto.slot", .builtin "proto.slot#set", .int 0 0] }
section
variable {prog : Program} {w : World} {A : Around} {E : Value → Shared → Prop} {s : Shared} {h : Heap} {tk : Nat}
variable {nm q : Str} {C N md x dx : Addr} {k0 k1 k2 k3 k5 : Option Value} {mN : Str → Option Value} {tmd : Tok}

theorem look_cls {M : Model} {name : Str} {y r : Option Value} (hC : h.get? C = some (kObj nm q C N k0 k1 k2 k3 k5)) (hn : h.Ns N mN) (hy : typeLookup (.type "object") name = pure y) (hr : (mN name).or y = r) :
    Looks M h (typeLookup (.ref C) name) r := by
  intro A Q E s k qq
  obtain ⟨h', g, d, t, os⟩ := s
  exact wpAny_typeLookup_exc (k _ _ hC) (hn.keeps k) (by kernel_rfl) hy (by cases e : mN name <;> rw [e] at hr <;> (subst hr; exact qq))
theorem look_type {M : Model} {o : Obj} {a : Addr} {v : Value} (e : h.get? a = some o) (hc : o.cls = v) : Looks M h (typeOf (.ref a)) v := hc ▸ (Looks.ld e).andThen .now
noncomputable def kF (nm q : Str) (C N md : Addr) (k0 k1 k2 k3 k5 : Option Value) (tmd : Tok) : Frag := [(C, kObj nm q C N k0 k1 k2 k3 k5), (md, mdObj C tmd)]
theorem kF_in (hC : h.get? C = some (kObj nm q C N k0 k1 k2 k3 k5)) (hmd : h.get? md = some (mdObj C tmd)) : (kF nm q C N md k0 k1 k2 k3 k5 tmd).In h := by
  intro a o e
  unfold kF at e
  rw [List.lookup_cons] at e
  split at e
  · rename_i q; cases e; rw [eq_of_beq q]; exact hC
  · rw [List.lookup_cons] at e
    split at e
    · rename_i q; cases e; rw [eq_of_beq q]; exact hmd
    · cases e
theorem kF_slot (hne : md ≠ C) : slotIn (kF nm q C N md k0 k1 k2 k3 k5 tmd) md C = some 0 := by
  have h1 : (kF nm q C N md k0 k1 k2 k3 k5 tmd).lookup md = some (mdObj C tmd) := by
    unfold kF
    rw [List.lookup_cons, show (md == C) = false by simpa using hne]
    simp [List.lookup_cons]
  have h2 : (kF nm q C N md k0 k1 k2 k3 k5 tmd).lookup C = some (kObj nm q C N k0 k1 k2 k3 k5) := by
    unfold kF
    simp [List.lookup_cons]
  unfold slotIn recIn clsIn
  rw [h1, h2]
  simp [mdObj, kObj, excClassObj]
theorem takes_md {M : Model} (hmd : h.get? md = some (mdObj C tmd)) : Looks M h (takesStores (.ref md)) true := by
  have L : Looks M h (specialOf (.ref md) "__set__") (some (.builtin "member_descriptor.__set__")) := (look_type hmd rfl).andThen (Looks.of_pure KF.slot_mset.lookup)
  exact L.andThen .now

theorem k_get {expr : Bool} {v : Value} {Q : Value → Shared → Prop} (hC : h.get? C = some (kObj nm q C N k0 k1 k2 k3 k5)) (hn : h.Ns N mN) (hmd : h.get? md = some (mdObj C tmd)) (m1 : mN "obj" = some (.ref md)) (m2 : mN "__getattribute__" = none) (m3 : mN "__getattr__" = none)
    (hx : h.get? x = some (instK C dx #[some v])) (hdx : ∃ od, h.get? dx = some od) (hv : handedIn v = true) (k : ∀ tk', Q v (st s h tk')) : wpAny (model prog w) A (getAttr (.ref x) "obj" expr) Q E (st s h tk) := by
  have L0 : Looks (model prog w) h (typeOf (.ref x)) (.ref C) := look_type hx rfl
  have L1 : Looks (model prog w) h (typeLookup (.ref C) "__getattribute__") (some (.builtin "object.__getattribute__")) := look_cls (y := some (.builtin "object.__getattribute__")) hC hn (by rw [typeLookup_type, builtinLookup_eq_fast]; kernel_rfl) (by rw [m2]; rfl)
  have L2 : Looks (model prog w) h (typeLookup (.ref C) "obj") (some (.ref md)) := look_cls (y := none) hC hn (by rw [typeLookup_type, builtinLookup_eq_fast]; kernel_rfl) (by rw [m1]; rfl)
  have L3 : Looks (model prog w) h (typeLookup (.ref C) "__getattr__") none := look_cls (y := none) hC hn (by rw [typeLookup_type, builtinLookup_eq_fast]; kernel_rfl) (by rw [m3]; rfl)
  obtain ⟨hh, g, d, t, os⟩ := s
  simp only [st] at k ⊢
  unfold getAttr getAttrBy
  refine wpAny_bind (wpAny_mkText (wpAny_holding (wpAny_bind (L0.at (wpAny_bind (L1.at ?_))))))
  show wpAny _ _ (getAttrEveryday _ _ _) _ _ _
  refine wpAny_bind (wpAny_onRaise (wpAny_runValue (codeAny_builtin F.plainObj_entry_getattr_hooked ?_)))
  have L4 : Looks (model prog w) h (specialOf (.ref md) "__get__") (some (.builtin "member_descriptor.__get__")) := (look_type hmd rfl).andThen (Looks.of_pure KF.slot_mem.lookup)
  have L5 : Looks (model prog w) h (find (.ref x) (.ref C) "obj") (.bind (.builtin "member_descriptor.__get__") (.ref md)) :=
    L2.andThen (L4.andThen ((show Looks (model prog w) h (dataDescriptor? (some (.ref md)) (some (.builtin "member_descriptor.__get__"))) (some (.builtin "member_descriptor.__get__", .ref md)) from (takes_md hmd).andThen .now).andThen (Looks.tag .now)))
  refine wpAny_bind (wpAny_pure (wpAny_bind (L0.at (wpAny_bind (L5.at (wpAny_bind (L3.at ?_)))))))
  show wpAny _ _ (holding [.ref md] (call (.builtin "member_descriptor.__get__") [.ref md, .ref x, .ref C]) >>= ret) _ _ _
  have hne : md ≠ C := fun e => (by rw [e, hC] at hmd; have := congrArg Obj.data (Option.some.inj hmd); cases this)
  obtain ⟨od, hod⟩ := hdx
  refine wpAny_bind (wpAny_holding (wpAny_call (slot_get (s := ⟨h, g, d, _, os⟩) (kF_in hC hmd) (⟨hx, rfl, rfl, hod⟩ : InstAt h x (instK C dx #[some v]) C (some od)) (kF_slot hne) rfl ?_)))
  refine wpAny_pure ?_
  show wpAny _ _ (handedOut v) _ _ _
  rw [handedOut_of hv]
  exact wpAny_pure (k _)

theorem k_set {v : Value} {Q : Unit → Shared → Prop} {G : Heap} {L : Addr} {m : Str → Option Value} (F : Fm G L m h) (hC : h.get? C = some (kObj nm q C N k0 k1 k2 k3 k5)) (hn : h.Ns N mN) (hmd : h.get? md = some (mdObj C tmd)) (m1 : mN "obj" = some (.ref md)) (m2 : mN "__setattr__" = none)
    (hx : h.get? x = some (instK C dx #[])) (hdx : ∃ od, h.get? dx = some od) (k : ∀ h' tk', h'.Ns L m → h'.get? x = some (instK C dx #[some v]) → (∀ b o, b ≠ x → b ≠ L → h.get? b = some o → h'.get? b = some o) → Q () (st s h' tk')) : wpAny (model prog w) A (setAttr (.ref x) "obj" v) Q E (st s h tk) := by
  have SF := PySem.F.store_object
  have L0 : Looks (model prog w) h (typeOf (.ref x)) (.ref C) := look_type hx rfl
  have L1 : Looks (model prog w) h (typeLookup (.ref C) "__setattr__") (some (.builtin "object.__setattr__")) := look_cls (y := some (.builtin "object.__setattr__")) hC hn (by rw [typeLookup_type, builtinLookup_eq_fast]; kernel_rfl) (by rw [m2]; rfl)
  have L2 : Looks (model prog w) h (typeLookup (.ref C) "obj") (some (.ref md)) := look_cls (y := none) hC hn (by rw [typeLookup_type, builtinLookup_eq_fast]; kernel_rfl) (by rw [m1]; rfl)
  obtain ⟨hh, g, d, t, os⟩ := s
  simp only [st] at k ⊢
  refine wpAny_bind (wpAny_mkText (wpAny_bind (wpAny_bind (wpAny_bind (L0.at (L1.at (wpAny_holding ?_)))))))
  rw [PySem.F.store_object.slot.bind]
  have hne : md ≠ C := fun e => (by rw [e, hC] at hmd; have := congrArg Obj.data (Option.some.inj hmd); cases this)
  have XF := kF_in hC hmd
  have hcl : clsIn (kF nm q C N md k0 k1 k2 k3 k5 tmd) C = some { name := nm, bases := [.type "object"], mro := [.ref C, .type "object"], ns := N, qualname := q, hasDict := false, slotNames := ["obj"] } := by
    unfold clsIn kF
    simp [List.lookup_cons]
  have hm : Looks (model prog w) h (mroOf (.ref C)) [.ref C, .type "object"] := (looks_clsIn XF hcl).andThen .now
  have sub : Looks (model prog w) h (isInstance (.ref x) (.type "object")) true := L0.andThen (looks_mroIn XF (by unfold mroIn; rw [hcl]; simp))
  have L3 : Looks (model prog w) h (storeTaker? (some (.ref md))) (some (.ref md)) := (takes_md hmd).andThen .now
  refine wpAny_bind (wpAny_pure (wpAny_bind (wpAny_call ?_)))
  refine codeAny_call_builtin SF.slot.plain SF.entry (@check_slot (model prog w) _ _ ⟨h, g, d, _, os⟩ "object.__setattr__" "object" "__setattr__" (.ref x) [.str "obj" tk, v] [] _ SF.kind SF.split sub (SF.args (.ref x) (.str "obj" tk) v) ?_)
  show wpAny _ _ (Builtin.«object.__setattr__» ⟨[.ref x, .str "obj" tk, v], []⟩) _ _ _
  rw [osa_eq, refuse_eq]
  refine wpAny_bind (wpAny_bind (L0.at (wpAny_bind (hm.at ?_))))
  rw [refuse_only _ rfl]
  refine wpAny_pure (wpAny_bind (L0.at (wpAny_bind (L2.at (wpAny_bind (L3.at ?_))))))
  have LT : Looks (model prog w) h (typeOf (.ref md)) (.type "member_descriptor") := look_type hmd rfl
  refine wpAny_bind (wpAny_rule (wpAny_bind (wpAny_holding (wpAny_bind (wpAny_bind (LT.at ((Looks.of_pure KF.slot_mset.lookup).at (wpAny_holding ?_))))))))
  rw [KF.slot_mset.bind]
  obtain ⟨od, hod⟩ := hdx
  have hxL : x ≠ L := fun e => (by obtain ⟨o, es, ep, e', hd, _⟩ := F.ns; rw [e, e'] at hx; have := congrArg Obj.data (Option.some.inj hx); rw [hd] at this; cases this)
  obtain ⟨pre, post, hsp, p1, p2⟩ := allN_split hx hxL
  have N0 := news0 h L
  rw [hsp] at N0
  refine wpAny_bind (wpAny_pure (wpAny_bind (wpAny_call (slot_set (s := ⟨h, g, d, _, os⟩) (ox' := instK C dx #[some v]) (fr0 F.ns) N0 XF (⟨hx, rfl, rfl, hod⟩ : InstAt h x (instK C dx #[]) C (some od)) (kF_slot hne) (by decide) p1 p2 rfl rfl fun h' F' N' => ?_))))
  refine wpAny_pure (wpAny_pure ?_)
  show wpAny _ _ (pure (some Value.none)) _ _ _
  refine wpAny_pure (wpAny_pure ?_)
  refine k h' _ F'.ns (N' (x, instK C dx #[some v]) (by simp)).1 fun b o nx nL e => ?_
  have hb : (b, o) ∈ pre ++ (x, instK C dx #[]) :: post := hsp ▸ mem_allN.mpr ⟨e, nL⟩
  rw [List.mem_append, List.mem_cons] at hb
  rcases hb with hb | hb | hb
  · exact (N' (b, o) (by simp [hb])).1
  · cases hb; exact absurd rfl nx
  · exact (N' (b, o) (by simp [hb])).1
end
end Mine
end
section
open PySem PySem.W PySem.Calls PyProof.Rows
set_option Elab.async false
set_option maxRecDepth 100000
namespace Mine

section
variable {prog : Program} {w : World} {A : Around} {E : Value → Shared → Prop} {s : Shared} {h : Heap} {tk : Nat} {mg mb : Str → Option Value} {Q : Value → Shared → Prop}
theorem r_iterB {x : Value} {S : Shared} (k : wpAny (model prog w) A.in1 (pyIter x) Q E S) : wpAny (model prog w) A (call (.builtin "iter") [x]) Q E S := by
  refine call_function_entry (by decide +kernel) (by decide +kernel) kdk_entry_iter (kdk_args_iter _) ?_
  unfold Builtin.«iter»
  refine wpAny_bind (m := someArgs "iter" 1 2 _) (wpAny_of_eq (a := [x]) (by first | rfl | kernel_rfl!) ?_)
  show wpAny _ _ (pyIter x >>= _) _ _ _
  exact wpAny_bind (wpAny_mono k (fun v s' q => wpAny_pure ⟨_, rfl, q⟩) fun _ _ e => e)
theorem r_isRef {x y : Addr} {ox oy : Obj} (hne : x ≠ y) (hx : h.get? x = some ox) (hy : h.get? y = some oy) (hc : oy.cls = .type "object") (k : Q (.bool false) (st s h tk)) : wpAny (model prog w) A (compareOp .Is (.ref x) (.ref y)) Q E (st s h tk) := by
  show wpAny _ A (do return .bool (← isSame (.ref x) (.ref y))) Q E _
  refine wpAny_bind ?_
  unfold isSame
  show wpAny _ A (if (x == y) = true then _ else _) _ _ _
  rw [if_neg (by simpa using hne)]
  refine wpAny_bind (wpAny_load (s := st s h tk) hx (wpAny_bind (wpAny_load (s := st s h tk) hy ?_)))
  rw [hc]
  refine wpAny_of_eq (a := false) ?_ (wpAny_pure k)
  split
  · rename_i e _ _; simp at e
  · rfl

/-- what iterates over n things, P i v -/
structure Seq (prog : Program) (w : World) (s : Shared) (h : Heap) (seq : Value) (base : List Addr) (n : Nat) (P : Nat → Value → Prop) : Prop where
  it : ∀ (A' : Around) h₁ tk Q E, Stay h h₁ → (∀ I fp wr St h₂ tk₂, Stay h₁ h₂ → (∀ A₂ : Around, A₂.handled = none → Walks prog w A₂ I fp wr n P St) → (∀ b ∈ wr, h₁.get? b = none) → (∀ b ∈ fp, b ∈ wr ∨ b ∈ base) → (∀ i h, St i h → ∀ b ∈ wr, ∃ o, h.get? b = some o) → St 0 h₂ → Q (.ref I) (st s h₂ tk₂)) →
    wpAny (model prog w) A' (pyIter seq) Q E (st s h₁ tk)
theorem Seq.list {l : Addr} {vs : Array Value} (hl : h.IsList l vs) : Seq prog w s h (.ref l) [l] vs.size (fun i v => vs[i]? = some v) := by
  constructor
  intro A' h₁ tk Q E S₁ k
  refine r_iterL (isLst_stay hl S₁) fun I h₂ fI hI S₂ hl₂ hne => ?_
  refine k I [I, l] [I] (fun i h => h.IsListIter I l i ∧ h.IsList l vs) h₂ tk S₂ (fun A₂ hA₂ => Walks.list hA₂ I l hne vs) (by simpa using fI) ?_ (fun i h q b hb => by simp at hb; subst hb; obtain ⟨o, e, _⟩ := q.1; exact ⟨o, e⟩) ⟨hI, hl₂⟩
  intro b hb
  simp at hb
  rcases hb with rfl | rfl
  · simp
  · simp

theorem Seq.range {r : Addr} {n : Nat} {a : Int} {t u v : Tok} (hr : IsRange h r a (a + n) 1 t u v) (hs : Builtin.Range.small a (a + n) 1 = true) : Seq prog w s h (.ref r) [] n (fun i v => ∃ t, v = .int (a + i * 1) t) := by
  constructor
  intro A' h₁ tk Q E S₁ k
  refine wpAny_pyIter_range (s := st s h₁ tk) (S₁ _ _ hr) hs ?_
  refine k h₁.objs.size [h₁.objs.size] [h₁.objs.size] _ _ tk (fun b o e => Heap.get?_push_of_some _ e) (fun A₂ hA₂ => Walks.range hA₂ h₁.objs.size a 1 n) (by simpa using Heap.get?_none_of_le (Nat.le_refl _)) (fun b hb => .inl hb) (fun i h q b hb => by simp at hb; subst hb; exact ⟨_, q⟩) ?_
  show Heap.get? _ _ = _
  rw [rangeSize_one]
  have e1 : (if a < a + (n : Int) then a + (n : Int) - a else 0) = (n : Int) - ((0 : Nat) : Int) := by split <;> (first | lia | omega)
  rw [e1]
  have e2 : a + ((0 : Nat) : Int) * 1 = a := by simp
  rw [e2]
  exact Heap.get?_push_size _ rfl

set_option maxHeartbeats 4000000 in
theorem c_reduce {f : Addr} {seq init : Value} {n : Nat} {P : Nat → Value → Prop} {Acc : Nat → Value → Heap → Prop} {of : Obj} {fd : FuncData} {o87 : Obj}
    (R : Rm 3 A) (B : Bas mg mb h) (X : FnAt h 94 93 27 (.ref 87)) (h87 : h.get? 87 = some o87) (hd87 : o87.data = .seq #[.ref 86]) (hI : mg "_initial_missing" = some (.ref 86)) (hit : mg "iter" = none)
    (hinit : ∀ (A' : Around) h' tk Q E, Stay h h' → Q (.bool false) (st s h' tk) → wpAny (model prog w) A' (compareOp .Is init (.ref 86)) Q E (st s h' tk))
    {base : List Addr} (hseq : Seq prog w s h seq base n P) (hbase : ∀ b ∈ base, ∃ o, h.get? b = some o) (hf : h.get? f = some of) (hfd : of.data = .func fd)
    (hmono : ∀ i v h h', Acc i v h → Stay h h' → Acc i v h') 
    (step : ∀ (A' : Around) i a v h' Z, Rm 2 A' → Stay h h' → (∀ z ∈ Z, ∃ o, h'.get? z = some o) → i < n → P i v → Acc i a (hideAll h' Z) → Gives prog w A' (call (.ref f) [a, v]) s h' (fun b h'' => Acc (i + 1) b (hideAll h'' Z)))
    {Z₀ : List Addr} (hZ₀ : ∀ z ∈ Z₀, ∃ o, h.get? z = some o) (h0 : Acc 0 init (hideAll h Z₀)) :
    Gives prog w A (call (.ref 94) [.ref f, seq, init]) s h (fun b h' => Acc n b (hideAll h' Z₀)) := by
  refine gives_def (binds := [("function", .ref f), ("sequence", seq), ("initial", init)]) (R.less (by decide)) B X (fun pm tk => BindsTo.of_defaults rfl (o := o87) h87 hd87 rfl rfl) (by decide +kernel) (by rfl) fun pm L h₀ tk htk F => ?_
  have R' : Rm 2 (A.deeper (callEnv (fnD 27 93 pm (.ref 87)) L 94)) := R.deeper
  generalize hA' : A.deeper (callEnv (fnD 27 93 pm (.ref 87)) L 94) = A' at *
  have B₀ := B.stay F.keep
  refine r_assign ?_
  (with_reducible refine r_call ?_)
  refine nmB B₀ hit rfl ?_
  refine r_cwB (r_sp1 ?_)
  (((with_reducible show wpAny _ _ (eval (Expr.Name _ _) _) _ _ _); refine nmL (by assumption) (by first | rfl | assumption) ?_))
  refine r_sp0 (r_iterB ?_)
  refine hseq.it _ _ _ _ _ F.keep fun I fp wr St h₂ tk₂ S₂ W hwr hfp hlive hst => ?_
  have F₂ := F.stay S₂
  have hfL : L ∉ fp := fun q => by
    rcases hfp L q with q | q
    · have := hwr L q; obtain ⟨o, es, ep, e, _⟩ := F.ns; rw [this] at e; cases e
    · obtain ⟨o, e⟩ := hbase _ q; rw [F.fresh] at e; cases e
  have hwG : ∀ b ∈ wr, h.get? b = none := fun b hb => by
    cases e : h.get? b with
    | none => rfl
    | some o => have := F.keep _ _ e; rw [hwr b hb] at this; cases this
  refine stL F₂ fun h₃ tk₃ F₃ O₃ => ?_
  have hst₃ : St 0 h₃ := (W A' R'.hd).frame _ _ _ hst fun b hb o e => O₃ b o (fun q => hfL (q ▸ hb)) e
  refine r_if ?_
  (((with_reducible refine wpAny_isTrue_Compare1 ?_ ?mk); (case mk => with_unfolding_all rfl)))
  (((with_reducible show wpAny _ _ (eval (Expr.Name _ _) _) _ _ _); refine nmL (by assumption) (by first | rfl | assumption) ?_))
  refine nmG (B.stay F₃.keep) hI ?_
  refine hinit _ _ _ _ _ F₃.keep ?_
  (with_reducible refine wpAny_truthy_bool ?_)
  rw [if_neg (by simp)]
  refine r_assign ?_
  (((with_reducible show wpAny _ _ (eval (Expr.Name _ _) _) _ _ _); refine nmL (by assumption) (by first | rfl | assumption) ?_))
  refine stL F₃ fun h₄ tk₄ F₄ O₄ => ?_
  have hst₄ : St 0 h₄ := (W A' R'.hd).frame _ _ _ hst₃ fun b hb o e => O₄ b o (fun q => hfL (q ▸ hb)) e
  refine r_nil (then_next ?_)
  refine r_for ?_
  (((with_reducible show wpAny _ _ (eval (Expr.Name _ _) _) _ _ _); refine nmL (by assumption) (by first | rfl | assumption) ?_))
  refine (W A' R'.hd).self 0 _ _ _ hst₄ ?_
  refine ⟨fun h' => ∃ m' v, Fm h L m' h' ∧ m' "value" = some v ∧ Acc n v (hideAll h' Z₀), fun _ _ => False, ?_, ?_, fun _ _ _ f => f.elim⟩
  · refine r_loop (turns_name (W A' R'.hd))
      (fun j h' => ∃ m' v, Fm h L m' h' ∧ m' "value" = some v ∧ m' "function" = some (.ref f) ∧ Acc j v (hideAll h' (L :: (wr ++ Z₀)))) _ _ ?hJ ?turn ?fin hst₄ ⟨_, init, F₄, rfl, rfl, ?_⟩
    case hJ =>
      rintro j h₅ h₆ ⟨m', v, F', a1, a2, a3⟩ hk
      have hLw : L ∉ wr := fun q => hfL ((W A' R'.hd).sub _ q)
      refine ⟨m', v, ⟨F'.ns.at' fun o e => hk _ o hLw e, fun b o e => hk b o (fun q => by rw [hwG b q] at e; cases e) (F'.keep b o e), F'.fresh⟩, a1, a2, hmono _ _ _ _ a3 fun b o e => ?_⟩
      have hb : b ∉ L :: (wr ++ Z₀) := fun q => by rw [hideAll_none _ q] at e; cases e
      exact hideAll_get _ (hk _ _ (fun q => hb (List.mem_cons_of_mem _ (List.mem_append_left _ q))) (of_hideAll _ e)) hb
    case fin =>
      rintro h₅ tk₅ ⟨m', v, F', a1, a2, a3⟩
      exact r_nil ⟨_, _, rfl, m', v, F', a1, hmono _ _ _ _ a3 fun b o e => hideAll_get _ (of_hideAll _ e) fun q => by rw [hideAll_none _ (List.mem_cons_of_mem _ (List.mem_append_right _ q))] at e; cases e⟩
    case turn =>
      rintro j v h₅ tk₅ hj hP hst₅ ⟨m', a, F', a1, a2, a3⟩
      refine r_name F' fun h₆ tk₆ F₆ O₆ => ?_
      refine r_assign ?_
      (with_reducible refine r_call ?_)
      refine nmL F₆ a2 ?_
      refine r_cwF hfd (r_sp1 ?_)
      refine nmL F₆ a1 ?_
      refine r_sp1 ?_
      (((with_reducible show wpAny _ _ (eval (Expr.Name _ _) _) _ _ _); refine nmL (by assumption) (by first | rfl | assumption) ?_))
      refine r_sp0 ⟨F₆.keep _ _ hf, ?_⟩
      have key : Acc j a (hideAll h₆ (L :: (wr ++ Z₀))) := hmono _ _ _ _ a3 fun b o e => by
        have hb : b ∉ L :: (wr ++ Z₀) := fun q => by rw [hideAll_none _ q] at e; cases e
        exact hideAll_get _ (O₆ _ _ (fun q => hb (q ▸ List.mem_cons_self)) (of_hideAll _ e)) hb
      refine step A' j a v h₆ (L :: (wr ++ Z₀)) R' F₆.keep ?_ hj hP key _ _ _ fun b h₇ tk₇ S₇ hb => ?_
      · intro z hz
        rcases List.mem_cons.mp hz with rfl | hz
        · obtain ⟨o, es, ep, e, _⟩ := F₆.ns; exact ⟨o, e⟩
        · rcases List.mem_append.mp hz with hz | hz
          · exact hlive _ _ ((W A' R'.hd).frame _ _ _ hst₅ fun b hb o e => O₆ b o (fun q => hfL (q ▸ hb)) e) z hz
          · obtain ⟨o, e⟩ := hZ₀ z hz; exact ⟨o, F₆.keep _ _ e⟩
      refine stL (F₆.stay S₇) fun h₈ tk₈ F₈ O₈ => ?_
      refine r_nil ⟨h₈, tk₈, rfl, ?_, _, b, F₈, rfl, a2, hmono _ _ _ _ hb fun b o e => ?_⟩
      · intro b hb o e
        have hbL : b ≠ L := fun q => hfL (q ▸ hb)
        exact O₈ _ _ hbL (S₇ _ _ (O₆ _ _ hbL e))
      · have hb : b ∉ L :: (wr ++ Z₀) := fun q => by rw [hideAll_none _ q] at e; cases e
        exact hideAll_get _ (O₈ _ _ (fun q => hb (q ▸ List.mem_cons_self)) (of_hideAll _ e)) hb
    · refine hmono _ _ _ _ h0 fun b o e => hideAll_get _ (F₄.keep _ _ (of_hideAll _ e)) fun q => ?_
      have e' := of_hideAll _ e
      rcases List.mem_cons.mp q with rfl | q
      · rw [F.fresh] at e'; cases e'
      · rcases List.mem_append.mp q with q | q
        · rw [hwG b q] at e'; cases e'
        · rw [hideAll_none _ q] at e; cases e
  · rintro h₅ tk₅ ⟨m', v, F', a1, a3⟩
    refine r_ret ?_
    refine nmL F' a1 ?_
    exact ⟨_, _, rfl, F'.keep, a3⟩
end
end Mine
end
section
open PySem PySem.W PySem.Calls PyProof.Rows
set_option Elab.async false
set_option maxRecDepth 100000
set_option linter.unusedVariables false
namespace Mine

noncomputable def Gd (X : List Addr) (G h : Heap) : Prop := Stay G h ∧ ∀ z ∈ X, G.get? z = none
section
variable {X Y : List Addr} {G h h' : Heap}
theorem Gd.stay (x : Gd X G h) (S : Stay h h') : Gd X G h' := ⟨x.1.trans S, x.2⟩
theorem Gd.off (x : Gd X G h) (O : OffL X h h') : Gd X G h' := ⟨fun b o e => O b o (fun q => by rw [x.2 b q] at e; cases e) (x.1 b o e), x.2⟩
theorem Gd.sub (x : Gd X G h) (hs : ∀ z ∈ Y, z ∈ X) : Gd Y G h := ⟨x.1, fun z hz => x.2 z (hs z hz)⟩
theorem Gd.new (X : List Addr) (h : Heap) : Gd X (hideAll h X) h := ⟨fun b o e => of_hideAll _ e, fun z hz => hideAll_none _ hz⟩
theorem Gd.into (x : Gd X G h) (hs : ∀ z ∈ Y, z ∈ X) : Stay G (hideAll h Y) := fun b o e => hideAll_get _ (x.1 b o e) fun q => by rw [x.2 b (hs b q)] at e; cases e
end

noncomputable def asg : Stmt → Expr
  | .Assign _ v _ => v
  | .Return (some v) _ => v
  | _ => default
noncomputable def argE (n : Nat) : Expr → Expr
  | .Call _ args _ _ => args.getD n default
  | _ => default
noncomputable def lamP : Expr → Arguments | .Lambda p _ _ _ => p | _ => default
noncomputable def lamB : Expr → Expr | .Lambda _ b _ _ => b | _ => default
noncomputable def lamS : Expr → Scope | .Lambda _ _ s _ => s | _ => default
noncomputable def lamQ : Expr → Pos | .Lambda _ _ _ p => p | _ => default
noncomputable def lam1 : Expr := argE 0 (asg (stmtAt 41 3))
noncomputable abbrev lawLam : Str := "law.<locals>.<lambda>"
noncomputable def LamAt (h : Heap) (f : Addr) (e : Expr) (clos : List (Str × Addr)) : Prop := ∃ pm c ctv, h.get? f = some (kla_obj "<lambda>" lawLam (lamP e) (lamB e) (lamS e) clos pm c ctv) ∧ h.CodeRec (.ref c) lawLam
theorem LamAt.stay {h h' : Heap} {f : Addr} {e : Expr} {clos : List (Str × Addr)} (x : LamAt h f e clos) (S : Stay h h') : LamAt h' f e clos := let ⟨pm, c, ctv, a, b⟩ := x; ⟨pm, c, ctv, S _ _ a, b.keeps S⟩

noncomputable def RowI (G : Heap) (v : Value) (row : List Int) : Prop := ∃ a us, v = .ref a ∧ G.PlainList a (List.toArray us) ∧ IntsAre us row
noncomputable def RowsI (G : Heap) (v : Value) (rows : List (List Int)) : Prop := ∃ a us, v = .ref a ∧ G.PlainList a (List.toArray us) ∧ Paired (RowI G) us rows
theorem RowI.stay {G G' : Heap} {v : Value} {row : List Int} (x : RowI G v row) (S : Stay G G') : RowI G' v row := let ⟨a, us, e, p, i⟩ := x; ⟨a, us, e, plain_stay p S, i⟩
theorem RowsI.stay {G G' : Heap} {v : Value} {rows : List (List Int)} (x : RowsI G v rows) (S : Stay G G') : RowsI G' v rows := let ⟨a, us, e, p, i⟩ := x; ⟨a, us, e, plain_stay p S, paired_imp (fun _ _ q => q.stay S) i⟩

noncomputable def spread (p : Int) (row : List Int) : List (List Int) := (List.range (row.length + 1)).map fun i => row.take i ++ [p] ++ row.drop i

theorem spread_len (p : Int) : ∀ (rows : List (List Int)), (∀ r ∈ rows, r.length ≤ 10) → (rows.flatMap (spread p)).length ≤ rows.length * 11
  | [], _ => by simp
  | r :: rows, hr => by
    have := spread_len p rows fun x hx => hr x (by simp [hx])
    have := hr r (by simp)
    simp [spread] at *
    (first | lia | omega)
theorem spread_get (p : Int) (r : List Int) (j : Nat) (hj : j < r.length + 1) : (spread p r)[j]? = some (r.take j ++ [p] ++ r.drop j) := by
  simp [spread, hj]

section
variable {prog : Program} {w : World} {A : Around} {s : Shared} {h : Heap} {mg mb : Str → Option Value}
set_option maxHeartbeats 4000000 in
theorem c_lam1 {f : Addr} {v : Value} {rows : List (List Int)} {p : Int} {t : Tok} {Z : List Addr} (R : Rm 2 A) (B : Bas mg mb h) (X : LamAt h f lam1 []) (hlen : mg "len" = none) (hran : mg "range" = none)
    (hz : ∀ z ∈ Z, ∃ o, h.get? z = some o) (hrows : RowsI (hideAll h Z) v rows) (hs1 : rows.length ≤ 50) (hs2 : ∀ r ∈ rows, r.length ≤ 10) :
    Gives prog w A (call (.ref f) [v, .int p t]) s h (fun b h' => RowsI (hideAll h' Z) b (rows.flatMap (spread p))) := by
  obtain ⟨pm, c, ctv, ho, hcd⟩ := X
  refine gives_lamC (R.less (by decide)) B ho hcd (binds := [("rows", v), ("place", .int p t)]) rfl ?hk (fun L h₀ tk fL S₀ ns cells => ?_) rfl rfl rfl
  case hk =>
    intro L x hx
    simp at hx
    rcases hx with rfl | rfl
    · exact .inl rfl
    · exact .inr ⟨rfl, rfl⟩
  obtain ⟨cf, cL, hcell⟩ := cells "place" (L + 1) rfl
  have hcell : h₀.IsCell (L + 1) (some (.int p t)) := hcell
  obtain ⟨av, us, rfl, hav, hpr⟩ := hrows
  have ns : h₀.Ns L (fun y => if y = "rows" then some (.ref av) else none) := ns
  have R' : Rm 1 (A.deeper (envX lawLam (lamS lam1) L f (.ref c) (cellsFrom (L + 1) (lamS lam1).names []))) := R.deeper
  generalize hA' : A.deeper (envX lawLam (lamS lam1) L f (.ref c) (cellsFrom (L + 1) (lamS lam1).names [])) = A' at *
  show wpAny _ _ (eval (.ListComp _ _ _ _) _) _ _ _
  rw [eval_ListComp]
  have F₀ : Fm (hideAll h₀ [L]) L _ h₀ := ⟨ns, fun b o e => of_hideAll _ e, hideAll_none _ (by simp)⟩
  have hst0 : Stay (hideAll h Z) h := fun b o e => of_hideAll _ e
  have hav0 : h₀.PlainList av us.toArray := plain_stay (plain_stay hav hst0) S₀
  refine wp_lc (s := s) (cl := [("place", L + 1)]) rfl (by intro _; rfl) rfl (by decide) rfl (by decide) ?_
  refine nmL F₀ rfl ?_
  refine r_iterL hav0.isList fun I h₂ fI hI S₂ hl₂ hne => ?_
  refine ⟨h₂, tk, rfl, fun D C h₃ tk₃ fD fC hDC S₃ hD hC => ?_⟩
  have S₀₂ := S₀.trans S₂
  have S₀₃ := S₀₂.trans S₃
  have hIe : ∃ o, h₂.get? I = some o := let ⟨o, e, _⟩ := hI; ⟨o, e⟩
  have hLe : ∃ o, h₀.get? L = some o := let ⟨o, es, ep, e, _⟩ := ns; ⟨o, e⟩
  have fIh : h.get? I = none := fresh_of S₀ fI
  have fDh : h.get? D = none := fresh_of S₀₂ fD
  have fCh : h.get? C = none := fresh_of S₀₂ fC
  have nIC : I ≠ C := fun q => by obtain ⟨o, e⟩ := hIe; rw [q, fC] at e; cases e
  have nID : I ≠ D := fun q => by obtain ⟨o, e⟩ := hIe; rw [q, fD] at e; cases e
  have nLC : L ≠ C := fun q => by obtain ⟨o, e⟩ := hLe; rw [q] at e; rw [S₂ _ _ e] at fC; cases fC
  have nLD : L ≠ D := fun q => by obtain ⟨o, e⟩ := hLe; rw [q] at e; rw [S₂ _ _ e] at fD; cases fD
  have nLI : L ≠ I := fun q => by obtain ⟨o, e⟩ := hLe; rw [q] at e; rw [e] at fI; cases fI
  have have_h : ∀ b o, h.get? b = some o → b ≠ L ∧ b ≠ C ∧ b ≠ D ∧ b ≠ I := fun b o e => ⟨fun q => (by rw [q, fL] at e; cases e), fun q => (by rw [q, fCh] at e; cases e), fun q => (by rw [q, fDh] at e; cases e), fun q => (by rw [q, fIh] at e; cases e)⟩
  have hav1 := plain_stay hav hst0
  have nav : av ≠ C ∧ av ≠ D := by obtain ⟨n, e⟩ := hav1; exact ⟨(have_h _ _ e).2.1, (have_h _ _ e).2.2.1⟩
  have ncell : L + 1 ≠ C ∧ L + 1 ≠ D ∧ L + 1 ≠ I := by
    obtain ⟨oc, hoc, _⟩ := hcell
    refine ⟨fun q => ?_, fun q => ?_, fun q => ?_⟩
    · rw [q] at hoc; rw [S₂ _ _ hoc] at fC; cases fC
    · rw [q] at hoc; rw [S₂ _ _ hoc] at fD; cases fD
    · rw [q] at hoc; rw [hoc] at fI; cases fI
  let X := L :: C :: D :: I :: Z
  have hX : X = L :: C :: D :: I :: Z := rfl
  have hcell₃ : (hideAll h₃ X).IsCell (L + 1) (some (.int p t)) := by
    obtain ⟨oc, hoc, hod⟩ := hcell
    refine ⟨oc, hideAll_get _ (S₃ _ _ (S₂ _ _ hoc)) ?_, hod⟩
    rw [hX]
    simp only [List.mem_cons, not_or]
    exact ⟨Nat.succ_ne_self L, ncell.1, ncell.2.1, ncell.2.2, fun q => by obtain ⟨o, e⟩ := hz _ q; rw [cf] at e; cases e⟩
  have hG0 : Stay (hideAll h Z) (hideAll h₃ X) := fun b o e => hideAll_get _ (S₀₃ _ _ (of_hideAll _ e)) (by
    have := have_h _ _ (of_hideAll _ e)
    rw [hX]
    simp only [List.mem_cons, not_or]
    exact ⟨this.1, this.2.1, this.2.2.1, this.2.2.2, fun q => by rw [hideAll_none _ q] at e; cases e⟩)
  have upJ : ∀ {h' : Heap}, OffL [C, D, I] h₃ h' → Stay h h' := fun {h'} O b o e => O b o (by have := have_h b o e; simp [this]) (S₀₃ _ _ e)
  have W := Walks.list (prog := prog) (w := w) R'.hd I av hne us.toArray
  have hst₃ : h₃.IsListIter I av 0 ∧ h₃.IsList av us.toArray := ⟨hI.at fun o e => S₃ _ _ e, isLst_stay hl₂ S₃⟩
  have hlen' : us.toArray.size = rows.length := by have := paired_len hpr; simpa using this
  have loop : codeAny (model prog w) A' (.compLoop (lamB lam1) 0 (.ref I) (.ref D) (compEnvC (match lamB lam1 with | .ListComp _ _ s _ => s | _ => default) [("place", L + 1)] C (envX lawLam (lamS lam1) L f (.ref c) (cellsFrom (L + 1) (lamS lam1).names []))))
      (compPost (model prog w) A' (fun _ _ => False) none (fun v s' => ∃ h' tk', s' = st s h' tk' ∧ Stay h h' ∧ RowsI (hideAll h' Z) v (rows.flatMap (spread p))) (.ref D) C) (st s h₃ tk₃) := by
    refine comp_loop2_0 (turns_name W)
      (fun i h' => ∃ G' m' ys, OffL [C, D, I] h₃ h' ∧ Gd X G' h' ∧ Stay (hideAll h₃ X) G' ∧ h'.Ns C m' ∧ h'.PlainList D (List.toArray ys) ∧ Paired (RowI G') ys ((rows.take i).flatMap (spread p))) ?hJ ?turn ?fin hst₃
      ⟨hideAll h₃ X, _, [], (Stay.refl _).offL, Gd.new _ _, Stay.refl _, hC, hD, by simpa using Paired.nil⟩
    case hJ =>
      rintro i h₄ h₅ ⟨G', m', ys, a1, a2, a3, a4, a5, a6⟩ hk
      refine ⟨G', m', ys, fun b o hb e => hk _ _ (fun q => hb (by simp at q; simp [q])) (a1 _ _ hb e), a2.off fun b o hb e => hk _ _ (fun q => hb (by simp at q; rw [hX, q]; simp)) e, a3, a4.at' fun o e => hk _ _ (by simpa using Ne.symm nIC) e, a5.at fun o e => hk _ _ (by simpa using Ne.symm nID) e, a6⟩
    case fin =>
      rintro h₄ tk₄ ⟨G', m', ys, a1, a2, a3, a4, a5, a6⟩
      refine ⟨m', a4, fun h₅ hsb => ⟨h₅, tk₄, rfl, fun b o e => hsb.extBut b o (have_h b o e).2.1 (upJ a1 _ _ e), D, ys, rfl, ?_, ?_⟩⟩
      · obtain ⟨n, e⟩ := a5
        exact ⟨n, hideAll_get _ (hsb.extBut _ _ hDC e) fun q => by obtain ⟨o, e'⟩ := hz _ q; rw [fDh] at e'; cases e'⟩
      · rw [hlen', List.take_length] at a6
        have := (a2.off (h' := h₅) fun b o hb e => hsb.extBut b o (fun q => hb (by rw [hX, q]; simp)) e).into (Y := Z) fun z hz' => by rw [hX]; simp [hz']
        exact paired_imp (fun _ _ q => q.stay this) a6
    case turn =>
      rintro i v h₄ tk₄ hi hP hst₄ ⟨G', m', ys, a1, a2, a3, a4, a5, a6⟩
      obtain ⟨r, hr, hra⟩ := paired_get hpr (show us[i]? = some v by simpa using hP)
      have hrl : r.length ≤ 10 := hs2 r (List.mem_of_getElem? hr)
      obtain ⟨ra, ru, rfl, hrp, hri⟩ := (hra.stay hG0).stay a3
      have F₄ : Fm G' C m' h₄ := ⟨a4, a2.1, a2.2 C (by rw [hX]; simp)⟩
      refine r_name F₄ fun h₅ tk₅ F₅ O₅ => ?_
      have S₅ : Stay h h₅ := fun b o e => O₅ _ _ (have_h b o e).2.1 (upJ a1 _ _ e)
      have B₅ := B.stay S₅
      have hr₅ : h₅.PlainList ra ru.toArray := plain_stay hrp F₅.keep
      have hrs : ru.toArray.size = r.length := by rw [List.size_toArray]; exact hri.length
      (with_reducible refine r_call ?_)
      refine nmB B₅ hran rfl ?_
      refine r_cwT (r_sp1 ?_)
      (with_reducible refine wpAny_BinOp ?_)
      (with_reducible refine r_call ?_)
      refine nmB B₅ hlen rfl ?_
      refine r_cwB (r_sp1 ?_)
      (((with_reducible show wpAny _ _ (eval (Expr.Name _ _) _) _ _ _); refine nmL (by assumption) (by first | rfl | assumption) ?_))
      refine r_sp0 (r_lenL hr₅.isList (by (first | lia | omega)) fun t₁ tk₆ => ?_)
      (((with_reducible refine r_int ?_)))
      (((with_reducible refine r_add ?_)))
      refine r_sp0 (r_range1 fun rg h₆ t₂ u₂ v₂ tk₇ frg hrg S₆ => ?_)
      have hrg' : IsRange h₆ rg 0 (0 + ((r.length + 1 : Nat) : Int)) 1 t₂ u₂ v₂ := by
        have e : (0 : Int) + ((r.length + 1 : Nat) : Int) = (ru.toArray.size : Int) + 1 := by rw [hrs]; push_cast; (first | lia | omega)
        rw [e]; exact hrg
      refine (Seq.range (prog := prog) (w := w) (s := s) hrg' (small_one (by (first | lia | omega)) (by (first | lia | omega)) (by push_cast; (first | lia | omega)) (by push_cast; (first | lia | omega)))).it _ _ _ _ _ (Stay.refl _) fun I₂ fp₂ wr₂ St₂ h₇ tk₈ S₇ W₂ hwr₂ hfp₂ hlive₂ hst₇ => ?_
      have W₃ := W₂ A' R'.hd
      have S₄₇ : ∀ b o, b ≠ C → h₄.get? b = some o → h₇.get? b = some o := fun b o n e => S₇ _ _ (S₆ _ _ (O₅ _ _ n e))
      have S₇h : Stay h h₇ := (S₅.trans S₆).trans S₇
      have hwr₅ : ∀ b ∈ wr₂, h₅.get? b = none := fun b hb => fresh_of S₆ (hwr₂ b hb)
      have nwr : ∀ b ∈ X, b ∉ wr₂ := by
        intro b hb q
        have hn := hwr₅ b q
        rw [hX] at hb
        simp only [List.mem_cons] at hb
        rcases hb with rfl | rfl | rfl | rfl | hb
        · obtain ⟨o, e⟩ := hLe; rw [O₅ _ _ nLC (a1 _ _ (by simp [nLC, nLD, nLI]) (S₃ _ _ (S₂ _ _ e)))] at hn; cases hn
        · obtain ⟨o, es, ep, e, _⟩ := F₅.ns; rw [hn] at e; cases e
        · obtain ⟨n, e⟩ := a5; rw [O₅ _ _ hDC e] at hn; cases hn
        · obtain ⟨o, e, _⟩ := hst₄.1; rw [O₅ _ _ nIC e] at hn; cases hn
        · obtain ⟨o, e⟩ := hz _ hb; rw [S₅ _ _ e] at hn; cases hn
      have loop2 : codeAny (model prog w) A' (.compLoop (lamB lam1) 1 (.ref I₂) (.ref D) (compEnvC (match lamB lam1 with | .ListComp _ _ s _ => s | _ => default) [("place", L + 1)] C (envX lawLam (lamS lam1) L f (.ref c) (cellsFrom (L + 1) (lamS lam1).names []))))
          (fun r s₅ => ∃ f, r = .ok f ∧ ∃ h₅ tk₅, s₅ = st s h₅ tk₅ ∧ Kept [I, av] h₄ h₅ ∧ ∃ G' m' ys, OffL [C, D, I] h₃ h₅ ∧ Gd X G' h₅ ∧ Stay (hideAll h₃ X) G' ∧ h₅.Ns C m' ∧ h₅.PlainList D (List.toArray ys) ∧ Paired (RowI G') ys ((rows.take (i + 1)).flatMap (spread p))) (st s h₇ tk₈) := by
        refine comp_loop2_1 (turns_name W₃)
          (fun j h' => ∃ G'' m' ys, Gd X G'' h' ∧ (∀ b ∈ wr₂, G''.get? b = none) ∧ Stay G' G'' ∧ h'.Ns C m' ∧ m' "row" = some (.ref ra) ∧ h'.PlainList D (List.toArray ys) ∧ Paired (RowI G'') ys ((rows.take i).flatMap (spread p) ++ (spread p r).take j) ∧ OffL [C, D] h₄ h') ?hJ2 ?turn2 ?fin2 hst₇ ?start2
        case hJ2 =>
          rintro j h₈ h₉ ⟨G'', m'', ys', b1, b2, b3, b4, b5, b6, b7, b8⟩ hk
          have hCw := nwr C (by rw [hX]; simp)
          have hDw := nwr D (by rw [hX]; simp)
          refine ⟨G'', m'', ys', ⟨fun b o e => hk _ _ (fun q => by rw [b2 b q] at e; cases e) (b1.1 _ _ e), b1.2⟩, b2, b3, b4.at' fun o e => hk _ _ hCw e, b5, b6.at fun o e => hk _ _ hDw e, b7, fun b o hb e => hk _ _ (fun q => ?_) (b8 _ _ hb e)⟩
          have hn := hwr₅ b q
          rw [O₅ _ _ (by simp at hb; exact hb.1) e] at hn; cases hn
        case fin2 =>
          rintro h₈ tk₉ ⟨G'', m'', ys', b1, b2, b3, b4, b5, b6, b7, b8⟩
          refine ⟨_, rfl, h₈, tk₉, rfl, ?_, G'', m'', ys', fun b o hb e => b8 _ _ (fun q => hb (by simp at q; simp; rcases q with q | q <;> simp [q])) (a1 _ _ hb e), b1, a3.trans b3, b4, b6, ?_⟩
          · intro b hb o e
            refine b8 _ _ ?_ e
            simp at hb ⊢
            rcases hb with rfl | rfl
            · exact ⟨nIC, nID⟩
            · exact nav
          · rw [List.take_add_one, hr]
            have : (spread p r).take (r.length + 1) = spread p r := List.take_of_length_le (by simp [spread])
            rw [this] at b7
            simpa using b7
        case start2 =>
          refine ⟨G', _, ys, ⟨F₅.keep.trans (S₆.trans S₇), a2.2⟩, fun b hb => fresh_of F₅.keep (hwr₅ b hb), Stay.refl _, F₅.ns.keeps (S₆.trans S₇), rfl, a5.at fun o e => S₄₇ _ _ hDC e, by simpa using a6, fun b o hb e => S₄₇ _ _ (by simp at hb; exact hb.1) e⟩
        case turn2 =>
          rintro j v h₈ tk₉ hj ⟨t₉, rfl⟩ hst₈ ⟨G'', m'', ys', b1, b2, b3, b4, b5, b6, b7, b8⟩
          have F₈ : Fm G'' C m'' h₈ := ⟨b4, b1.1, b1.2 C (by rw [hX]; simp)⟩
          refine r_name F₈ fun h₉ tk₁₀ F₉ O₉ => ?_
          have hr₉ : h₉.PlainList ra ru.toArray := plain_stay (plain_stay hrp b3) F₉.keep
          have hjr : j ≤ ru.toArray.size := by rw [hrs]; (first | lia | omega)
          have ej : ((0 : Int) + (j : Int) * 1) = (j : Int) := by (first | lia | omega)
          rw [ej] at F₉
          (with_reducible refine wpAny_BinOp ?_)
          (with_reducible refine wpAny_BinOp ?_)
          refine r_slice (s := s) ?_
          refine nmL F₉ b5 ?_
          refine r_partN ?_
          refine evalPart_some_step (nmL F₉ rfl ⟨h₉, tk₁₀, ra, ru.toArray, none, some (j : Int), rfl, rfl, hr₉.isList, by (first | lia | omega), .none, .int _ _, fun q1 h₁₀ fq1 hq1 S₁₀ => ?_⟩)
          rw [slice_upto _ _ hjr] at hq1
          have F₁₀ := F₉.stay S₁₀
          have hcel : h₁₀.IsCell (L + 1) (some (.int p t)) := ((hcell₃.keeps a3).keeps b3).keeps F₁₀.keep
          refine r_list (r_sp1 (nmC hcel ?_ rfl rfl rfl (by decide)))
          refine r_sp0 (r_newList (by simp) fun q2 h₁₁ fq2 hq2 S₁₁ => ?_)
          have hq1' := plain_stay hq1 S₁₁
          have hz1 : ru.length ≤ 10 := by have := hrs; simp at this; (first | lia | omega)
          refine r_addL hq1' hq2 (by simp; (first | lia | omega)) fun q3 h₁₂ fq3 hq3 S₁₂ => ?_
          have F₁₂ := (F₁₀.stay S₁₁).stay S₁₂
          refine r_slice (s := s) ?_
          refine nmL F₁₂ b5 ?_
          refine evalPart_some_step (nmL F₁₂ rfl ?_)
          refine r_partN ⟨h₁₂, tk₁₀, ra, ru.toArray, some (j : Int), none, rfl, rfl, (plain_stay hr₉ ((S₁₀.trans S₁₁).trans S₁₂)).isList, by (first | lia | omega), .int _ _, .none, fun q4 h₁₃ fq4 hq4 S₁₃ => ?_⟩
          rw [slice_from _ _ hjr] at hq4
          refine r_addL (plain_stay hq3 S₁₃) hq4 (by simp; (first | lia | omega)) fun q5 h₁₄ fq5 hq5 S₁₄ => ?_
          have U : Stay h₉ h₁₄ := (((S₁₀.trans S₁₁).trans S₁₂).trans S₁₃).trans S₁₄
          have U' : Stay h₉ h₁₃ := ((S₁₀.trans S₁₁).trans S₁₂).trans S₁₃
          have hD₁₄ : h₁₄.PlainList D (List.toArray ys') := b6.at fun o e => U _ _ (O₉ _ _ hDC e)
          have hys : ys'.length ≤ 1000 := by
            have h1 := paired_len b7
            have h2 := spread_len p (rows.take i) fun x hx => hs2 x (List.mem_of_mem_take hx)
            have h3 : (rows.take i).length ≤ rows.length := by simp; (first | lia | omega)
            have h4 : ((spread p r).take j).length ≤ 11 := by simp [spread]; (first | lia | omega)
            rw [List.length_append] at h1
            (first | lia | omega)
          refine r_append hD₁₄ (by simpa using hys) fun h₁₅ hD₁₅ O₁₅ => ?_
          have ex9 : ∀ z ∈ X, ∃ o, h₉.get? z = some o := by
            intro z hzX
            rw [hX] at hzX
            simp only [List.mem_cons] at hzX
            rcases hzX with rfl | rfl | rfl | rfl | hb
            · obtain ⟨o, e⟩ := hLe
              exact ⟨o, O₉ _ _ nLC (b8 _ _ (by simp [nLC, nLD]) (a1 _ _ (by simp [nLC, nLD, nLI]) (S₃ _ _ (S₂ _ _ e))))⟩
            · obtain ⟨o, es, ep, e, _⟩ := F₉.ns; exact ⟨o, e⟩
            · obtain ⟨n, e⟩ := b6; exact ⟨_, O₉ _ _ hDC e⟩
            · obtain ⟨o, e, _⟩ := hst₄.1; exact ⟨o, O₉ _ _ nIC (b8 _ _ (by simp [nIC, nID]) e)⟩
            · obtain ⟨o, e⟩ := hz _ hb
              have := have_h _ _ e
              exact ⟨o, O₉ _ _ this.2.1 (b8 _ _ (by simp [this]) (upJ a1 _ _ e))⟩
          have ex9w : ∀ z ∈ wr₂, ∃ o, h₉.get? z = some o := by
            intro z hzw
            obtain ⟨o, e⟩ := hlive₂ _ _ hst₈ z hzw
            exact ⟨o, O₉ _ _ (fun q => nwr C (by rw [hX]; simp) (q ▸ hzw)) e⟩
          have nq5 : q5 ∉ X := fun q => by obtain ⟨o, e⟩ := ex9 _ q; rw [U' _ _ e] at fq5; cases fq5
          have nq5w : q5 ∉ wr₂ := fun q => by obtain ⟨o, e⟩ := ex9w _ q; rw [U' _ _ e] at fq5; cases fq5
          have GG : Stay G'' (hideAll h₁₄ (X ++ wr₂)) := fun b o e => hideAll_get _ (U _ _ (F₉.keep _ _ e)) (by
            simp only [List.mem_append, not_or]
            exact ⟨fun q => (by rw [b1.2 b q] at e; cases e), fun q => (by rw [b2 b q] at e; cases e)⟩)
          refine ⟨h₁₅, tk₁₀, rfl, ?_, hideAll h₁₄ (X ++ wr₂), (fun z => if z = Str.ofString "spot" then some (Value.int (↑j) t₉) else m'' z), ys' ++ [.ref q5], ?_, ?_, b3.trans GG, ?_, b5, by simpa using hD₁₅, ?_, ?_⟩
          · intro b hb o e
            have hbw : b ∈ wr₂ := by
              rcases hfp₂ b hb with q | q
              · exact q
              · simp at q
            have nC : b ≠ C := fun q => nwr C (by rw [hX]; simp) (q ▸ hbw)
            have nD : b ≠ D := fun q => nwr D (by rw [hX]; simp) (q ▸ hbw)
            exact O₁₅ _ _ nD (U _ _ (O₉ _ _ nC e))
          · exact ((Gd.new (X ++ wr₂) h₁₄).sub fun z hz => by simp [hz]).off (O₁₅.offL (by rw [hX]; simp))
          · exact fun b hb => hideAll_none _ (by simp [hb])
          · exact (F₉.ns.keeps U).at' fun o e => O₁₅ _ _ hDC.symm e
          · have e1 : (spread p r).take (j + 1) = (spread p r).take j ++ [r.take j ++ [p] ++ r.drop j] := by rw [List.take_add_one, spread_get p r j hj]; rfl
            rw [e1, ← List.append_assoc]
            refine Paired.snoc (paired_imp (fun _ _ q => q.stay GG) b7) ⟨q5, ru.take j ++ [.int p t] ++ ru.drop j, rfl, ?_, ((hri.take j).append (.cons p t .nil)).append (hri.drop j)⟩
            obtain ⟨n, e⟩ := hq5
            refine ⟨n, hideAll_get _ ?_ (by simp only [List.mem_append, not_or]; exact ⟨nq5, nq5w⟩)⟩
            simpa using e
          · intro b o hb e
            simp at hb
            exact O₁₅ _ _ hb.2 (U _ _ (O₉ _ _ hb.1 (b8 _ _ (by simp [hb]) e)))
      exact compStart_two loop2 (W₃.self 0 _ _ _ hst₇ loop2)
  exact codeAny_compStart_list loop (W.self 0 _ _ _ hst₃ loop)
end
end Mine
end
section
open PySem PySem.W PySem.Calls PyProof.Rows
set_option Elab.async false
set_option maxRecDepth 100000
set_option linter.unusedVariables false
namespace Mine

noncomputable def kwE (n : Nat) : Expr → Expr
  | .Call _ _ kws _ => (kws.map (·.value)).getD n default
  | _ => default
noncomputable def compE : Expr → Expr
  | .ListComp e _ _ _ => e
  | _ => default
noncomputable def rightE : Expr → Expr
  | .BoolOp _ vs _ => vs.getD 1 default
  | _ => default
noncomputable def cmpR : Expr → Expr
  | .Compare _ _ rs _ => rs.getD 0 default
  | _ => default
noncomputable def lam2 : Expr := argE 0 (argE 0 (compE (asg (stmtAt 41 4))))
noncomputable def lam3 : Expr := argE 0 (kwE 0 (asg (stmtAt 41 5)))
noncomputable def lam4 : Expr := kwE 0 (cmpR (rightE (asg (stmtAt 41 12))))

noncomputable def StrsAt (h : Heap) (v : Value) (xs : List Str) : Prop := ∃ a us, v = .ref a ∧ h.PlainList a (List.toArray us) ∧ StrsAre us xs
theorem StrsAt.stay {G G' : Heap} {v : Value} {xs : List Str} (x : StrsAt G v xs) (S : Stay G G') : StrsAt G' v xs := let ⟨a, us, e, p, i⟩ := x; ⟨a, us, e, plain_stay p S, i⟩
theorem strs_get {us : List Value} {xs : List Str} (x : StrsAre us xs) : ∀ {i : Nat} {y : Str}, xs[i]? = some y → ∃ t, us[i]? = some (.str y t) := by
  induction x with
  | nil => intro i y e; simp at e
  | cons z u _ ih =>
    intro i y e
    cases i with
    | zero => simp at e; subst e; exact ⟨u, rfl⟩
    | succ i => simp at e; simpa using ih e

section
variable {prog : Program} {w : World} {A : Around} {s : Shared} {h : Heap} {mg mb : Str → Option Value}
set_option maxHeartbeats 2000000 in
theorem c_lam2 {f cp : Addr} {v : Value} {xs : List Str} {x y : Str} {p : Int} {i : Nat} {t u : Tok} (R : Rm 1 A) (B : Bas mg mb h) (X : LamAt h f lam2 [("pieces", cp)]) (hc : h.IsCell cp (some v)) (hv : StrsAt h v xs)
    (hi : p = (i : Int)) (hl : i < 1000) (hy : xs[i]? = some y) (hz : x.length + y.length ≤ 100000) :
    Gives prog w A (call (.ref f) [.str x t, .int p u]) s h (fun b _ => ∃ t, b = .str (x ++ y) t) := by
  obtain ⟨pm, c, ctv, ho, hcd⟩ := X
  refine gives_lam R B ho hcd (binds := [("text", .str x t), ("place", .int p u)]) rfl (by decide) ?hl (fun L h₀ tk F => ?_) rfl rfl rfl
  case hl =>
    intro x hx
    simp at hx
    rcases hx with rfl | rfl <;> rfl
  obtain ⟨a, us, rfl, hpl, hs⟩ := hv
  obtain ⟨ty, hy'⟩ := strs_get hs hy
  show wpAny _ _ (eval (.BinOp _ _ _ _) _) _ _ _
  (with_reducible refine wpAny_BinOp ?_)
  (((with_reducible show wpAny _ _ (eval (Expr.Name _ _) _) _ _ _); refine nmL (by assumption) (by first | rfl | assumption) ?_))
  refine r_subs ?_
  refine nmF (hc.keeps F.keep) ?_ rfl rfl rfl (by decide) (by decide)
  (((with_reducible show wpAny _ _ (eval (Expr.Name _ _) _) _ _ _); refine nmL (by assumption) (by first | rfl | assumption) ?_))
  refine r_itemL (plain_stay hpl F.keep).isList hi (by (first | lia | omega)) (by simpa using hy') ?_
  refine r_addS hz fun t' tk' => ?_
  exact ⟨_, _, rfl, F.keep, _, rfl⟩

set_option maxHeartbeats 2000000 in
theorem c_lam3 {f : Addr} {x y : Str} {t u : Tok} (R : Rm 1 A) (B : Bas mg mb h) (X : LamAt h f lam3 []) (hlen : mg "len" = none) (hz : x.length ≤ 100000) (hz2 : y.length ≤ 100000) :
    Gives prog w A (call (.ref f) [.str x t, .str y u]) s h (fun b _ => ∃ t, b = .int ((x.length : Int) - (y.length : Int)) t) := by
  obtain ⟨pm, c, ctv, ho, hcd⟩ := X
  refine gives_lam R B ho hcd (binds := [("one", .str x t), ("two", .str y u)]) rfl (by decide) ?hl (fun L h₀ tk F => ?_) rfl rfl rfl
  case hl =>
    intro x hx
    simp at hx
    rcases hx with rfl | rfl <;> rfl
  show wpAny _ _ (eval (.BinOp _ _ _ _) _) _ _ _
  (with_reducible refine wpAny_BinOp ?_)
  (with_reducible refine r_call ?_)
  refine nmB (B.stay F.keep) hlen rfl ?_
  refine r_cwB (r_sp1 ?_)
  (((with_reducible show wpAny _ _ (eval (Expr.Name _ _) _) _ _ _); refine nmL (by assumption) (by first | rfl | assumption) ?_))
  refine r_sp0 (r_lenS hz fun t₁ tk₁ => ?_)
  (with_reducible refine r_call ?_)
  refine nmB (B.stay F.keep) hlen rfl ?_
  refine r_cwB (r_sp1 ?_)
  (((with_reducible show wpAny _ _ (eval (Expr.Name _ _) _) _ _ _); refine nmL (by assumption) (by first | rfl | assumption) ?_))
  refine r_sp0 (r_lenS hz2 fun t₂ tk₂ => ?_)
  (((with_reducible refine r_sub ?_)))
  exact ⟨_, _, rfl, F.keep, _, rfl⟩

set_option maxHeartbeats 2000000 in
theorem c_lam4 {f : Addr} {x : Str} {t : Tok} (R : Rm 1 A) (B : Bas mg mb h) (X : LamAt h f lam4 []) (hlen : mg "len" = none) (hz : x.length ≤ 100000) :
    Gives prog w A (call (.ref f) [.str x t]) s h (fun b _ => ∃ t, b = .int (x.length : Int) t) := by
  obtain ⟨pm, c, ctv, ho, hcd⟩ := X
  refine gives_lam R B ho hcd (binds := [("text", .str x t)]) rfl (by decide) ?hl (fun L h₀ tk F => ?_) rfl rfl rfl
  case hl =>
    intro x hx
    simp at hx
    rcases hx with rfl <;> rfl
  show wpAny _ _ (eval (.Call _ _ _ _) _) _ _ _
  (with_reducible refine r_call ?_)
  refine nmB (B.stay F.keep) hlen rfl ?_
  refine r_cwB (r_sp1 ?_)
  (((with_reducible show wpAny _ _ (eval (Expr.Name _ _) _) _ _ _); refine nmL (by assumption) (by first | rfl | assumption) ?_))
  refine r_sp0 (r_lenS hz fun t₁ tk₁ => ?_)
  exact ⟨_, _, rfl, F.keep, _, rfl⟩
end
end Mine
end
section
open PySem PySem.W PySem.Calls PyProof.Rows
set_option Elab.async false
set_option maxRecDepth 100000
set_option linter.unusedVariables false
namespace Mine

/-- an object of K that holds v -/
noncomputable def KInst (h : Heap) (x C : Addr) (v : Value) : Prop := ∃ dx od, h.get? x = some (instK C dx #[some v]) ∧ h.get? dx = some od
theorem KInst.stay {h h' : Heap} {x C : Addr} {v : Value} (i : KInst h x C v) (S : Stay h h') : KInst h' x C v := let ⟨dx, od, a, b⟩ := i; ⟨dx, od, S _ _ a, S _ _ b⟩

section
variable {prog : Program} {w : World} {A : Around} {E : Value → Shared → Prop} {s : Shared} {h : Heap} {tk : Nat} {mg mb : Str → Option Value}
theorem tc_weight (C : Addr) (r : List Value) : (Code.builtin "type.__call__" ⟨.ref C :: r, []⟩).weight = 1 := by kernel_rfl
theorem tc_units (C : Addr) (r : List Value) : (Code.builtin "type.__call__" ⟨.ref C :: r, []⟩).cUnits = 1 := by kernel_rfl
theorem rm_tc {k : Nat} {C : Addr} {r : List Value} (R : Rm (k + 1) A) : Rm k (A.under (.builtin "type.__call__" ⟨.ref C :: r, []⟩)) :=
  ⟨R.hd, by have := R.dp; show A.depth + (Code.builtin "type.__call__" ⟨.ref C :: r, []⟩).weight + k < _; rw [tc_weight]; (first | lia | omega), by have := R.un; show A.units + (Code.builtin "type.__call__" ⟨.ref C :: r, []⟩).cUnits + 20 * k < _; rw [tc_units]; (first | lia | omega)⟩
theorem kdef_cell (i : Nat) (hi : i ∈ [2, 3]) : ∀ x ∈ (dScope (kDef i)).names, x.2 ≠ .cell := by
  simp at hi
  rcases hi with rfl | rfl <;> decide
set_option maxHeartbeats 2000000 in
theorem c_knew {C cc : Addr} {nm v : Value} (R : Rm 2 A) (B : Bas mg mb h) (K : KCls h C cc nm) : 
    Gives prog w A (call (.ref C) [v]) s h (fun b h' => ∃ x, b = .ref x ∧ ∀ Z, (∀ z ∈ Z, ∃ o, h.get? z = some o) → KInst (hideAll h' Z) x C v) := by
  obtain ⟨N, k0, k2, k3, md, tmd, v0, t1, t2, um, sl, f1, c1, u1, d1, f2, c2, u2, d2, f3, f4, f5, f6, sa, a1, a2, a3, a4, a5, a6, a7⟩ := K.ex
  intro tk Q E k
  obtain ⟨h0, g, d, t, os⟩ := s
  simp only [st] at k ⊢
  refine ko_call a1 a2 rfl a4 rfl fun h₁ x dx fx fdx S₁ hx hdx => ?_
  have R1 : Rm 1 (A.under (.builtin "type.__call__" ⟨.ref C :: [v], []⟩)) := rm_tc R
  generalize A.under (.builtin "type.__call__" ⟨.ref C :: [v], []⟩) = A₁ at *
  have B₁ := B.stay S₁
  have nxd : dx ≠ x := fun e => (by rw [e, hx] at hdx; have := congrArg Obj.cls (Option.some.inj hdx); cases this)
  refine wpAny_call (codeAny_call_def (s := ⟨h₁, g, d, tk, os⟩) (binds := [("self", .ref x), ("obj", v)]) R1.room (S₁ _ _ a4) rfl B₁.lim (a5.keeps S₁) rfl (BindsTo.of_eq rfl) (kdef_cell 2 (by simp)) (by intro y hy; simp at hy; rcases hy with rfl | rfl <;> rfl) (fun h₂ hns S₂ => ?_))
  have S₂ : Stay h₁ h₂ := S₂
  have F₂ : Fm h₁ h₁.objs.size _ h₂ := ⟨hns, S₂, Heap.get?_none_of_le (Nat.le_refl _)⟩
  show wpAny _ _ (execs (dBody (kDef 2)) (callEnv (fnX _ _ _ _ _ _ _ _ _ _ _ _ _) h₁.objs.size f1)) _ _ (st ⟨h₁, g, d, tk, os⟩ h₂ _)
  refine wpAny_execs_cons (plainObj_wpAny_Assign_Attribute ?_)
  refine nmL F₂ rfl ?_
  refine nmL F₂ rfl ?_
  have S₁₂ := S₁.trans S₂
  refine k_set (dx := dx) F₂ (S₁₂ _ _ a1) (a2.keeps S₁₂) (S₁₂ _ _ a3) rfl rfl (S₂ _ _ hx) ⟨_, S₂ _ _ hdx⟩ fun h₃ tk₃ hns₃ hx₃ O₃ => ?_
  show wpAny _ _ (execs [] _) _ _ _
  refine r_nil ⟨rfl, ?_⟩
  have fL : h₁.get? h₁.objs.size = none := Heap.get?_none_of_le (Nat.le_refl _)
  have nh : ∀ b o, h₁.get? b = some o → b ≠ h₁.objs.size := fun b o e q => by rw [q, fL] at e; cases e
  refine k _ h₃ tk₃ (fun b o e => O₃ _ _ (fun q => ?_) (nh _ _ (S₁ _ _ e)) (S₁₂ _ _ e)) ⟨x, rfl, fun Z hZ => ⟨dx, _, hideAll_get _ hx₃ fun z => ?_, hideAll_get _ (O₃ _ _ nxd (nh _ _ hdx) (S₂ _ _ hdx)) fun z => ?_⟩⟩
  · rw [q, fx] at e; cases e
  · obtain ⟨o, e⟩ := hZ _ z; rw [fx] at e; cases e
  · obtain ⟨o, e⟩ := hZ _ z; rw [fdx] at e; cases e
end
end Mine
end
section
open PySem PySem.W PySem.Calls PyProof.Rows
set_option Elab.async false
set_option maxRecDepth 100000
set_option linter.unusedVariables false
namespace Mine

noncomputable def wpT {α : Type} (lt : Nat → Nat → Bool) (n : Nat) : KasT α → (α → Prop) → Prop
  | .ret a, Q => Q a
  | .ask i j k, Q => i < n ∧ j < n ∧ wpT lt n (k (lt i j)) Q
theorem wpT_bind {α β : Type} {lt : Nat → Nat → Bool} {n : Nat} {f : α → KasT β} {Q : β → Prop} : ∀ (t : KasT α), wpT lt n t (fun a => wpT lt n (f a) Q) → wpT lt n (t.bind f) Q
  | .ret _, h => h
  | .ask i j k, h => ⟨h.1, h.2.1, wpT_bind (k (lt i j)) h.2.2⟩
theorem wpT_mono {α : Type} {lt : Nat → Nat → Bool} {n : Nat} {Q Q' : α → Prop} (hq : ∀ a, Q a → Q' a) : ∀ (t : KasT α), wpT lt n t Q → wpT lt n t Q'
  | .ret _, h => hq _ h
  | .ask i j k, h => ⟨h.1, h.2.1, wpT_mono hq (k (lt i j)) h.2.2⟩
noncomputable def goT {α : Type} (lt : Nat → Nat → Bool) : KasT α → α
  | .ret a => a
  | .ask i j k => goT lt (k (lt i j))
theorem wpT_go {α : Type} {lt : Nat → Nat → Bool} {n : Nat} {Q : α → Prop} : ∀ (t : KasT α), wpT lt n t Q → Q (goT lt t)
  | .ret _, h => h
  | .ask i j k, h => wpT_go (k (lt i j)) h.2.2
theorem wpT_eq {α : Type} {lt : Nat → Nat → Bool} {n : Nat} {Q : α → Prop} : ∀ (t : KasT α), wpT lt n t Q → wpT lt n t (fun a => a = goT lt t)
  | .ret _, h => rfl
  | .ask i j k, h => ⟨h.1, h.2.1, wpT_eq (k (lt i j)) h.2.2⟩

/-- a tree of questions run in the model -/
theorem kasWp_of {α : Type} {lt : Nat → Nat → Bool} {n : Nat} {cmp : Nat → Nat → (Bool → Shared → Prop) → Shared → Prop} {Inv : Shared → Prop} {Q : α → Shared → Prop}
    (hc : ∀ i j C s, i < n → j < n → Inv s → (∀ s', Inv s' → C (lt i j) s') → cmp i j C s) : ∀ (t : KasT α) (P : α → Prop), wpT lt n t P → (∀ a s, P a → Inv s → Q a s) → ∀ s, Inv s → t.kasWp cmp Q s
  | .ret a, P, h, hQ, s, hs => hQ a s h hs
  | .ask i j k, P, h, hQ, s, hs => hc i j _ s h.1 h.2.1 hs fun s' hs' => kasWp_of hc (k (lt i j)) P h.2.2 hQ s' hs'

structure Ord (lt : Nat → Nat → Bool) : Prop where
  asym : ∀ i j, lt i j = true → lt j i = false
  tr : ∀ i j k, lt j i = false → lt k j = false → lt k i = false
theorem Ord.irr {lt : Nat → Nat → Bool} (O : Ord lt) (i : Nat) : lt i i = false := by
  cases h : lt i i with
  | false => rfl
  | true => rw [O.asym i i h] at h; cases h

noncomputable abbrev at_ (p : Array Nat) (i : Nat) : Nat := p.getD i 0
noncomputable def IsP (n : Nat) (p : Array Nat) : Prop := p.Perm (List.toArray (List.range n))
theorem IsP.size {n : Nat} {p : Array Nat} (h : IsP n p) : p.size = n := by have := h.size_eq; simpa using this
theorem IsP.lt {n : Nat} {p : Array Nat} (h : IsP n p) (i : Nat) (hi : i < n) : at_ p i < n := by
  have hs := h.size
  have : p[i]'(by (first | lia | omega)) ∈ p := Array.getElem_mem _
  have := (Array.Perm.mem_iff h).mp this
  simp at this
  unfold at_
  rw [Array.getD, dif_pos (by (first | lia | omega))]
  exact this
theorem at_eq {p : Array Nat} {i : Nat} : at_ p i = p[i]?.getD 0 := by simp [at_]
/-- up to n nothing falls -/
noncomputable def Up (lt : Nat → Nat → Bool) (p : Array Nat) (n : Nat) : Prop := ∀ a b, a < b → b < n → lt (at_ p b) (at_ p a) = false
/-- up to n nothing rises -/
noncomputable def Dn (lt : Nat → Nat → Bool) (p : Array Nat) (n : Nat) : Prop := ∀ a b, a < b → b < n → lt (at_ p a) (at_ p b) = false

section
variable {lt : Nat → Nat → Bool} {N : Nat}

theorem Up.succ (O : Ord lt) {p : Array Nat} {n : Nat} (h : Up lt p n) (h1 : 1 ≤ n) (hc : lt (at_ p n) (at_ p (n - 1)) = false) : Up lt p (n + 1) := by
  intro a b hab hb
  rcases Nat.lt_or_ge b n with hb' | hb'
  · exact h a b hab hb'
  · have : b = n := by (first | lia | omega)
    subst this
    rcases Nat.lt_or_ge a (b - 1) with ha | ha
    · exact O.tr _ _ _ (h a (b - 1) ha (by (first | lia | omega))) hc
    · have : a = b - 1 := by (first | lia | omega)
      subst this; exact hc
theorem Dn.succ (O : Ord lt) {p : Array Nat} {n : Nat} (h : Dn lt p n) (h1 : 1 ≤ n) (hc : lt (at_ p (n - 1)) (at_ p n) = false) : Dn lt p (n + 1) := by
  intro a b hab hb
  rcases Nat.lt_or_ge b n with hb' | hb'
  · exact h a b hab hb'
  · have : b = n := by (first | lia | omega)
    subst this
    rcases Nat.lt_or_ge a (b - 1) with ha | ha
    · exact O.tr _ _ _ hc (h a (b - 1) ha (by (first | lia | omega)))
    · have : a = b - 1 := by (first | lia | omega)
      subst this; exact hc

theorem t_asc (O : Ord lt) {p : Array Nat} (hp : IsP N p) : ∀ (f n : Nat), 1 ≤ n → n + f ≤ N → Up lt p n → wpT lt N (kas_asc p f n) (fun m => n ≤ m ∧ m ≤ n + f ∧ Up lt p m ∧ (m = n + f ∨ lt (at_ p m) (at_ p (m - 1)) = true))
  | 0, n, h1, hn, hu => ⟨Nat.le_refl _, Nat.le_refl _, hu, .inl rfl⟩
  | f + 1, n, h1, hn, hu => by
    refine ⟨hp.lt _ (by (first | lia | omega)), hp.lt _ (by (first | lia | omega)), ?_⟩
    cases hc : lt (p.getD n 0) (p.getD (n - 1) 0) with
    | true => exact ⟨Nat.le_refl _, Nat.le_add_right _ _, hu, .inr hc⟩
    | false =>
      refine wpT_mono (fun m hm => ?_) _ (t_asc O hp f (n + 1) (by (first | lia | omega)) (by (first | lia | omega)) (hu.succ O h1 hc))
      exact ⟨by (first | lia | omega), by (first | lia | omega), hm.2.2.1, hm.2.2.2.imp (fun e => by (first | lia | omega)) id⟩

theorem rev_at {p : Array Nat} {i j : Nat} (hj : j ≤ p.size) (k : Nat) : at_ (kas_rev p i j) k = if i ≤ k ∧ k < j then at_ p (i + j - 1 - k) else at_ p k := by
  rw [at_eq, kas_rev, getElem?_mirror_all hj]
  split <;> simp [at_]
theorem rev_isP {p : Array Nat} (hp : IsP N p) (i j : Nat) : IsP N (kas_rev p i j) := (mirror_perm _ _ _ _).trans hp

/-- the last q + 1 up to n are alike -/
noncomputable def Alike (lt : Nat → Nat → Bool) (p : Array Nat) (n q : Nat) : Prop := ∀ a b, n - (q + 1) ≤ a → a < n → n - (q + 1) ≤ b → b < n → lt (at_ p a) (at_ p b) = false

theorem rev_alike (O : Ord lt) {p : Array Nat} {n q : Nat} (hn : n ≤ p.size) (hd : Dn lt p n) (ha : Alike lt p n q) : Dn lt (kas_rev p (n - (q + 1)) n) n := by
  intro a b hab hb
  rw [rev_at hn, rev_at hn]
  split <;> split
  · exact ha _ _ (by (first | lia | omega)) (by (first | lia | omega)) (by (first | lia | omega)) (by (first | lia | omega))
  · (first | lia | omega)
  · rename_i h1 h2
    exact hd _ _ (by (first | lia | omega)) (by (first | lia | omega))
  · exact hd _ _ hab hb

theorem t_desc (O : Ord lt) : ∀ (f : Nat) (p : Array Nat) (n q : Nat), IsP N p → 1 ≤ n → n + f ≤ N → Dn lt p n → Alike lt p n q → 
    wpT lt N (kas_desc f p n q) (fun r => IsP N r.1 ∧ n ≤ r.2.1 ∧ r.2.1 ≤ n + f ∧ Dn lt r.1 r.2.1 ∧ Alike lt r.1 r.2.1 r.2.2)
  | 0, p, n, q, hp, h1, hn, hd, ha => ⟨hp, Nat.le_refl _, Nat.le_refl _, hd, ha⟩
  | f + 1, p, n, q, hp, h1, hn, hd, ha => by
    have hz := hp.size
    have one : ∀ (p : Array Nat) (n : Nat), Alike lt p (n + 1) 0 := by
      intro p n a b h1 h2 h3 h4
      have : a = b := by (first | lia | omega)
      subst this; exact O.irr _
    refine ⟨hp.lt _ (by (first | lia | omega)), hp.lt _ (by (first | lia | omega)), ?_⟩
    cases hc : lt (p.getD n 0) (p.getD (n - 1) 0) with
    | true =>
      simp only [if_true]
      have hd1 : Dn lt p (n + 1) := hd.succ O h1 (O.asym _ _ hc)
      split
      · have hrd : Dn lt (kas_rev p (n - (q + 1)) n) (n + 1) := by
          refine (rev_alike O (by (first | lia | omega)) hd ha).succ O h1 ?_
          rw [rev_at (by (first | lia | omega)), rev_at (by (first | lia | omega)), if_pos (by (first | lia | omega)), if_neg (by (first | lia | omega))]
          exact hd1 _ _ (by (first | lia | omega)) (by (first | lia | omega))
        refine wpT_mono (fun r hr => ?_) _ (t_desc O f _ (n + 1) 0 (rev_isP hp _ _) (by (first | lia | omega)) (by (first | lia | omega)) hrd (one _ _))
        exact ⟨hr.1, by (first | lia | omega), by (first | lia | omega), hr.2.2.2⟩
      · refine wpT_mono (fun r hr => ?_) _ (t_desc O f _ (n + 1) 0 hp (by (first | lia | omega)) (by (first | lia | omega)) hd1 (one _ _))
        exact ⟨hr.1, by (first | lia | omega), by (first | lia | omega), hr.2.2.2⟩
    | false =>
      simp only [Bool.false_eq_true, if_false]
      refine ⟨hp.lt _ (by (first | lia | omega)), hp.lt _ (by (first | lia | omega)), ?_⟩
      cases hc2 : lt (p.getD (n - 1) 0) (p.getD n 0) with
      | true => exact ⟨hp, Nat.le_refl _, Nat.le_add_right _ _, hd, ha⟩
      | false =>
        have ha1 : Alike lt p (n + 1) (q + 1) := by
          intro a b h1' h2 h3 h4
          rcases Nat.lt_or_ge a n with han | han <;> rcases Nat.lt_or_ge b n with hbn | hbn
          · exact ha a b (by (first | lia | omega)) han (by (first | lia | omega)) hbn
          · have : b = n := by (first | lia | omega)
            subst this
            exact O.tr _ _ _ hc2 (ha a (b - 1) (by (first | lia | omega)) han (by (first | lia | omega)) (by (first | lia | omega)))
          · have : a = n := by (first | lia | omega)
            subst this
            exact O.tr _ _ _ (ha (a - 1) b (by (first | lia | omega)) (by (first | lia | omega)) (by (first | lia | omega)) hbn) hc
          · have h5 : a = n := by (first | lia | omega)
            have h6 : b = n := by (first | lia | omega)
            subst h5; subst h6; exact O.irr _
        refine wpT_mono (fun r hr => ?_) _ (t_desc O f p (n + 1) (q + 1) hp (by (first | lia | omega)) (by (first | lia | omega)) (hd.succ O h1 hc2) ha1)
        exact ⟨hr.1, by (first | lia | omega), by (first | lia | omega), hr.2.2.2⟩

theorem rev_up {p : Array Nat} {n : Nat} (hn : n ≤ p.size) (hd : Dn lt p n) : Up lt (kas_rev p 0 n) n := by
  intro a b hab hb
  rw [rev_at hn, rev_at hn, if_pos (by (first | lia | omega)), if_pos (by (first | lia | omega))]
  exact hd _ _ (by (first | lia | omega)) (by (first | lia | omega))

theorem t_tail3 (O : Ord lt) {n : Nat} {p : Array Nat} (hp : IsP N p) (h1 : 1 ≤ n) (hn : n ≤ N) (hd : Dn lt p n) :
    wpT lt N (kas_tail3 n N p) (fun r => IsP N r.2 ∧ 1 ≤ r.1 ∧ r.1 ≤ N ∧ Up lt r.2 r.1) := by
  refine wpT_bind _ (wpT_mono (fun m hm => ?_) _ (t_asc O (rev_isP hp 0 n) (N - n) n h1 (by (first | lia | omega)) (rev_up (by rw [hp.size]; exact hn) hd)))
  exact ⟨rev_isP hp _ _, by show 1 ≤ m; (first | lia | omega), by show m ≤ N; (first | lia | omega), hm.2.2.1⟩
theorem t_descPart (O : Ord lt) {n : Nat} {p : Array Nat} (hp : IsP N p) (h1 : 1 ≤ n) (hn : n < N) (hd : Dn lt p (n + 1)) :
    wpT lt N (kas_descPart n N p) (fun r => IsP N r.2 ∧ 1 ≤ r.1 ∧ r.1 ≤ N ∧ Up lt r.2 r.1) := by
  have one : Alike lt p (n + 1) 0 := by
    intro a b h1 h2 h3 h4
    have : a = b := by (first | lia | omega)
    subst this; exact O.irr _
  refine wpT_bind _ (wpT_mono (fun r hr => ?_) _ (t_desc O (N - (n + 1)) p (n + 1) 0 hp (by (first | lia | omega)) (by (first | lia | omega)) hd one))
  obtain ⟨a1, a2, a3, a4, a5⟩ := hr
  have hz := a1.size
  split
  · exact t_tail3 O (rev_isP a1 _ _) (by (first | lia | omega)) (by (first | lia | omega)) (rev_alike O (by (first | lia | omega)) a4 a5)
  · exact t_tail3 O a1 (by (first | lia | omega)) (by (first | lia | omega)) a4
theorem t_count (O : Ord lt) {p : Array Nat} (hp : IsP N p) (hN : 2 ≤ N) : wpT lt N (kas_count N p) (fun r => IsP N r.2 ∧ 1 ≤ r.1 ∧ r.1 ≤ N ∧ Up lt r.2 r.1) := by
  have hz := hp.size
  refine wpT_bind _ (wpT_mono (fun n hn => ?_) _ (t_asc O hp (N - 1) 1 (Nat.le_refl _) (by (first | lia | omega)) (fun a b h1 h2 => by (first | lia | omega))))
  obtain ⟨a1, a2, a3, a4⟩ := hn
  split
  · exact ⟨hp, a1, by (first | lia | omega), a3⟩
  · rename_i hne
    have hlt : n < N := by
      have : n ≠ N := by simpa using hne
      (first | lia | omega)
    have hlt' : lt (at_ p n) (at_ p (n - 1)) = true := a4.resolve_left (by (first | lia | omega))
    split
    · refine ⟨hp.lt _ (by (first | lia | omega)), hp.lt _ (by (first | lia | omega)), ?_⟩
      cases hc : lt (p.getD 0 0) (p.getD (n - 1) 0) with
      | true => exact ⟨hp, a1, by (first | lia | omega), a3⟩
      | false =>
        simp only [Bool.false_eq_true, if_false]
        -- all alike
        have le0 : ∀ b, b < n → lt (at_ p b) (at_ p 0) = false := fun b hb => by
          rcases Nat.eq_zero_or_pos b with rfl | h
          · exact O.irr _
          · exact a3 0 b h hb
        have leL : ∀ b, b < n → lt (at_ p (n - 1)) (at_ p b) = false := fun b hb => by
          rcases Nat.lt_or_ge b (n - 1) with h | h
          · exact a3 b (n - 1) h (by (first | lia | omega))
          · have : b = n - 1 := by (first | lia | omega)
            subst this; exact O.irr _
        have al : ∀ a b, a < n → b < n → lt (at_ p a) (at_ p b) = false := fun a b ha hb => O.tr _ _ _ (leL b hb) (O.tr _ _ _ hc (le0 a ha))
        refine t_descPart O (rev_isP hp _ _) (by (first | lia | omega)) hlt ?_
        refine Dn.succ O (fun a b hab hb => ?_) (by (first | lia | omega)) ?_
        · rw [rev_at (by (first | lia | omega)), rev_at (by (first | lia | omega)), if_pos (by (first | lia | omega)), if_pos (by (first | lia | omega))]
          exact al _ _ (by (first | lia | omega)) (by (first | lia | omega))
        · rw [rev_at (by (first | lia | omega)), rev_at (by (first | lia | omega)), if_pos (by (first | lia | omega)), if_neg (by (first | lia | omega))]
          exact O.tr _ _ _ (O.asym _ _ hlt') (al _ _ (by (first | lia | omega)) (by (first | lia | omega)))
    · have hn1 : n = 1 := by (first | lia | omega)
      subst hn1
      refine t_descPart O hp (Nat.le_refl _) hlt ?_
      exact Dn.succ O (fun a b h1 h2 => by (first | lia | omega)) (Nat.le_refl _) (O.asym _ _ hlt')

theorem t_place (O : Ord lt) {p : Array Nat} (hp : IsP N p) {k : Nat} (hk : k < N) (hu : Up lt p k) : ∀ (f l r : Nat), r - l ≤ f → l ≤ r → r ≤ k → (∀ a, a < l → lt (at_ p k) (at_ p a) = false) → (∀ a, r ≤ a → a < k → lt (at_ p k) (at_ p a) = true) →
    wpT lt N (kas_place p k f l r) (fun m => m ≤ k ∧ (∀ a, a < m → lt (at_ p k) (at_ p a) = false) ∧ ∀ a, m ≤ a → a < k → lt (at_ p k) (at_ p a) = true)
  | 0, l, r, hf, hlr, hrk, h1, h2 => by
    have : l = r := by (first | lia | omega)
    subst this
    exact ⟨hrk, h1, h2⟩
  | f + 1, l, r, hf, hlr, hrk, h1, h2 => by
    unfold kas_place
    split
    · have : l = r := by (first | lia | omega)
      subst this
      exact ⟨hrk, h1, h2⟩
    · rename_i hlt
      refine ⟨hp.lt _ hk, hp.lt _ (by (first | lia | omega)), ?_⟩
      cases hc : lt (p.getD k 0) (p.getD ((l + r) / 2) 0) with
      | true =>
        refine t_place O hp hk hu f l ((l + r) / 2) (by (first | lia | omega)) (by (first | lia | omega)) (by (first | lia | omega)) h1 fun a ha hak => ?_
        rcases Nat.lt_or_ge ((l + r) / 2) a with h | h
        · cases hx : lt (at_ p k) (at_ p a) with
          | true => rfl
          | false =>
            have := O.tr _ _ _ (hu ((l + r) / 2) a h hak) hx
            rw [show lt (at_ p k) (at_ p ((l + r) / 2)) = true from hc] at this; cases this
        · have : a = (l + r) / 2 := by (first | lia | omega)
          subst this; exact hc
      | false =>
        refine t_place O hp hk hu f ((l + r) / 2 + 1) r (by (first | lia | omega)) (by (first | lia | omega)) hrk (fun a ha => ?_) h2
        rcases Nat.lt_or_ge a ((l + r) / 2) with h | h
        · exact O.tr _ _ _ (hu a ((l + r) / 2) h (by (first | lia | omega))) hc
        · have : a = (l + r) / 2 := by (first | lia | omega)
          subst this; exact hc

theorem bub_at {p : Array Nat} {k d : Nat} (hk : k < p.size) (hd : d ≤ k) (i : Nat) : at_ (bubble p k d) i = if i = k - d then at_ p k else if k - d < i ∧ i ≤ k then at_ p (i - 1) else at_ p i := by
  rw [at_eq, getElem?_bubble hk d hd, show at_ p k = p[k]?.getD 0 from at_eq, show at_ p (i - 1) = p[i - 1]?.getD 0 from at_eq, show at_ p i = p[i]?.getD 0 from at_eq]
  split
  · rfl
  · split <;> rfl
theorem t_bin (O : Ord lt) : ∀ (f : Nat) (p : Array Nat) (k : Nat), IsP N p → k + f = N → Up lt p k → wpT lt N (kas_bin f p k) (fun r => IsP N r ∧ Up lt r N)
  | 0, p, k, hp, hk, hu => ⟨hp, by rw [← hk]; exact hu⟩
  | f + 1, p, k, hp, hk, hu => by
    have hz := hp.size
    refine wpT_bind _ (wpT_mono (fun l hl => ?_) _ (t_place O hp (by (first | lia | omega)) hu k 0 k (by (first | lia | omega)) (Nat.zero_le _) (Nat.le_refl _) (fun a ha => by (first | lia | omega)) fun a ha hb => by (first | lia | omega)))
    obtain ⟨l1, l2, l3⟩ := hl
    refine t_bin O f _ (k + 1) ((bubble_perm _ _ _).trans hp) (by (first | lia | omega)) ?_
    intro a b hab hb
    have e : k - (k - l) = l := by (first | lia | omega)
    rw [bub_at (by (first | lia | omega)) (by (first | lia | omega)), bub_at (by (first | lia | omega)) (by (first | lia | omega)), e]
    rcases Nat.lt_trichotomy b l with hbl | hbl | hbl <;> rcases Nat.lt_trichotomy a l with hal | hal | hal
    · rw [if_neg (by (first | lia | omega)), if_neg (by (first | lia | omega)), if_neg (by (first | lia | omega)), if_neg (by (first | lia | omega))]; exact hu _ _ hab (by (first | lia | omega))
    · (first | lia | omega)
    · (first | lia | omega)
    · rw [if_pos hbl, if_neg (by (first | lia | omega)), if_neg (by (first | lia | omega))]; exact l2 a hal
    · (first | lia | omega)
    · (first | lia | omega)
    · rw [if_neg (by (first | lia | omega)), if_pos (by (first | lia | omega)), if_neg (by (first | lia | omega)), if_neg (by (first | lia | omega))]; exact hu _ _ (by (first | lia | omega)) (by (first | lia | omega))
    · rw [if_neg (by (first | lia | omega)), if_pos (by (first | lia | omega)), if_pos hal]; exact O.asym _ _ (l3 _ (by (first | lia | omega)) (by (first | lia | omega)))
    · rw [if_neg (by (first | lia | omega)), if_pos (by (first | lia | omega)), if_neg (by (first | lia | omega)), if_pos (by (first | lia | omega))]; exact hu _ _ (by (first | lia | omega)) (by (first | lia | omega))

theorem t_sort (O : Ord lt) (hN : 2 ≤ N) : wpT lt N (kas_sort N) (fun p => IsP N p ∧ Up lt p N) := by
  refine wpT_bind _ (wpT_mono (fun r hr => ?_) _ (t_count O (Array.Perm.refl _) hN))
  obtain ⟨a1, a2, a3, a4⟩ := hr
  split
  · have e : max r.1 1 = r.1 := by (first | lia | omega)
    rw [e]
    exact t_bin O _ _ _ a1 (by (first | lia | omega)) a4
  · have : r.1 = N := by (first | lia | omega)
    exact ⟨a1, by rw [← this]; exact a4⟩
end
end Mine
end
section
open PySem PySem.W PySem.Calls PyProof.Rows
set_option Elab.async false
set_option maxRecDepth 100000
set_option linter.unusedVariables false
namespace Mine

theorem updF_of {d : Addr} {o : Obj} : ∀ (pre : List (Addr × Obj)) {post : List (Addr × Obj)}, (∀ p ∈ pre, p.1 ≠ d) → (∀ p ∈ post, p.1 ≠ d) → UpdF d o (pre ++ (d, o) :: post) (fun o' => pre ++ (d, o') :: post)
  | [], post, _, h2 => .head h2
  | p :: pre, post, h1, h2 => .tail (h1 p (by simp)) (updF_of pre (fun q hq => h1 q (by simp [hq])) h2)

/-- as h, but for the frame's object at L, whose names stand -/
structure Bt (L : Addr) (m : Str → Option Value) (h h' : Heap) : Prop where
  ns : h'.Ns L m
  keep : ∀ b o, b ≠ L → h.get? b = some o → h'.get? b = some o
theorem Bt.stay {L : Addr} {m : Str → Option Value} {h h' h'' : Heap} (x : Bt L m h h') (S : Stay h' h'') : Bt L m h h'' := ⟨x.ns.keeps S, fun b o n e => S _ _ (x.keep b o n e)⟩

section
variable {prog : Program} {w : World} {A : Around} {E : Value → Shared → Prop} {s : Shared} {h : Heap} {tk : Nat} {L : Addr} {m : Str → Option Value}

/-- one object turned, all else but L as it stood -/
theorem upd_all {a : Addr} {o : Obj} (e : h.get? a = some o) (hn : a ≠ L) : ∃ g, UpdF a o (allN h L) g ∧ ∀ h' o', News e0 L h' (g o') → h'.get? a = some o' ∧ ∀ b ob, b ≠ a → b ≠ L → h.get? b = some ob → h'.get? b = some ob := by
  obtain ⟨pre, post, hsp, p1, p2⟩ := allN_split e hn
  refine ⟨_, hsp ▸ updF_of pre p1 p2, fun h' o' N => ⟨(N (a, o') (by simp)).1, fun b ob hb hL eb => ?_⟩⟩
  have hm : (b, ob) ∈ pre ++ (a, o) :: post := hsp ▸ mem_allN.mpr ⟨eb, hL⟩
  rw [List.mem_append, List.mem_cons] at hm
  rcases hm with q | q | q
  · exact (N (b, ob) (by simp [q])).1
  · cases q; exact absurd rfl hb
  · exact (N (b, ob) (by simp [q])).1

structure SInv (h : Heap) (L : Addr) (m : Str → Option Value) (kS D : Addr) (e1 : Nat) (Key : Nat → Value → Heap → Prop) (ks : List Value) (e : Nat) (h' : Heap) : Prop where
  bt : Bt L m h h'
  kl : h'.get? kS = some (seqObj "list" (List.toArray ks) e)
  dl : h'.get? D = some (seqObj "list" #[] e1)
  key : ∀ i k, ks[i]? = some k → Key i k (hideAll h' [kS, D, L])
theorem SInv.stay {kS D : Addr} {e1 : Nat} {Key : Nat → Value → Heap → Prop} {ks : List Value} {e : Nat} {h' h'' : Heap} (hm : ∀ i k g g', Key i k g → Stay g g' → Key i k g') (x : SInv h L m kS D e1 Key ks e h') (S : Stay h' h'') : SInv h L m kS D e1 Key ks e h'' :=
  ⟨x.bt.stay S, S _ _ x.kl, S _ _ x.dl, fun i k hk => hm _ _ _ _ (x.key i k hk) fun b o q => hideAll_get _ (S _ _ (of_hideAll _ q)) fun z => by rw [hideAll_none _ z] at q; cases q⟩

theorem wp_sorted {l : Addr} {f : Value} {vs : List Value} {Key : Nat → Value → Heap → Prop} {lt : Nat → Nat → Bool} {κ : SortKind} {kw : List (Str × Value)} {P : Array Nat → Prop} {Q : Value → Shared → Prop}
    (ns : h.Ns L m) (hl : h.IsList l vs.toArray) (h2 : 2 ≤ vs.length) (h64 : vs.length < 64)
    (ha1 : argsOk "sorted" ⟨[.ref l], kw⟩) (ha2 : ∀ x, argsOk "list.sort" ⟨[.ref x], kw⟩) (ht : ∀ x, Builtin.«list.sort» ⟨[.ref x], kw⟩ = ksk_tree x f false)
    (hm : ∀ i k g g', Key i k g → Stay g g' → Key i k g')
    (hkey : ∀ i v h' Z, vs[i]? = some v → Bt L m h h' → (∀ z ∈ Z, ∃ o, h'.get? z = some o) → Gives prog w A.in1.in1 (call f [v]) s h' (fun k h'' => Key i k (hideAll h'' Z)))
    (hkind : ∀ (ks : List Value) h' tk' Q, ks.length = vs.length → Bt L m h h' → (∀ i k, ks[i]? = some k → Key i k h') → Q κ (st s h' tk') → wpAny (model prog w) A.in1.in1 (keyKind' (List.toArray ks)) Q (fun _ _ => False) (st s h' tk'))
    (hlt : ∀ i j ki kj h' tk' Q, i < vs.length → j < vs.length → Bt L m h h' → Key i ki h' → Key j kj h' → (∀ h'' tk'', Stay h' h'' → Q (lt i j) (st s h'' tk'')) → wpAny (model prog w) A.in1.in1 (keyLt' κ ki kj) Q (fun _ _ => False) (st s h' tk'))
    (hT : wpT lt vs.length (kas_sort vs.length) P)
    (k : ∀ D h' tk' p, P p → h.get? D = none → D ≠ L → h'.PlainList D (List.toArray (p.toList.map fun i => vs.getD i Value.none)) → Bt L m h h' → Q (.ref D) (st s h' tk')) :
    wpAny (model prog w) A (call (.builtin "sorted") [.ref l] kw) Q E (st s h tk) := by
  refine kat_sortedK (s := st s h tk) (b := false) (f := f) (fr0 ns) (news0 h L) hl h2 h64 ha1 ha2 ht fun D kS e1 h₁ F₁ N₁ hDk hD => ?_
  have nk := N₁ (kS, seqObj "list" #[] 0) (by simp)
  have nd := N₁ (D, seqObj "list" #[] e1) (by simp)
  have hkL : kS ≠ L := nk.2.1
  have hDL : D ≠ L := nd.2.1
  have hkD : kS ≠ D := Nat.ne_of_gt hDk
  have fD : h.get? D = none := by
    cases e : h.get? D with
    | none => rfl
    | some o => have := hD (D, o) (mem_allN.mpr ⟨e, hDL⟩); exact absurd this (Nat.lt_irrefl _)
  have fk : h.get? kS = none := by
    cases e : h.get? kS with
    | none => rfl
    | some o => have := hD (kS, o) (mem_allN.mpr ⟨e, hkL⟩); exact absurd (Nat.lt_trans this hDk) (Nat.lt_irrefl _)
  have I₁ : SInv h L m kS D e1 Key [] 0 h₁ := ⟨⟨F₁.ns, fun b o n e => (N₁ (b, o) (by simp [mem_allN.mpr ⟨e, n⟩])).1⟩, nk.1, nd.1, fun i k hk => by simp at hk⟩
  have keys : ∀ (r ks : List Value) (e : Nat) (h' : Heap) (tk' : Nat), ks.length + r.length = vs.length → (∀ i v, r[i]? = some v → vs[ks.length + i]? = some v) → SInv h L m kS D e1 Key ks e h' →
      KatKeys prog w A.in1.in1 e0 L m kS f (fun ks e s' => wpAny (model prog w) A.in1.in1 (keyKind' (List.toArray ks)) (fun κ s'' => (kas_sort vs.length).kasWp (kas_ask prog w A.in1.in1 κ (katRev false ks)) (fun p s3 => KatFin e0 L m kS D ks e e1 (katRev false (p.toList.map fun i => (katRev false vs).getD i Value.none)) (fun s4 => Q (.ref D) s4) s3) s'') (fun _ _ => False) s') r ks e (st s h' tk') := by
    intro r
    induction r with
    | nil =>
      intro ks e h' tk' hlen hvs I
      refine KatKeys.nil ?_
      have hks : ks.length = vs.length := by simpa using hlen
      refine hkind ks h' tk' _ hks I.bt (fun i k hk => hm _ _ _ _ (I.key i k hk) fun b o q => of_hideAll _ q) ?_
      refine kasWp_of (lt := lt) (n := vs.length) (Inv := fun s' => ∃ h' tk', s' = st s h' tk' ∧ SInv h L m kS D e1 Key ks e h') ?hc (kas_sort vs.length) P hT ?hQ _ ⟨h', tk', rfl, I⟩
      case hc =>
        rintro i j C s' hi hj ⟨h₂, tk₂, rfl, I₂⟩ hC
        have gi : ∀ i, i < vs.length → ∃ k, (katRev false ks).getD i Value.none = k ∧ ks[i]? = some k := fun i hi => by
          have : i < ks.length := by (first | lia | omega)
          exact ⟨ks[i], by simp [katRev, this], by simp [this]⟩
        obtain ⟨ki, e1', e2⟩ := gi i hi
        obtain ⟨kj, e3, e4⟩ := gi j hj
        unfold kas_ask
        rw [e1', e3]
        have up : Stay (hideAll h₂ [kS, D, L]) h₂ := fun b o q => of_hideAll _ q
        exact hlt i j ki kj h₂ tk₂ _ hi hj I₂.bt (hm _ _ _ _ (I₂.key i ki e2) up) (hm _ _ _ _ (I₂.key j kj e4) up) fun h₃ tk₃ S₃ => hC _ ⟨h₃, tk₃, rfl, I₂.stay hm S₃⟩
      case hQ =>
        rintro p s' hp ⟨h₂, tk₂, rfl, I₂⟩
        obtain ⟨g, U, hg⟩ := upd_all (L := L) I₂.kl hkL
        refine KatFin.intro (fr0 I₂.bt.ns) (news0 h₂ L) U fun h₃ c F₃ N₃ => ?_
        obtain ⟨a1, a2⟩ := hg h₃ _ N₃
        have hd₃ := a2 D _ hkD.symm hDL I₂.dl
        obtain ⟨g', U', hg'⟩ := upd_all (L := L) hd₃ hDL
        refine KasFin.intro (fr0 F₃.ns) (news0 h₃ L) U' fun h₄ c' F₄ N₄ => ?_
        obtain ⟨b1, b2⟩ := hg' h₄ _ N₄
        refine k D h₄ tk₂ p hp fD hDL ⟨_, b1⟩ ⟨F₄.ns, fun b o n e => ?_⟩
        have nb1 : b ≠ kS := fun q => by rw [q, fk] at e; cases e
        have nb2 : b ≠ D := fun q => by rw [q, fD] at e; cases e
        exact b2 b o nb2 n (a2 b o nb1 n (I₂.bt.keep b o n e))
    | cons v r ih =>
      intro ks e h' tk' hlen hvs I
      refine KatKeys.cons ?_
      have hv : vs[ks.length]? = some v := by simpa using hvs 0 v rfl
      refine hkey ks.length v h' [kS, D, L] hv I.bt ?hz tk' _ _ fun kk h₂ tk₂ S₂ hkk => ?_
      case hz =>
        intro z hz
        simp at hz
        rcases hz with rfl | rfl | rfl
        · exact ⟨_, I.kl⟩
        · exact ⟨_, I.dl⟩
        · obtain ⟨o, es, ep, q, _⟩ := I.bt.ns; exact ⟨o, q⟩
      have I₂ := I.stay hm S₂
      obtain ⟨g, U, hg⟩ := upd_all (L := L) I₂.kl hkL
      refine KatBack.intro (fr0 I₂.bt.ns) (news0 h₂ L) U fun h₃ c F₃ N₃ => ?_
      obtain ⟨a1, a2⟩ := hg h₃ _ N₃
      have up : Stay (hideAll h₂ [kS, D, L]) (hideAll h₃ [kS, D, L]) := fun b o q => by
        have nb : b ∉ [kS, D, L] := fun z => by rw [hideAll_none _ z] at q; cases q
        simp at nb
        exact hideAll_get _ (a2 b o nb.1 nb.2.2 (of_hideAll _ q)) (by simp; exact nb)
      refine ih (ks ++ [kk]) c h₃ tk₂ (by simp at hlen ⊢; (first | lia | omega)) (fun i u hu => ?_) ⟨⟨F₃.ns, fun b o n e => ?_⟩, a1, a2 D _ hkD.symm hDL I₂.dl, fun i u hu => ?_⟩
      · have := hvs (i + 1) u (by simpa using hu)
        rw [List.length_append, List.length_singleton]
        rwa [show ks.length + 1 + i = ks.length + (i + 1) by (first | lia | omega)]
      · have nb1 : b ≠ kS := fun q => by rw [q, fk] at e; cases e
        exact a2 b o nb1 n (I₂.bt.keep b o n e)
      · rcases Nat.lt_trichotomy i ks.length with hi | hi | hi
        · rw [List.getElem?_append_left hi] at hu
          exact hm _ _ _ _ (I₂.key i u hu) up
        · subst hi
          simp at hu
          subst hu
          exact hm _ _ _ _ hkk up
        · have : (ks ++ [kk])[i]? = none := List.getElem?_eq_none (by simp; (first | lia | omega))
          rw [this] at hu; cases hu
  exact keys vs [] 0 h₁ tk (by simp) (fun i v hv => by simpa using hv) I₁
end
end Mine
end
section
open PySem PySem.W PySem.Calls PyProof.Rows Builtin Builtin.ObjectAttr
set_option Elab.async false
set_option maxRecDepth 100000
set_option linter.unusedVariables false
namespace Mine

section
variable {prog : Program} {w : World} {A : Around} {E : Value → Shared → Prop} {s : Shared} {h : Heap} {tk : Nat} {mg mb : Str → Option Value}
theorem if_bound {s : Shared} {x C f : Addr} {name : Str} {args : List Value} {Q : Option Value → Shared → Prop} (L0 : Looks (model prog w) s.heap (typeOf (.ref x)) (.ref C)) (L1 : Looks (model prog w) s.heap (typeLookup (.ref C) name) (some (.ref f)))
    (LB : Looks (model prog w) s.heap (bindSpecial (.ref f) (.ref x)) (.ref f, [.ref x])) (h : wpAny (model prog w) A (call (.ref f) (.ref x :: args)) (fun v => Q (some v)) E s) : wpAny (model prog w) A (callSpecialIfBound? (.ref x) name args) Q E s := by
  simp only [callSpecialIfBound?, bindSpecialIfBound?]
  refine wpAny_holding (wpAny_bind (wpAny_bind (wpAny_bind (L0.here (L1.here ?_)))))
  refine wpAny_bind (wpAny_askSetting (wpAny_ite ?_))
  have fin : wpAny (model prog w) A (call (.ref f) ([.ref x] ++ args) >>= fun v => pure (some v)) Q E s := wpAny_bind (wpAny_mono h (fun v s' h' => wpAny_pure h') fun _ _ h' => h')
  split
  · exact wpAny_bind (LB.here (wpAny_pure (by exact fin)))
  · exact wpAny_tryCatch (wpAny_bind (LB.here (wpAny_pure (by exact fin))))
set_option maxHeartbeats 2000000 in
theorem c_klt {C cc f x y : Addr} {nm a b : Value} {of : Obj} {fd : FuncData} {dd : Int} (R : Rm 3 A) (B : Bas mg mb h) (K : KCls h C cc nm) (hc : h.IsCell cc (some (.ref f))) (hf : h.get? f = some of) (hfd : of.data = .func fd)
    (Ix : KInst h x C a) (Iy : KInst h y C b) (ha : handedIn a = true) (hb : handedIn b = true)
    (hcmp : ∀ (A' : Around) h', Rm 1 A' → Stay h h' → Gives prog w A' (call (.ref f) [a, b]) s h' (fun v _ => ∃ t, v = .int dd t))
    {Q : Bool → Shared → Prop} (k : ∀ h' tk', Stay h h' → Q (decide (dd < 0)) (st s h' tk')) : wpAny (model prog w) A (keyLt' oneType' (.ref x) (.ref y)) Q E (st s h tk) := by
  obtain ⟨N, k0, k2, k3, md, tmd, v0, t1, t2, um, sl, f1, c1, u1, d1, f2, c2, u2, d2, f3, f4, f5, f6, sa, a1, a2, a3, a4, a5, a6, a7⟩ := K.ex
  obtain ⟨dx, od, hx, hdx⟩ := Ix
  obtain ⟨dy, oy, hy, hdy⟩ := Iy
  rw [keyLt'_oneType, oneLt'_eq]
  simp only [if_true]
  refine wpAny_bind (wpAny_cRoomFor R.units ?_)
  have L0 : Looks (model prog w) h (typeOf (.ref x)) (.ref C) := look_type hx rfl
  have L1 : Looks (model prog w) h (typeLookup (.ref C) "__lt__") (some (.ref f2)) := look_cls (y := some (.builtin "object.__lt__")) a1 a2 (by rw [typeLookup_type, builtinLookup_eq_fast]; kernel_rfl) rfl
  have LB : Looks (model prog w) h (bindSpecial (.ref f2) (.ref x)) (.ref f2, [.ref x]) := by
    unfold bindSpecial
    refine (look_type (v := .type "function") a6 rfl).andThen ?_
    rw [if_pos (by decide)]
    exact .now
  have body : Gives prog w A (call (.ref f2) [.ref x, .ref y]) s h (fun v _ => v = .bool (decide (dd < 0))) := by
    refine gives_fn R.room a6 rfl B.lim a7 rfl (fun tk => BindsTo.of_eq (binds := [("self", .ref x), ("other", .ref y)]) rfl) (kdef_cell 3 (by simp)) (by intro y hy; simp at hy; rcases hy with rfl | rfl <;> rfl) (fun L h₀ tk htk hns S₀ fL => ?_)
    have F : Fm h L _ h₀ := ⟨hns, S₀, fL⟩
    have R' : Rm 2 (A.deeper (callEnv (fnX (dName (kDef 3)) "cmp_to_key.<locals>.K.__lt__" (dArgs (kDef 3)) (dBody (kDef 3)) (dScope (kDef 3)) [("mycmp", cc)] .none .none d2 nm none (.ref c2) u2) L f2)) := R.deeper
    generalize hA' : A.deeper (callEnv (fnX (dName (kDef 3)) "cmp_to_key.<locals>.K.__lt__" (dArgs (kDef 3)) (dBody (kDef 3)) (dScope (kDef 3)) [("mycmp", cc)] .none .none d2 nm none (.ref c2) u2) L f2) = A' at *
    show wpAny _ _ (execs (dBody (kDef 3)) _) _ _ _
    refine r_ret ?_
    (((with_reducible refine wpAny_Compare1 ?_ ?mk); (case mk => with_unfolding_all rfl)))
    (with_reducible refine r_call ?_)
    refine nmF (hc.keeps F.keep) ?_ rfl rfl rfl (by decide) (by decide)
    refine r_cwF hfd (r_sp1 (Attribute_name ?_))
    (((with_reducible show wpAny _ _ (eval (Expr.Name _ _) _) _ _ _); refine nmL (by assumption) (by first | rfl | assumption) ?_))
    refine k_get (S₀ _ _ a1) (a2.keeps S₀) (S₀ _ _ a3) rfl rfl rfl (S₀ _ _ hx) ⟨_, S₀ _ _ hdx⟩ ha fun tk₁ => ?_
    refine r_sp1 (Attribute_name ?_)
    (((with_reducible show wpAny _ _ (eval (Expr.Name _ _) _) _ _ _); refine nmL (by assumption) (by first | rfl | assumption) ?_))
    refine k_get (S₀ _ _ a1) (a2.keeps S₀) (S₀ _ _ a3) rfl rfl rfl (S₀ _ _ hy) ⟨_, S₀ _ _ hdy⟩ hb fun tk₂ => ?_
    refine r_sp0 ⟨F.keep _ _ hf, ?_⟩
    refine hcmp A' h₀ (R'.less (by decide)) S₀ _ _ _ fun v h₁ tk₃ S₁ hv => ?_
    obtain ⟨t, rfl⟩ := hv
    (((with_reducible refine r_int ?_)))
    (with_reducible refine PyProof.Rows.lt_int ?_)
    exact ⟨_, _, rfl, S₀.trans S₁, rfl⟩
  refine wpAny_bind (if_bound (s := st s h tk) L0 L1 LB (body tk _ _ fun v h' tk' S' hv => ?_))
  subst hv
  show wpAny _ _ (truthOfDropped (.bool _)) _ _ _
  exact wpAny_truthy_bool (k h' tk' S')
end
end Mine
end
section
open PySem PySem.W PySem.Calls PyProof.Rows
set_option Elab.async false
set_option maxRecDepth 100000
set_option linter.unusedVariables false
namespace Mine

theorem Bt.ground {G h h' : Heap} {L : Addr} {m : Str → Option Value} (F : Fm G L m h) (x : Bt L m h h') : Stay G h' := fun b o e => x.keep b o (fun q => by rw [q, F.fresh] at e; cases e) (F.keep b o e)
theorem Bt.fm {G h h' : Heap} {L : Addr} {m : Str → Option Value} (F : Fm G L m h) (x : Bt L m h h') : Fm G L m h' := ⟨x.ns, x.ground F, F.fresh⟩

noncomputable def lenLt (xs : List Str) (i j : Nat) : Bool := decide ((xs.getD i "").length < (xs.getD j "").length)
theorem lenOrd (xs : List Str) : Ord (lenLt xs) where
  asym := fun i j h => by simp [lenLt] at *; (first | lia | omega)
  tr := fun i j k h1 h2 => by simp [lenLt] at *; (first | lia | omega)
noncomputable def sortL (xs : List Str) : List Str := (goT (lenLt xs) (kas_sort xs.length)).toList.map fun i => xs.getD i ""

theorem strs_get' {us : List Value} {xs : List Str} (x : StrsAre us xs) : ∀ {i : Nat} {v : Value}, us[i]? = some v → ∃ t, v = .str (xs.getD i "") t ∧ i < xs.length := by
  induction x with
  | nil => intro i v e; simp at e
  | cons z u _ ih =>
    intro i v e
    cases i with
    | zero => simp at e; subst e; exact ⟨u, rfl, by simp⟩
    | succ i => simp at e; obtain ⟨t, e1, e2⟩ := ih e; exact ⟨t, by simpa using e1, by simpa using e2⟩
theorem strs_pick {us : List Value} {xs : List Str} (x : StrsAre us xs) : ∀ (p : List Nat), (∀ i ∈ p, i < xs.length) → StrsAre (p.map fun i => us.getD i Value.none) (p.map fun i => xs.getD i "")
  | [], _ => .nil
  | i :: p, hp => by
    have hi := hp i (by simp)
    have hl : us.length = xs.length := x.len_eq
    have hu : us[i]? = some (us.getD i Value.none) := by simp [hl, hi]
    obtain ⟨t, e, _⟩ := strs_get' x hu
    rw [List.map_cons, List.map_cons, e]
    exact .cons _ t (strs_pick x p fun j hj => hp j (by simp [hj]))
theorem go_isP {lt : Nat → Nat → Bool} (O : Ord lt) {n : Nat} (hn : 2 ≤ n) : IsP n (goT lt (kas_sort n)) ∧ Up lt (goT lt (kas_sort n)) n := wpT_go _ (t_sort O hn)

section
variable {prog : Program} {w : World} {A : Around} {E : Value → Shared → Prop} {s : Shared} {G h : Heap} {tk : Nat} {mg mb m : Str → Option Value} {L : Addr}
theorem go_lt {lt : Nat → Nat → Bool} (O : Ord lt) {n : Nat} (hn : 2 ≤ n) : ∀ i ∈ (goT lt (kas_sort n)).toList, i < n := by
  intro i hi
  have := (Array.Perm.mem_iff (go_isP O hn).1).mp (by simpa using hi)
  simpa using this

theorem sort_K {l C cc f : Addr} {nm : Value} {xs : List Str} {us : List Value} {Q : Value → Shared → Prop} (F : Fm G L m h) (R : Rm 8 A) (B : Bas mg mb G) (K : KCls G C cc nm) (hc : G.IsCell cc (some (.ref f))) (X : LamAt G f lam3 []) (hlen : mg "len" = none)
    (hl : G.PlainList l (List.toArray us)) (hs : StrsAre us xs) (h2 : 2 ≤ xs.length) (h64 : xs.length < 64) (hz : ∀ i, (xs.getD i "").length ≤ 100000)
    (k : ∀ D h' tk' us', h.get? D = none → h'.PlainList D (List.toArray us') → StrsAre us' (sortL xs) → Bt L m h h' → Q (.ref D) (st s h' tk')) :
    wpAny (model prog w) A (call (.builtin "sorted") [.ref l] [("key", .ref C)]) Q E (st s h tk) := by
  have e : us.length = xs.length := hs.len_eq
  have R2 : Rm 6 A.in1.in1 := R.in1.in1
  refine wp_sorted (h := h) (L := L) (m := m) (f := .ref C) (vs := us) (Key := fun i kk g => ∃ x, kk = .ref x ∧ KInst g x C (us.getD i .none)) (lt := lenLt xs) (κ := oneType') (P := fun p => p = goT (lenLt xs) (kas_sort us.length))
    F.ns (plain_stay hl F.keep).isList (by (first | lia | omega)) (by (first | lia | omega)) (by unfold argsOk; kernel_rfl) (fun x => by unfold argsOk; kernel_rfl) (fun x => rfl) ?hm ?hkey ?hkind ?hlt ?hT ?k
  case hm => rintro i kk g g' ⟨x, e1, e2⟩ S; exact ⟨x, e1, e2.stay S⟩
  case hkey =>
    intro i v h' Z hv bt hZ
    have S := bt.ground F
    have ev : us.getD i .none = v := by simp [List.getD, hv]
    refine (c_knew (R2.less (by decide)) (B.stay S) (K.stay S)).mono fun b h'' S' hb => ?_
    obtain ⟨x, e1, e2⟩ := hb
    rw [ev]
    exact ⟨x, e1, e2 Z hZ⟩
  case hkind =>
    intro ks h' tk' Q hks bt hk q
    refine kas_kind (T := .ref C) (by (first | lia | omega)) (fun v hv => ?_) rfl (by simp) q
    obtain ⟨i, hi⟩ := List.getElem?_of_mem hv
    obtain ⟨x, rfl, dx, od, e1, e2⟩ := hk i v hi
    exact look_type (h := h') e1 rfl
  case hlt =>
    rintro i j ki kj h' tk' Q hi hj bt ⟨x, rfl, Ix⟩ ⟨y, rfl, Iy⟩ q
    have S := bt.ground F
    have gi : ∀ i, i < us.length → ∃ t, us.getD i .none = .str (xs.getD i "") t := fun i hi => by
      have hu : us[i]? = some (us.getD i Value.none) := by simp [hi]
      obtain ⟨t, e, _⟩ := strs_get' hs hu
      exact ⟨t, e⟩
    obtain ⟨ti, ei⟩ := gi i hi
    obtain ⟨tj, ej⟩ := gi j hj
    rw [ei] at Ix
    rw [ej] at Iy
    obtain ⟨pm, c, ctv, hfo, hcd⟩ := id (X.stay S)
    refine c_klt (dd := ((xs.getD i "").length : Int) - ((xs.getD j "").length : Int)) (R2.less (by decide)) (B.stay S) (K.stay S) (hc.keeps S) hfo rfl Ix Iy rfl rfl (fun A' h'' R' S' => ?_) fun h'' tk'' S' => ?_
    · exact c_lam3 R' ((B.stay S).stay S') ((X.stay S).stay S') hlen (hz i) (hz j)
    · have : decide (((xs.getD i "").length : Int) - ((xs.getD j "").length : Int) < 0) = lenLt xs i j := by
        unfold lenLt; congr 1; simp only [eq_iff_iff]; (first | lia | omega)
      rw [this]
      exact q h'' tk'' S'
  case hT => exact wpT_eq _ (t_sort (lenOrd xs) (by (first | lia | omega)))
  case k =>
    rintro D h' tk' p rfl fD hDL hp bt
    refine k D h' tk' _ fD hp ?_ bt
    rw [e]
    exact strs_pick hs _ (go_lt (lenOrd xs) h2)

theorem sort_I {l f : Addr} {xs : List Str} {us : List Value} {Q : Value → Shared → Prop} (F : Fm G L m h) (R : Rm 8 A) (B : Bas mg mb G) (X : LamAt G f lam4 []) (hlen : mg "len" = none)
    (hl : G.PlainList l (List.toArray us)) (hs : StrsAre us xs) (h2 : 2 ≤ xs.length) (h64 : xs.length < 64) (hz : ∀ i, (xs.getD i "").length ≤ 100000)
    (k : ∀ D h' tk' us', h.get? D = none → h'.PlainList D (List.toArray us') → StrsAre us' (sortL xs) → Bt L m h h' → Q (.ref D) (st s h' tk')) :
    wpAny (model prog w) A (call (.builtin "sorted") [.ref l] [("key", .ref f)]) Q E (st s h tk) := by
  have e : us.length = xs.length := hs.len_eq
  have R2 : Rm 6 A.in1.in1 := R.in1.in1
  refine wp_sorted (h := h) (L := L) (m := m) (f := .ref f) (vs := us) (Key := fun i kk g => ∃ t, kk = .int ((xs.getD i "").length : Int) t) (lt := lenLt xs) (κ := oneType') (P := fun p => p = goT (lenLt xs) (kas_sort us.length))
    F.ns (plain_stay hl F.keep).isList (by (first | lia | omega)) (by (first | lia | omega)) (by unfold argsOk; kernel_rfl) (fun x => by unfold argsOk; kernel_rfl) (fun x => rfl) ?hm ?hkey ?hkind ?hlt ?hT ?k
  case hm => rintro i kk g g' ⟨x, e1⟩ S; exact ⟨x, e1⟩
  case hkey =>
    intro i v h' Z hv bt hZ
    have S := bt.ground F
    obtain ⟨t, rfl, hi⟩ := strs_get' hs hv
    exact (c_lam4 (R2.less (by decide)) (B.stay S) (X.stay S) hlen (hz i)).mono fun b h'' S' hb => hb
  case hkind =>
    intro ks h' tk' Q hks bt hk q
    refine kas_kind (T := .type "int") (by (first | lia | omega)) (fun v hv => ?_) rfl (by simp) q
    obtain ⟨i, hi⟩ := List.getElem?_of_mem hv
    obtain ⟨t, rfl⟩ := hk i v hi
    exact Looks.of_pure rfl
  case hlt =>
    rintro i j ki kj h' tk' Q hi hj bt ⟨ti, rfl⟩ ⟨tj, rfl⟩ q
    refine kat_lt_int ?_
    have : decide (((xs.getD i "").length : Int) < ((xs.getD j "").length : Int)) = lenLt xs i j := by
      unfold lenLt; congr 1; simp only [eq_iff_iff]; (first | lia | omega)
    rw [this]
    exact q h' tk' (Stay.refl _)
  case hT => exact wpT_eq _ (t_sort (lenOrd xs) (by (first | lia | omega)))
  case k =>
    rintro D h' tk' p rfl fD hDL hp bt
    refine k D h' tk' _ fD hp ?_ bt
    rw [e]
    exact strs_pick hs _ (go_lt (lenOrd xs) h2)
end
end Mine
end
section
open PySem PySem.W PySem.Calls PyProof.Rows
set_option Elab.async false
set_option maxRecDepth 100000
set_option linter.unusedVariables false
namespace Mine

noncomputable def factI : Nat → Int
  | 0 => 1
  | n + 1 => factI n * ((n : Int) + 1)
theorem factI_small (n : Nat) (h : n ≤ 5) : 1 ≤ factI n ∧ factI n ≤ 120 := by
  have : n = 0 ∨ n = 1 ∨ n = 2 ∨ n = 3 ∨ n = 4 ∨ n = 5 := by (first | lia | omega)
  rcases this with rfl | rfl | rfl | rfl | rfl | rfl <;> decide
noncomputable def chI (c p : Int) : Int := if p < 0 ∨ p > c then 0 else (factI c.toNat).fdiv (factI p.toNat * factI (c - p).toNat)
noncomputable def waysI (n m p k : Int) : Int := chI m k * chI (n - m) (p - k) * factI p.toNat * factI (n - p).toNat
noncomputable def ordersI (m p a k : Int) : Int := waysI 4 m p k + a * (waysI 3 (m - 1) (p - 1) k - waysI 3 (m - 1) (p - 1) (k - 1))
theorem chI_small (c p : Int) (hc : c ≤ 5) : 0 ≤ chI c p ∧ chI c p ≤ 120 := by
  unfold chI
  split
  · decide
  · have h1 := factI_small c.toNat (by (first | lia | omega))
    have h2 := factI_small p.toNat (by (first | lia | omega))
    have h3 := factI_small (c - p).toNat (by (first | lia | omega))
    have h4 : 1 ≤ factI p.toNat * factI (c - p).toNat := by
      have := Int.mul_le_mul h2.1 h3.1 (by decide) (by (first | lia | omega))
      simpa using this
    rw [Int.fdiv_eq_ediv_of_nonneg _ (by (first | lia | omega))]
    exact ⟨Int.ediv_nonneg (by (first | lia | omega)) (by (first | lia | omega)), Int.le_trans (Int.ediv_le_self _ (by (first | lia | omega))) h1.2⟩

section
variable {prog : Program} {w : World} {A : Around} {s : Shared} {h : Heap} {mg mb : Str → Option Value}
set_option maxHeartbeats 2000000 in
theorem c_product {c : Int} {t : Tok} (R : Rm 2 A) (B : Bas mg mb h) (X : FnAt h 139 138 37 .none) (hran : mg "range" = none) (hc : -1000 ≤ c ∧ c ≤ 5) :
    Gives prog w A (call (.ref 139) [.int c t]) s h (fun v _ => ∃ t, v = .int (factI c.toNat) t) := by
  refine gives_def (binds := [("count", .int c t)]) (R.less (by decide)) B X (fun pm tk => BindsTo.of_eq rfl) (by decide +kernel) (by rfl) fun pm L h₀ tk htk F => ?_
  have R' : Rm 1 (A.deeper (callEnv (fnD 37 138 pm .none) L 139)) := R.deeper
  generalize hA' : A.deeper (callEnv (fnD 37 138 pm .none) L 139) = A' at *
  refine r_assign ?_
  (((with_reducible refine r_int ?_)))
  refine stL F fun h₁ tk₁ F₁ O₁ => ?_
  refine r_for ?_
  (with_reducible refine r_call ?_)
  refine nmB (B.stay F₁.keep) hran rfl ?_
  refine r_cwT (r_sp1 ?_)
  (((with_reducible refine r_int ?_)))
  refine r_sp1 ?_
  (with_reducible refine wpAny_BinOp ?_)
  (((with_reducible show wpAny _ _ (eval (Expr.Name _ _) _) _ _ _); refine nmL (by assumption) (by first | rfl | assumption) ?_))
  (((with_reducible refine r_int ?_)))
  (((with_reducible refine r_add ?_)))
  refine r_sp0 (r_range2 fun r h₂ t₂ u₂ v₂ tk₂ fr hr S₂ => ?_)
  have F₂ := F₁.stay S₂
  refine wpAny_pyIter_range (s := st s h₂ tk₂) hr (small_one (by (first | lia | omega)) (by (first | lia | omega)) (by (first | lia | omega)) (by (first | lia | omega))) ?_
  rw [rangeSize_one]
  generalize hn : (c - 1).toNat = n at *
  have e1 : (if (2 : Int) < c + 1 then c + 1 - 2 else 0) = ((n : Nat) : Int) - ((0 : Nat) : Int) := by split <;> (first | lia | omega)
  rw [e1]
  generalize hI : (st s h₂ tk₂).heap.objs.size = I at *
  have hIs : h₂.objs.size = I := hI
  have fI : h₂.get? I = none := Heap.get?_none_of_le (Nat.le_of_eq hI)
  have S₃ : Stay h₂ (h₂.push { cls := .type "range_iterator", data := .fields #[rawInt 2, rawInt (((n : Nat) : Int) - ((0 : Nat) : Int)), rawInt 1] }) := fun _ _ e => Heap.get?_push_of_some _ e
  have hst : IsRangeIter (h₂.push { cls := .type "range_iterator", data := .fields #[rawInt 2, rawInt (((n : Nat) : Int) - ((0 : Nat) : Int)), rawInt 1] }) I (2 + ((0 : Nat) : Int) * 1) ((n : Int) - ((0 : Nat) : Int)) 1 := by
    have := Heap.get?_push_size h₂ (o := { cls := .type "range_iterator", data := .fields #[rawInt 2, rawInt (((n : Nat) : Int) - ((0 : Nat) : Int)), rawInt 1] }) rfl
    rw [hIs] at this; exact this
  show ∃ N V, codeAny _ _ _ _ (st s (h₂.push { cls := .type "range_iterator", data := .fields #[rawInt 2, rawInt (((n : Nat) : Int) - ((0 : Nat) : Int)), rawInt 1] }) tk₂) ∧ _
  generalize (h₂.push { cls := .type "range_iterator", data := .fields #[rawInt 2, rawInt (((n : Nat) : Int) - ((0 : Nat) : Int)), rawInt 1] }) = h₃ at *
  have hLI : L ≠ I := fun q => by obtain ⟨o, es, ep, e, _⟩ := F₂.ns; rw [q, fI] at e; cases e
  have hGI : h.get? I = none := fresh_of F₂.keep fI
  have F₃ := F₂.stay S₃
  refine ⟨fun h' => ∃ m' u, Fm h L m' h' ∧ m' "total" = some (.int (factI c.toNat) u), fun _ _ => False, ?_, ?_, fun _ _ _ f => f.elim⟩
  · refine r_loop (turns_name (Walks.range R'.hd I 2 1 n))
      (fun j h' => ∃ m' u, Fm h L m' h' ∧ m' "total" = some (.int (factI (j + 1)) u)) _ _ ?hJ ?turn ?fin hst ⟨_, _, F₃, rfl⟩
    case hJ =>
      rintro j h₄ h₅ ⟨m', u, F', a1⟩ hk
      exact ⟨m', u, ⟨F'.ns.at' fun o e => hk _ o (by simpa using hLI) e, fun b o e => hk b o (fun q => by simp at q; rw [q, hGI] at e; cases e) (F'.keep b o e), F'.fresh⟩, a1⟩
    case fin =>
      rintro h₄ tk₄ ⟨m', u, F', a1⟩
      refine r_nil ⟨_, _, rfl, m', u, F', ?_⟩
      rw [a1]
      have : factI (n + 1) = factI c.toNat := by
        rcases Int.lt_or_le c 2 with h | h
        · have e1 : n + 1 = 1 := by (first | lia | omega)
          rw [e1]
          have : c.toNat = 0 ∨ c.toNat = 1 := by (first | lia | omega)
          rcases this with e | e <;> rw [e] <;> rfl
        · rw [show n + 1 = c.toNat by (first | lia | omega)]
      rw [this]
    case turn =>
      rintro j v h₄ tk₄ hj ⟨t', rfl⟩ hst₄ ⟨m', u, F', a1⟩
      refine r_name F' fun h₅ tk₅ F₅ O₅ => ?_
      refine r_aug ?_
      refine ldL F₅ a1 ?_
      (((with_reducible show wpAny _ _ (eval (Expr.Name _ _) _) _ _ _); refine nmL (by assumption) (by first | rfl | assumption) ?_))
      refine PyProof.Rows.imul_int (s := st s h₅ tk₅) ?_ (IntMulOk.of_right (intBits_le_64 (by (first | lia | omega)) (by (first | lia | omega))))
      refine stL (s := s) (tk := tk₅ + 1) F₅ fun h₆ tk₆ F₆ O₆ => ?_
      refine r_nil ⟨h₆, tk₆, rfl, ?_, _, tk₅, F₆, ?_⟩
      · intro b hb o e
        simp at hb
        subst hb
        exact O₆ _ _ (Ne.symm hLI) (O₅ _ _ (Ne.symm hLI) e)
      · have : factI (j + 1 + 1) = factI (j + 1) * (2 + (j : Int) * 1) := by
          show factI (j + 1) * (((j + 1 : Nat) : Int) + 1) = _
          congr 1; push_cast; (first | lia | omega)
        rw [this]; rfl
  · rintro h₄ tk₄ ⟨m', u, F', a1⟩
    refine r_ret ?_
    refine nmL F' a1 ?_
    exact ⟨_, _, rfl, F'.keep, _, rfl⟩

set_option maxHeartbeats 2000000 in
theorem c_choices {c p : Int} {t u : Tok} (R : Rm 3 A) (B : Bas mg mb h) (X : FnAt h 146 145 38 .none) (X1 : FnAt h 139 138 37 .none) (hp1 : mg "_law_product" = some (.ref 139)) (hran : mg "range" = none) (hc : -100 ≤ c ∧ c ≤ 5) (hp : -100 ≤ p ∧ p ≤ 100) :
    Gives prog w A (call (.ref 146) [.int c t, .int p u]) s h (fun v _ => ∃ t, v = .int (chI c p) t) := by
  refine gives_def (binds := [("count", .int c t), ("part", .int p u)]) (R.less (by decide)) B X (fun pm tk => BindsTo.of_eq rfl) (by decide +kernel) (by rfl) fun pm L h₀ tk htk F => ?_
  have R' : Rm 2 (A.deeper (callEnv (fnD 38 145 pm .none) L 146)) := R.deeper
  generalize hA' : A.deeper (callEnv (fnD 38 145 pm .none) L 146) = A' at *
  have B₀ := B.stay F.keep
  have X1₀ := X1.stay F.keep
  refine r_if ?_
  repeat' (first | with_reducible refine r_ret ?_ | with_reducible refine r_nil ?_ | with_reducible refine then_next ?_ | with_reducible refine then_ret ?_ | with_reducible refine r_call ?_ | with_reducible refine wpAny_BinOp ?_ | ((with_reducible refine wpAny_isTrue_Compare1 ?_ ?mk); (case mk => with_unfolding_all rfl)) | with_reducible refine wpAny_isTrue_BoolOp ?_ | with_reducible refine wpAny_allTrue_Or_cons ?_ | with_reducible refine wpAny_allTrue_Or_nil ?_ | ((with_reducible refine r_int ?_)) | ((with_reducible show wpAny _ _ (eval (Expr.Name _ _) _) _ _ _); refine nmL (by assumption) (by first | rfl | assumption) ?_) | with_reducible refine PyProof.Rows.lt_int ?_ | with_reducible refine PyProof.Rows.gt_int ?_ | with_reducible refine wpAny_truthy_bool ?_ | ((with_reducible refine r_split ?_ ?_) <;> intro _))
  all_goals try exact absurd rfl (show ¬ (true = true) by assumption)
  all_goals try exact absurd (show false = true by assumption) Bool.false_ne_true
  · rename_i hq _
    refine ⟨_, _, rfl, F.keep, _, congrArg (Value.int · _) ?_⟩
    unfold chI
    rw [if_pos (by left; simpa using hq)]
  · rename_i hq _
    refine ⟨_, _, rfl, F.keep, _, congrArg (Value.int · _) ?_⟩
    unfold chI
    rw [if_pos (by right; simpa using hq)]
  · rename_i hc1 hc2 _
    have h1 : ¬ p < 0 := by simpa using hc1
    have h2 : ¬ p > c := by simpa using hc2
    refine nmG B₀ hp1 ?_
    refine r_cwD X1₀ (r_sp1 ?_)
    (((with_reducible show wpAny _ _ (eval (Expr.Name _ _) _) _ _ _); refine nmL (by assumption) (by first | rfl | assumption) ?_))
    refine r_sp0 ⟨Stay.refl _, ?_⟩
    refine (c_product R' B₀ X1₀ hran ⟨by (first | lia | omega), by (first | lia | omega)⟩) _ _ _ fun v h₁ tk₁ S₁ hv => ?_
    obtain ⟨t₁, rfl⟩ := hv
    have F₁ := F.stay S₁
    have B₁ := B₀.stay S₁
    have X1₁ := X1₀.stay S₁
    (with_reducible refine wpAny_BinOp ?_)
    (with_reducible refine r_call ?_)
    refine nmG B₁ hp1 ?_
    refine r_cwD X1₁ (r_sp1 ?_)
    (((with_reducible show wpAny _ _ (eval (Expr.Name _ _) _) _ _ _); refine nmL (by assumption) (by first | rfl | assumption) ?_))
    refine r_sp0 ⟨Stay.refl _, ?_⟩
    refine (c_product R' B₁ X1₁ hran ⟨by (first | lia | omega), by (first | lia | omega)⟩) _ _ _ fun v h₂ tk₂ S₂ hv => ?_
    obtain ⟨t₂, rfl⟩ := hv
    have F₂ := F₁.stay S₂
    have B₂ := B₁.stay S₂
    have X1₂ := X1₁.stay S₂
    (with_reducible refine r_call ?_)
    refine nmG B₂ hp1 ?_
    refine r_cwD X1₂ (r_sp1 ?_)
    (with_reducible refine wpAny_BinOp ?_)
    (((with_reducible show wpAny _ _ (eval (Expr.Name _ _) _) _ _ _); refine nmL (by assumption) (by first | rfl | assumption) ?_))
    (((with_reducible show wpAny _ _ (eval (Expr.Name _ _) _) _ _ _); refine nmL (by assumption) (by first | rfl | assumption) ?_))
    (((with_reducible refine r_sub ?_)))
    refine r_sp0 ⟨Stay.refl _, ?_⟩
    refine (c_product R' B₂ X1₂ hran ⟨by (first | lia | omega), by (first | lia | omega)⟩) _ _ _ fun v h₃ tk₃ S₃ hv => ?_
    obtain ⟨t₃, rfl⟩ := hv
    have F₃ := F₂.stay S₃
    have b1 := factI_small c.toNat (by (first | lia | omega))
    have b2 := factI_small p.toNat (by (first | lia | omega))
    have b3 := factI_small (c - p).toNat (by (first | lia | omega))
    refine r_mul (intBits_le_64 (by (first | lia | omega)) (by (first | lia | omega))) ?_
    have b4 : 1 ≤ factI p.toNat * factI (c - p).toNat := by
      have := Int.mul_le_mul b2.1 b3.1 (by decide) (by (first | lia | omega))
      simpa using this
    have b5 : factI p.toNat * factI (c - p).toNat ≤ 120 * 120 := Int.mul_le_mul b2.2 b3.2 (by (first | lia | omega)) (by decide)
    refine r_fdiv (by (first | lia | omega)) (by (first | lia | omega)) ?_
    refine ⟨_, _, rfl, F₃.keep, _, congrArg (Value.int · _) ?_⟩
    unfold chI
    rw [if_neg (by simp only [not_or]; exact ⟨h1, h2⟩)]

set_option maxHeartbeats 2000000 in
theorem c_ways {n m p k : Int} {t1 t2 t3 t4 : Tok} (R : Rm 4 A) (B : Bas mg mb h) (X : FnAt h 153 152 39 .none) (X2 : FnAt h 146 145 38 .none) (X1 : FnAt h 139 138 37 .none) (hp1 : mg "_law_product" = some (.ref 139)) (hp2 : mg "_law_choices" = some (.ref 146)) (hran : mg "range" = none)
    (hn : -50 ≤ n ∧ n ≤ 5) (hm : -50 ≤ m ∧ m ≤ 5) (hp : -50 ≤ p ∧ p ≤ 5) (hk : -50 ≤ k ∧ k ≤ 5) (hnm : n - m ≤ 5) (hnp : n - p ≤ 5) :
    Gives prog w A (call (.ref 153) [.int n t1, .int m t2, .int p t3, .int k t4]) s h (fun v _ => ∃ t, v = .int (waysI n m p k) t) := by
  refine gives_def (binds := [("count", .int n t1), ("middles", .int m t2), ("plains", .int p t3), ("saved", .int k t4)]) (R.less (by decide)) B X (fun pm tk => BindsTo.of_eq rfl) (by decide +kernel) (by rfl) fun pm L h₀ tk htk F => ?_
  have R' : Rm 3 (A.deeper (callEnv (fnD 39 152 pm .none) L 153)) := R.deeper
  generalize hA' : A.deeper (callEnv (fnD 39 152 pm .none) L 153) = A' at *
  have B₀ := B.stay F.keep
  refine r_assign ?_
  (with_reducible refine wpAny_BinOp ?_)
  (with_reducible refine r_call ?_)
  refine nmG B₀ hp2 ?_
  refine r_cwD (X2.stay F.keep) (r_sp1 ?_)
  (((with_reducible show wpAny _ _ (eval (Expr.Name _ _) _) _ _ _); refine nmL (by assumption) (by first | rfl | assumption) ?_))
  refine r_sp1 ?_
  (((with_reducible show wpAny _ _ (eval (Expr.Name _ _) _) _ _ _); refine nmL (by assumption) (by first | rfl | assumption) ?_))
  refine r_sp0 ⟨Stay.refl _, ?_⟩
  refine (c_choices R' B₀ (X2.stay F.keep) (X1.stay F.keep) hp1 hran ⟨by (first | lia | omega), by (first | lia | omega)⟩ ⟨by (first | lia | omega), by (first | lia | omega)⟩) _ _ _ fun v h₁ tk₁ S₁ hv => ?_
  obtain ⟨u₁, rfl⟩ := hv
  have F₁ := F.stay S₁
  (with_reducible refine r_call ?_)
  refine nmG (B.stay F₁.keep) hp2 ?_
  refine r_cwD (X2.stay F₁.keep) (r_sp1 ?_)
  (with_reducible refine wpAny_BinOp ?_)
  (((with_reducible show wpAny _ _ (eval (Expr.Name _ _) _) _ _ _); refine nmL (by assumption) (by first | rfl | assumption) ?_))
  (((with_reducible show wpAny _ _ (eval (Expr.Name _ _) _) _ _ _); refine nmL (by assumption) (by first | rfl | assumption) ?_))
  (((with_reducible refine r_sub ?_)))
  refine r_sp1 ?_
  (with_reducible refine wpAny_BinOp ?_)
  (((with_reducible show wpAny _ _ (eval (Expr.Name _ _) _) _ _ _); refine nmL (by assumption) (by first | rfl | assumption) ?_))
  (((with_reducible show wpAny _ _ (eval (Expr.Name _ _) _) _ _ _); refine nmL (by assumption) (by first | rfl | assumption) ?_))
  (((with_reducible refine r_sub ?_)))
  refine r_sp0 ⟨Stay.refl _, ?_⟩
  refine (c_choices R' (B.stay F₁.keep) (X2.stay F₁.keep) (X1.stay F₁.keep) hp1 hran ⟨by (first | lia | omega), by (first | lia | omega)⟩ ⟨by (first | lia | omega), by (first | lia | omega)⟩) _ _ _ fun v h₂ tk₂ S₂ hv => ?_
  obtain ⟨u₂, rfl⟩ := hv
  have F₂ := F₁.stay S₂
  have c2 := chI_small (n - m) (p - k) (by (first | lia | omega))
  refine r_mul (intBits_le_64 (by (first | lia | omega)) (by (first | lia | omega))) ?_
  refine stL F₂ fun h₃ tk₃ F₃ O₃ => ?_
  refine r_ret ?_
  (with_reducible refine wpAny_BinOp ?_)
  (with_reducible refine wpAny_BinOp ?_)
  (((with_reducible show wpAny _ _ (eval (Expr.Name _ _) _) _ _ _); refine nmL (by assumption) (by first | rfl | assumption) ?_))
  (with_reducible refine r_call ?_)
  refine nmG (B.stay F₃.keep) hp1 ?_
  refine r_cwD (X1.stay F₃.keep) (r_sp1 ?_)
  (((with_reducible show wpAny _ _ (eval (Expr.Name _ _) _) _ _ _); refine nmL (by assumption) (by first | rfl | assumption) ?_))
  refine r_sp0 ⟨Stay.refl _, ?_⟩
  refine (c_product (R'.less (by decide)) (B.stay F₃.keep) (X1.stay F₃.keep) hran ⟨by (first | lia | omega), by (first | lia | omega)⟩) _ _ _ fun v h₄ tk₄ S₄ hv => ?_
  obtain ⟨u₄, rfl⟩ := hv
  have F₄ := F₃.stay S₄
  have b2 := factI_small p.toNat (by (first | lia | omega))
  have b3 := factI_small (n - p).toNat (by (first | lia | omega))
  refine r_mul (intBits_le_64 (by (first | lia | omega)) (by (first | lia | omega))) ?_
  (with_reducible refine r_call ?_)
  refine nmG (B.stay F₄.keep) hp1 ?_
  refine r_cwD (X1.stay F₄.keep) (r_sp1 ?_)
  (with_reducible refine wpAny_BinOp ?_)
  (((with_reducible show wpAny _ _ (eval (Expr.Name _ _) _) _ _ _); refine nmL (by assumption) (by first | rfl | assumption) ?_))
  (((with_reducible show wpAny _ _ (eval (Expr.Name _ _) _) _ _ _); refine nmL (by assumption) (by first | rfl | assumption) ?_))
  (((with_reducible refine r_sub ?_)))
  refine r_sp0 ⟨Stay.refl _, ?_⟩
  refine (c_product (R'.less (by decide)) (B.stay F₄.keep) (X1.stay F₄.keep) hran ⟨by (first | lia | omega), by (first | lia | omega)⟩) _ _ _ fun v h₅ tk₅ S₅ hv => ?_
  obtain ⟨u₅, rfl⟩ := hv
  refine r_mul (intBits_le_64 (by (first | lia | omega)) (by (first | lia | omega))) ?_
  exact ⟨_, _, rfl, (F₄.stay S₅).keep, _, rfl⟩

theorem waysI_small {n m p k : Int} (hn : n ≤ 5) (hm : m ≤ 5) (hp : p ≤ 5) (hnm : n - m ≤ 5) (hnp : n - p ≤ 5) : 0 ≤ waysI n m p k ∧ waysI n m p k ≤ 120 * 120 * 120 * 120 := by
  have a := chI_small m k hm
  have b := chI_small (n - m) (p - k) hnm
  have c := factI_small p.toNat (by (first | lia | omega))
  have d := factI_small (n - p).toNat (by (first | lia | omega))
  unfold waysI
  have e1 : 0 ≤ chI m k * chI (n - m) (p - k) := Int.mul_nonneg a.1 b.1
  have e2 : 0 ≤ chI m k * chI (n - m) (p - k) * factI p.toNat := Int.mul_nonneg e1 (by (first | lia | omega))
  refine ⟨Int.mul_nonneg e2 (by (first | lia | omega)), ?_⟩
  have f1 : chI m k * chI (n - m) (p - k) ≤ 120 * 120 := Int.mul_le_mul a.2 b.2 b.1 (by decide)
  have f2 : chI m k * chI (n - m) (p - k) * factI p.toNat ≤ 120 * 120 * 120 := Int.mul_le_mul f1 c.2 (by (first | lia | omega)) (by decide)
  exact Int.mul_le_mul f2 d.2 (by (first | lia | omega)) (by decide)

set_option maxHeartbeats 2000000 in
theorem c_orders {m p a k : Int} {t1 t2 t3 t4 : Tok} (R : Rm 5 A) (B : Bas mg mb h) (X : FnAt h 160 159 40 .none) (X3 : FnAt h 153 152 39 .none) (X2 : FnAt h 146 145 38 .none) (X1 : FnAt h 139 138 37 .none) (hp1 : mg "_law_product" = some (.ref 139)) (hp2 : mg "_law_choices" = some (.ref 146)) (hp3 : mg "_law_ways" = some (.ref 153)) (hran : mg "range" = none)
    (hm : 0 ≤ m ∧ m ≤ 4) (hp : 0 ≤ p ∧ p ≤ 4) (hk : 0 ≤ k ∧ k ≤ 4) :
    Gives prog w A (call (.ref 160) [.int m t1, .int p t2, .int a t3, .int k t4]) s h (fun v _ => ∃ t, v = .int (ordersI m p a k) t) := by
  refine gives_def (binds := [("middles", .int m t1), ("plains", .int p t2), ("shared", .int a t3), ("saved", .int k t4)]) (R.less (by decide)) B X (fun pm tk => BindsTo.of_eq rfl) (by decide +kernel) (by rfl) fun pm L h₀ tk htk F => ?_
  have R' : Rm 4 (A.deeper (callEnv (fnD 40 159 pm .none) L 160)) := R.deeper
  generalize hA' : A.deeper (callEnv (fnD 40 159 pm .none) L 160) = A' at *
  refine r_assign ?_
  (with_reducible refine wpAny_BinOp ?_)
  (with_reducible refine r_call ?_)
  refine nmG (B.stay F.keep) hp3 ?_
  refine r_cwD (X3.stay F.keep) ?_
  repeat' (first | with_reducible refine r_sp0 ?_ | ((with_reducible refine r_sp1 ?_ ?sw); (case sw => rfl)) | with_reducible refine wpAny_BinOp ?_ | ((with_reducible refine r_int ?_)) | ((with_reducible show wpAny _ _ (eval (Expr.Name _ _) _) _ _ _); refine nmL (by assumption) (by first | rfl | assumption) ?_) | ((with_reducible refine r_sub ?_)))
  refine ⟨Stay.refl _, ?_⟩
  refine (c_ways R' (B.stay F.keep) (X3.stay F.keep) (X2.stay F.keep) (X1.stay F.keep) hp1 hp2 hran ⟨by (first | lia | omega), by (first | lia | omega)⟩ ⟨by (first | lia | omega), by (first | lia | omega)⟩ ⟨by (first | lia | omega), by (first | lia | omega)⟩ ⟨by (first | lia | omega), by (first | lia | omega)⟩ (by (first | lia | omega)) (by (first | lia | omega))) _ _ _ fun v h₁ tk₁ S₁ hv => ?_
  obtain ⟨u₁, rfl⟩ := hv
  have F₁ := F.stay S₁
  (with_reducible refine r_call ?_)
  refine nmG (B.stay F₁.keep) hp3 ?_
  refine r_cwD (X3.stay F₁.keep) ?_
  repeat' (first | with_reducible refine r_sp0 ?_ | ((with_reducible refine r_sp1 ?_ ?sw); (case sw => rfl)) | with_reducible refine wpAny_BinOp ?_ | ((with_reducible refine r_int ?_)) | ((with_reducible show wpAny _ _ (eval (Expr.Name _ _) _) _ _ _); refine nmL (by assumption) (by first | rfl | assumption) ?_) | ((with_reducible refine r_sub ?_)))
  refine ⟨Stay.refl _, ?_⟩
  refine (c_ways R' (B.stay F₁.keep) (X3.stay F₁.keep) (X2.stay F₁.keep) (X1.stay F₁.keep) hp1 hp2 hran ⟨by (first | lia | omega), by (first | lia | omega)⟩ ⟨by (first | lia | omega), by (first | lia | omega)⟩ ⟨by (first | lia | omega), by (first | lia | omega)⟩ ⟨by (first | lia | omega), by (first | lia | omega)⟩ (by (first | lia | omega)) (by (first | lia | omega))) _ _ _ fun v h₂ tk₂ S₂ hv => ?_
  obtain ⟨u₂, rfl⟩ := hv
  have F₂ := F₁.stay S₂
  (((with_reducible refine r_sub ?_)))
  refine stL F₂ fun h₃ tk₃ F₃ O₃ => ?_
  refine r_ret ?_
  (with_reducible refine wpAny_BinOp ?_)
  (with_reducible refine r_call ?_)
  refine nmG (B.stay F₃.keep) hp3 ?_
  refine r_cwD (X3.stay F₃.keep) ?_
  repeat' (first | with_reducible refine r_sp0 ?_ | ((with_reducible refine r_sp1 ?_ ?sw); (case sw => rfl)) | ((with_reducible refine r_int ?_)) | ((with_reducible show wpAny _ _ (eval (Expr.Name _ _) _) _ _ _); refine nmL (by assumption) (by first | rfl | assumption) ?_))
  refine ⟨Stay.refl _, ?_⟩
  refine (c_ways R' (B.stay F₃.keep) (X3.stay F₃.keep) (X2.stay F₃.keep) (X1.stay F₃.keep) hp1 hp2 hran ⟨by (first | lia | omega), by (first | lia | omega)⟩ ⟨by (first | lia | omega), by (first | lia | omega)⟩ ⟨by (first | lia | omega), by (first | lia | omega)⟩ ⟨by (first | lia | omega), by (first | lia | omega)⟩ (by (first | lia | omega)) (by (first | lia | omega))) _ _ _ fun v h₄ tk₄ S₄ hv => ?_
  obtain ⟨u₄, rfl⟩ := hv
  have F₄ := F₃.stay S₄
  have b1 := waysI_small (n := 3) (m := m - 1) (p := p - 1) (k := k) (by (first | lia | omega)) (by (first | lia | omega)) (by (first | lia | omega)) (by (first | lia | omega)) (by (first | lia | omega))
  have b2 := waysI_small (n := 3) (m := m - 1) (p := p - 1) (k := k - 1) (by (first | lia | omega)) (by (first | lia | omega)) (by (first | lia | omega)) (by (first | lia | omega)) (by (first | lia | omega))
  (with_reducible refine wpAny_BinOp ?_)
  (((with_reducible show wpAny _ _ (eval (Expr.Name _ _) _) _ _ _); refine nmL (by assumption) (by first | rfl | assumption) ?_))
  (((with_reducible show wpAny _ _ (eval (Expr.Name _ _) _) _ _ _); refine nmL (by assumption) (by first | rfl | assumption) ?_))
  refine r_mul (intBits_le_64 (by (first | lia | omega)) (by (first | lia | omega))) ?_
  (((with_reducible refine r_add ?_)))
  exact ⟨_, _, rfl, F₄.keep, _, rfl⟩
end
end Mine
end
section
open PySem PySem.W PySem.Calls PyProof.Rows
set_option Elab.async false
set_option maxRecDepth 100000
set_option linter.unusedVariables false
namespace Mine

noncomputable def IntsAt (h : Heap) (v : Value) (xs : List Int) : Prop := ∃ a us, v = .ref a ∧ h.PlainList a (List.toArray us) ∧ IntsAre us xs
theorem IntsAt.stay {G G' : Heap} {v : Value} {xs : List Int} (x : IntsAt G v xs) (S : Stay G G') : IntsAt G' v xs := let ⟨a, us, e, p, i⟩ := x; ⟨a, us, e, plain_stay p S, i⟩
theorem ints_get {us : List Value} {xs : List Int} (x : IntsAre us xs) : ∀ {i : Nat} {y : Int}, xs[i]? = some y → ∃ t, us[i]? = some (.int y t) := by
  induction x with
  | nil => intro i y e; simp at e
  | cons z u _ ih =>
    intro i y e
    cases i with
    | zero => simp at e; subst e; exact ⟨u, rfl⟩
    | succ i => simp at e; simpa using ih e
theorem ints_get' {us : List Value} {xs : List Int} (x : IntsAre us xs) : ∀ {i : Nat} {v : Value}, us[i]? = some v → ∃ t y, v = .int y t ∧ xs[i]? = some y := by
  induction x with
  | nil => intro i v e; simp at e
  | cons z u _ ih =>
    intro i v e
    cases i with
    | zero => simp at e; subst e; exact ⟨u, z, rfl, rfl⟩
    | succ i => simp at e; simpa using ih e

noncomputable def toldStep (modes : List Int) (bodies : List Str) (acc : Str × Bool) (p : Int) : Str × Bool :=
  ((if acc.2 = false ∧ (modes.getD p.toNat 0).fdiv 4096 = 8 then acc.1 ++ "." else acc.1) ++ bodies.getD p.toNat "", decide (((modes.getD p.toNat 0).fdiv 512).fmod 2 = 0))
noncomputable def toldF (modes : List Int) (bodies : List Str) (row : List Int) : Str := (row.foldl (toldStep modes bodies) ("", false)).1

theorem str_len_append (a b : Str) : (a ++ b).length = a.length + b.length := by
  show (a.cps ++ b.cps).size = a.cps.size + b.cps.size
  simp
theorem told_len (modes : List Int) (bodies : List Str) (hb : ∀ i, (bodies.getD i "").length ≤ 100) : ∀ (row : List Int) (acc : Str × Bool), (row.foldl (toldStep modes bodies) acc).1.length ≤ acc.1.length + row.length * 101
  | [], acc => by simp
  | p :: row, acc => by
    rw [List.foldl_cons]
    have := told_len modes bodies hb row (toldStep modes bodies acc p)
    have h2 : (toldStep modes bodies acc p).1.length ≤ acc.1.length + 101 := by
      have h3 := hb p.toNat
      have h4 : (if acc.2 = false ∧ (modes.getD p.toNat 0).fdiv 4096 = 8 then acc.1 ++ "." else acc.1).length ≤ acc.1.length + 1 := by
        split
        · rw [str_len_append]; exact Nat.le_refl _
        · (first | lia | omega)
      unfold toldStep
      rw [str_len_append]
      (first | lia | omega)
    rw [List.length_cons]
    (first | lia | omega)

section
variable {prog : Program} {w : World} {A : Around} {s : Shared} {h : Heap} {mg mb : Str → Option Value}
theorem r_bool {M : Model} {E : Value → Shared → Prop} {tk : Nat} {b : Bool} {c : Nat} {pos : Pos} {env : Env} {Q : Value → Shared → Prop} (k : Q (.bool b) (st s h tk)) : wpAny M A (eval (.Constant (.bool b) c pos) env) Q E (st s h tk) := wpAny_Constant_bool k

set_option maxHeartbeats 4000000 in
theorem c_told {ov mv bv : Value} {row modes : List Int} {bodies : List Str} (R : Rm 1 A) (B : Bas mg mb h) (X : FnAt h 132 131 36 .none)
    (ho : RowI h ov row) (hm : IntsAt h mv modes) (hb : StrsAt h bv bodies) (hr : ∀ p ∈ row, 0 ≤ p ∧ p.toNat < modes.length ∧ p.toNat < bodies.length) (hz : ∀ i, (bodies.getD i "").length ≤ 100) (hl : row.length ≤ 100) (hml : modes.length ≤ 100) :
    Gives prog w A (call (.ref 132) [ov, mv, bv]) s h (fun v _ => ∃ t, v = .str (toldF modes bodies row) t) := by
  refine gives_def (binds := [("order", ov), ("modes", mv), ("bodies", bv)]) R B X (fun pm tk => BindsTo.of_eq rfl) (by decide +kernel) (by rfl) fun pm L h₀ tk htk F => ?_
  have hd : (A.deeper (callEnv (fnD 36 131 pm .none) L 132)).handled = none := R.hd
  generalize hA' : A.deeper (callEnv (fnD 36 131 pm .none) L 132) = A' at *
  obtain ⟨oa, ou, rfl, hop, hoi⟩ := ho
  obtain ⟨ma, mu, rfl, hmp, hmi⟩ := hm
  obtain ⟨ba, bu, rfl, hbp, hbs⟩ := hb
  refine wpAny_execs_cons (Assign_Tuple ?_)
  refine r_tuple (r_sp1 (r_str (r_sp1 (r_bool (r_sp0 (r_newTuple (by simp) fun ta h₁ fta hta S₁ => ?_)))))) 
  refine r_unpack2 hd (F.stay S₁) hta fun h₂ tk₂ F₂ O₂ => ?_
  show wpAny _ _ (execs _ _) _ _ _
  refine r_for ?_
  (((with_reducible show wpAny _ _ (eval (Expr.Name _ _) _) _ _ _); refine nmL (by assumption) (by first | rfl | assumption) ?_))
  refine r_iterL (plain_stay hop F₂.keep).isList fun I h₃ fI hI S₃ hl₃ hne => ?_
  have F₃ := F₂.stay S₃
  have hLI : L ≠ I := fun q => by obtain ⟨o, es, ep, e, _⟩ := F₂.ns; rw [q, fI] at e; cases e
  have hGI : h.get? I = none := fresh_of F₂.keep fI
  have hlen' : ou.toArray.size = row.length := by rw [List.size_toArray]; exact hoi.length
  refine ⟨fun h' => ∃ m' t, Fm h L m' h' ∧ m' "text" = some (.str (toldF modes bodies row) t), fun _ _ => False, ?_, ?_, fun _ _ _ f => f.elim⟩
  · refine r_loop (turns_name (Walks.list hd I oa hne ou.toArray))
      (fun j h' => ∃ m' t, Fm h L m' h' ∧ m' "text" = some (.str ((row.take j).foldl (toldStep modes bodies) ("", false)).1 t) ∧ m' "begun" = some (.bool ((row.take j).foldl (toldStep modes bodies) ("", false)).2) ∧ m' "modes" = some (.ref ma) ∧ m' "bodies" = some (.ref ba)) _ _ ?hJ ?turn ?fin ⟨hI, hl₃⟩ ⟨_, _, F₃, rfl, rfl, rfl, rfl⟩
    case hJ =>
      rintro j h₄ h₅ ⟨m', u, F', a1, a2, a3, a4⟩ hk
      exact ⟨m', u, ⟨F'.ns.at' fun o e => hk _ o (by simpa using hLI) e, fun b o e => hk b o (fun q => by simp at q; rw [q, hGI] at e; cases e) (F'.keep b o e), F'.fresh⟩, a1, a2, a3, a4⟩
    case fin =>
      rintro h₄ tk₄ ⟨m', u, F', a1, a2, a3, a4⟩
      refine r_nil ⟨_, _, rfl, m', u, F', ?_⟩
      rw [a1, hlen', List.take_length]; rfl
    case turn =>
      rintro j v h₄ tk₄ hj hP hst₄ ⟨m', u, F', a1, a2, a3, a4⟩
      obtain ⟨tp, p, rfl, hp⟩ := ints_get' hoi (show ou[j]? = some v by simpa using hP)
      have hpr := hr p (List.mem_of_getElem? hp)
      generalize hacc : (row.take j).foldl (toldStep modes bodies) ("", false) = acc at *
      have hlen : acc.1.length ≤ 100 * 101 := by
        have := told_len modes bodies hz (row.take j) ("", false)
        rw [hacc] at this
        have h2 : (row.take j).length ≤ 100 := by simp; (first | lia | omega)
        have h3 : ((("", false) : Str × Bool).1).length = 0 := rfl
        rw [h3] at this
        (first | lia | omega)
      have hstep : (row.take (j + 1)).foldl (toldStep modes bodies) ("", false) = toldStep modes bodies acc p := by
        rw [List.take_add_one, hp, Option.toList_some, List.foldl_append, hacc]; rfl
      obtain ⟨mo, hmo⟩ : ∃ mo, modes[p.toNat]? = some mo := ⟨_, List.getElem?_eq_getElem hpr.2.1⟩
      obtain ⟨bo, hbo⟩ : ∃ bo, bodies[p.toNat]? = some bo := ⟨_, List.getElem?_eq_getElem hpr.2.2⟩
      have em : modes.getD p.toNat 0 = mo := by simp [List.getD, hmo]
      have eb : bodies.getD p.toNat "" = bo := by simp [List.getD, hbo]
      obtain ⟨tm, hmu⟩ := ints_get hmi hmo
      obtain ⟨tb, hbu⟩ := strs_get hbs hbo
      have hbz : bo.length ≤ 100 := eb ▸ hz p.toNat
      have hpi : p = ((p.toNat : Nat) : Int) := by (first | lia | omega)
      refine r_name F' fun h₅ tk₅ F₅ O₅ => ?_
      have hm₅ := (plain_stay hmp F₅.keep).isList
      have hb₅ := (plain_stay hbp F₅.keep).isList
      have rest : ∀ (h₆ : Heap) (tk₆ : Nat) (m₆ : Str → Option Value) (T : Str) (t₆ : Tok), Fm h L m₆ h₆ → Off L h₅ h₆ → m₆ "text" = some (.str T t₆) → m₆ "place" = some (.int p tp) → m₆ "modes" = some (.ref ma) → m₆ "bodies" = some (.ref ba) →
          T = (if acc.2 = false ∧ mo.fdiv 4096 = 8 then acc.1 ++ "." else acc.1) →
          wpAny (model prog w) A' (execs ((loopBody (stmtAt 36 1)).drop 1) (callEnv (fnD 36 131 pm .none) L 132)) (fun f s₃ => ∃ h₃ tk₃, s₃ = st s h₃ tk₃ ∧ LoopPost [I, oa] (fun h' => ∃ m' t, Fm h L m' h' ∧ m' "text" = some (.str ((row.take (j + 1)).foldl (toldStep modes bodies) ("", false)).1 t) ∧ m' "begun" = some (.bool ((row.take (j + 1)).foldl (toldStep modes bodies) ("", false)).2) ∧ m' "modes" = some (.ref ma) ∧ m' "bodies" = some (.ref ba)) (fun h' => ∃ m' t, Fm h L m' h' ∧ m' "text" = some (.str (toldF modes bodies row) t)) (fun _ _ => False) h₄ f h₃) (fun _ _ => False) (st s h₆ tk₆) := by
        intro h₆ tk₆ m₆ T t₆ F₆ O₆ b1 b2 b3 b4 hT
        have hTl : T.length ≤ 100 * 101 + 1 := by
          rw [hT]
          split
          · rw [str_len_append]; show _ + 1 ≤ _; (first | lia | omega)
          · (first | lia | omega)
        refine r_aug ?_
        refine ldL F₆ b1 ?_
        refine r_subs ?_
        refine nmL F₆ b4 ?_
        refine nmL F₆ b2 ?_
        refine r_itemL (plain_stay hbp F₆.keep).isList hpi (by (first | lia | omega)) (by simpa using hbu) ?_
        refine r_iaddS (by (first | lia | omega)) fun t₇ tk₇ => ?_
        refine stL F₆ fun h₇ tk₈ F₇ O₇ => ?_
        refine r_assign ?_
        (((with_reducible refine wpAny_Compare1 ?_ ?mk); (case mk => with_unfolding_all rfl)))
        (with_reducible refine wpAny_BinOp ?_)
        (with_reducible refine wpAny_BinOp ?_)
        refine r_subs ?_
        refine nmL F₇ b3 ?_
        refine nmL F₇ b2 ?_
        refine r_itemL (plain_stay hmp F₇.keep).isList hpi (by (first | lia | omega)) (by simpa using hmu) ?_
        repeat' (first | with_reducible refine r_nil ?_ | ((with_reducible refine r_int ?_)) | ((with_reducible show wpAny _ _ (storeName _ _ _) _ _ _); refine stL (by assumption) ?_; intro _ _ _ _) | ((with_reducible refine r_fdiv ?mm ?mn ?_); (case mm => first | decide | assumption | (first | lia | omega)); (case mn => first | decide | assumption | (first | lia | omega))) | ((with_reducible refine r_fmod ?mm ?_); (case mm => first | decide | assumption | (first | lia | omega))) | with_reducible refine PyProof.Rows.eq_int ?_)
        rename_i h₈ tk₉ F₈ O₈
        refine ⟨h₈, tk₉, rfl, ?_, _, t₇, F₈, ?_, ?_, b3, b4⟩
        · intro b hb o e
          have hbL : b ≠ L := by
            simp at hb
            rcases hb with rfl | rfl
            · exact Ne.symm hLI
            · rintro rfl; obtain ⟨n, e'⟩ := hop; rw [F.fresh] at e'; cases e'
          exact O₈ _ _ hbL (O₇ _ _ hbL (O₆ _ _ hbL (O₅ _ _ hbL e)))
        · rw [hstep]; unfold toldStep; rw [em, eb, ← hT]; rfl
        · rw [hstep]; unfold toldStep; rw [em]; rfl
      refine r_if ?_
      (with_reducible refine wpAny_isTrue_BoolOp ?_)
      (with_reducible refine wpAny_allTrue_And_cons ?_)
      (with_reducible refine wpAny_isTrue_Not ?_)
      (((with_reducible refine wpAny_isTrue_value ?_ ?mk); (case mk => rfl)))
      refine nmL F₅ a2 ?_
      refine wpAny_truthy_bool ?_
      cases hac : acc.2 with
      | true =>
        rw [if_neg (by simp)]
        show if false = true then _ else _
        rw [if_neg (by simp)]
        refine r_nil (then_next ?_)
        refine rest h₅ tk₅ _ acc.1 u F₅ (Stay.refl _).off a1 rfl a3 a4 ?_
        rw [if_neg (by simp [hac])]
      | false =>
        rw [if_pos (by simp)]
        (with_reducible refine wpAny_allTrue_And_cons ?_)
        (((with_reducible refine wpAny_isTrue_Compare1 ?_ ?mk); (case mk => with_unfolding_all rfl)))
        (with_reducible refine wpAny_BinOp ?_)
        refine r_subs ?_
        refine nmL F₅ a3 ?_
        refine nmL F₅ rfl ?_
        refine r_itemL hm₅ hpi (by (first | lia | omega)) (by simpa using hmu) ?_
        (((with_reducible refine r_int ?_)))
        (((with_reducible refine r_fdiv ?mm ?mn ?_); (case mm => first | decide | assumption | (first | lia | omega)); (case mn => first | decide | assumption | (first | lia | omega))))
        (((with_reducible refine r_int ?_)))
        (with_reducible refine PyProof.Rows.eq_int ?_)
        refine wpAny_truthy_bool ?_
        refine r_split (fun hc => ?_) (fun hc => ?_)
        · have hc : mo.fdiv 4096 = 8 := by simpa using hc
          (with_reducible refine wpAny_allTrue_And_nil ?_)
          rw [if_pos rfl]
          refine r_aug ?_
          refine ldL F₅ a1 ?_
          (((with_reducible refine r_str ?_)))
          refine r_iaddS (by rw [show (Str.ofString ".").length = 1 from rfl]; (first | lia | omega)) fun t₇ tk₇ => ?_
          refine stL F₅ fun h₆ tk₈ F₆ O₆ => ?_
          refine r_nil (then_next ?_)
          refine rest h₆ tk₈ _ _ t₇ F₆ O₆ rfl rfl a3 a4 ?_
          rw [if_pos ⟨hac, hc⟩]
        · have hc : ¬ mo.fdiv 4096 = 8 := by simpa using hc
          show if false = true then _ else _
          rw [if_neg (by simp)]
          refine r_nil (then_next ?_)
          refine rest h₅ _ _ acc.1 u F₅ (Stay.refl _).off a1 rfl a3 a4 ?_
          rw [if_neg (fun q => hc q.2)]
  · rintro h₄ tk₄ ⟨m', u, F', a1⟩
    refine r_ret ?_
    refine nmL F' a1 ?_
    exact ⟨_, _, rfl, F'.keep, _, rfl⟩
end
end Mine
end
section
open PySem PySem.W PySem.Calls PyProof.Rows
set_option Elab.async false
set_option maxRecDepth 100000
set_option linter.unusedVariables false
namespace Mine

noncomputable def bSteps : List Int := [64, 8, 1]
noncomputable def bAboves : List Int := [2048, 1024, 512]
noncomputable def bEnds : List (List Str) := [[".", "x", "S", "s"], [".", "x", "S", "s"], [".", "x", ".\r\n", "x\r\n"]]
noncomputable def bIdx (step above mode : Int) : Int := (mode.fdiv step).fmod 2 + 2 * (mode.fdiv above).fmod 2
noncomputable def bRW (step mode : Int) : Str := (if (mode.fdiv step).fmod 8 > 3 then Str.ofString "r" else Str.ofString ".") ++ (if (mode.fdiv step).fmod 4 > 1 then Str.ofString "w" else Str.ofString ".")
noncomputable def bHead (mode : Int) : Str := ⟨#[((Str.ofString "?pc?d?b?.?l?s???").cps.getD (mode.fdiv 4096).toNat 0)]⟩
noncomputable def bStep (mode : Int) (acc : Str) (j : Nat) : Str := (acc ++ bRW (bSteps.getD j 1) mode) ++ (bEnds.getD j []).getD (bIdx (bSteps.getD j 1) (bAboves.getD j 1) mode).toNat ""
noncomputable def bodyF (mode : Int) : Str := (List.range 3).foldl (bStep mode) (bHead mode)

section
variable {prog : Program} {w : World} {A : Around} {E : Value → Shared → Prop} {s : Shared} {G h : Heap} {tk : Nat} {L : Addr} {m : Str → Option Value} {env : Env} {mg mb : Str → Option Value}
theorem r_unpack3 {x y z : Str} {p q r pos : Pos} {c : Nat} {t : Addr} {a b d : Value} {Q : Unit → Shared → Prop} (hh : A.handled = none) (F : Fm G L m h) (ht : h.IsTuple t #[a, b, d])
    (k : ∀ h' tk', Fm G L (fun n => if n = z then some d else if n = y then some b else if n = x then some a else m n) h' → Off L h h' → Q () (st s h' tk'))
    (hL : env.locals = L := by rfl) (hk : env.scope.kind = .function := by rfl) (hx : env.kindOf x = some .local := by rfl) (hy : env.kindOf y = some .local := by rfl) (hz : env.kindOf z = some .local := by rfl) :
    wpAny (model prog w) A (assign (.Tuple [.Name x p, .Name y q, .Name z r] c pos) env (.ref t)) Q E (st s h tk) := by
  refine wpAny_assign_Tuple (s := st s h tk) hh ht rfl rfl fun h₁ he => ?_
  have hst : Stay h h₁ := fun b o e => he b o (Nat.ne_of_lt (Heap.lt_size e)) e
  show wpAny _ _ (holding [b, d] (assign (.Name x p) env a) >>= fun _ => (holding [d] (assign (.Name y q) env b) >>= fun _ => (holding [] (assign (.Name z r) env d) >>= fun _ => pure ()))) _ _ _
  refine wpAny_bind (wpAny_holding (wpAny_assign_Name ?_))
  refine stL (s := s) (tk := tk) (F.stay hst) (fun h₂ tk₂ F₂ O₂ => ?_) hL hk hx
  refine wpAny_bind (wpAny_holding (wpAny_assign_Name ?_))
  refine stL F₂ (fun h₃ tk₃ F₃ O₃ => ?_) hL hk hy
  refine wpAny_bind (wpAny_holding (wpAny_assign_Name ?_))
  refine stL F₃ (fun h₄ tk₄ F₄ O₄ => wpAny_pure (k h₄ tk₄ F₄ (((hst.off.trans O₂).trans O₃).trans O₄))) hL hk hz
theorem r_pickS {test : Expr} {a b : Str} {c1 c2 : Nat} {p1 p2 pos : Pos} {Q : Value → Shared → Prop} {S : Shared}
    (k : wpAny (model prog w) A (isTrue test env (eval test env)) (fun c s₁ => ∃ h₁ tk₁, s₁ = st s h₁ tk₁ ∧ ∀ t tk', Q (.str (if c = true then a else b) t) (st s h₁ tk')) E S) :
    wpAny (model prog w) A (eval (.IfExp test (.Constant (.str a) c1 p1) (.Constant (.str b) c2 p2) pos) env) Q E S := by
  refine wpAny_IfExp (wpAny_mono k (fun c s₁ k₁ => ?_) fun _ _ e => e)
  obtain ⟨h₁, tk₁, rfl, k₁⟩ := k₁
  cases c with
  | true => exact r_str (k₁ _ _)
  | false => exact r_str (k₁ _ _)

theorem ends_str {value slice : Expr} {h' : Heap} {tk' : Nat} {i : Int} {j : Nat} {x : Str} {t u : Tok} {es : List Str} {Q : Value → Shared → Prop} (hi : i = (j : Int)) (hj : j < 4) (hx : ∀ j, j < 4 → ∃ c, x.cps[j]? = some c ∧ es.getD j "" = ⟨#[c]⟩) (k : ∀ t' tk'', Q (.str (es.getD j "") t') (st s h' tk''))
    (hs : subscripted slice false (.str x t) (.int i u) = operate [.str x t, .int i u] (getItem (.str x t) (.int i u)) := by with_unfolding_all rfl) (hg : ∀ r, letTemporaryGo value (.str x t) r = pure () := by intro _; with_unfolding_all rfl) :
    wpAny (model prog w) A (subscriptTail value slice (.str x t) (.int i u)) Q E (st s h' tk') := by
  obtain ⟨c, e1, e2⟩ := hx j hj
  refine r_itemS hi (by (first | lia | omega)) e1 (fun t' tk'' => ?_) hs hg
  have := k t' tk''
  rw [e2] at this; exact this

set_option maxHeartbeats 4000000 in
/-- one turn -/
theorem body_turn {A' : Around} {pm : Value} {mode : Int} {tm : Tok} {acc : Str} {ta : Tok} {j : Nat} {ends : Value} {t1 t2 : Tok} {J : Heap → Prop} (hj : j < 3) (F : Fm G L m h) (hm : m "mode" = some (.int mode tm)) (hb : m "body" = some (.str acc ta)) (h1 : m "step" = some (.int (bSteps.getD j 1) t1)) (h2 : m "above" = some (.int (bAboves.getD j 1) t2)) (h3 : m "ends" = some ends)
    (hz : acc.length ≤ 1000) (hm0 : 0 ≤ mode)
    (he : ∀ (h' : Heap) (tk' : Nat) (i : Int) (n : Nat) (u : Tok) (Q : Value → Shared → Prop), i = (n : Int) → n < 4 → Stay G h' → (∀ t' tk'', Q (.str ((bEnds.getD j []).getD n "") t') (st s h' tk'')) →
      ∀ (v sl : Expr), (∀ x r, letTemporaryGo v x r = pure ()) → (∀ o i, subscripted sl false o i = operate [o, i] (getItem o i)) → wpAny (model prog w) A' (subscriptTail v sl ends (.int i u)) Q (fun _ _ => False) (st s h' tk'))
    (k : ∀ h' m' t, Fm G L m' h' → Off L h h' → m' "mode" = some (.int mode tm) → m' "body" = some (.str (bStep mode acc j) t) → J h') :
    wpAny (model prog w) A' (execs (loopBody (stmtAt 35 1)) (callEnv (fnD 35 124 pm .none) L 125)) (fun f s₃ => f = .next ∧ ∃ h₃ tk₃, s₃ = st s h₃ tk₃ ∧ J h₃) (fun _ _ => False) (st s h tk) := by
  have b1 : bSteps.getD j 1 = 64 ∨ bSteps.getD j 1 = 8 ∨ bSteps.getD j 1 = 1 := by
    have : j = 0 ∨ j = 1 ∨ j = 2 := by (first | lia | omega)
    rcases this with rfl | rfl | rfl <;> simp [bSteps]
  have b2 : bAboves.getD j 1 = 2048 ∨ bAboves.getD j 1 = 1024 ∨ bAboves.getD j 1 = 512 := by
    have : j = 0 ∨ j = 1 ∨ j = 2 := by (first | lia | omega)
    rcases this with rfl | rfl | rfl <;> simp [bAboves]
  generalize hst : bSteps.getD j 1 = stp at *
  generalize hab : bAboves.getD j 1 = abv at *
  refine r_aug ?_
  refine ldL F hb ?_
  (with_reducible refine wpAny_BinOp ?_)
  refine r_pickS (s := s) ?_
  (((with_reducible refine wpAny_isTrue_Compare1 ?_ ?mk); (case mk => with_unfolding_all rfl)))
  (with_reducible refine wpAny_BinOp ?_)
  (with_reducible refine wpAny_BinOp ?_)
  refine nmL F hm ?_
  refine nmL F h1 ?_
  refine r_fdiv (by (first | lia | omega)) (by (first | lia | omega)) ?_
  repeat' (first | ((with_reducible refine r_int ?_)) | ((with_reducible refine r_fmod ?mm ?_); (case mm => first | decide | assumption | (first | lia | omega))) | with_reducible refine PyProof.Rows.gt_int ?_ | with_reducible refine wpAny_truthy_bool ?_)
  refine ⟨_, _, rfl, fun t₁ tk₁ => ?_⟩
  refine r_pickS (s := s) ?_
  (((with_reducible refine wpAny_isTrue_Compare1 ?_ ?mk); (case mk => with_unfolding_all rfl)))
  (with_reducible refine wpAny_BinOp ?_)
  (with_reducible refine wpAny_BinOp ?_)
  refine nmL F hm ?_
  refine nmL F h1 ?_
  refine r_fdiv (by (first | lia | omega)) (by (first | lia | omega)) ?_
  repeat' (first | ((with_reducible refine r_int ?_)) | ((with_reducible refine r_fmod ?mm ?_); (case mm => first | decide | assumption | (first | lia | omega))) | with_reducible refine PyProof.Rows.gt_int ?_ | with_reducible refine wpAny_truthy_bool ?_)
  refine ⟨_, _, rfl, fun t₂ tk₂ => ?_⟩
  have l1 : ∀ (c : Bool), (if c = true then (Str.ofString "r") else (Str.ofString ".")).length = 1 := by intro c; cases c <;> rfl
  have l2 : ∀ (c : Bool), (if c = true then (Str.ofString "w") else (Str.ofString ".")).length = 1 := by intro c; cases c <;> rfl
  refine r_addS (by rw [l1, l2]; (first | lia | omega)) fun t₃ tk₃ => ?_
  refine r_iaddS (by rw [str_len_append, l1, l2]; (first | lia | omega)) fun t₄ tk₄ => ?_
  refine stL F fun h₁ tk₅ F₁ O₁ => ?_
  refine r_aug ?_
  refine ldL F₁ rfl ?_
  refine r_subs ?_
  refine nmL F₁ h3 ?_
  (with_reducible refine wpAny_BinOp ?_)
  (with_reducible refine wpAny_BinOp ?_)
  (with_reducible refine wpAny_BinOp ?_)
  refine nmL F₁ hm ?_
  refine nmL F₁ h1 ?_
  refine r_fdiv (by (first | lia | omega)) (by (first | lia | omega)) ?_
  (((with_reducible refine r_int ?_)))
  (((with_reducible refine r_fmod ?mm ?_); (case mm => first | decide | assumption | (first | lia | omega))))
  (with_reducible refine wpAny_BinOp ?_)
  (((with_reducible refine r_int ?_)))
  (with_reducible refine wpAny_BinOp ?_)
  (with_reducible refine wpAny_BinOp ?_)
  refine nmL F₁ hm ?_
  refine nmL F₁ h2 ?_
  refine r_fdiv (by (first | lia | omega)) (by (first | lia | omega)) ?_
  (((with_reducible refine r_int ?_)))
  (((with_reducible refine r_fmod ?mm ?_); (case mm => first | decide | assumption | (first | lia | omega))))
  refine r_mul (intBits_le_64 (by have := Int.fmod_nonneg_of_pos (a := mode.fdiv abv) (b := 2) (by decide); (first | lia | omega)) (by have := Int.fmod_lt_of_pos (mode.fdiv abv) (b := 2) (by decide); (first | lia | omega))) ?_
  (((with_reducible refine r_add ?_)))
  have f1 := Int.fmod_nonneg_of_pos (a := mode.fdiv stp) (b := 2) (by decide)
  have f2 := Int.fmod_lt_of_pos (mode.fdiv stp) (b := 2) (by decide)
  have f3 := Int.fmod_nonneg_of_pos (a := mode.fdiv abv) (b := 2) (by decide)
  have f4 := Int.fmod_lt_of_pos (mode.fdiv abv) (b := 2) (by decide)
  refine he h₁ _ _ (bIdx stp abv mode).toNat _ _ (by unfold bIdx; (first | lia | omega)) (by unfold bIdx; (first | lia | omega)) F₁.keep ?_ _ _ (fun _ _ => rfl) (fun _ _ => by with_unfolding_all rfl)
  intro t₆ tk₆
  have le : ((bEnds.getD j []).getD (bIdx stp abv mode).toNat "").length ≤ 3 := by
    have h1 : (bIdx stp abv mode).toNat = 0 ∨ (bIdx stp abv mode).toNat = 1 ∨ (bIdx stp abv mode).toNat = 2 ∨ (bIdx stp abv mode).toNat = 3 := by unfold bIdx; (first | lia | omega)
    have h2 : j = 0 ∨ j = 1 ∨ j = 2 := by (first | lia | omega)
    rcases h2 with rfl | rfl | rfl <;> rcases h1 with e | e | e | e <;> rw [e] <;> decide
  refine r_iaddS (by rw [str_len_append, str_len_append, l1, l2]; (first | lia | omega)) fun t₇ tk₇ => ?_
  refine stL F₁ fun h₂ tk₈ F₂ O₂ => ?_
  refine r_nil ⟨rfl, h₂, tk₈, rfl, k h₂ _ t₇ F₂ (O₁.trans O₂) hm ?_⟩
  show some (Value.str _ t₇) = _
  unfold bStep bRW
  rw [hst, hab]
  simp only [decide_eq_true_eq]

noncomputable def loopTarget : Stmt → Expr
  | .For t _ _ _ _ => t
  | _ => default
set_option maxHeartbeats 1000000 in
theorem body_turn2 {A' : Around} {pm : Value} {mode : Int} {tm : Tok} {acc : Str} {ta : Tok} {j : Nat} {q : Addr} {ends : Value} {t1 t2 : Tok} (hh : A'.handled = none) (hj : j < 3) (F : Fm G L m h) (hm : m "mode" = some (.int mode tm)) (hb : m "body" = some (.str acc ta)) 
    (hq : G.IsTuple q #[.int (bSteps.getD j 1) t1, .int (bAboves.getD j 1) t2, ends]) (hz : acc.length ≤ 1000) (hm0 : 0 ≤ mode)
    (he : ∀ (h' : Heap) (tk' : Nat) (i : Int) (n : Nat) (u : Tok) (Q : Value → Shared → Prop), i = (n : Int) → n < 4 → Stay G h' → (∀ t' tk'', Q (.str ((bEnds.getD j []).getD n "") t') (st s h' tk'')) →
      ∀ (v sl : Expr), (∀ x r, letTemporaryGo v x r = pure ()) → (∀ o i, subscripted sl false o i = operate [o, i] (getItem o i)) → wpAny (model prog w) A' (subscriptTail v sl ends (.int i u)) Q (fun _ _ => False) (st s h' tk')) :
    wpAny (model prog w) A' (assign (loopTarget (stmtAt 35 1)) (callEnv (fnD 35 124 pm .none) L 125) (.ref q)) (fun _ s₂ => wpAny (model prog w) A' (execs (loopBody (stmtAt 35 1)) (callEnv (fnD 35 124 pm .none) L 125)) (fun f s₃ => f = .next ∧ ∃ h₃ tk₃, s₃ = st s h₃ tk₃ ∧ (Off L h h₃ ∧ ∃ m' u, Fm G L m' h₃ ∧ m' "mode" = some (.int mode tm) ∧ m' "body" = some (.str (bStep mode acc j) u))) (fun _ _ => False) s₂) (fun _ _ => False) (st s h tk) := by
  refine r_unpack3 hh F (isTup_stay hq F.keep) fun h₉ tk₉ F₉ O₉ => ?_
  exact body_turn (J := fun h₃ => Off L h h₃ ∧ ∃ m' u, Fm G L m' h₃ ∧ m' "mode" = some (.int mode tm) ∧ m' "body" = some (.str (bStep mode acc j) u)) hj F₉ hm hb rfl rfl rfl hz hm0 he (fun h' m' t' c1 c2 c3 c4 => ⟨O₉.trans c2, m', t', c1, c3, c4⟩)
end
end Mine
end
section
open PySem PySem.W PySem.Calls PyProof.Rows
set_option Elab.async false
set_option maxRecDepth 100000
set_option linter.unusedVariables false
namespace Mine
theorem bStep_len (mode : Int) (acc : Str) (j : Nat) (hj : j < 3) : (bStep mode acc j).length ≤ acc.length + 5 := by
  unfold bStep bRW
  have l1 : ∀ (c : Prop) [Decidable c], (if c then (Str.ofString "r") else (Str.ofString ".")).length = 1 := by intro c _; split <;> rfl
  have l2 : ∀ (c : Prop) [Decidable c], (if c then (Str.ofString "w") else (Str.ofString ".")).length = 1 := by intro c _; split <;> rfl
  rw [str_len_append, str_len_append, str_len_append, l1, l2]
  have f1 := Int.fmod_nonneg_of_pos (a := mode.fdiv (bSteps.getD j 1)) (b := 2) (by decide)
  have f2 := Int.fmod_lt_of_pos (mode.fdiv (bSteps.getD j 1)) (b := 2) (by decide)
  have f3 := Int.fmod_nonneg_of_pos (a := mode.fdiv (bAboves.getD j 1)) (b := 2) (by decide)
  have f4 := Int.fmod_lt_of_pos (mode.fdiv (bAboves.getD j 1)) (b := 2) (by decide)
  have h1 : (bIdx (bSteps.getD j 1) (bAboves.getD j 1) mode).toNat = 0 ∨ (bIdx (bSteps.getD j 1) (bAboves.getD j 1) mode).toNat = 1 ∨ (bIdx (bSteps.getD j 1) (bAboves.getD j 1) mode).toNat = 2 ∨ (bIdx (bSteps.getD j 1) (bAboves.getD j 1) mode).toNat = 3 := by unfold bIdx; (first | lia | omega)
  have h2 : j = 0 ∨ j = 1 ∨ j = 2 := by (first | lia | omega)
  have le : ((bEnds.getD j []).getD (bIdx (bSteps.getD j 1) (bAboves.getD j 1) mode).toNat "").length ≤ 3 := by
    rcases h1 with e | e | e | e <;> rw [e] <;> rcases h2 with rfl | rfl | rfl <;> decide
  (first | lia | omega)
theorem bLen (mode : Int) : ∀ j, j < 3 ∨ True → ((List.range (min j 3)).foldl (bStep mode) (bHead mode)).length ≤ 1 + 5 * (min j 3)
  | 0, _ => by simp [bHead, Str.length]
  | j + 1, _ => by
    have ih := bLen mode j (.inr trivial)
    rcases Nat.lt_or_ge j 3 with h | h
    · rw [Nat.min_eq_left (by (first | lia | omega))] at ih
      rw [Nat.min_eq_left (by (first | lia | omega))]
      rw [List.range_succ, List.foldl_append]
      have := bStep_len mode ((List.range j).foldl (bStep mode) (bHead mode)) j h
      show (bStep mode _ j).length ≤ _
      (first | lia | omega)
    · rw [Nat.min_eq_right (by (first | lia | omega))] at ih
      rw [Nat.min_eq_right (by (first | lia | omega))]
      exact ih
theorem bE0 : ∀ j, j < 4 → ∃ c, (Str.ofString ".xSs").cps[j]? = some c ∧ (bEnds.getD 0 []).getD j "" = ⟨#[c]⟩ := by
  intro j hj
  have : j = 0 ∨ j = 1 ∨ j = 2 ∨ j = 3 := by (first | lia | omega)
  rcases this with rfl | rfl | rfl | rfl <;> exact ⟨_, rfl, rfl⟩

section
variable {prog : Program} {w : World} {A : Around} {E : Value → Shared → Prop} {s : Shared} {G h : Heap} {tk : Nat} {L : Addr} {m : Str → Option Value} {env : Env} {mg mb : Str → Option Value}
set_option maxHeartbeats 4000000 in
theorem c_body {mode : Int} {t : Tok} (R : Rm 1 A) (B : Bas mg mb h) (X : FnAt h 125 124 35 .none) (hm : 0 ≤ mode ∧ mode < 65536) :
    Gives prog w A (call (.ref 125) [.int mode t]) s h (fun v _ => ∃ t, v = .str (bodyF mode) t) := by
  refine gives_def (binds := [("mode", .int mode t)]) R B X (fun pm tk => BindsTo.of_eq rfl) (by decide +kernel) (by rfl) fun pm L h₀ tk htk F => ?_
  have hd : (A.deeper (callEnv (fnD 35 124 pm .none) L 125)).handled = none := R.hd
  generalize hA' : A.deeper (callEnv (fnD 35 124 pm .none) L 125) = A' at *
  have hdv : mode.fdiv 4096 = mode / 4096 := Int.fdiv_eq_ediv_of_nonneg _ (by decide)
  refine r_assign ?_
  refine r_subs (r_str ?_)
  (with_reducible refine wpAny_BinOp ?_)
  (((with_reducible show wpAny _ _ (eval (Expr.Name _ _) _) _ _ _); refine nmL (by assumption) (by first | rfl | assumption) ?_))
  (((with_reducible refine r_int ?_)))
  (((with_reducible refine r_fdiv ?mm ?mn ?_); (case mm => first | decide | assumption | (first | lia | omega)); (case mn => first | decide | assumption | (first | lia | omega))))
  obtain ⟨cc, hcc, hbh⟩ : ∃ cc, (Str.ofString "?pc?d?b?.?l?s???").cps[(mode.fdiv 4096).toNat]? = some cc ∧ bHead mode = ⟨#[cc]⟩ := by
    have hx : (mode.fdiv 4096).toNat < (Str.ofString "?pc?d?b?.?l?s???").cps.size := by
      rw [show (Str.ofString "?pc?d?b?.?l?s???").cps.size = 16 from rfl]; (first | lia | omega)
    refine ⟨(Str.ofString "?pc?d?b?.?l?s???").cps.getD (mode.fdiv 4096).toNat 0, ?_, rfl⟩
    rw [Array.getD, dif_pos hx]; exact Array.getElem?_eq_getElem hx
  refine r_itemS (j := (mode.fdiv 4096).toNat) (by (first | lia | omega)) (by (first | lia | omega)) hcc (fun t₁ tk₁ => ?_) (by rfl) (by intro _; rfl)
  refine stL F fun h₁ tk₂ F₁ O₁ => ?_
  refine r_for ?_
  refine r_tuple ?_
  (((with_reducible refine r_sp1 ?_ ?sw); (case sw => rfl)))
  refine r_tuple ?_
  repeat' (first | with_reducible refine r_sp0 ?_ | ((with_reducible refine r_sp1 ?_ ?sw); (case sw => rfl)) | ((with_reducible refine r_int ?_)) | ((with_reducible refine r_str ?_)))
  refine r_newTuple (by simp) fun q0 h₂ fq0 hq0 S₂ => ?_
  (((with_reducible refine r_sp1 ?_ ?sw); (case sw => rfl)))
  refine r_tuple ?_
  repeat' (first | with_reducible refine r_sp0 ?_ | ((with_reducible refine r_sp1 ?_ ?sw); (case sw => rfl)) | ((with_reducible refine r_int ?_)) | ((with_reducible refine r_str ?_)))
  refine r_newTuple (by simp) fun q1 h₃ fq1 hq1 S₃ => ?_
  (((with_reducible refine r_sp1 ?_ ?sw); (case sw => rfl)))
  refine r_tuple ?_
  repeat' (first | with_reducible refine r_list ?_ | with_reducible refine r_sp0 ?_ | ((with_reducible refine r_sp1 ?_ ?sw); (case sw => rfl)) | ((with_reducible refine r_int ?_)) | ((with_reducible refine r_str ?_)))
  refine r_newList (by simp) fun ql h₄ fql hql S₄ => ?_
  (with_reducible refine r_sp0 ?_)
  refine r_newTuple (by simp) fun q2 h₅ fq2 hq2 S₅ => ?_
  (with_reducible refine r_sp0 ?_)
  refine r_newTuple (by simp) fun qT h₆ fqT hqT S₆ => ?_
  have S₁₆ : Stay h₁ h₆ := (((S₂.trans S₃).trans S₄).trans S₅).trans S₆
  have F₆' := F₁.stay S₁₆
  have hLe : ∃ o, h₁.get? L = some o := let ⟨o, es, ep, e, _⟩ := F₁.ns; ⟨o, e⟩
  have nL : ∀ {a : Addr} {hh : Heap}, Stay h₁ hh → hh.get? a = none → a ≠ L := fun {a hh} S e q => by obtain ⟨o, e'⟩ := hLe; rw [q, S _ _ e'] at e; cases e
  have F₆ : Fm (hideAll h₆ [L]) L _ h₆ := ⟨F₆'.ns, fun b o e => of_hideAll _ e, hideAll_none _ (by simp)⟩
  have SG : Stay h (hideAll h₆ [L]) := fun b o e => hideAll_get _ (F₆'.keep _ _ e) (by simp; rintro rfl; rw [F.fresh] at e; cases e)
  have liftT : ∀ {a : Addr} {its : Array Value}, a ≠ L → h₆.IsTuple a its → (hideAll h₆ [L]).IsTuple a its := fun {a its} n x => let ⟨o, e, r⟩ := x; ⟨o, hideAll_get _ e (by simpa using n), r⟩
  have g0 := liftT (nL (Stay.refl _) fq0) (isTup_stay hq0 (((S₃.trans S₄).trans S₅).trans S₆))
  have g1 := liftT (nL S₂ fq1) (isTup_stay hq1 ((S₄.trans S₅).trans S₆))
  have g2 := liftT (nL ((S₂.trans S₃).trans S₄) fq2) (isTup_stay hq2 S₆)
  have gT := liftT (nL (((S₂.trans S₃).trans S₄).trans S₅) fqT) hqT
  have liftL : ∀ {a : Addr} {its : Array Value}, a ≠ L → h₆.PlainList a its → (hideAll h₆ [L]).IsList a its := fun {a its} n x => let ⟨k, e⟩ := x; ⟨_, hideAll_get _ e (by simpa using n), rfl, k, rfl⟩
  have gl := liftL (nL (S₂.trans S₃) fql) (plain_stay hql (S₅.trans S₆))
  clear hq0 hq1 hq2 hqT hql
  refine r_iterT (isTup_stay gT F₆.keep) fun I h₇ fI hI S₇ hT₇ hne => ?_
  have F₇ := F₆.stay S₇
  have hLI : L ≠ I := fun q => by obtain ⟨o, es, ep, e, _⟩ := F₆.ns; rw [q, fI] at e; cases e
  have hGI : (hideAll h₆ [L]).get? I = none := fresh_of F₆.keep fI
  have hTL : qT ≠ L := nL (((S₂.trans S₃).trans S₄).trans S₅) fqT
  generalize hideAll h₆ [L] = G at *
  refine ⟨fun h' => ∃ m' t, Fm G L m' h' ∧ m' "body" = some (.str (bodyF mode) t), fun _ _ => False, ?_, ?_, fun _ _ _ f => f.elim⟩
  · refine r_loop (KTurns.ofWalks (Walks.tuple hd I qT hne #[.ref q0, .ref q1, .ref q2]) fun i v s Q E st q => letGo_tupleiter st.1 q)
      (fun j h' => ∃ m' u, Fm G L m' h' ∧ m' "mode" = some (.int mode t) ∧ m' "body" = some (.str ((List.range j).foldl (bStep mode) (bHead mode)) u)) _ _ ?hJ ?turn ?fin ⟨hI, hT₇⟩ ⟨_, t₁, F₇, rfl, congrArg (fun x => some (Value.str x t₁)) hbh.symm⟩
    case hJ =>
      rintro j h₈ h₉ ⟨m', u, F', a1, a2⟩ hk
      exact ⟨m', u, ⟨F'.ns.at' fun o e => hk _ o (by simpa using hLI) e, fun b o e => hk b o (fun q => by simp at q; rw [q, hGI] at e; cases e) (F'.keep b o e), F'.fresh⟩, a1, a2⟩
    case fin =>
      rintro h₈ tk₈ ⟨m', u, F', a1, a2⟩
      exact r_nil ⟨_, _, rfl, m', u, F', a2⟩
    case turn =>
      rintro j v h₈ tk₈ hj hP hst₈ ⟨m', u, F', a1, a2⟩
      have hj3 : j < 3 := by simpa using hj
      have hlen := bLen mode j (.inr trivial)
      rw [Nat.min_eq_left (by (first | lia | omega))] at hlen
      have fin : ∀ (f : Flow) (s₃ : Shared), (f = .next ∧ ∃ h₃ tk₃, s₃ = st s h₃ tk₃ ∧ (Off L h₈ h₃ ∧ ∃ m' u, Fm G L m' h₃ ∧ m' "mode" = some (.int mode t) ∧ m' "body" = some (.str (bStep mode ((List.range j).foldl (bStep mode) (bHead mode)) j) u))) →
          ∃ h₃ tk₃, s₃ = st s h₃ tk₃ ∧ LoopPost [I, qT] (fun h' => ∃ m' u, Fm G L m' h' ∧ m' "mode" = some (.int mode t) ∧ m' "body" = some (.str ((List.range (j + 1)).foldl (bStep mode) (bHead mode)) u)) (fun h' => ∃ m' t, Fm G L m' h' ∧ m' "body" = some (.str (bodyF mode) t)) (fun _ _ => False) h₈ f h₃ := by
        rintro f s₃ ⟨rfl, h₃, tk₃, rfl, O₃, m₃, u₃, F₃, c1, c2⟩
        refine ⟨h₃, tk₃, rfl, fun b hb o e => ?_, m₃, u₃, F₃, c1, ?_⟩
        · have hbL : b ≠ L := by
            simp at hb
            rcases hb with rfl | rfl
            · exact Ne.symm hLI
            · exact hTL
          exact O₃ _ _ hbL e
        · rw [c2, List.range_succ, List.foldl_append]; rfl
      generalize hacc : (List.range j).foldl (bStep mode) (bHead mode) = acc at hlen a2 fin
      suffices hgo : wpAny (model prog w) A' (assign (loopTarget (stmtAt 35 1)) (callEnv (fnD 35 124 pm .none) L 125) v) (fun _ s₂ => wpAny (model prog w) A' (execs (loopBody (stmtAt 35 1)) (callEnv (fnD 35 124 pm .none) L 125)) (fun f s₃ => f = .next ∧ ∃ h₃ tk₃, s₃ = st s h₃ tk₃ ∧ (Off L h₈ h₃ ∧ ∃ m' u, Fm G L m' h₃ ∧ m' "mode" = some (.int mode t) ∧ m' "body" = some (.str (bStep mode acc j) u))) (fun _ _ => False) s₂) (fun _ _ => False) (st s h₈ tk₈) from
        wpAny_mono hgo (fun _ s₂ q => wpAny_mono q (fun f s₃ q => fin f s₃ q) fun _ _ e => e.elim) fun _ _ e => e.elim
      have hacc3 : acc.length ≤ 1000 := by (first | lia | omega)
      clear fin hlen
      have h3 : j = 0 ∨ j = 1 ∨ j = 2 := by (first | lia | omega)
      rcases h3 with rfl | rfl | rfl
      · have hv : v = .ref q0 := by simpa using hP.symm
        subst hv
        refine body_turn2 hd hj3 F' a1 a2 g0 hacc3 hm.1 ?_
        intro h' tk' i n u Q hi hn S k v sl hv hs
        exact ends_str (es := bEnds.getD 0 []) hi hn bE0 k (hs _ _) (hv _)
      · have hv : v = .ref q1 := by simpa using hP.symm
        subst hv
        refine body_turn2 hd hj3 F' a1 a2 g1 hacc3 hm.1 ?_
        intro h' tk' i n u Q hi hn S k v sl hv hs
        exact ends_str (es := bEnds.getD 1 []) hi hn bE0 k (hs _ _) (hv _)
      · have hv : v = .ref q2 := by simpa using hP.symm
        subst hv
        refine body_turn2 hd hj3 F' a1 a2 g2 hacc3 hm.1 ?_
        intro h' tk' i n u Q hi hn S k v sl hv hs
        have h4 : n = 0 ∨ n = 1 ∨ n = 2 ∨ n = 3 := by (first | lia | omega)
        rcases h4 with rfl | rfl | rfl | rfl
        · exact r_itemL (isLst_stay gl S) hi (by (first | lia | omega)) rfl (k _ _) (hs _ _) (hv _)
        · exact r_itemL (isLst_stay gl S) hi (by (first | lia | omega)) rfl (k _ _) (hs _ _) (hv _)
        · exact r_itemL (isLst_stay gl S) hi (by (first | lia | omega)) rfl (k _ _) (hs _ _) (hv _)
        · exact r_itemL (isLst_stay gl S) hi (by (first | lia | omega)) rfl (k _ _) (hs _ _) (hv _)
  · rintro h₈ tk₈ ⟨m', u, F', a1⟩
    refine r_ret ?_
    refine nmL F' a1 ?_
    exact ⟨_, _, rfl, SG.trans F'.keep, _, rfl⟩
end
end Mine
end
section
open PySem PySem.W PySem.Calls PyProof.Rows
set_option Elab.async false
set_option maxRecDepth 100000
set_option linter.unusedVariables false
namespace Mine

/-- what the law's frame turns -/
noncomputable def LX (L : Nat) : List Nat := [L, L + 1, L + 2, L + 3, L + 4, L + 5, L + 6, 162, 80]
noncomputable def lawCells (L : Nat) : List (Str × Nat) := [("pieces", L + 6), ("shared", L + 5), ("plains", L + 4), ("middles", L + 3), ("bodies", L + 2), ("modes", L + 1)]
theorem lawCells_eq (L : Nat) : cellsFrom (L + 1) (scopeAt 41).names [] = lawCells L := rfl
noncomputable abbrev lawEnv (pm : Value) (L : Nat) : Env := callEnvC (fnD 41 164 pm .none) L 165

structure LF (G : Heap) (L : Nat) (m cm : Str → Option Value) (ps qs : Array Value) (h : Heap) : Prop where
  ns : h.Ns L m
  cell : ∀ n c, (n, c) ∈ lawCells L → h.IsCell c (cm n)
  tab : h.get? 162 = some (tabObj ps)
  tr : TriplesOk ps.toList
  t80 : h.get? 80 = some (tabObj qs)
  keep : Stay G h
  hid : ∀ z ∈ LX L, G.get? z = none
  lo : 165 < L

section
variable {G h h' : Heap} {L : Nat} {m cm : Str → Option Value} {ps qs : Array Value}
theorem LF.fm (F : LF G L m cm ps qs h) : Fm G L m h := ⟨F.ns, F.keep, F.hid L (by simp [LX])⟩
theorem cellOf {n : Str} {c : Nat} (hm : (n, c) ∈ lawCells L) : c ∈ LX L ∧ L < c ∧ c < L + 7 := by
  simp only [lawCells, List.mem_cons, Prod.mk.injEq, List.not_mem_nil, or_false] at hm
  rcases hm with ⟨-, rfl⟩ | ⟨-, rfl⟩ | ⟨-, rfl⟩ | ⟨-, rfl⟩ | ⟨-, rfl⟩ | ⟨-, rfl⟩ <;> refine ⟨by simp [LX], by (first | lia | omega), by (first | lia | omega)⟩
theorem cellAt (n : Str) (c d : Nat) (h1 : (n, c) ∈ lawCells L) (h2 : (n, d) ∈ lawCells L) : c = d := by
  simp only [lawCells, List.mem_cons, Prod.mk.injEq, List.not_mem_nil, or_false] at h1 h2
  rcases h1 with ⟨a, rfl⟩ | ⟨a, rfl⟩ | ⟨a, rfl⟩ | ⟨a, rfl⟩ | ⟨a, rfl⟩ | ⟨a, rfl⟩ <;> rcases h2 with ⟨b, rfl⟩ | ⟨b, rfl⟩ | ⟨b, rfl⟩ | ⟨b, rfl⟩ | ⟨b, rfl⟩ | ⟨b, rfl⟩ <;> first | rfl | exact absurd (a.symm.trans b) (by decide)
theorem isCell_at {c : Nat} {v : Option Value} (x : h.IsCell c v) (e : ∀ o, h.get? c = some o → h'.get? c = some o) : h'.IsCell c v := let ⟨o, a, b⟩ := x; ⟨o, e _ a, b⟩
theorem LF.stay (F : LF G L m cm ps qs h) (S : Stay h h') : LF G L m cm ps qs h' :=
  ⟨F.ns.keeps S, fun n c hc => (F.cell n c hc).keeps S, S _ _ F.tab, F.tr, S _ _ F.t80, F.keep.trans S, F.hid, F.lo⟩
theorem LF.ground (F : LF G L m cm ps qs h) : LF (hideAll h (LX L)) L m cm ps qs h ∧ Stay G (hideAll h (LX L)) :=
  ⟨⟨F.ns, F.cell, F.tab, F.tr, F.t80, fun b o e => of_hideAll _ e, fun z hz => hideAll_none _ hz, F.lo⟩, fun b o e => hideAll_get _ (F.keep b o e) fun q => by rw [F.hid b q] at e; cases e⟩
theorem LF.ex (F : LF G L m cm ps qs h) : ∀ z ∈ LX L, ∃ o, h.get? z = some o := by
  intro z hz
  have c1 := F.cell "pieces" (L + 6) (by simp [lawCells])
  have c2 := F.cell "shared" (L + 5) (by simp [lawCells])
  have c3 := F.cell "plains" (L + 4) (by simp [lawCells])
  have c4 := F.cell "middles" (L + 3) (by simp [lawCells])
  have c5 := F.cell "bodies" (L + 2) (by simp [lawCells])
  have c6 := F.cell "modes" (L + 1) (by simp [lawCells])
  simp [LX] at hz
  rcases hz with rfl | rfl | rfl | rfl | rfl | rfl | rfl | rfl | rfl
  · obtain ⟨o, es, ep, e, _⟩ := F.ns; exact ⟨o, e⟩
  · obtain ⟨o, e, _⟩ := c6; exact ⟨o, e⟩
  · obtain ⟨o, e, _⟩ := c5; exact ⟨o, e⟩
  · obtain ⟨o, e, _⟩ := c4; exact ⟨o, e⟩
  · obtain ⟨o, e, _⟩ := c3; exact ⟨o, e⟩
  · obtain ⟨o, e, _⟩ := c2; exact ⟨o, e⟩
  · obtain ⟨o, e, _⟩ := c1; exact ⟨o, e⟩
  · exact ⟨_, F.tab⟩
  · exact ⟨_, F.t80⟩
/-- a new object is on the ground -/
theorem LF.fresh (F : LF G L m cm ps qs h) (S : Stay h h') {a : Nat} {o : Obj} (fa : h.get? a = none) (e : h'.get? a = some o) : (hideAll h' (LX L)).get? a = some o :=
  hideAll_get _ e fun q => by obtain ⟨o', e'⟩ := F.ex a q; rw [fa] at e'; cases e'
theorem LF.setL (F : LF G L m cm ps qs h) {m' : Str → Option Value} (F' : Fm G L m' h') (O : Off L h h') : LF G L m' cm ps qs h' :=
  ⟨F'.ns, fun n c hc => isCell_at (F.cell n c hc) fun o e => O _ _ (Nat.ne_of_gt (cellOf hc).2.1) e, O _ _ (by have := F.lo; exact Nat.ne_of_lt (by (first | lia | omega))) F.tab, F.tr, O _ _ (by have := F.lo; exact Nat.ne_of_lt (by (first | lia | omega))) F.t80, F'.keep, F.hid, F.lo⟩
theorem LF.setC (F : LF G L m cm ps qs h) {n : Str} {c : Nat} {v : Value} (hc : (n, c) ∈ lawCells L) (hv : h'.IsCell c (some v)) (O : Off c h h') : LF G L m (fun y => if y = n then some v else cm y) ps qs h' := by
  have hco := cellOf hc
  have lo := F.lo
  refine ⟨F.ns.at' fun o e => O _ _ (Nat.ne_of_lt hco.2.1) e, fun n' c' hc' => ?_, O _ _ (Nat.ne_of_lt (by (first | lia | omega))) F.tab, F.tr, O _ _ (Nat.ne_of_lt (by (first | lia | omega))) F.t80, fun b o e => O _ _ (fun q => by rw [q, F.hid c hco.1] at e; cases e) (F.keep b o e), F.hid, F.lo⟩
  by_cases hn : n' = n
  · subst hn
    rw [if_pos rfl, cellAt _ _ _ hc' hc]; exact hv
  · rw [if_neg hn]
    refine isCell_at (F.cell n' c' hc') fun o e => O _ _ (fun q => ?_) e
    subst q
    apply hn
    simp only [lawCells, List.mem_cons, Prod.mk.injEq, List.not_mem_nil, or_false] at hc hc'
    rcases hc with ⟨e0, e1⟩ | ⟨e0, e1⟩ | ⟨e0, e1⟩ | ⟨e0, e1⟩ | ⟨e0, e1⟩ | ⟨e0, e1⟩ <;> rcases hc' with ⟨e3, e2⟩ | ⟨e3, e2⟩ | ⟨e3, e2⟩ | ⟨e3, e2⟩ | ⟨e3, e2⟩ | ⟨e3, e2⟩ <;> first | exact e3.trans e0.symm | (exfalso; (first | lia | omega))
theorem LF.set162 (F : LF G L m cm ps qs h) {ps' : Array Value} (hP : h'.get? 162 = some (tabObj ps')) (tr : TriplesOk ps'.toList) (O : Off 162 h h') : LF G L m cm ps' qs h' := by
  have lo := F.lo
  exact ⟨F.ns.at' fun o e => O _ _ (Nat.ne_of_gt (by (first | lia | omega))) e, fun n c hc => isCell_at (F.cell n c hc) fun o e => O _ _ (by have := (cellOf hc).2.1; exact Nat.ne_of_gt (by (first | lia | omega))) e, hP, tr, O _ _ (by decide) F.t80, fun b o e => O _ _ (fun q => by rw [q, F.hid 162 (by simp [LX])] at e; cases e) (F.keep b o e), F.hid, F.lo⟩
theorem LF.set80 (F : LF G L m cm ps qs h) {qs' : Array Value} (hP : h'.get? 80 = some (tabObj qs')) (O : Off 80 h h') : LF G L m cm ps qs' h' := by
  have lo := F.lo
  exact ⟨F.ns.at' fun o e => O _ _ (Nat.ne_of_gt (by (first | lia | omega))) e, fun n c hc => isCell_at (F.cell n c hc) fun o e => O _ _ (by have := (cellOf hc).2.1; exact Nat.ne_of_gt (by (first | lia | omega))) e, O _ _ (by decide) F.tab, F.tr, hP, fun b o e => O _ _ (fun q => by rw [q, F.hid 80 (by simp [LX])] at e; cases e) (F.keep b o e), F.hid, F.lo⟩
theorem LF.bt (F : LF G L m cm ps qs h) (b : Bt L m h h') : LF G L m cm ps qs h' := by
  have lo := F.lo
  exact ⟨b.ns, fun n c hc => isCell_at (F.cell n c hc) fun o e => b.keep _ _ (Nat.ne_of_gt (cellOf hc).2.1) e, b.keep _ _ (Nat.ne_of_lt (by (first | lia | omega))) F.tab, F.tr, b.keep _ _ (Nat.ne_of_lt (by (first | lia | omega))) F.t80, b.ground F.fm, F.hid, F.lo⟩
end

section
variable {prog : Program} {w : World} {A : Around} {E : Value → Shared → Prop} {s : Shared} {G h : Heap} {tk : Nat} {L : Nat} {m cm : Str → Option Value} {ps qs : Array Value} {mg mb : Str → Option Value} {pm : Value}
theorem lf_stL {x : Str} {v : Value} {Q : Unit → Shared → Prop} (F : LF G L m cm ps qs h) (hx : (lawEnv pm L).kindOf x = some .local) (k : ∀ h' tk', LF G L (fun y => if y = x then some v else m y) cm ps qs h' → Q () (st s h' tk')) : wpAny (model prog w) A (storeName (lawEnv pm L) x v) Q E (st s h tk) :=
  stL F.fm (fun h' tk' F' O => k h' tk' (F.setL F' O)) rfl rfl hx
theorem lf_stC {x : Str} {c : Nat} {v : Value} {Q : Unit → Shared → Prop} (F : LF G L m cm ps qs h) (hc : (x, c) ∈ lawCells L) (hl : (lawEnv pm L).cells.lookup x = some c) (hx : (lawEnv pm L).kindOf x = some .cell) (k : ∀ h' tk', LF G L m (fun y => if y = x then some v else cm y) ps qs h' → Q () (st s h' tk')) : wpAny (model prog w) A (storeName (lawEnv pm L) x v) Q E (st s h tk) :=
  wpAny_storeName_cell (s := st s h tk) rfl hx hl (F.cell x c hc) fun h' hv hs => k h' _ (F.setC hc hv fun b o n e => hs.extBut b o n e)
theorem lf_nmC {x : Str} {c : Nat} {v : Value} {p : Pos} {Q : Value → Shared → Prop} (F : LF G L m cm ps qs h) (hc : (x, c) ∈ lawCells L) (hv : cm x = some v) (hl : (lawEnv pm L).cells.lookup x = some c) (hx : (lawEnv pm L).kindOf x = some .cell) (hd : (x == ("__debug__" : Str)) = false) (k : Q v (st s h tk)) : wpAny (model prog w) A (eval (.Name x p) (lawEnv pm L)) Q E (st s h tk) :=
  nmC (hv ▸ F.cell x c hc) k hl hx rfl hd
theorem codeAmong_snoc' {q : Pos} {a b : Int} {c v : Value} (l : List Value) (ht : TriplesOk l) (e : codeAmong q (l ++ [rawInt a, rawInt b, c]) = some v) : codeAmong q l = some v ∨ v = c := by
  fun_induction TriplesOk l with
  | case1 =>
    simp only [List.nil_append, codeAmong, rawInt] at e
    split at e
    · cases e; exact .inr rfl
    · cases e
  | case2 a' t b' u x rest ih =>
    simp only [List.cons_append, codeAmong] at e ⊢
    split at e
    · rename_i hc; rw [if_pos hc]; exact .inl e
    · rename_i hc; rw [if_neg hc]; exact ih ht e
  | case3 l h1 h2 => exact ht.elim
theorem mk_lam2 {name qual : Str} {params : Arguments} {body : Expr} {scope : Scope} {env : Env} {c P : Nat} {ps : Array Value} {pos : Pos} {fl : Nat} {clos : List (Str × Nat)} {Q : Value → Shared → Prop}
    (hg : h.Ns mainGlobals mg) (bm : BM h mg) (C : CodeHd h c P) (hP : h.get? P = some (tabObj ps)) (ht : TriplesOk ps.toList)
    (hnf : codeAmong pos ps.toList = none ∨ ∃ c', codeAmong pos ps.toList = some (.ref c') ∧ h.CodeRec (.ref c') qual)
    (hcl : closureFor scope env = pure clos) (hcode : env.code = .ref c)
    (k : ∀ f c' ctv h' tk' ps', h.get? f = none → Off P h h' → h'.get? f = some (kla_obj name qual params body scope clos ((mg "__name__").getD .none) c' ctv) → h'.CodeRec (.ref c') qual → (h.get? c' = none ∨ codeAmong pos ps.toList = some (.ref c')) →
      h'.get? P = some (tabObj ps') → TriplesOk ps'.toList → (∀ q v, codeAmong q ps'.toList = some v → codeAmong q ps.toList = some v ∨ v = .ref c') → Q (.ref f) (st s h' tk')) (hge0 : env.globals = mainGlobals := by rfl) :
    wpAny (model prog w) A (makeFunction name qual params (.expr body) scope env [] [] [] pos fl) Q E (st s h tk) := by
  rcases hnf with hnf | ⟨c', hf, hrec⟩
  · refine kla_makeFunction (s := st s h tk) hcl hge0 hg hcode C hP ht hnf (ns_ne_tab hg hP) (bm.at hP) fun c' ctv h' tk' hx hge hlt hrec htb => ?_
    refine k h'.objs.size c' ctv _ tk' _ (Heap.get?_none_of_le (Nat.le_trans hge (Nat.le_of_lt hlt))) (fun b o hb e => Heap.get?_push_of_some _ (hx b o hb e)) (Heap.get?_push_size _ rfl)
      (hrec.keeps fun b o e => Heap.get?_push_of_some _ e) (.inl (Heap.get?_none_of_le hge)) (Heap.get?_push_of_some _ htb) ?_ ?_
    · have : (ps ++ #[rawInt pos.line, rawInt pos.col, Value.ref c']).toList = ps.toList ++ [rawInt pos.line, rawInt pos.col, .ref c'] := by simp
      rw [this]; exact TriplesOk_snoc _ _ _ _ ht
    · intro q v e
      have : (ps ++ #[rawInt pos.line, rawInt pos.col, Value.ref c']).toList = ps.toList ++ [rawInt pos.line, rawInt pos.col, .ref c'] := by simp
      rw [this] at e; exact codeAmong_snoc' _ ht e
  · refine kla_makeFunctionHit (s := st s h tk) hcl hge0 hg hcode C hP ht hf (bm.at hP) fun ctv h' tk' hk hsz => ?_
    exact k h'.objs.size c' ctv _ tk' ps (Heap.get?_none_of_le hsz) (fun b o _ e => Heap.get?_push_of_some _ (hk b o e)) (Heap.get?_push_size _ rfl)
      ((hrec.keeps hk).keeps fun b o e => Heap.get?_push_of_some _ e) (.inr hf) (Heap.get?_push_of_some _ (hk _ _ hP)) ht (fun _ _ e => .inl e)
/-- the law's table holds codes of its lambdas alone -/
noncomputable def TabOk (ps : Array Value) (G : Heap) : Prop := ∀ q v, codeAmong q ps.toList = some v → ∃ c, v = .ref c ∧ G.CodeRec (.ref c) lawLam
theorem TabOk.stay {ps : Array Value} {G G' : Heap} (x : TabOk ps G) (S : Stay G G') : TabOk ps G' := fun q v e => let ⟨c, a, b⟩ := x q v e; ⟨c, a, b.keeps S⟩
theorem TabOk.nil (G : Heap) : TabOk #[] G := fun q v e => by simp [codeAmong] at e
/-- a lambda is made -/
theorem lf_lam {e : Expr} {env : Env} {clos : List (Str × Nat)} {Q : Value → Shared → Prop} (F : LF G L m cm ps qs h) (hg : G.Ns mainGlobals mg) (bm : BM G mg) (C : CodeHd G 164 162) (he : e = .Lambda (lamP e) (lamB e) (lamS e) (lamQ e)) (hdef : defaultsOf (lamP e) env = ([], []))
    (hcl : closureFor (lamS e) env = pure clos) (hcode : env.code = .ref 164) (hge : env.globals = mainGlobals) (hq : env.qual ++ "<lambda>" = lawLam) (hT : TabOk ps G)
    (k : ∀ G' f h' tk' ps', Stay G G' → LF G' L m cm ps' qs h' → LamAt G' f e clos → TabOk ps' G' → (∀ Z, (∀ z ∈ Z, G.get? z = none ∧ ∃ o, h.get? z = some o) → TabOk ps' (hideAll h' (LX L ++ Z)) ∧ LamAt (hideAll h' (LX L ++ Z)) f e clos) → Off 162 h h' → Q (.ref f) (st s h' tk')) :
    wpAny (model prog w) A (eval e env) Q E (st s h tk) := by
  rw [he]
  refine kla_eval hdef ?_
  rw [hq]
  have hnf : codeAmong (lamQ e) ps.toList = none ∨ ∃ c', codeAmong (lamQ e) ps.toList = some (.ref c') ∧ G.CodeRec (.ref c') lawLam := by
    cases hc : codeAmong (lamQ e) ps.toList with
    | none => exact .inl rfl
    | some v => obtain ⟨c, rfl, r⟩ := hT _ _ hc; exact .inr ⟨c, rfl, r⟩
  refine mk_lam2 (hg.keeps F.keep) (bm.stay F.keep) (C.keeps F.keep) F.tab F.tr (hnf.imp id fun ⟨c', a, b⟩ => ⟨c', a, b.keeps F.keep⟩) hcl hcode (fun f c' ctv h' tk' ps' ff O hf hrec hfr hP tr hca => ?_) hge
  have F' := F.set162 hP tr O
  obtain ⟨F'', S⟩ := F'.ground
  have key : ∀ Z, (∀ z ∈ Z, G.get? z = none ∧ ∃ o, h.get? z = some o) → TabOk ps' (hideAll h' (LX L ++ Z)) ∧ LamAt (hideAll h' (LX L ++ Z)) f e clos := by
    intro Z hZ
    have hZ' : ∀ z ∈ LX L ++ Z, G.get? z = none ∧ ∃ o, h.get? z = some o := by
      intro z hz
      rcases List.mem_append.mp hz with q | q
      · exact ⟨F.hid z q, F.ex z q⟩
      · exact hZ z q
    have nn : ∀ {a : Nat}, h.get? a = none → a ∉ LX L ++ Z := fun {a} ha q => by obtain ⟨o, e⟩ := (hZ' a q).2; rw [ha] at e; cases e
    have S' : Stay G (hideAll h' (LX L ++ Z)) := fun b o e => hideAll_get _ (F'.keep b o e) fun q => by rw [(hZ' b q).1] at e; cases e
    have hf' : (hideAll h' (LX L ++ Z)).get? f = _ := hideAll_get _ hf (nn ff)
    have hc' : (hideAll h' (LX L ++ Z)).CodeRec (.ref c') lawLam := by
      rcases hfr with hfr | hfr
      · obtain ⟨c2, oc, vs, t, e2, hoc, hd, hv⟩ := hrec
        cases e2
        exact ⟨c', oc, vs, t, rfl, hideAll_get _ hoc (nn hfr), hd, hv⟩
      · rcases hnf with hnf | ⟨c2, e1, e2⟩
        · rw [hnf] at hfr; cases hfr
        · rw [e1] at hfr; cases hfr; exact e2.keeps S'
    refine ⟨fun q v e => ?_, _, c', ctv, hf', hc'⟩
    rcases hca q v e with q | rfl
    · exact hT.stay S' _ _ q
    · exact ⟨c', rfl, hc'⟩
  have k0 := key [] (by simp)
  rw [List.append_nil] at k0
  exact k _ f h' tk' ps' S F'' k0.2 k0.1 key O
end
end Mine
end
section
open PySem PySem.W PySem.Calls PyProof.Rows
set_option Elab.async false
set_option maxRecDepth 100000
set_option linter.unusedVariables false
namespace Mine

section
variable {G h h' : Heap} {L : Nat} {m cm : Str → Option Value} {ps qs : Array Value}
theorem LF.offX (F : LF G L m cm ps qs h) {X : List Nat} (hX : ∀ x ∈ X, x ∉ LX L ∧ G.get? x = none) (O : OffL X h h') : LF G L m cm ps qs h' := by
  have nx : ∀ z ∈ LX L, z ∉ X := fun z hz q => (hX z q).1 hz
  exact ⟨F.ns.at' fun o e => O _ _ (nx L (by simp [LX])) e, fun n c hc => isCell_at (F.cell n c hc) fun o e => O _ _ (nx c (cellOf hc).1) e, O _ _ (nx 162 (by simp [LX])) F.tab, F.tr, O _ _ (nx 80 (by simp [LX])) F.t80,
    fun b o e => O _ _ (fun q => by rw [(hX b q).2] at e; cases e) (F.keep b o e), F.hid, F.lo⟩
/-- a smaller ground -/
theorem LF.less (F : LF G L m cm ps qs h) {G' : Heap} (S : Stay G' h) (hid : ∀ z ∈ LX L, G'.get? z = none) : LF G' L m cm ps qs h := ⟨F.ns, F.cell, F.tab, F.tr, F.t80, S, hid, F.lo⟩
end

section
variable {prog : Program} {w : World} {A : Around} {E : Value → Shared → Prop} {s : Shared} {G h : Heap} {tk : Nat} {L : Nat} {m cm : Str → Option Value} {ps qs : Array Value} {mg mb : Str → Option Value} {pm : Value}

theorem stLt {env : Env} {G' : Heap} {C : Nat} {mm : Str → Option Value} {x : Str} {v : Value} {Q : Unit → Shared → Prop} {M : Model} (F : Fm G' C mm h) (k : ∀ h', Fm G' C (fun y => if y = x then some v else mm y) h' → Off C h h' → Q () (st s h' (tk + 1)))
    (hL : env.locals = C) (hk : env.scope.kind = .function) (hx : env.kindOf x = some .local) : wpAny M A (storeName env x v) Q E (st s h tk) := by
  subst hL
  exact wpAny_storeName_local (s := st s h tk) hx F.ns (fun h' hn hs => k h' (F.set hn hs) fun b o hb e => (hs.2 b hb).trans e) (by rw [hk]; rfl)

set_option maxHeartbeats 2000000 in
theorem lf_comp {elt iter : Expr} {x : Str} {px pos pos2 : Pos} {ifs : List Expr} {scope : Scope} {cl : List (Str × Nat)} {use : Option (Value → Sem Unit)} {Q : Value → Shared → Prop} {Pst : Array Value → Heap → Prop}
    (hclos : closureFor scope (lawEnv pm L) = pure cl) (hcell : ∀ y ∈ scope.names, y.2 ≠ .cell) (hkind : scope.kind = .function) (hnames : ∀ y ∈ scope.names, y.2 = .local → scope.names.lookup y.1 = some .local) (hx : scope.names.lookup x = some .local)
    (hs : ∀ v, foldedSetIterable iter (lawEnv pm L) v = pure v)
    (F : LF G L m cm ps qs h) (hP0 : Pst ps G) (hmono : ∀ ps G G', Pst ps G → Stay G G' → Pst ps G') (hh : A.handled = none)
    (k : wpAny (model prog w) A (eval iter (lawEnv pm L)) (fun v s₁ => ∃ h₁ tk₁ base n, ∃ P : Nat → Value → Prop, ∃ p : Nat → Value → Bool, ∃ Fy : Nat → Value → Value → Prop, s₁ = st s h₁ tk₁ ∧ Stay h h₁ ∧ Seq prog w s h₁ v base n P ∧ (∀ b ∈ base, b ∉ LX L ∧ ∃ o, h₁.get? b = some o) ∧ n ≤ 1000 ∧
      (∀ i v C G₃ ps₃ m₃ h₃ tk₃, i < n → P i v → Stay G G₃ → LF G₃ L m cm ps₃ qs h₃ → Pst ps₃ G₃ → Fm G₃ C m₃ h₃ → m₃ x = some v → Stay h₁ h₃ ∨ True →
        wpAny (model prog w) A (forIn ifs true fun c r => if r = true then do let ok ← isTrue c (compEnvC scope cl C (lawEnv pm L)) (eval c (compEnvC scope cl C (lawEnv pm L))); pure (ForInStep.yield ok) else pure (ForInStep.yield r))
          (fun ok s₄ => ok = p i v ∧ ∃ h₄ tk₄, s₄ = st s h₄ tk₄ ∧ Stay h₃ h₄) (fun _ _ => False) (st s h₃ tk₃)) ∧
      (∀ i v C G₃ ps₃ m₃ h₃ tk₃, i < n → P i v → p i v = true → Stay G G₃ → LF G₃ L m cm ps₃ qs h₃ → Pst ps₃ G₃ → Fm G₃ C m₃ h₃ → m₃ x = some v → 1 ≤ tk₃ →
        wpAny (model prog w) A (eval elt (compEnvC scope cl C (lawEnv pm L))) (fun y s₄ => Fy i v y ∧ ∃ ps₄ h₄ tk₄, s₄ = st s h₄ tk₄ ∧ Off 162 h₃ h₄ ∧ h₄.get? 162 = some (tabObj ps₄) ∧ TriplesOk ps₄.toList ∧
          (∀ Z, (∀ z ∈ Z, G₃.get? z = none ∧ ∃ o, h₃.get? z = some o) → Pst ps₄ (hideAll h₄ (LX L ++ Z)))) (fun _ _ => False) (st s h₃ tk₃)) ∧
      (∀ D C (ys : List Value) (vs : List Value) G' ps' m' h' tk', h₁.get? D = none → Stay G G' → (∀ b o, h₁.get? b = some o → b ∉ LX L → G'.get? b = some o) → G'.PlainList D ys.toArray → LF G' L m cm ps' qs h' → Pst ps' G' → G'.get? C = none → C ∉ LX L → h'.Ns C m' →
        vs.length = n → (∀ j v, vs[j]? = some v → P j v) → (∃ is : List Nat, True ∧ Paired (fun (iv : Nat × Value) y => Fy iv.1 iv.2 y) (((List.range n).zip vs).filter fun iv => p iv.1 iv.2) ys) →
        compPost (model prog w) A E use Q (.ref D) C (.ok .next) (st s h' tk'))) E (st s h tk)) :
    wpAny (model prog w) A (comprehension (.ListComp elt [⟨.Name x px, iter, ifs, 0⟩] scope pos) scope (lawEnv pm L) pos2 (newList []) false (eval iter (lawEnv pm L)) use) Q E (st s h tk) := by
  refine wp_lc (s := s) (cl := cl) rfl hs hclos hcell hkind hnames (wpAny_mono k (fun v s₁ k₁ => ?_) fun _ _ e => e)
  obtain ⟨h₁, tk₁, base, n, P, p, Fy, rfl, S₁, hseq, hbase, hn, tests, elem, fin⟩ := k₁
  refine hseq.it A h₁ tk₁ _ _ (Stay.refl _) fun I fp wr St h₂ tk₂ S₂ W hwr hfp hlive hst => ?_
  refine ⟨h₂, tk₂, rfl, fun D C h₃ tk₃ fD fC hDC S₃ hD hC => ?_⟩
  have F₃ := ((F.stay S₁).stay S₂).stay S₃
  have W' := W A hh
  have hst₃ : St 0 h₃ := W'.frame _ _ _ hst fun b _ o e => S₃ _ _ e
  have lx₂ : ∀ z ∈ LX L, ∃ o, h₂.get? z = some o := ((F.stay S₁).stay S₂).ex
  have lx₁ : ∀ z ∈ LX L, ∃ o, h₁.get? z = some o := (F.stay S₁).ex
  have nD : D ∉ LX L := fun q => by obtain ⟨o, e⟩ := lx₂ D q; rw [fD] at e; cases e
  have nC : C ∉ LX L := fun q => by obtain ⟨o, e⟩ := lx₂ C q; rw [fC] at e; cases e
  have nW : ∀ b ∈ wr, b ∉ LX L := fun b hb q => by obtain ⟨o, e⟩ := lx₁ b q; rw [hwr b hb] at e; cases e
  have live₂ : ∀ b ∈ wr, ∃ o, h₂.get? b = some o := fun b hb => hlive _ _ hst b hb
  have dW : ∀ b ∈ wr, b ≠ D ∧ b ≠ C := fun b hb => ⟨fun q => (by obtain ⟨o, e⟩ := live₂ b hb; rw [q, fD] at e; cases e), fun q => (by obtain ⟨o, e⟩ := live₂ b hb; rw [q, fC] at e; cases e)⟩
  have nfp : ∀ b ∈ fp, b ∉ LX L ∧ b ≠ D ∧ b ≠ C := by
    intro b hb
    rcases hfp b hb with q | q
    · exact ⟨nW b q, dW b q⟩
    · obtain ⟨o, e⟩ := (hbase b q).2
      exact ⟨(hbase b q).1, fun z => (by rw [z] at e; rw [S₂ _ _ e] at fD; cases fD), fun z => (by rw [z] at e; rw [S₂ _ _ e] at fC; cases fC)⟩
  let Z := C :: D :: wr
  have hZ : Z = C :: D :: wr := rfl
  have nZ : ∀ z ∈ Z, z ∉ LX L := by
    intro z hz
    rw [hZ] at hz
    simp only [List.mem_cons] at hz
    rcases hz with rfl | rfl | hz
    · exact nC
    · exact nD
    · exact nW z hz
  have f₁ : ∀ z ∈ Z, h₁.get? z = none := by
    intro z hz
    rw [hZ] at hz
    simp only [List.mem_cons] at hz
    rcases hz with rfl | rfl | hz
    · exact fresh_of S₂ fC
    · exact fresh_of S₂ fD
    · exact hwr z hz
  have g0 : Stay G (hideAll h₃ (LX L ++ Z)) := fun b o e => hideAll_get _ (F₃.keep _ _ e) (by
    simp only [List.mem_append, not_or]
    exact ⟨fun q => (by rw [F.hid b q] at e; cases e), fun q => (by have := (F.stay S₁).keep _ _ e; rw [f₁ b q] at this; cases this)⟩)
  have e0 : ∀ b o, h₁.get? b = some o → b ∉ LX L → (hideAll h₃ (LX L ++ Z)).get? b = some o := fun b o e nb => hideAll_get _ (S₃ _ _ (S₂ _ _ e)) (by
    simp only [List.mem_append, not_or]
    exact ⟨nb, fun q => (by rw [f₁ b q] at e; cases e)⟩)
  have loop : codeAny (model prog w) A (.compLoop (.ListComp elt [⟨.Name x px, iter, ifs, 0⟩] scope pos) 0 (.ref I) (.ref D) (compEnvC scope cl C (lawEnv pm L))) (compPost (model prog w) A E use Q (.ref D) C) (st s h₃ tk₃) := by
    refine comp_loop1 (turns_name W')
      (fun i h' => ∃ G' ps' m' ys vs, Stay (hideAll h₃ (LX L ++ Z)) G' ∧ (∀ z ∈ Z, G'.get? z = none) ∧ LF G' L m cm ps' qs h' ∧ Pst ps' G' ∧ h'.Ns C m' ∧ h'.PlainList D (List.toArray ys) ∧ vs.length = i ∧ (∀ j v, vs[j]? = some v → P j v) ∧ Paired (fun (iv : Nat × Value) y => Fy iv.1 iv.2 y) (((List.range i).zip vs).filter fun iv => p iv.1 iv.2) ys ∧ ys.length ≤ i) ?hJ ?turn ?fin hst₃
      ⟨hideAll h₃ (LX L ++ Z), ps, _, [], [], Stay.refl _, fun z hz => hideAll_none _ (by simp [hz]), F₃.less (fun b o e => of_hideAll _ e) (fun z hz => hideAll_none _ (by simp [hz])), hmono _ _ _ hP0 g0, hC, hD, rfl, by simp, .nil, by simp⟩
    case hJ =>
      rintro i h₄ h₅ ⟨G', ps', m', ys, vs, a1, a2, a3, a4, a5, a6, a7, a8, a9, a10⟩ hk
      exact ⟨G', ps', m', ys, vs, a1, a2, a3.offX (fun z hz => ⟨nW z hz, a2 z (by rw [hZ]; simp [hz])⟩) hk, a4, a5.at' fun o e => hk _ _ (fun q => (dW C q).2 rfl) e, a6.at fun o e => hk _ _ (fun q => (dW D q).1 rfl) e, a7, a8, a9, a10⟩
    case fin =>
      rintro h₄ tk₄ ⟨G', ps', m', ys, vs, a1, a2, a3, a4, a5, a6, a7, a8, a9, a10⟩
      have hDg : (hideAll h₄ (LX L ++ (C :: wr))).PlainList D (List.toArray ys) := by
        obtain ⟨nn, e⟩ := a6
        refine ⟨nn, hideAll_get _ e ?_⟩
        simp only [List.mem_append, List.mem_cons, not_or]
        exact ⟨nD, hDC, fun q => (dW D q).1 rfl⟩
      have gg : Stay G' (hideAll h₄ (LX L ++ (C :: wr))) := fun b o e => hideAll_get _ (a3.keep _ _ e) (by
        simp only [List.mem_append, List.mem_cons, not_or]
        exact ⟨fun q => (by rw [a3.hid b q] at e; cases e), fun q => (by rw [q, a2 C (by rw [hZ]; simp)] at e; cases e), fun q => (by rw [a2 b (by rw [hZ]; simp [q])] at e; cases e)⟩)
      exact fin D C ys vs (hideAll h₄ (LX L ++ (C :: wr))) ps' m' h₄ tk₄ (f₁ D (by rw [hZ]; simp)) ((g0.trans a1).trans gg) (fun b o e nb => gg _ _ (a1 _ _ (e0 b o e nb))) hDg (a3.less (fun b o e => of_hideAll _ e) (fun z hz => hideAll_none _ (by simp [hz]))) (hmono _ _ _ a4 gg) (hideAll_none _ (by simp)) nC a5 a7 a8 ⟨[], trivial, a9⟩
    case turn =>
      rintro i v h₄ tk₄ hi hP hst₄ ⟨G', ps', m', ys, vs, a1, a2, a3, a4, a5, a6, a7, a8, a9, a10⟩
      have F₄ : Fm G' C m' h₄ := ⟨a5, a3.keep, a2 C (by rw [hZ]; simp)⟩
      refine wpAny_assign_Name (stLt F₄ (fun h₅ F₅ O₅ => ?_) rfl hkind (lookup_relabel_local hx))
      have LF₅ : LF G' L m cm ps' qs h₅ := a3.offX (X := [C]) (fun z hz => by simp at hz; subst hz; exact ⟨nC, a2 z (by rw [hZ]; simp)⟩) (O₅.offL (by simp))
      have hx5 : ∀ (mm : Str → Option Value), (fun z => if z = x then some v else mm z) x = some v := fun mm => by simp
      have gs : Stay G G' := g0.trans a1
      have hzip : (((List.range (i + 1)).zip (vs ++ [v])).filter fun iv => p iv.1 iv.2) = (((List.range i).zip vs).filter fun iv => p iv.1 iv.2) ++ (if p i v = true then [(i, v)] else []) := by
        rw [List.range_succ, List.zip_append (by simp [a7]), List.filter_append]
        congr 1
        simp only [List.zip_cons_cons, List.zip_nil_right, List.filter_cons, List.filter_nil]
      have hPs : ∀ j u, (vs ++ [v])[j]? = some u → P j u := fun j u hj => by
        rcases Nat.lt_trichotomy j vs.length with q | q | q
        · exact a8 j u (by rwa [List.getElem?_append_left q] at hj)
        · subst q; simp at hj; subst hj; rw [a7]; exact hP
        · have hnone : (vs ++ [v])[j]? = none := List.getElem?_eq_none (by rw [List.length_append, List.length_singleton]; (first | lia | omega))
          rw [hnone] at hj; cases hj
      refine wpAny_mono (wpAny_toks_of (n := 1) (s := st s h₅ (tk₄ + 1)) (Nat.le_add_left _ _) (tests i v C G' ps' _ h₅ (tk₄ + 1) hi hP gs LF₅ a4 F₅ (hx5 _) (.inr trivial))) (fun ok s₆ q₆ => ?_) fun _ _ e => e.2.elim
      obtain ⟨htk₆, rfl, h₆, tk₆, rfl, S₆⟩ := q₆
      have htk₆ : 1 ≤ tk₆ := htk₆
      have LF₆ := LF₅.stay S₆
      have F₆ := F₅.stay S₆
      have hD₆ : h₆.PlainList D (List.toArray ys) := a6.at fun o e => S₆ _ _ (O₅ _ _ hDC e)
      have kept₆ : Kept fp h₄ h₆ := fun b hb o e => S₆ _ _ (O₅ _ _ (nfp b hb).2.2 e)
      cases hp : p i v with
      | false =>
        rw [if_neg (by simp)]
        refine ⟨h₆, tk₆, rfl, kept₆, G', ps', _, ys, vs ++ [v], a1, a2, LF₆, a4, F₆.ns, hD₆, by simp [a7], hPs, ?_, by (first | lia | omega)⟩
        rw [hzip, hp]; simpa using a9
      | true =>
        rw [if_pos rfl]
        refine wpAny_mono (elem i v C G' ps' _ h₆ tk₆ hi hP hp gs LF₆ a4 F₆ (hx5 _) htk₆) (fun y s₇ q₇ => ?_) fun _ _ e => e.elim
        obtain ⟨hFy, ps₄, h₇, tk₇, rfl, O₇, hT₇, tr₇, hPs₇⟩ := q₇
        have LF₇ := LF₆.set162 hT₇ tr₇ O₇
        have n162 : ∀ z ∈ Z, z ≠ 162 := fun z hz q => nZ z hz (by rw [q]; simp [LX])
        have hD₇ : h₇.PlainList D (List.toArray ys) := hD₆.at fun o e => O₇ _ _ (n162 D (by rw [hZ]; simp)) e
        have exZ : ∀ z ∈ Z, ∃ o, h₆.get? z = some o := by
          intro z hz
          rw [hZ] at hz
          simp only [List.mem_cons] at hz
          rcases hz with rfl | rfl | hz
          · obtain ⟨o, es, ep, e, _⟩ := F₆.ns; exact ⟨o, e⟩
          · obtain ⟨nn, e⟩ := hD₆; exact ⟨_, e⟩
          · exact hlive _ _ (W'.frame _ _ _ hst₄ kept₆) z hz
        refine r_append hD₇ (by simp; (first | lia | omega)) fun h₈ hD₈ O₈ => ?_
        have gg : Stay G' (hideAll h₇ (LX L ++ Z)) := fun b o e => hideAll_get _ (LF₇.keep _ _ e) (by
          simp only [List.mem_append, not_or]
          exact ⟨fun q => (by rw [a3.hid b q] at e; cases e), fun q => (by rw [a2 b q] at e; cases e)⟩)
        have LF₇' : LF (hideAll h₇ (LX L ++ Z)) L m cm ps₄ qs h₇ := LF₇.less (fun b o e => of_hideAll _ e) (fun z hz => hideAll_none _ (by simp [hz]))
        refine ⟨h₈, tk₇, rfl, fun b hb o e => O₈ _ _ (nfp b hb).2.1 (O₇ _ _ (fun q => (nfp b hb).1 (by rw [q]; simp [LX])) (kept₆ b hb o e)), hideAll h₇ (LX L ++ Z), ps₄, _, ys ++ [y], vs ++ [v], a1.trans gg, fun z hz => hideAll_none _ (by simp [hz]),
          LF₇'.offX (X := [D]) (fun z hz => by simp at hz; subst hz; exact ⟨nD, hideAll_none _ (by rw [hZ]; simp)⟩) (O₈.offL (by simp)), hPs₇ Z fun z hz => ⟨a2 z hz, exZ z hz⟩, (F₆.ns.at' fun o e => O₇ _ _ (n162 C (by rw [hZ]; simp)) e).at' fun o e => O₈ _ _ hDC.symm e, by simpa using hD₈, by simp [a7], hPs, ?_, by simp; (first | lia | omega)⟩
        rw [hzip, hp, if_pos rfl]
        exact Paired.snoc a9 hFy
  exact codeAny_compStart_list loop (W'.self 0 _ _ _ hst₃ loop)
end
end Mine
end
section
open PySem PySem.W PySem.Calls PyProof.Rows
set_option Elab.async false
set_option maxRecDepth 100000
set_option linter.unusedVariables false
namespace Mine

section
variable {prog : Program} {w : World} {A : Around} {E : Value → Shared → Prop} {s : Shared} {G h : Heap} {tk : Nat} {L : Nat} {m cm : Str → Option Value} {ps qs : Array Value} {mg mb : Str → Option Value} {pm : Value}

/-- what a comprehension of the law's needs, and what is behind it -/
noncomputable def CompSrc' (prog : Program) (w : World) (A : Around) (s : Shared) (G h : Heap) (L : Nat) (m cm : Str → Option Value) (qs : Array Value) (pm : Value) (elt : Expr) (x : Str) (ifs : List Expr) (scope : Scope) (cl : List (Str × Nat)) (Pst : Array Value → Heap → Prop)
    (K : Nat → List Value → Heap → Array Value → Heap → Nat → Prop) (v : Value) (s₁ : Shared) : Prop :=
  ∃ h₁ tk₁ base n, ∃ P : Nat → Value → Prop, ∃ p : Nat → Value → Bool, ∃ Fy : Nat → Value → Value → Prop, s₁ = st s h₁ tk₁ ∧ Stay h h₁ ∧ Seq prog w s h₁ v base n P ∧ (∀ b ∈ base, b ∉ LX L ∧ ∃ o, h₁.get? b = some o) ∧ n ≤ 1000 ∧
      (∀ i v C G₃ ps₃ m₃ h₃ tk₃, i < n → P i v → Stay G G₃ → LF G₃ L m cm ps₃ qs h₃ → Pst ps₃ G₃ → Fm G₃ C m₃ h₃ → m₃ x = some v → Stay h₁ h₃ ∨ True →
        wpAny (model prog w) A (forIn ifs true fun c r => if r = true then do let ok ← isTrue c (compEnvC scope cl C (lawEnv pm L)) (eval c (compEnvC scope cl C (lawEnv pm L))); pure (ForInStep.yield ok) else pure (ForInStep.yield r))
          (fun ok s₄ => ok = p i v ∧ ∃ h₄ tk₄, s₄ = st s h₄ tk₄ ∧ Stay h₃ h₄) (fun _ _ => False) (st s h₃ tk₃)) ∧
      (∀ i v C G₃ ps₃ m₃ h₃ tk₃, i < n → P i v → p i v = true → Stay G G₃ → LF G₃ L m cm ps₃ qs h₃ → Pst ps₃ G₃ → Fm G₃ C m₃ h₃ → m₃ x = some v → 1 ≤ tk₃ →
        wpAny (model prog w) A (eval elt (compEnvC scope cl C (lawEnv pm L))) (fun y s₄ => Fy i v y ∧ ∃ ps₄ h₄ tk₄, s₄ = st s h₄ tk₄ ∧ Off 162 h₃ h₄ ∧ h₄.get? 162 = some (tabObj ps₄) ∧ TriplesOk ps₄.toList ∧
          (∀ Z, (∀ z ∈ Z, G₃.get? z = none ∧ ∃ o, h₃.get? z = some o) → Pst ps₄ (hideAll h₄ (LX L ++ Z)))) (fun _ _ => False) (st s h₃ tk₃)) ∧
      (∀ D (ys : List Value) (vs : List Value) G' ps' h' tk', h₁.get? D = none → Stay G G' → (∀ b o, h₁.get? b = some o → b ∉ LX L → G'.get? b = some o) → G'.PlainList D ys.toArray → Pst ps' G' →
        vs.length = n → (∀ j v, vs[j]? = some v → P j v) → Paired (fun (iv : Nat × Value) y => Fy iv.1 iv.2 y) (((List.range n).zip vs).filter fun iv => p iv.1 iv.2) ys → K D ys G' ps' h' tk')

theorem lf_plain {elt iter : Expr} {x : Str} {px pos : Pos} {ifs : List Expr} {scope : Scope} {cl : List (Str × Nat)} {Q : Value → Shared → Prop} {Pst : Array Value → Heap → Prop}
    (hclos : closureFor scope (lawEnv pm L) = pure cl) (hcell : ∀ y ∈ scope.names, y.2 ≠ .cell) (hkind : scope.kind = .function) (hnames : ∀ y ∈ scope.names, y.2 = .local → scope.names.lookup y.1 = some .local) (hx : scope.names.lookup x = some .local)
    (hs : ∀ v, foldedSetIterable iter (lawEnv pm L) v = pure v) (F : LF G L m cm ps qs h) (hP0 : Pst ps G) (hmono : ∀ ps G G', Pst ps G → Stay G G' → Pst ps G') (hh : A.handled = none)
    (k : wpAny (model prog w) A (eval iter (lawEnv pm L)) (CompSrc' prog w A s G h L m cm qs pm elt x ifs scope cl Pst (fun D ys G' ps' h' tk' => LF G' L m cm ps' qs h' → Q (.ref D) (st s h' tk'))) E (st s h tk)) :
    wpAny (model prog w) A (eval (.ListComp elt [⟨.Name x px, iter, ifs, 0⟩] scope pos) (lawEnv pm L)) Q E (st s h tk) := by
  rw [eval_ListComp]
  refine lf_comp hclos hcell hkind hnames hx hs F hP0 hmono hh (wpAny_mono k (fun v s₁ q => ?_) fun _ _ e => e)
  obtain ⟨h₁, tk₁, base, n, P, p, Fy, a1, a2, a3, a4, a5, a6, a7, a8⟩ := q
  refine ⟨h₁, tk₁, base, n, P, p, Fy, a1, a2, a3, a4, a5, a6, a7, fun D C ys vs G' ps' m' h' tk' b1 b2 b3 b4 b5 b6 b7 b8 b9 b10 b11 b12 => ?_⟩
  obtain ⟨_, _, b12⟩ := b12
  refine ⟨m', b9, fun h'' sb => ?_⟩
  have O : OffL [C] h' h'' := fun b o n e => sb.extBut b o (by simpa using n) e
  exact a8 D ys vs G' ps' h'' tk' b1 b2 b3 b4 b6 b10 b11 b12 (b5.offX (fun z hz => by simp at hz; subst hz; exact ⟨b8, b7⟩) O)

theorem lf_used {elt iter : Expr} {x y : Str} {px py pos spos : Pos} {ifs : List Expr} {scope : Scope} {cl : List (Str × Nat)} {rest : List Stmt} {Q : Flow → Shared → Prop} {Pst : Array Value → Heap → Prop}
    (hsw : swapsWith (.ListComp elt [⟨.Name x px, iter, ifs, 0⟩] scope pos) (some (.Name y py)) spos.line (lawEnv pm L) = pure true) (hy : (lawEnv pm L).kindOf y = some .local)
    (hclos : closureFor scope (lawEnv pm L) = pure cl) (hcell : ∀ y ∈ scope.names, y.2 ≠ .cell) (hkind : scope.kind = .function) (hnames : ∀ y ∈ scope.names, y.2 = .local → scope.names.lookup y.1 = some .local) (hx : scope.names.lookup x = some .local)
    (hs : ∀ v, foldedSetIterable iter (lawEnv pm L) v = pure v) (F : LF G L m cm ps qs h) (hP0 : Pst ps G) (hmono : ∀ ps G G', Pst ps G → Stay G G' → Pst ps G') (hh : A.handled = none)
    (k : wpAny (model prog w) A (eval iter (lawEnv pm L)) (CompSrc' prog w A s G h L m cm qs pm elt x ifs scope cl Pst (fun D ys G' ps' h' tk' => LF G' L (fun z => if z = y then some (.ref D) else m z) cm ps' qs h' → wpAny (model prog w) A (execs rest (lawEnv pm L)) Q E (st s h' tk'))) E (st s h tk)) :
    wpAny (model prog w) A (execs (.Assign [.Name y py] (.ListComp elt [⟨.Name x px, iter, ifs, 0⟩] scope pos) spos :: rest) (lawEnv pm L)) Q E (st s h tk) := by
  refine wpAny_execs_cons ?_
  rw [exec_Assign_Name_used _ _ _ _ hsw]
  refine wpAny_bind (wpAny_standAt (wpAny_bind ?_))
  show wpAny _ A (do let _ ← comprehension (.ListComp elt [⟨.Name x px, iter, ifs, 0⟩] scope pos) scope (lawEnv pm L) _ (newList []) false (eval iter (lawEnv pm L)) (some (assign (.Name y py) (lawEnv pm L)))) _ _ _
  refine wpAny_bind (wpAny_mono (lf_comp (use := some (assign (.Name y py) (lawEnv pm L))) (Q := fun _ s' => wpAny (model prog w) A (execs rest (lawEnv pm L)) Q E s') hclos hcell hkind hnames hx hs F hP0 hmono hh (wpAny_mono k (fun v s₁ q => ?_) fun _ _ e => e)) (fun _ s' hq => wpAny_pure (wpAny_pure hq)) fun _ _ e => e)
  obtain ⟨h₁, tk₁, base, n, P, p, Fy, a1, a2, a3, a4, a5, a6, a7, a8⟩ := q
  refine ⟨h₁, tk₁, base, n, P, p, Fy, a1, a2, a3, a4, a5, a6, a7, fun D C ys vs G' ps' m' h' tk' b1 b2 b3 b4 b5 b6 b7 b8 b9 b10 b11 b12 => ?_⟩
  obtain ⟨_, _, b12⟩ := b12
  show wpAny _ A (assign (.Name y py) (lawEnv pm L) (.ref D)) _ _ _
  refine wpAny_assign_Name (stL b5.fm (fun h₂ tk₂ F₂ O₂ => ?_) rfl rfl hy)
  have hCL : C ≠ L := fun q => b8 (by rw [q]; simp [LX])
  refine ⟨m', b9.at' fun o e => O₂ _ _ hCL e, fun h'' sb => ?_⟩
  have O : OffL [C] h₂ h'' := fun b o n e => sb.extBut b o (by simpa using n) e
  exact a8 D ys vs G' ps' h'' tk₂ b1 b2 b3 b4 b6 b10 b11 b12 ((b5.setL F₂ O₂).offX (fun z hz => by simp at hz; subst hz; exact ⟨b8, b7⟩) O)
end
end Mine
end
section
open PySem PySem.W PySem.Calls PyProof.Rows
set_option Elab.async false
set_option maxRecDepth 100000
set_option linter.unusedVariables false
namespace Mine

section
variable {prog : Program} {w : World} {A : Around} {E : Value → Shared → Prop} {s : Shared} {G h : Heap} {tk : Nat} {L : Nat} {m cm : Str → Option Value} {ps qs : Array Value} {mg mb : Str → Option Value} {pm : Value}

/-- elements that make nothing but values -/
theorem compQuiet {elt : Expr} {x : Str} {scope : Scope} {cl : List (Str × Nat)} {K : Nat → List Value → Heap → Array Value → Heap → Nat → Prop} {v : Value} {h₁ : Heap} {tk₁ : Nat} {base : List Nat} {n : Nat} {P : Nat → Value → Prop} (Fy : Nat → Value → Value → Prop)
    (a2 : Stay h h₁) (a3 : Seq prog w s h₁ v base n P) (a4 : ∀ b ∈ base, b ∉ LX L ∧ ∃ o, h₁.get? b = some o) (a5 : n ≤ 1000)
    (elem : ∀ i v C G₃ m₃ h₃ tk₃, i < n → P i v → Stay G G₃ → LF G₃ L m cm ps qs h₃ → Fm G₃ C m₃ h₃ → m₃ x = some v → 1 ≤ tk₃ →
      wpAny (model prog w) A (eval elt (compEnvC scope cl C (lawEnv pm L))) (fun y s₄ => Fy i v y ∧ ∃ h₄ tk₄, s₄ = st s h₄ tk₄ ∧ Stay h₃ h₄) (fun _ _ => False) (st s h₃ tk₃))
    (fin : ∀ D (ys vs : List Value) G' h' tk', h₁.get? D = none → Stay G G' → (∀ b o, h₁.get? b = some o → b ∉ LX L → G'.get? b = some o) → G'.PlainList D ys.toArray → vs.length = n → (∀ j v, vs[j]? = some v → P j v) → ys.length = n →
      (∀ j v, vs[j]? = some v → ∃ y, ys[j]? = some y ∧ Fy j v y) → K D ys G' ps h' tk') :
    CompSrc' prog w A s G h L m cm qs pm elt x [] scope cl (fun ps' _ => ps' = ps) K v (st s h₁ tk₁) := by
  refine ⟨h₁, tk₁, base, n, P, fun _ _ => true, Fy, rfl, a2, a3, a4, a5, ?_, ?_, ?_⟩
  · intro i v C G₃ ps₃ m₃ h₃ tk₃ _ _ _ _ _ _ _ _
    exact wpAny_tests_nil ⟨rfl, h₃, tk₃, rfl, Stay.refl _⟩
  · rintro i v C G₃ ps₃ m₃ h₃ tk₃ hi hP _ S LF₃ rfl F₃ hv htk
    refine wpAny_mono (elem i v C G₃ m₃ h₃ tk₃ hi hP S LF₃ F₃ hv htk) (fun y s₄ q => ?_) fun _ _ e => e
    obtain ⟨hy, h₄, tk₄, rfl, S₄⟩ := q
    exact ⟨hy, ps₃, h₄, tk₄, rfl, S₄.off, S₄ _ _ LF₃.tab, LF₃.tr, fun _ _ => rfl⟩
  · rintro D ys vs G' ps' h' tk' b1 b2 b3 b4 rfl b6 b7 b8
    have e : (((List.range n).zip vs).filter fun iv => (fun _ _ => true : Nat → Value → Bool) iv.1 iv.2) = (List.range n).zip vs := by simp
    rw [e] at b8
    have hl := paired_len b8
    have hl' : ys.length = n := by rw [← hl]; simp [b6]
    refine fin D ys vs G' h' tk' b1 b2 b3 b4 b6 b7 hl' fun j u hu => ?_
    have hj : j < n := by
      have := (List.getElem?_eq_some_iff.mp hu).1
      (first | lia | omega)
    have : ((List.range n).zip vs)[j]? = some (j, u) := by
      rw [List.getElem?_zip_eq_some]
      exact ⟨by simp [hj], hu⟩
    obtain ⟨y, e1, e2⟩ := paired_get b8 this
    exact ⟨y, e1, e2⟩
end
end Mine
end
section
open PySem PySem.W PySem.Calls PyProof.Rows
set_option Elab.async false
set_option maxRecDepth 100000
set_option linter.unusedVariables false
namespace Mine

/-- the top's names -/
structure LN (mg : Str → Option Value) : Prop where
  n1 : mg "S_IFMT" = some (.ref 38)
  n2 : mg "_filemode_table" = some (.ref 71)
  n3 : mg "filemode" = some (.ref 78)
  n4 : mg "cmp_to_key" = some (.ref 85)
  n5 : mg "_initial_missing" = some (.ref 86)
  n6 : mg "reduce" = some (.ref 94)
  n7 : mg "_twin_re_1" = some (.ref 99)
  n8 : mg "_twin_re_2" = some (.ref 104)
  n9 : ∃ u, mg "CRLF" = some (.str "\r\n" u)
  n10 : mg "quotedata" = some (.ref 111)
  n11 : mg "_law_mode" = some (.ref 118)
  n12 : mg "_law_body" = some (.ref 125)
  n13 : mg "_law_told" = some (.ref 132)
  n14 : mg "_law_product" = some (.ref 139)
  n15 : mg "_law_choices" = some (.ref 146)
  n16 : mg "_law_ways" = some (.ref 153)
  n17 : mg "_law_orders" = some (.ref 160)
  b1 : mg "len" = none
  b2 : mg "range" = none
  b3 : mg "sorted" = none
  b4 : mg "int" = none
  b5 : mg "iter" = none
  b6 : mg "enumerate" = none
  b7 : mg "object" = none
  nm : ∃ v, mg "__name__" = some v ∧ ∃ x t, v = .str x t
/-- what stands on the ground -/
structure LG (mg mb mc : Str → Option Value) (T : List (List (Int × Str))) (G : Heap) : Prop where
  bas : Bas mg mb G
  bm : BM G mg
  st : G.Ns cStatics mc
  f1 : FnAt G 38 37 2 .none
  f2 : FnAt G 78 77 23 .none
  f3 : FnAt G 85 84 25 .none
  f4 : FnAt G 94 93 27 (.ref 87)
  f5 : FnAt G 111 110 32 .none
  f6 : FnAt G 118 117 34 .none
  f7 : FnAt G 125 124 35 .none
  f8 : FnAt G 132 131 36 .none
  f9 : FnAt G 139 138 37 .none
  f10 : FnAt G 146 145 38 .none
  f11 : FnAt G 153 152 39 .none
  f12 : FnAt G 160 159 40 .none
  tab : TabAt G 71 T
  p1 : PatAt G 99 codeDot
  p2 : PatAt G 104 codeEnd
  c1 : CodeHd G 164 162
  c2 : CodeHd G 84 80
  d87 : ∃ o, G.get? 87 = some o ∧ o.data = .seq #[.ref 86]
  o86 : ∃ o, G.get? 86 = some o ∧ o.cls = .type "object"
theorem LG.stay {mg mb mc : Str → Option Value} {T : List (List (Int × Str))} {G G' : Heap} (x : LG mg mb mc T G) (S : Stay G G') : LG mg mb mc T G' :=
  ⟨x.bas.stay S, x.bm.stay S, x.st.keeps S, x.f1.stay S, x.f2.stay S, x.f3.stay S, x.f4.stay S, x.f5.stay S, x.f6.stay S, x.f7.stay S, x.f8.stay S, x.f9.stay S, x.f10.stay S, x.f11.stay S, x.f12.stay S,
    tabAt_stay S x.tab, x.p1.stay S, x.p2.stay S, x.c1.keeps S, x.c2.keeps S, (let ⟨o, e, r⟩ := x.d87; ⟨o, S _ _ e, r⟩), (let ⟨o, e, r⟩ := x.o86; ⟨o, S _ _ e, r⟩)⟩

noncomputable def lawS (j : Nat) : Stmt := stmtAt 41 j
noncomputable def lawFrom (j : Nat) : List Stmt := (bodyAt 41).drop j
noncomputable def drawnF (ns : List Int) : List Int := (ns.take 4).map fun n => n.fmod 1000000

theorem slice_upto' (items : Array Value) (b : Nat) : slicePick items none (some (b : Int)) none = (items.toList.take b).toArray := by
  rcases Nat.lt_or_ge items.size b with hb | hb
  · have e := slice_upto items items.size (Nat.le_refl _)
    have e1 : sliceBounds none (some (b : Int)) none items.size = sliceBounds none (some (items.size : Int)) none items.size := by
      simp only [sliceBounds, Option.getD_none]
      have h1 : ¬ ((b : Int) < 0) := by (first | lia | omega)
      have h2 : ¬ ((items.size : Int) < 0) := by (first | lia | omega)
      simp only [h1, h2, if_false, show (1 : Int) > 0 by decide, if_true]
      rw [Int.min_eq_right (by (first | lia | omega)), Int.min_eq_right (by (first | lia | omega))]
    unfold slicePick at e ⊢
    rw [e1, e, List.take_of_length_le (by simp), List.take_of_length_le (by simp; (first | lia | omega))]
  · exact slice_upto items b hb

theorem ints_of {ys vs : List Value} {ns : List Int} (hi : IntsAre vs ns) (f : Int → Int) (hl : ys.length = vs.length) (h : ∀ (j : Nat) (v : Value), vs[j]? = some v → ∃ y : Value, ys[j]? = some y ∧ ∀ n t, v = Value.int n t → ∃ t', y = Value.int (f n) t') : IntsAre ys (ns.map f) := by
  induction hi generalizing ys with
  | nil => cases ys with
    | nil => exact .nil
    | cons _ _ => simp at hl
  | cons z u _ ih =>
    cases ys with
    | nil => simp at hl
    | cons y ys =>
      obtain ⟨y', e1, e2⟩ := h 0 (.int z u) rfl
      simp at e1
      subst e1
      obtain ⟨t', rfl⟩ := e2 z u rfl
      exact .cons _ t' (ih (by simpa using hl) fun j v hv => by simpa using h (j + 1) v (by simpa using hv))

section
variable {prog : Program} {w : World} {A : Around} {E : Value → Shared → Prop} {s : Shared} {G h : Heap} {tk : Nat} {L : Nat} {m cm : Str → Option Value} {ps qs : Array Value} {mg mb mc : Str → Option Value} {pm : Value} {T : List (List (Int × Str))}
set_option maxHeartbeats 2000000 in
theorem law_0 {sa : Nat} {us : List Value} {ns : List Int} {Q : Flow → Shared → Prop} (R : Rm 1 A) (N : LN mg) (X : LG mg mb mc T G) (F : LF G L m cm ps qs h) (hm : m "script" = some (.ref sa)) (hl : G.IsList sa us.toArray) (hi : IntsAre us ns) (hz : us.length ≤ 1000)
    (k : ∀ D G' h' tk', Stay G G' → LF G' L (fun z => if z = "drawn" then some (.ref D) else m z) cm ps qs h' → IntsAt G' (.ref D) (drawnF ns) → wpAny (model prog w) A (execs (lawFrom 1) (lawEnv pm L)) Q E (st s h' tk')) :
    wpAny (model prog w) A (execs (lawFrom 0) (lawEnv pm L)) Q E (st s h tk) := by
  refine lf_used (Pst := fun ps' _ => ps' = ps) rfl rfl rfl (by decide) rfl (by decide) rfl (by intro _; rfl) F rfl (fun _ _ _ e _ => e) R.hd ?_
  refine r_slice (s := s) ?_
  refine nmL F.fm hm ?_
  refine r_partN ?_
  refine evalPart_some_step (r_int ?_)
  refine ⟨h, _, sa, us.toArray, none, some 4, rfl, rfl, isLst_stay hl F.keep, by simpa using Nat.le_trans hz (by decide), .none, .int _ _, fun a h₁ fa ha S₁ => ?_⟩
  have e4 : slicePick us.toArray none (some 4) none = (us.take 4).toArray := slice_upto' us.toArray 4
  rw [e4] at ha
  have hn : (us.take 4).toArray.size ≤ 4 := by simp; (first | lia | omega)
  have na : a ∉ LX L := fun q => by obtain ⟨o, e⟩ := F.ex a q; rw [fa] at e; cases e
  refine compQuiet (fun i v y => ∀ n t, v = .int n t → ∃ t', y = .int (n.fmod 1000000) t') S₁ (Seq.list ha.isList) ?hb (by (first | lia | omega)) ?elem ?fin
  case hb =>
    intro b hb
    simp at hb
    subst hb
    obtain ⟨n, e⟩ := ha
    exact ⟨na, _, e⟩
  case elem =>
    intro i v C G₃ m₃ h₃ tk₃ hi' hP S LF₃ F₃ hv htk
    obtain ⟨t, y, rfl, _⟩ := ints_get' (hi.take 4) (show (us.take 4)[i]? = some v by simpa using hP)
    have B₃ := (X.stay S).bas.stay LF₃.keep
    show wpAny _ _ (eval (.BinOp _ _ _ _) _) _ _ _
    (with_reducible refine wpAny_BinOp ?_)
    (with_reducible refine r_call ?_)
    refine nmB B₃ N.b4 rfl ?_
    refine r_cwT (r_sp1 ?_)
    refine nmL F₃ hv ?_
    refine r_sp0 (call_int_int ?_)
    (with_reducible refine wpAny_BinOp ?_)
    (((with_reducible refine r_int ?_)))
    (((with_reducible refine r_int ?_)))
    refine PyProof.Rows.pow_int_small (s := st s h₃ _) (by decide) (by decide) (by decide) ?_
    show wpAny _ _ (binaryOp .Mod (.int y t) (.int 1000000 _)) _ _ (st s h₃ _)
    (((with_reducible refine r_fmod ?mm ?_); (case mm => first | decide | assumption | (first | lia | omega))))
    refine ⟨?_, h₃, _, rfl, Stay.refl _⟩
    rintro n t' ⟨⟩
    exact ⟨_, rfl⟩
  case fin =>
    intro D ys vs G' h' tk' fD SG hG hD hvl hvP hyl hF LF'
    refine k D G' h' tk' SG LF' ⟨D, ys, rfl, hD, ?_⟩
    have hvs : vs = us.take 4 := by
      apply List.ext_getElem?
      intro j
      cases e : vs[j]? with
      | some v => have := hvP j v e; simpa using this.symm
      | none =>
        have : vs.length ≤ j := List.getElem?_eq_none_iff.mp e
        rw [hvl] at this
        exact (List.getElem?_eq_none (by simpa using this)).symm
    subst hvs
    exact ints_of (hi.take 4) _ (by rw [hyl]; simp) hF
end
end Mine
end
section
open PySem PySem.W PySem.Calls PyProof.Rows
set_option Elab.async false
set_option maxRecDepth 100000
set_option linter.unusedVariables false
namespace Mine

noncomputable def numsF (ns : List Int) : List Int := drawnF ns ++ [1680, 1861, 1682, 1828].drop (drawnF ns).length
noncomputable def modesF (ns : List Int) : List Int := (numsF ns).map modeF
theorem drawnF_len (ns : List Int) : (drawnF ns).length ≤ 4 := by simp [drawnF]; omega
theorem numsF_len (ns : List Int) : (numsF ns).length = 4 := by have := drawnF_len ns; simp [numsF]; omega

section
variable {prog : Program} {w : World} {A : Around} {E : Value → Shared → Prop} {s : Shared} {G h : Heap} {tk : Nat} {L : Nat} {m cm : Str → Option Value} {ps qs : Array Value} {mg mb mc : Str → Option Value} {pm : Value} {T : List (List (Int × Str))}
theorem vs_eq {us vs : List Value} (hl : vs.length = us.toArray.size) (h : ∀ (j : Nat) v, vs[j]? = some v → us.toArray[j]? = some v) : vs = us := by
  apply List.ext_getElem?
  intro j
  cases e : vs[j]? with
  | some v => have := h j v e; simpa using this.symm
  | none =>
    have : vs.length ≤ j := List.getElem?_eq_none_iff.mp e
    rw [hl] at this
    exact (List.getElem?_eq_none (by simpa using this)).symm

theorem r_sliceT {env : Env} {pos : Pos} {S : Shared} {Q : Value → Shared → Prop} {value : Expr} {lower upper : Option Expr} {p : Pos}
    (k : wpAny (model prog w) A (eval value env) (fun o s₁ => wpAny (model prog w) A (evalPart lower env) (fun vl s₂ => wpAny (model prog w) A (evalPart upper env) (fun vu s₃ =>
      ∃ h₃ tk₃ l items lo hi, s₃ = st s h₃ tk₃ ∧ o = .ref l ∧ h₃.IsList l items ∧ items.size ≤ 10000 ∧ IsPart vl lo ∧ IsPart vu hi ∧
        ∀ a h', h₃.get? a = none → h'.PlainList a (slicePick items lo hi none) → Stay h₃ h' → Q (.ref a) (st s h' tk₃)) E s₂) E s₁) E S) :
    wpAny (model prog w) A (eval (.Subscript value (.Slice lower upper none p) pos) env) Q E S := by
  refine Subscript_ (wpAny_mono k (fun o s₁ k₁ => wpAny_Slice (wpAny_mono k₁ (fun vl s₂ k₂ => wpAny_mono k₂ (fun vu s₃ k₃ => ?_) fun _ _ e => e) fun _ _ e => e)) fun _ _ e => e)
  obtain ⟨h₃, tk₃, l, items, lo, hi, rfl, rfl, hl, hz, pl, pu, k⟩ := k₃
  rw [evalPart_none]
  refine wpAny_pure ?_
  refine kba_turn (value' := .Name "x" default) (fun _ => rfl) ?_
  refine subscriptTail_ops (ops := [.ref h₃.objs.size, .ref l]) (Heap.IsList.typeIs (s := { st s h₃ tk₃ with heap := h₃.push { cls := .type "slice", data := .fields #[vl, vu, .none] } }) (hl.push _)) list_getitem_lookup
    (wpAny_getItem_list_slice (s := { st s h₃ tk₃ with heap := h₃.push { cls := .type "slice", data := .fields #[vl, vu, .none] } }) (hl.push _) (Heap.IsSliceOf.new ..) pl pu .none (by simp) ?_ (by rw [sizeLine_eq]; omega)) (by with_unfolding_all rfl) (fun _ => rfl)
  refine k _ _ ?_ ⟨0, Heap.get?_push_size _ rfl⟩ fun _ _ e => Heap.get?_push_of_some _ (Heap.get?_push_of_some _ e)
  exact Heap.get?_none_of_le (by show h₃.objs.size ≤ (h₃.push _).objs.size; rw [Heap.size_push]; exact Nat.le_succ _)

set_option maxHeartbeats 2000000 in
theorem law_1 {dv : Value} {ns : List Int} {Q : Flow → Shared → Prop} (R : Rm 2 A) (N : LN mg) (X : LG mg mb mc T G) (F : LF G L m cm ps qs h) (hm : m "drawn" = some dv) (hd : IntsAt G dv (drawnF ns))
    (k : ∀ D G' h' tk', Stay G G' → LF G' L m (fun z => if z = "modes" then some (.ref D) else cm z) ps qs h' → IntsAt G' (.ref D) (modesF ns) → wpAny (model prog w) A (execs (lawFrom 2) (lawEnv pm L)) Q E (st s h' tk')) :
    wpAny (model prog w) A (execs (lawFrom 1) (lawEnv pm L)) Q E (st s h tk) := by
  obtain ⟨da, du, rfl, hdp, hdi⟩ := hd
  have hdl := drawnF_len ns
  have hdl' : du.length = (drawnF ns).length := hdi.length
  refine r_assign ?_
  refine lf_plain (Pst := fun ps' _ => ps' = ps) rfl (by decide) rfl (by decide) rfl (by intro _; rfl) F rfl (fun _ _ _ e _ => e) R.hd ?_
  (with_reducible refine wpAny_BinOp ?_)
  refine nmL F.fm hm ?_
  refine r_sliceT (s := s) ?_
  refine r_list ?_
  repeat' (first | with_reducible refine r_sp0 ?_ | ((with_reducible refine r_sp1 ?_ ?sw); (case sw => rfl)) | ((with_reducible refine r_int ?_)))
  refine r_newList (by simp) fun q1 h₁ fq1 hq1 S₁ => ?_
  have F₁ := F.stay S₁
  refine evalPart_some_step ?_
  (with_reducible refine r_call ?_)
  refine nmB (X.bas.stay F₁.keep) N.b1 rfl ?_
  refine r_cwB (r_sp1 ?_)
  refine nmL F₁.fm hm ?_
  refine r_sp0 (r_lenL (plain_stay hdp F₁.keep).isList (by simp; omega) fun t₁ tk₁ => ?_)
  refine r_partN ⟨h₁, tk₁, q1, _, some ((drawnF ns).length : Int), none, rfl, rfl, hq1.isList, by simp, ?_, .none, fun q2 h₂ fq2 hq2 S₂ => ?_⟩
  · have : ((du.toArray.size : Nat) : Int) = ((drawnF ns).length : Int) := by simp [hdl']
    rw [this]; exact .int _ _
  rw [slice_from _ _ (by simpa using hdl)] at hq2
  have F₂ := F₁.stay S₂
  refine r_addL (plain_stay hdp F₂.keep) hq2 (by simp; omega) fun q3 h₃ fq3 hq3 S₃ => ?_
  have F₃ := F₂.stay S₃
  have S₁₃ := (S₁.trans S₂).trans S₃
  have n3 : q3 ∉ LX L := fun q => by obtain ⟨o, e⟩ := F₂.ex q3 q; rw [fq3] at e; cases e
  obtain ⟨us, hus, hui⟩ : ∃ us, h₃.PlainList q3 (List.toArray us) ∧ IntsAre us (numsF ns) := by
    refine ⟨_, ?_, hdi.append (IntsAre.drop (.cons 1680 tk (.cons 1861 (tk + 1) (.cons 1682 (tk + 1 + 1) (.cons 1828 (tk + 1 + 1 + 1) .nil)))) (drawnF ns).length)⟩
    rw [← List.append_toArray]
    exact hq3
  have hul : us.length = 4 := by rw [hui.length, numsF_len]
  refine compQuiet (fun i v y => ∀ n t, v = .int n t → ∃ t', y = .int (modeF n) t') S₁₃ (Seq.list hus.isList) ?hb (by simp; omega) ?elem ?fin
  case hb =>
    intro b hb
    simp at hb
    subst hb
    obtain ⟨n, e⟩ := hus
    exact ⟨n3, _, e⟩
  case elem =>
    intro i v C G₃ m₃ h₄ tk₄ hi' hP S LF₃ FC hv htk
    obtain ⟨t, y, rfl, _⟩ := ints_get' hui (show us[i]? = some v by simpa using hP)
    have X₃ := (X.stay S).stay LF₃.keep
    show wpAny _ _ (eval (.Call _ _ _ _) _) _ _ _
    (with_reducible refine r_call ?_)
    refine nmG X₃.bas N.n11 ?_
    refine r_cwD X₃.f6 (r_sp1 ?_)
    refine nmL FC hv ?_
    refine r_sp0 ⟨Stay.refl _, ?_⟩
    refine (law_mode (R.less (by decide)) X₃.bas X₃.f6) _ _ _ fun v h₅ tk₅ S₅ hv5 => ?_
    refine ⟨?_, h₅, tk₅, rfl, S₅⟩
    rintro n t' ⟨⟩
    exact hv5
  case fin =>
    intro D ys vs G' h' tk' fD SG hG hD hvl hvP hyl hF LF'
    have hvs := vs_eq hvl hvP
    subst hvs
    refine lf_stC (c := L + 1) LF' (by simp [lawCells]) rfl rfl fun h'' tk'' LF'' => ?_
    exact k D G' h'' tk'' SG LF'' ⟨D, ys, rfl, hD, ints_of hui _ (by rw [hyl]; simp) hF⟩
end
end Mine
end
section
open PySem PySem.W PySem.Calls PyProof.Rows
set_option Elab.async false
set_option maxRecDepth 100000
set_option linter.unusedVariables false
namespace Mine

noncomputable def fmF (T : List (List (Int × Str))) (mode : Int) : Str := PySem.Builtin.Str.glued "" (picks mode T)
noncomputable def rep1 (T : List (List (Int × Str))) (mode : Int) : Str := Txt.replace (fmF T mode) (Str.ofString "-") (Str.ofString ".")
noncomputable def rep2 (T : List (List (Int × Str))) (mode : Int) : Str := Txt.replace (rep1 T mode) (Str.ofString "t") (Str.ofString "x\n")
noncomputable def pieceF (T : List (List (Int × Str))) (mode : Int) : Str := Txt.replace (rep2 T mode) (Str.ofString "T") (Str.ofString ".\r")
theorem strs_of {ys vs : List Value} {ns : List Int} (hi : IntsAre vs ns) (f : Int → Str) (hl : ys.length = vs.length) (h : ∀ (j : Nat) (v : Value), vs[j]? = some v → ∃ y : Value, ys[j]? = some y ∧ ∀ n t, v = Value.int n t → ∃ t', y = Value.str (f n) t') : StrsAre ys (ns.map f) := by
  induction hi generalizing ys with
  | nil => cases ys with
    | nil => exact .nil
    | cons _ _ => simp at hl
  | cons z u _ ih =>
    cases ys with
    | nil => simp at hl
    | cons y ys =>
      obtain ⟨y', e1, e2⟩ := h 0 (.int z u) rfl
      simp at e1
      subst e1
      obtain ⟨t', rfl⟩ := e2 z u rfl
      exact .cons _ t' (ih (by simpa using hl) fun j v hv => by simpa using h (j + 1) v (by simpa using hv))

/-- the sizes are small -/
structure Small (T : List (List (Int × Str))) (mode : Int) : Prop where
  p : ∀ y ∈ picks mode T, y.length ≤ 10
  a : (fmF T mode).length ≤ 1000
  b : (rep1 T mode).length ≤ 1000
  c : (rep2 T mode).length ≤ 1000

section
variable {prog : Program} {w : World} {A : Around} {E : Value → Shared → Prop} {s : Shared} {G h : Heap} {tk : Nat} {L : Nat} {m cm : Str → Option Value} {ps qs : Array Value} {mg mb mc : Str → Option Value} {pm : Value} {T : List (List (Int × Str))}
theorem r_repl {x y z : Str} {t : Tok} {u v : Nat} {Q : Value → Shared → Prop} (hu : u ≠ 0) (hv : v ≠ 0) (huv : u ≠ v) (hyz : (y == z) = false) (hx : x.length ≤ 1000) (hz : z.length ≤ 14) (htk : 1 ≤ tk) (k : ∀ (t' : Tok) (tk' : Nat), 1 ≤ tk' → Q (.str (Txt.replace x y z) t') (st s h tk')) :
    wpAny (model prog w) A (call (.builtin "str.replace") [.str x t, .str y u, .str z v]) Q E (st s h tk) :=
  wpAny_with_toks (n := 1) (s := st s h tk) htk (SC.replaceW (s := st s h tk) hu hv huv hyz (by (first | lia | omega)) hz fun t' k' => fun q => k t' k' q)

set_option maxHeartbeats 2000000 in
theorem law_2 {mv : Value} {ms : List Int} {Q : Flow → Shared → Prop} (R : Rm 4 A) (N : LN mg) (X : LG mg mb mc T G) (F : LF G L m cm ps qs h) (hm : cm "modes" = some mv) (hd : IntsAt G mv ms) (hml : ms.length ≤ 100) (hTn : T.length ≤ 10) (hok : ∀ mo ∈ ms, Small T mo)
    (k : ∀ D G' h' tk', Stay G G' → LF G' L m (fun z => if z = "pieces" then some (.ref D) else cm z) ps qs h' → StrsAt G' (.ref D) (ms.map (pieceF T)) → wpAny (model prog w) A (execs (lawFrom 3) (lawEnv pm L)) Q E (st s h' tk')) :
    wpAny (model prog w) A (execs (lawFrom 2) (lawEnv pm L)) Q E (st s h tk) := by
  obtain ⟨da, us, rfl, hus, hui⟩ := hd
  have hul : us.length = ms.length := hui.length
  refine r_assign ?_
  refine lf_plain (Pst := fun ps' _ => ps' = ps) rfl (by decide) rfl (by decide) rfl (by intro _; rfl) F rfl (fun _ _ _ e _ => e) R.hd ?_
  refine lf_nmC (c := L + 1) F (by simp [lawCells]) hm rfl rfl (by decide) ?_
  have nda : da ∉ LX L := fun q => by obtain ⟨n, e⟩ := hus; rw [F.hid da q] at e; cases e
  refine compQuiet (fun i v y => ∀ n t, v = .int n t → ∃ t', y = .str (pieceF T n) t') (Stay.refl _) (Seq.list (plain_stay hus F.keep).isList) ?hb (by simp; (first | lia | omega)) ?elem ?fin
  case hb =>
    intro b hb
    simp at hb
    subst hb
    obtain ⟨n, e⟩ := plain_stay hus F.keep
    exact ⟨nda, _, e⟩
  case elem =>
    intro i v C G₃ m₃ h₄ tk₄ hi' hP S LF₃ FC hv htk
    obtain ⟨t, y, rfl, hy⟩ := ints_get' hui (show us[i]? = some v by simpa using hP)
    have hs := hok y (List.mem_of_getElem? hy)
    have X₃ := (X.stay S).stay LF₃.keep
    refine r_meth PySem.F.plainAttrs_str PySem.F.slot_str_replace PySem.F.type_str_replace ?_
    refine r_meth PySem.F.plainAttrs_str PySem.F.slot_str_replace PySem.F.type_str_replace ?_
    refine r_meth PySem.F.plainAttrs_str PySem.F.slot_str_replace PySem.F.type_str_replace ?_
    (with_reducible refine r_call ?_)
    refine nmG X₃.bas N.n3 ?_
    refine r_cwD X₃.f2 (r_sp1 ?_)
    refine nmL FC hv ?_
    refine r_sp0 ⟨Stay.refl _, ?_⟩
    refine wpAny_with_toks (n := 1) (s := st s h₄ tk₄) htk ?_
    refine (c_filemode (R.less (by decide)) X₃.bas X₃.f2 X₃.f1 N.n1 N.n2 N.b6 X₃.tab hTn hs.p) _ _ _ fun v h₅ tk₅ S₅ hv5 htk5 => ?_
    obtain ⟨t5, rfl⟩ := hv5
    have htk5 : 1 ≤ tk₅ := htk5
    refine ⟨typeIs_str _ _ _, fun a e => (by cases e), r_cwB (r_sp1 (r_str (r_sp1 (r_str (r_sp0 ?_)))))⟩
    refine r_repl (by (first | lia | omega)) (by (first | lia | omega)) (by (first | lia | omega)) (by decide) hs.a (by decide) (by (first | lia | omega)) fun t6 tk₆ htk6 => ?_
    refine ⟨typeIs_str _ _ _, fun a e => (by cases e), r_cwB (r_sp1 (r_str (r_sp1 (r_str (r_sp0 ?_)))))⟩
    refine r_repl (by (first | lia | omega)) (by (first | lia | omega)) (by (first | lia | omega)) (by decide) hs.b (by decide) (by (first | lia | omega)) fun t7 tk₇ htk7 => ?_
    refine ⟨typeIs_str _ _ _, fun a e => (by cases e), r_cwB (r_sp1 (r_str (r_sp1 (r_str (r_sp0 ?_)))))⟩
    refine r_repl (by (first | lia | omega)) (by (first | lia | omega)) (by (first | lia | omega)) (by decide) hs.c (by decide) (by (first | lia | omega)) fun t8 tk₈ htk8 => ?_
    refine ⟨?_, h₅, tk₈, rfl, S₅⟩
    rintro n t' ⟨⟩
    exact ⟨_, rfl⟩
  case fin =>
    intro D ys vs G' h' tk' fD SG hG hD hvl hvP hyl hF LF'
    have hvs := vs_eq hvl hvP
    subst hvs
    refine lf_stC (c := L + 6) LF' (by simp [lawCells]) rfl rfl fun h'' tk'' LF'' => ?_
    exact k D G' h'' tk'' SG LF'' ⟨D, ys, rfl, hD, strs_of hui _ (by rw [hyl]; simp) hF⟩
end
end Mine
end
section
open PySem PySem.W PySem.Calls PyProof.Rows
set_option Elab.async false
set_option maxRecDepth 100000
set_option linter.unusedVariables false
namespace Mine

noncomputable def ordersL : Nat → List (List Int)
  | 0 => [[]]
  | i + 1 => (ordersL i).flatMap (spread (i : Int))

section
variable {prog : Program} {w : World} {A : Around} {E : Value → Shared → Prop} {s : Shared} {G h : Heap} {tk : Nat} {L : Nat} {m cm : Str → Option Value} {ps qs : Array Value} {mg mb mc : Str → Option Value} {pm : Value} {T : List (List (Int × Str))}
theorem ordersL_ok (i : Nat) (hi : i < 4) : (ordersL i).length ≤ 50 ∧ ∀ r ∈ ordersL i, r.length ≤ 10 := by
  have : i = 0 ∨ i = 1 ∨ i = 2 ∨ i = 3 := by (first | lia | omega)
  rcases this with rfl | rfl | rfl | rfl <;> decide

set_option maxHeartbeats 2000000 in
theorem law_3 {Q : Flow → Shared → Prop} (R : Rm 5 A) (N : LN mg) (X : LG mg mb mc T G) (F : LF G L m cm ps qs h) (hT : TabOk ps G)
    (k : ∀ ov G' h' tk' ps', Stay G G' → LF G' L (fun z => if z = "orders" then some ov else m z) cm ps' qs h' → RowsI G' ov (ordersL 4) → TabOk ps' G' → wpAny (model prog w) A (execs (lawFrom 4) (lawEnv pm L)) Q E (st s h' tk')) :
    wpAny (model prog w) A (execs (lawFrom 3) (lawEnv pm L)) Q E (st s h tk) := by
  obtain ⟨pm4, ho4, hc4⟩ := id X.f4
  refine r_assign ?_
  (with_reducible refine r_call ?_)
  refine nmG (X.bas.stay F.keep) N.n6 ?_
  refine r_cwF (o := { cls := .type "function", data := .func (fnD 27 93 pm4 (.ref 87)) }) rfl ?_
  refine r_sp1 ?_
  refine lf_lam (e := lam1) (clos := []) F X.bas.g X.bm X.c1 rfl rfl rfl rfl rfl (by kernel_rfl) hT fun G₁ f h₁ tk₁ ps₁ SG₁ F₁ X₁ hT₁ _ O₁ => ?_
  have LG₁ := X.stay SG₁
  refine r_sp1 ?_
  (with_reducible refine r_call ?_)
  refine nmB (LG₁.bas.stay F₁.keep) N.b2 rfl ?_
  refine r_cwT (r_sp1 (r_int (r_sp0 (r_range1 fun rg h₂ t₂ u₂ v₂ tk₂ frg hrg S₂ => ?_))))
  refine r_sp1 ?_
  refine r_list (r_sp1 ?_)
  refine r_list (r_sp0 (r_newList (by simp) fun q1 h₃ fq1 hq1 S₃ => ?_))
  refine r_sp0 (r_newList (by simp) fun q2 h₄ fq2 hq2 S₄ => ?_)
  have S₁₄ := (S₂.trans S₃).trans S₄
  have F₄ := F₁.stay S₁₄
  have LG₄ := LG₁.stay F₄.keep
  obtain ⟨o86, ho86, hc86⟩ := LG₄.o86
  obtain ⟨o87, ho87, hd87⟩ := LG₄.d87
  obtain ⟨o86', ho86', _⟩ := (LG₁.stay ((F₁.stay S₂).stay S₃).keep).o86
  have hq86 : q2 ≠ 86 := fun q => by rw [q, ho86'] at fq2; cases fq2
  obtain ⟨pmf, cf, ctf, hfo, hfc⟩ := id (X₁.stay F₄.keep)
  refine r_sp0 ⟨F₄.keep _ _ (SG₁ _ _ ho4), ?_⟩
  have nLX : ∀ {a : Nat} {hh : Heap}, Stay h₁ hh → hh.get? a = none → a ∉ LX L := fun {a hh} S e q => by obtain ⟨o, e'⟩ := F₁.ex a q; rw [S _ _ e'] at e; cases e
  have hrg4 : IsRange h₄ rg 0 (0 + ((4 : Nat) : Int)) 1 t₂ u₂ v₂ := S₄ _ _ (S₃ _ _ hrg)
  have liftP : ∀ {a : Nat} {its : Array Value}, a ∉ LX L → h₄.PlainList a its → (hideAll h₄ (LX L)).PlainList a its := fun {a its} n x => let ⟨k, e⟩ := x; ⟨k, hideAll_get _ e n⟩
  refine (c_reduce (Acc := fun i v H => RowsI H v (ordersL i)) (Z₀ := LX L) (P := fun i v => ∃ t, v = .int (0 + i * 1) t) (R.less (by decide)) LG₄.bas LG₄.f4 ho87 hd87 N.n5 N.b5 ?hinit (Seq.range hrg4 (small_one (by (first | lia | omega)) (by (first | lia | omega)) (by (first | lia | omega)) (by (first | lia | omega)))) (by simp) hfo rfl (fun i v H H' a S => a.stay S) ?step F₄.ex ?h0) _ _ _ fun b h₅ tk₅ S₅ hb => ?_
  case hinit =>
    intro A' h' tk' Q E S q
    obtain ⟨n, e⟩ := plain_stay hq2 S
    exact r_isRef hq86 e (S _ _ ho86) hc86 q
  case h0 =>
    refine ⟨q2, _, rfl, liftP (nLX (S₂.trans S₃) fq2) hq2, .cons ⟨q1, [], rfl, liftP (nLX S₂ fq1) (plain_stay hq1 S₄), .nil⟩ .nil⟩
  case step =>
    rintro A' i a v h' Z RA S hZ hi ⟨t, rfl⟩ ha
    have hok := ordersL_ok i hi
    have e : (0 : Int) + (i : Int) * 1 = (i : Int) := by (first | lia | omega)
    rw [e]
    exact c_lam1 RA (LG₄.bas.stay S) ((X₁.stay F₄.keep).stay S) N.b1 N.b2 hZ ha hok.1 hok.2
  have F₅ := F₄.stay S₅
  obtain ⟨F₅', SG₅⟩ := F₅.ground
  refine lf_stL F₅' rfl fun h₆ tk₆ F₆ => ?_
  exact k b _ h₆ tk₆ ps₁ (SG₁.trans SG₅) F₆ hb (hT₁.stay SG₅)
end
end Mine
end
section
open PySem PySem.W PySem.Calls PyProof.Rows
set_option Elab.async false
set_option maxRecDepth 100000
set_option linter.unusedVariables false
namespace Mine

section
variable {prog : Program} {w : World} {A : Around} {E : Value → Shared → Prop} {s : Shared} {G h : Heap} {tk : Nat} {L : Nat} {m cm : Str → Option Value} {ps qs : Array Value} {mg mb mc : Str → Option Value} {pm : Value} {T : List (List (Int × Str))}
set_option maxHeartbeats 2000000 in
theorem law_6 {mv : Value} {ms : List Int} {Q : Flow → Shared → Prop} (R : Rm 4 A) (N : LN mg) (X : LG mg mb mc T G) (F : LF G L m cm ps qs h) (hm : cm "modes" = some mv) (hd : IntsAt G mv ms) (hml : ms.length ≤ 100) (hok : ∀ mo ∈ ms, 0 ≤ mo ∧ mo < 65536)
    (k : ∀ D G' h' tk', Stay G G' → LF G' L m (fun z => if z = "bodies" then some (.ref D) else cm z) ps qs h' → StrsAt G' (.ref D) (ms.map bodyF) → wpAny (model prog w) A (execs (lawFrom 7) (lawEnv pm L)) Q E (st s h' tk')) :
    wpAny (model prog w) A (execs (lawFrom 6) (lawEnv pm L)) Q E (st s h tk) := by
  obtain ⟨da, us, rfl, hus, hui⟩ := hd
  have hul : us.length = ms.length := hui.length
  refine r_assign ?_
  refine lf_plain (Pst := fun ps' _ => ps' = ps) rfl (by decide) rfl (by decide) rfl (by intro _; rfl) F rfl (fun _ _ _ e _ => e) R.hd ?_
  refine lf_nmC (c := L + 1) F (by simp [lawCells]) hm rfl rfl (by decide) ?_
  have nda : da ∉ LX L := fun q => by obtain ⟨n, e⟩ := hus; rw [F.hid da q] at e; cases e
  refine compQuiet (fun i v y => ∀ n t, v = .int n t → ∃ t', y = .str (bodyF n) t') (Stay.refl _) (Seq.list (plain_stay hus F.keep).isList) ?hb (by simp; (first | lia | omega)) ?elem ?fin
  case hb =>
    intro b hb
    simp at hb
    subst hb
    obtain ⟨n, e⟩ := plain_stay hus F.keep
    exact ⟨nda, _, e⟩
  case elem =>
    intro i v C G₃ m₃ h₄ tk₄ hi' hP S LF₃ FC hv htk
    obtain ⟨t, y, rfl, hy⟩ := ints_get' hui (show us[i]? = some v by simpa using hP)
    have hs := hok y (List.mem_of_getElem? hy)
    have X₃ := (X.stay S).stay LF₃.keep
    show wpAny _ _ (eval (.Call _ _ _ _) _) _ _ _
    (with_reducible refine r_call ?_)
    refine nmG X₃.bas N.n12 ?_
    refine r_cwD X₃.f7 (r_sp1 ?_)
    refine nmL FC hv ?_
    refine r_sp0 ⟨Stay.refl _, ?_⟩
    refine (c_body (R.less (by decide)) X₃.bas X₃.f7 hs) _ _ _ fun v h₅ tk₅ S₅ hv5 => ?_
    refine ⟨?_, h₅, tk₅, rfl, S₅⟩
    rintro n t' ⟨⟩
    exact hv5
  case fin =>
    intro D ys vs G' h' tk' fD SG hG hD hvl hvP hyl hF LF'
    have hvs := vs_eq hvl hvP
    subst hvs
    refine lf_stC (c := L + 2) LF' (by simp [lawCells]) rfl rfl fun h'' tk'' LF'' => ?_
    exact k D G' h'' tk'' SG LF'' ⟨D, ys, rfl, hD, strs_of hui _ (by rw [hyl]; simp) hF⟩

theorem strs_ofV {ys vs : List Value} {rows : List (List Int)} {G : Heap} (hi : Paired (RowI G) vs rows) (f : List Int → Str) (hl : ys.length = vs.length) (h : ∀ (j : Nat) (v : Value), vs[j]? = some v → ∃ y : Value, ys[j]? = some y ∧ ∀ r, rows[j]? = some r → ∃ t', y = Value.str (f r) t') : StrsAre ys (rows.map f) := by
  induction hi generalizing ys with
  | nil => cases ys with
    | nil => exact .nil
    | cons _ _ => simp at hl
  | cons z _ ih =>
    cases ys with
    | nil => simp at hl
    | cons y ys =>
      obtain ⟨y', e1, e2⟩ := h 0 _ rfl
      simp at e1
      subst e1
      obtain ⟨t', rfl⟩ := e2 _ rfl
      exact .cons _ t' (ih (by simpa using hl) fun j v hv => by simpa using h (j + 1) v (by simpa using hv))

set_option maxHeartbeats 2000000 in
theorem law_7 {ov mv bv : Value} {rows : List (List Int)} {ms : List Int} {bs : List Str} {Q : Flow → Shared → Prop} (R : Rm 4 A) (N : LN mg) (X : LG mg mb mc T G) (F : LF G L m cm ps qs h) (hm0 : m "orders" = some ov) (hm : cm "modes" = some mv) (hb : cm "bodies" = some bv) (ho : RowsI G ov rows) (hd : IntsAt G mv ms) (hbs : StrsAt G bv bs) (hml : ms.length ≤ 100) (hrl : rows.length ≤ 100)
    (hr : ∀ row ∈ rows, row.length ≤ 100 ∧ ∀ p ∈ row, 0 ≤ p ∧ p.toNat < ms.length ∧ p.toNat < bs.length) (hz : ∀ i, (bs.getD i "").length ≤ 100)
    (k : ∀ D G' h' tk', Stay G G' → LF G' L (fun z => if z = "told" then some (.ref D) else m z) cm ps qs h' → StrsAt G' (.ref D) (rows.map (toldF ms bs)) → wpAny (model prog w) A (execs (lawFrom 8) (lawEnv pm L)) Q E (st s h' tk')) :
    wpAny (model prog w) A (execs (lawFrom 7) (lawEnv pm L)) Q E (st s h tk) := by
  obtain ⟨da, us, rfl, hus, hui⟩ := ho
  have hul : us.length = rows.length := paired_len hui
  refine lf_used (Pst := fun ps' _ => ps' = ps) rfl rfl rfl (by decide) rfl (by decide) rfl (by intro _; rfl) F rfl (fun _ _ _ e _ => e) R.hd ?_
  refine nmL F.fm hm0 ?_
  have nda : da ∉ LX L := fun q => by obtain ⟨n, e⟩ := hus; rw [F.hid da q] at e; cases e
  refine compQuiet (fun i v y => ∀ r, rows[i]? = some r → ∃ t', y = .str (toldF ms bs r) t') (Stay.refl _) (Seq.list (plain_stay hus F.keep).isList) ?hb (by simp; (first | lia | omega)) ?elem ?fin
  case hb =>
    intro b hb
    simp at hb
    subst hb
    obtain ⟨n, e⟩ := plain_stay hus F.keep
    exact ⟨nda, _, e⟩
  case elem =>
    intro i v C G₃ m₃ h₄ tk₄ hi' hP S LF₃ FC hv htk
    obtain ⟨r, hrr, hrow⟩ := paired_get hui (show us[i]? = some v by simpa using hP)
    have hs := hr r (List.mem_of_getElem? hrr)
    have X₃ := (X.stay S).stay LF₃.keep
    have U := S.trans LF₃.keep
    show wpAny _ _ (eval (.Call _ _ _ _) _) _ _ _
    (with_reducible refine r_call ?_)
    refine nmG X₃.bas N.n13 ?_
    refine r_cwD X₃.f8 (r_sp1 ?_)
    refine nmL FC hv ?_
    refine r_sp1 (nmC (hm ▸ LF₃.cell "modes" (L + 1) (by simp [lawCells])) ?_ rfl rfl rfl (by decide))
    refine r_sp1 (nmC (hb ▸ LF₃.cell "bodies" (L + 2) (by simp [lawCells])) ?_ rfl rfl rfl (by decide))
    refine r_sp0 ⟨Stay.refl _, ?_⟩
    refine (c_told (R.less (by decide)) X₃.bas X₃.f8 (hrow.stay U) (hd.stay U) (hbs.stay U) hs.2 hz hs.1 hml) _ _ _ fun v h₅ tk₅ S₅ hv5 => ?_
    refine ⟨?_, h₅, tk₅, rfl, S₅⟩
    intro r' hr'
    rw [hrr] at hr'; cases hr'
    exact hv5
  case fin =>
    intro D ys vs G' h' tk' fD SG hG hD hvl hvP hyl hF LF'
    have hvs := vs_eq hvl hvP
    subst hvs
    exact k D G' h' tk' SG LF' ⟨D, ys, rfl, hD, strs_ofV hui _ (by rw [hyl]; simp) hF⟩
end
end Mine
end
section
open PySem PySem.W PySem.Calls PyProof.Rows
set_option Elab.async false
set_option maxRecDepth 100000
set_option linter.unusedVariables false
namespace Mine

section
variable {prog : Program} {w : World} {A : Around} {E : Value → Shared → Prop} {s : Shared} {G h : Heap} {tk : Nat} {L : Nat} {m cm : Str → Option Value} {ps qs : Array Value} {mg mb mc : Str → Option Value} {pm : Value} {T : List (List (Int × Str))}
/-- [x for x in ints if test] -/
theorem compFilt {x : Str} {px : Pos} {test : Expr} {scope : Scope} {cl : List (Str × Nat)} {K : Nat → List Value → Heap → Array Value → Heap → Nat → Prop} {h₁ : Heap} {tk₁ : Nat} {da : Nat} {us : List Value} {ms : List Int} (q : Int → Bool)
    (a2 : Stay h h₁) (hl : h₁.PlainList da (List.toArray us)) (nda : da ∉ LX L) (hui : IntsAre us ms) (hml : ms.length ≤ 100) (hkind : scope.kind = .function) (hx : scope.names.lookup x = some .local) (hxd : (x == ("__debug__" : Str)) = false)
    (tst : ∀ C n t G₃ m₃ h₃ tk₃ (Q : Bool → Shared → Prop), Fm G₃ C m₃ h₃ → m₃ x = some (.int n t) → (∀ tk', Q (q n) (st s h₃ tk')) → wpAny (model prog w) A (isTrue test (compEnvC scope cl C (lawEnv pm L)) (eval test (compEnvC scope cl C (lawEnv pm L)))) Q (fun _ _ => False) (st s h₃ tk₃))
    (fin : ∀ D (ys : List Value) G' h' tk', Stay G G' → G'.PlainList D ys.toArray → ys.length = (ms.filter q).length → K D ys G' ps h' tk') :
    CompSrc' prog w A s G h L m cm qs pm (.Name x px) x [test] scope cl (fun ps' _ => ps' = ps) K (.ref da) (st s h₁ tk₁) := by
  have hul : us.length = ms.length := hui.length
  refine ⟨h₁, tk₁, [da], us.toArray.size, fun i v => us.toArray[i]? = some v, fun i v => match v with | .int n _ => q n | _ => false, fun i v y => y = v, rfl, a2, Seq.list hl.isList, ?_, by simp; (first | lia | omega), ?_, ?_, ?_⟩
  · intro b hb
    simp at hb
    subst hb
    obtain ⟨n, e⟩ := hl
    exact ⟨nda, _, e⟩
  · rintro i v C G₃ ps₃ m₃ h₃ tk₃ hi hP S LF₃ _ F₃ hv _
    obtain ⟨t, y, rfl, hy⟩ := ints_get' hui (show us[i]? = some v by simpa using hP)
    exact wpAny_tests_one (tst C y t G₃ m₃ h₃ tk₃ _ F₃ hv fun tk' => ⟨rfl, h₃, tk', rfl, Stay.refl _⟩)
  · rintro i v C G₃ ps₃ m₃ h₃ tk₃ hi hP _ S LF₃ rfl F₃ hv htk
    exact nmL F₃ hv ⟨rfl, ps₃, h₃, tk₃, rfl, (Stay.refl _).off, LF₃.tab, LF₃.tr, fun _ _ => rfl⟩ rfl hkind (lookup_relabel_local hx) hxd
  · rintro D ys vs G' ps' h' tk' b1 b2 b3 b4 rfl b6 b7 b8
    have hvs := vs_eq b6 b7
    subst hvs
    refine fin D ys G' h' tk' b2 b4 ?_
    rw [← paired_len b8]
    have gen : ∀ (us : List Value) (ms : List Int), IntsAre us ms → ∀ (l : List Nat), l.length = us.length → ((l.zip us).filter fun iv => (match iv.2 with | .int n _ => q n | _ => false)).length = (ms.filter q).length := by
      intro us ms hi
      induction hi with
      | nil => intro l hl; simp
      | cons z u _ ih =>
        intro l hl
        cases l with
        | nil => simp at hl
        | cons a l =>
          have := ih l (by simpa using hl)
          rw [List.zip_cons_cons, List.filter_cons, List.filter_cons]
          cases hq : q z <;> simp [hq, this]
    exact gen vs ms hui _ (by simp)
end
end Mine
end
section
open PySem PySem.W PySem.Calls PyProof.Rows
set_option Elab.async false
set_option maxRecDepth 100000
set_option linter.unusedVariables false
namespace Mine

noncomputable def isMid (n : Int) : Bool := (n.fdiv 512).fmod 2 == 0
noncomputable def isPlain (n : Int) : Bool := n.fdiv 4096 == 8
noncomputable def isBoth (n : Int) : Bool := isPlain n && isMid n
section
variable {prog : Program} {w : World} {A : Around} {E : Value → Shared → Prop} {s : Shared} {G h : Heap} {tk : Nat} {L : Nat} {m cm : Str → Option Value} {ps qs : Array Value} {mg mb mc : Str → Option Value} {pm : Value} {T : List (List (Int × Str))}
set_option maxHeartbeats 2000000 in
theorem law_8 {mv : Value} {ms : List Int} {Q : Flow → Shared → Prop} (R : Rm 4 A) (N : LN mg) (X : LG mg mb mc T G) (F : LF G L m cm ps qs h) (hm : cm "modes" = some mv) (hd : IntsAt G mv ms) (hml : ms.length ≤ 100)
    (k : ∀ t G' h' tk', Stay G G' → LF G' L m (fun z => if z = "middles" then some (.int ((ms.filter isMid).length : Int) t) else cm z) ps qs h' → wpAny (model prog w) A (execs (lawFrom 9) (lawEnv pm L)) Q E (st s h' tk')) :
    wpAny (model prog w) A (execs (lawFrom 8) (lawEnv pm L)) Q E (st s h tk) := by
  obtain ⟨da, us, rfl, hus, hui⟩ := hd
  have nda : da ∉ LX L := fun q => by obtain ⟨n, e⟩ := hus; rw [F.hid da q] at e; cases e
  refine r_assign ?_
  (with_reducible refine r_call ?_)
  refine nmB (X.bas.stay F.keep) N.b1 rfl ?_
  refine r_cwB (r_sp1 ?_)
  refine lf_plain (Pst := fun ps' _ => ps' = ps) rfl (by decide) rfl (by decide) rfl (by intro _; rfl) F rfl (fun _ _ _ e _ => e) R.hd ?_
  refine lf_nmC (c := L + 1) F (by simp [lawCells]) hm rfl rfl (by decide) ?_
  refine compFilt isMid (Stay.refl _) (plain_stay hus F.keep) nda hui hml rfl rfl (by decide) ?tst ?fin
  case tst =>
    intro C n t G₃ m₃ h₃ tk₃ Q F₃ hv q
    (((with_reducible refine wpAny_isTrue_Compare1 ?_ ?mk); (case mk => with_unfolding_all rfl)))
    (with_reducible refine wpAny_BinOp ?_)
    (with_reducible refine wpAny_BinOp ?_)
    refine nmL F₃ hv ?_
    repeat' (first | ((with_reducible refine r_int ?_)) | ((with_reducible refine r_fdiv ?mm ?mn ?_); (case mm => first | decide | assumption | (first | lia | omega)); (case mn => first | decide | assumption | (first | lia | omega))) | ((with_reducible refine r_fmod ?mm ?_); (case mm => first | decide | assumption | (first | lia | omega))) | with_reducible refine PyProof.Rows.eq_int ?_ | with_reducible refine wpAny_truthy_bool ?_)
    exact q _
  case fin =>
    intro D ys G' h' tk' SG hD hyl LF'
    have hfl : (ms.filter isMid).length ≤ ms.length := List.length_filter_le _ _
    refine r_sp0 (r_lenL (plain_stay hD LF'.keep).isList (by simp; (first | lia | omega)) fun t tk'' => ?_)
    refine lf_stC (c := L + 3) LF' (by simp [lawCells]) rfl rfl fun h'' tk3 LF'' => ?_
    have e : ((ys.toArray.size : Nat) : Int) = ((ms.filter isMid).length : Int) := by simp [hyl]
    rw [e] at LF''
    exact k t G' h'' tk3 SG LF''
set_option maxHeartbeats 2000000 in
theorem law_9 {mv : Value} {ms : List Int} {Q : Flow → Shared → Prop} (R : Rm 4 A) (N : LN mg) (X : LG mg mb mc T G) (F : LF G L m cm ps qs h) (hm : cm "modes" = some mv) (hd : IntsAt G mv ms) (hml : ms.length ≤ 100)
    (k : ∀ t G' h' tk', Stay G G' → LF G' L m (fun z => if z = "plains" then some (.int ((ms.filter isPlain).length : Int) t) else cm z) ps qs h' → wpAny (model prog w) A (execs (lawFrom 10) (lawEnv pm L)) Q E (st s h' tk')) :
    wpAny (model prog w) A (execs (lawFrom 9) (lawEnv pm L)) Q E (st s h tk) := by
  obtain ⟨da, us, rfl, hus, hui⟩ := hd
  have nda : da ∉ LX L := fun q => by obtain ⟨n, e⟩ := hus; rw [F.hid da q] at e; cases e
  refine r_assign ?_
  (with_reducible refine r_call ?_)
  refine nmB (X.bas.stay F.keep) N.b1 rfl ?_
  refine r_cwB (r_sp1 ?_)
  refine lf_plain (Pst := fun ps' _ => ps' = ps) rfl (by decide) rfl (by decide) rfl (by intro _; rfl) F rfl (fun _ _ _ e _ => e) R.hd ?_
  refine lf_nmC (c := L + 1) F (by simp [lawCells]) hm rfl rfl (by decide) ?_
  refine compFilt isPlain (Stay.refl _) (plain_stay hus F.keep) nda hui hml rfl rfl (by decide) ?tst ?fin
  case tst =>
    intro C n t G₃ m₃ h₃ tk₃ Q F₃ hv q
    (((with_reducible refine wpAny_isTrue_Compare1 ?_ ?mk); (case mk => with_unfolding_all rfl)))
    (with_reducible refine wpAny_BinOp ?_)
    refine nmL F₃ hv ?_
    repeat' (first | ((with_reducible refine r_int ?_)) | ((with_reducible refine r_fdiv ?mm ?mn ?_); (case mm => first | decide | assumption | (first | lia | omega)); (case mn => first | decide | assumption | (first | lia | omega))) | with_reducible refine PyProof.Rows.eq_int ?_ | with_reducible refine wpAny_truthy_bool ?_)
    exact q _
  case fin =>
    intro D ys G' h' tk' SG hD hyl LF'
    have hfl : (ms.filter isPlain).length ≤ ms.length := List.length_filter_le _ _
    refine r_sp0 (r_lenL (plain_stay hD LF'.keep).isList (by simp; (first | lia | omega)) fun t tk'' => ?_)
    refine lf_stC (c := L + 4) LF' (by simp [lawCells]) rfl rfl fun h'' tk3 LF'' => ?_
    have e : ((ys.toArray.size : Nat) : Int) = ((ms.filter isPlain).length : Int) := by simp [hyl]
    rw [e] at LF''
    exact k t G' h'' tk3 SG LF''
end
end Mine
end
section
open PySem PySem.W PySem.Calls PyProof.Rows
set_option Elab.async false
set_option maxRecDepth 100000
set_option linter.unusedVariables false
namespace Mine
section
variable {prog : Program} {w : World} {A : Around} {E : Value → Shared → Prop} {s : Shared} {G h : Heap} {tk : Nat} {L : Nat} {m cm : Str → Option Value} {ps qs : Array Value} {mg mb mc : Str → Option Value} {pm : Value} {T : List (List (Int × Str))}
set_option maxHeartbeats 2000000 in
theorem law_10 {mv : Value} {ms : List Int} {Q : Flow → Shared → Prop} (R : Rm 4 A) (N : LN mg) (X : LG mg mb mc T G) (F : LF G L m cm ps qs h) (hm : cm "modes" = some mv) (hd : IntsAt G mv ms) (hml : ms.length ≤ 100)
    (k : ∀ t G' h' tk', Stay G G' → LF G' L m (fun z => if z = "shared" then some (.int ((ms.filter isBoth).length : Int) t) else cm z) ps qs h' → wpAny (model prog w) A (execs (lawFrom 11) (lawEnv pm L)) Q E (st s h' tk')) :
    wpAny (model prog w) A (execs (lawFrom 10) (lawEnv pm L)) Q E (st s h tk) := by
  obtain ⟨da, us, rfl, hus, hui⟩ := hd
  have nda : da ∉ LX L := fun q => by obtain ⟨n, e⟩ := hus; rw [F.hid da q] at e; cases e
  refine r_assign ?_
  (with_reducible refine r_call ?_)
  refine nmB (X.bas.stay F.keep) N.b1 rfl ?_
  refine r_cwB (r_sp1 ?_)
  refine lf_plain (Pst := fun ps' _ => ps' = ps) rfl (by decide) rfl (by decide) rfl (by intro _; rfl) F rfl (fun _ _ _ e _ => e) R.hd ?_
  refine lf_nmC (c := L + 1) F (by simp [lawCells]) hm rfl rfl (by decide) ?_
  refine compFilt isBoth (Stay.refl _) (plain_stay hus F.keep) nda hui hml rfl rfl (by decide) ?tst ?fin
  case tst =>
    intro C n t G₃ m₃ h₃ tk₃ Q F₃ hv q
    (with_reducible refine wpAny_isTrue_BoolOp ?_)
    (with_reducible refine wpAny_allTrue_And_cons ?_)
    (((with_reducible refine wpAny_isTrue_Compare1 ?_ ?mk); (case mk => with_unfolding_all rfl)))
    (with_reducible refine wpAny_BinOp ?_)
    refine nmL F₃ hv ?_
    (((with_reducible refine r_int ?_)))
    (((with_reducible refine r_fdiv ?mm ?mn ?_); (case mm => first | decide | assumption | (first | lia | omega)); (case mn => first | decide | assumption | (first | lia | omega))))
    (((with_reducible refine r_int ?_)))
    (with_reducible refine PyProof.Rows.eq_int ?_)
    (with_reducible refine wpAny_truthy_bool ?_)
    refine r_split (fun hc => ?_) (fun hc => ?_)
    · (with_reducible refine wpAny_allTrue_And_cons ?_)
      (((with_reducible refine wpAny_isTrue_Compare1 ?_ ?mk); (case mk => with_unfolding_all rfl)))
      (with_reducible refine wpAny_BinOp ?_)
      (with_reducible refine wpAny_BinOp ?_)
      refine nmL F₃ hv ?_
      (((with_reducible refine r_int ?_)))
      (((with_reducible refine r_fdiv ?mm ?mn ?_); (case mm => first | decide | assumption | (first | lia | omega)); (case mn => first | decide | assumption | (first | lia | omega))))
      (((with_reducible refine r_int ?_)))
      (((with_reducible refine r_fmod ?mm ?_); (case mm => first | decide | assumption | (first | lia | omega))))
      (((with_reducible refine r_int ?_)))
      (with_reducible refine PyProof.Rows.eq_int ?_)
      (with_reducible refine wpAny_truthy_bool ?_)
      have e1 : isPlain n = true := hc
      refine r_split (fun hc2 => ?_) (fun hc2 => ?_)
      · (with_reducible refine wpAny_allTrue_And_nil ?_)
        have e : isBoth n = true := by unfold isBoth; rw [e1]; exact hc2
        rw [e] at q
        exact q _
      · have e : isBoth n = false := by unfold isBoth; rw [e1]; simpa [isMid] using hc2
        rw [e] at q
        exact q _
    · have e : isBoth n = false := by
        unfold isBoth
        have : isPlain n = false := by simpa [isPlain] using hc
        rw [this]; rfl
      rw [e] at q
      exact q _
  case fin =>
    intro D ys G' h' tk' SG hD hyl LF'
    have hfl : (ms.filter isBoth).length ≤ ms.length := List.length_filter_le _ _
    refine r_sp0 (r_lenL (plain_stay hD LF'.keep).isList (by simp; (first | lia | omega)) fun t tk'' => ?_)
    refine lf_stC (c := L + 5) LF' (by simp [lawCells]) rfl rfl fun h'' tk3 LF'' => ?_
    have e : ((ys.toArray.size : Nat) : Int) = ((ms.filter isBoth).length : Int) := by simp [hyl]
    rw [e] at LF''
    exact k t G' h'' tk3 SG LF''
end
end Mine
end
section
open PySem PySem.W PySem.Calls PyProof.Rows
set_option Elab.async false
set_option maxRecDepth 100000
set_option linter.unusedVariables false
namespace Mine

section
variable {prog : Program} {w : World} {A : Around} {E : Value → Shared → Prop} {s : Shared} {G h : Heap} {tk : Nat} {L : Nat} {m cm : Str → Option Value} {ps qs : Array Value} {mg mb mc : Str → Option Value} {pm : Value} {T : List (List (Int × Str))}
theorem r_cwKw {M : Model} {id : String} {e : Expr} {more : List Expr} {first : List Value} {kws : List Keyword} {env : Env} {pos : Pos} {S : Shared} {Q : Value → Shared → Prop}
    (k : wpAny M A (spliced (backTo pos (starEach (e :: more) env))) (fun vs s₁ => wpAny M A (evalAll ((backToKw pos (keywordEach kws env)).map (·.2))) (fun ks s₂ => wpAny M A (call (.builtin id) (first ++ vs) (((backToKw pos (keywordEach kws env)).filterMap (·.1)).zip ks)) Q E s₂) E s₁) E S)
    (he : starEach (e :: more) env = (false, eval e env) :: starEach more env := by rfl) (hp : (backTo pos (starEach (e :: more) env)).any (·.1) = false := by rfl)
    (hk : (backToKw pos (keywordEach kws env)).any (·.1.isNone) = false := by rfl) (hall : (backToKw pos (keywordEach kws env)).all (·.1.isSome) = true := by rfl) :
    wpAny M A (callWith pos (.builtin id) first (backTo pos (starEach (e :: more) env)) (backToKw pos (keywordEach kws env))) Q E S := by
  refine callWith_builtin_kwB hp hk ?_
  rw [he] at k ⊢
  exact evalArgs_kw hall k
theorem triples_kind {ps : Array Value} (x : TriplesOk ps.toList) : ∀ q t, ps[1]? ≠ some (.str q t) := by
  intro q t e
  rw [← Array.getElem?_toList] at e
  generalize ps.toList = l at *
  match l, x, e with
  | [], _, e => simp at e
  | [_], x, _ => simp [TriplesOk] at x
  | [_, _], x, _ => simp [TriplesOk] at x
  | a :: b :: c :: r, x, e =>
    simp at e
    subst e
    cases a <;> simp [TriplesOk] at x
theorem LF.old (F : LF G L m cm ps qs h) (hq : ∀ q t, qs[1]? ≠ some (.str q t)) : ∀ z ∈ LX L, ∃ o, h.get? z = some o ∧ OldKind o := by
  intro z hz
  have cc : ∀ n c, (n, c) ∈ lawCells L → ∃ o, h.get? c = some o ∧ OldKind o := fun n c hc => let ⟨o, e, r⟩ := F.cell n c hc; ⟨o, e, .inr (.inl ⟨_, r⟩)⟩
  simp only [LX, List.mem_cons, List.not_mem_nil, or_false] at hz
  rcases hz with rfl | rfl | rfl | rfl | rfl | rfl | rfl | rfl | rfl
  · obtain ⟨o, es, ep, e, hd, _⟩ := F.ns; exact ⟨o, e, .inl ⟨_, _, hd⟩⟩
  · exact cc "modes" _ (by simp [lawCells])
  · exact cc "bodies" _ (by simp [lawCells])
  · exact cc "middles" _ (by simp [lawCells])
  · exact cc "plains" _ (by simp [lawCells])
  · exact cc "shared" _ (by simp [lawCells])
  · exact cc "pieces" _ (by simp [lawCells])
  · exact ⟨_, F.tab, .inr (.inr ⟨_, rfl, triples_kind F.tr⟩)⟩
  · exact ⟨_, F.t80, .inr (.inr ⟨_, rfl, hq⟩)⟩
set_option maxHeartbeats 2000000 in
theorem law_5 {sv : Value} {xs : List Str} {Q : Flow → Shared → Prop} (R : Rm 10 A) (N : LN mg) (X : LG mg mb mc T G) (F : LF G L m cm ps #[] h) (hT : TabOk ps G) (hm : m "sent" = some sv) (hd : StrsAt G sv xs) (h2 : 2 ≤ xs.length) (h64 : xs.length < 64) (hz : ∀ i, (xs.getD i "").length ≤ 100000) (hmc : mc "thirdparty.any" = none)
    (k : ∀ rv G' h' tk' ps' qs', Stay G G' → LF G' L (fun z => if z = "ranked" then some rv else m z) cm ps' qs' h' → StrsAt G' rv (sortL xs) → TabOk ps' G' → wpAny (model prog w) A (execs (lawFrom 6) (lawEnv pm L)) Q E (st s h' tk')) :
    wpAny (model prog w) A (execs (lawFrom 5) (lawEnv pm L)) Q E (st s h tk) := by
  obtain ⟨da, us, rfl, hus, hui⟩ := hd
  refine r_assign ?_
  refine wpAny_Call_Name_kw ?_
  refine nmB (X.bas.stay F.keep) N.b3 rfl ?_
  refine r_cwKw ?_
  refine r_sp1 (nmL F.fm hm (r_sp0 ?_))
  refine wpAny_evalAll_cons ?_
  refine wpAny_bind ?_
  show wpAny _ _ (eval (.Call _ _ _ _) _) _ _ _
  obtain ⟨pm4, ho4, hc4⟩ := id X.f3
  (with_reducible refine r_call ?_)
  refine nmG (X.bas.stay F.keep) N.n4 ?_
  refine r_cwF (o := { cls := .type "function", data := .func (fnD 25 84 pm4 .none) }) rfl ?_
  refine r_sp1 ?_
  refine lf_lam (e := lam3) (clos := []) F X.bas.g X.bm X.c1 rfl rfl rfl rfl rfl (by kernel_rfl) hT fun G₁ f h₁ tk₁ ps₁ SG₁ F₁ X₁ hT₁ _ O₁ => ?_
  have LG₁ := (X.stay SG₁).stay F₁.keep
  refine r_sp0 ⟨F₁.keep _ _ (SG₁ _ _ ho4), ?_⟩
  refine c_cmpkey (R.less (by decide)) LG₁.bas LG₁.bm LG₁.f3 LG₁.c2 F₁.t80 N.nm LG₁.st hmc N.b7 fun C cc h₂ tk₂ O₂ g₂ K₂ => ?_
  obtain ⟨qs₂, hqs₂⟩ := g₂
  obtain ⟨KC, hcc⟩ := K₂ (LX L) (F₁.old (by simp))
  have F₂ := F₁.set80 hqs₂ O₂
  obtain ⟨F₂', SG₂⟩ := F₂.ground
  refine wpAny_bind (wpAny_standAt (wpAny_pure ?_))
  refine wpAny_evalAll_nil ?_
  have S02 := SG₁.trans SG₂
  refine sort_K F₂'.fm (R.less (by decide)) (X.stay S02).bas KC hcc (X₁.stay SG₂) N.b1 (plain_stay hus S02) hui h2 h64 hz fun D h₃ tk₃ us' fD hD hus' bt => ?_
  have F₃ := F₂'.bt bt
  obtain ⟨F₃', SG₃⟩ := F₃.ground
  have nD : D ∉ LX L := fun q => by obtain ⟨o, e⟩ := F₂.ex D q; rw [fD] at e; cases e
  refine lf_stL F₃' rfl fun h₄ tk₄ F₄ => ?_
  refine k (.ref D) _ h₄ tk₄ ps₁ qs₂ (S02.trans SG₃) F₄ ⟨D, us', rfl, ?_, hus'⟩ ((hT₁.stay SG₂).stay SG₃)
  obtain ⟨n, e⟩ := hD
  exact ⟨n, hideAll_get _ e nD⟩
end
end Mine
end
section
open PySem PySem.W PySem.Calls PyProof.Rows
set_option Elab.async false
set_option maxRecDepth 100000
set_option linter.unusedVariables false
namespace Mine

noncomputable def joinF (xs : List Str) (row : List Int) : Str := row.foldl (fun t p => t ++ xs.getD p.toNat "") ""
noncomputable def sentF (xs : List Str) (row : List Int) : Str := ⟨(quoteL (joinF xs row).cps.toList).toArray⟩
theorem joinF_len (xs : List Str) (hz : ∀ i, (xs.getD i "").length ≤ 100) (row : List Int) : (joinF xs row).length ≤ 100 * row.length := by
  have gen : ∀ (row : List Int) (t : Str), (row.foldl (fun t p => t ++ xs.getD p.toNat "") t).length ≤ t.length + 100 * row.length := by
    intro row
    induction row with
    | nil => intro t; simp
    | cons p r ih =>
      intro t
      have h1 := ih (t ++ xs.getD p.toNat "")
      have h2 := hz p.toNat
      rw [str_len_append] at h1
      simp only [List.foldl_cons, List.length_cons]
      (first | lia | omega)
  have := gen row ""
  have e : ("" : Str).length = 0 := rfl
  rw [e] at this
  unfold joinF
  (first | lia | omega)

section
variable {prog : Program} {w : World} {A : Around} {E : Value → Shared → Prop} {s : Shared} {G h : Heap} {tk : Nat} {L : Nat} {m cm : Str → Option Value} {ps qs : Array Value} {mg mb mc : Str → Option Value} {pm : Value} {T : List (List (Int × Str))}
set_option maxHeartbeats 2000000 in
theorem law_4 {ov pv : Value} {rows : List (List Int)} {xs : List Str} {Q : Flow → Shared → Prop} (R : Rm 6 A) (N : LN mg) (X : LG mg mb mc T G) (F : LF G L m cm ps qs h) (hT : TabOk ps G) (hm0 : m "orders" = some ov) (ho : RowsI G ov rows) (hp : cm "pieces" = some pv) (hps : StrsAt G pv xs)
    (hrl : rows.length ≤ 100) (hxl : xs.length ≤ 100) (hr : ∀ row ∈ rows, row.length ≤ 10 ∧ ∀ p ∈ row, 0 ≤ p ∧ p.toNat < xs.length) (hz : ∀ i, (xs.getD i "").length ≤ 100)
    (k : ∀ D G' h' tk' ps', Stay G G' → LF G' L (fun z => if z = "sent" then some (.ref D) else m z) cm ps' qs h' → StrsAt G' (.ref D) (rows.map (sentF xs)) → TabOk ps' G' → wpAny (model prog w) A (execs (lawFrom 5) (lawEnv pm L)) Q E (st s h' tk')) :
    wpAny (model prog w) A (execs (lawFrom 4) (lawEnv pm L)) Q E (st s h tk) := by
  obtain ⟨da, us, rfl, hus, hui⟩ := ho
  have hul : us.length = rows.length := paired_len hui
  obtain ⟨u9, hn9⟩ := N.n9
  refine lf_used (Pst := TabOk) rfl rfl rfl (by decide) rfl (by decide) rfl (by intro _; rfl) F hT (fun _ _ _ e S => e.stay S) R.hd ?_
  refine nmL F.fm hm0 ?_
  have nda : da ∉ LX L := fun q => by obtain ⟨n, e⟩ := hus; rw [F.hid da q] at e; cases e
  refine ⟨h, tk, [da], us.toArray.size, fun i v => us.toArray[i]? = some v, fun _ _ => true, fun i v y => ∀ r, rows[i]? = some r → ∃ t', y = .str (sentF xs r) t', rfl, Stay.refl _, Seq.list (plain_stay hus F.keep).isList, ?hb, by simp; (first | lia | omega), ?tests, ?elem, ?fin⟩
  case hb =>
    intro b hb
    simp at hb
    subst hb
    obtain ⟨n, e⟩ := plain_stay hus F.keep
    exact ⟨nda, _, e⟩
  case tests =>
    intro i v C G₃ ps₃ m₃ h₃ tk₃ _ _ _ _ _ _ _ _
    exact wpAny_tests_nil ⟨rfl, h₃, tk₃, rfl, Stay.refl _⟩
  case elem =>
    intro i v C G₃ ps₃ m₃ h₃ tk₃ hi' hP _ S LF₃ hT₃ FC hv htk
    obtain ⟨r, hrr, hrow⟩ := paired_get hui (show us[i]? = some v by simpa using hP)
    have hs := hr r (List.mem_of_getElem? hrr)
    have XG := X.stay S
    have X₃ := XG.stay LF₃.keep
    obtain ⟨pm5, ho5, hc5⟩ := id XG.f5
    obtain ⟨pm4, ho4, hc4⟩ := id XG.f4
    show wpAny _ _ (eval (.Call _ _ _ _) _) _ _ _
    (with_reducible refine r_call ?_)
    refine nmG X₃.bas N.n10 ?_
    refine r_cwF (o := { cls := .type "function", data := .func (fnD 32 110 pm5 .none) }) rfl ?_
    refine r_sp1 ?_
    (with_reducible refine r_call ?_)
    refine nmG X₃.bas N.n6 ?_
    refine r_cwF (o := { cls := .type "function", data := .func (fnD 27 93 pm4 (.ref 87)) }) rfl ?_
    refine r_sp1 ?_
    refine lf_lam (e := lam2) (clos := [("pieces", L + 6)]) LF₃ XG.bas.g XG.bm XG.c1 rfl rfl rfl rfl rfl (by kernel_rfl) hT₃ fun G₄ f h₄ tk₄ ps₄ SG₄ F₄ X₄ hT₄ hZ₄ O₄ => ?_
    have hCne : C ≠ 162 := fun q => by
      obtain ⟨o, es, ep, e, hd, _⟩ := FC.ns
      rw [q, LF₃.tab] at e; cases e; cases hd
    have FC₄ : Fm G₃ C m₃ h₄ := ⟨FC.ns.at' fun o e => O₄ _ _ hCne e, SG₄.trans F₄.keep, FC.fresh⟩
    have LG₄ := (XG.stay SG₄).stay F₄.keep
    have U := (S.trans SG₄).trans F₄.keep
    refine r_sp1 (nmL FC₄ hv ?_)
    refine r_sp1 (r_str (r_sp0 ⟨F₄.keep _ _ (SG₄ _ _ ho4), ?_⟩))
    obtain ⟨o87, ho87, hd87⟩ := LG₄.d87
    obtain ⟨ra, ru, rfl, hrp, hri⟩ := hrow.stay U
    have hrul : ru.length = r.length := hri.length
    obtain ⟨pmf, cf, ctf, hfo, hfc⟩ := id (X₄.stay F₄.keep)
    have hcell := F₄.cell "pieces" (L + 6) (by simp [lawCells])
    rw [hp] at hcell
    refine (c_reduce (Acc := fun j v H => ∃ t, v = .str (joinF xs (r.take j)) t) (Z₀ := []) (P := fun j v => ru.toArray[j]? = some v) (R.less (by decide)) LG₄.bas LG₄.f4 ho87 hd87 N.n5 N.b5 ?hinit (Seq.list hrp.isList) ?hbase hfo rfl (fun j v H H' a S => a) ?step (by simp) ?h0) _ _ _ fun b h₅ tk₅ S₅ hb => ?_
    case hinit =>
      intro A' h' tk' Q E S q
      exact wpAny_is_other rfl nofun q
    case hbase =>
      intro b hb
      simp at hb
      subst hb
      obtain ⟨n, e⟩ := hrp
      exact ⟨_, e⟩
    case h0 => exact ⟨_, rfl⟩
    case step =>
      rintro A' j a v h' Z RA S' hZ hj hPv ⟨t, rfl⟩
      obtain ⟨tv, y, rfl, hy⟩ := ints_get' hri (show ru[j]? = some v by simpa using hPv)
      have hy2 := hs.2 y (List.mem_of_getElem? hy)
      have hxy : xs[y.toNat]? = some (xs.getD y.toNat "") := by
        simp [hy2.2]
      have hjr : j < r.length := by simpa [hrul] using hj
      have hjl := joinF_len xs hz (r.take j)
      have htl : (r.take j).length ≤ 10 := by simp; (first | lia | omega)
      have hzy := hz y.toNat
      have hi0 : y = (y.toNat : Int) := by (first | lia | omega)
      have := c_lam2 (s := s) (prog := prog) (w := w) (t := t) (u := tv) (RA.less (by decide)) (LG₄.bas.stay S') ((X₄.stay F₄.keep).stay S') (hcell.keeps S') ((hps.stay U).stay S') hi0 (by (first | lia | omega)) hxy (x := joinF xs (r.take j)) (by (first | lia | omega))
      refine this.mono fun b h'' _ hb => ?_
      have e : joinF xs (r.take (j + 1)) = joinF xs (r.take j) ++ xs.getD y.toNat "" := by
        rw [List.take_add_one, hy]
        simp [joinF, List.foldl_append]
      rw [e]
      exact hb
    obtain ⟨t₅, rfl⟩ := hb
    have er : r.take ru.toArray.size = r := by rw [List.take_of_length_le]; simp [hrul]
    rw [er]
    have F₅ := F₄.stay S₅
    have LG₅ := LG₄.stay S₅
    have hjl := joinF_len xs hz r
    refine r_sp0 ⟨S₅ _ _ (F₄.keep _ _ (SG₄ _ _ ho5)), ?_⟩
    refine (c_quote (R.less (by decide)) LG₅.bas LG₅.f5 N.n7 N.n8 hn9 LG₅.p1 LG₅.p2 (x := joinF xs r) (t := t₅) (by have := hs.1; show (joinF xs r).length ≤ 10000; (first | lia | omega))) _ _ _ fun v h₆ tk₆ S₆ hv6 => ?_
    refine ⟨?_, ps₄, h₆, tk₆, rfl, fun b o n e => S₆ _ _ (S₅ _ _ (O₄ _ _ n e)), S₆ _ _ (S₅ _ _ F₄.tab), F₄.tr, fun Z hZ => ?_⟩
    · intro r' hr'
      rw [hrr] at hr'; cases hr'
      exact hv6
    · refine (hZ₄ Z hZ).1.stay fun b o e => ?_
      have nb : b ∉ LX L ++ Z := fun q => by rw [hideAll_none _ q] at e; cases e
      exact hideAll_get _ (S₆ _ _ (S₅ _ _ (of_hideAll _ e))) nb
  case fin =>
    intro D ys vs G' ps' h' tk' fD SG hG hD hT' hvl hvP hF LF'
    have hvs := vs_eq hvl hvP
    subst hvs
    have e : (((List.range vs.toArray.size).zip vs).filter fun iv => (fun _ _ => true : Nat → Value → Bool) iv.1 iv.2) = (List.range vs.toArray.size).zip vs := by simp
    rw [e] at hF
    have hl := paired_len hF
    have hl' : ys.length = vs.length := by rw [← hl]; simp
    refine k D G' h' tk' ps' SG LF' ⟨D, ys, rfl, hD, strs_ofV hui _ hl' fun j u hu => ?_⟩ hT'
    have hj : j < vs.length := (List.getElem?_eq_some_iff.mp hu).1
    have : ((List.range vs.toArray.size).zip vs)[j]? = some (j, u) := by
      rw [List.getElem?_zip_eq_some]
      exact ⟨by simp [hj], hu⟩
    obtain ⟨y, e1, e2⟩ := paired_get hF this
    exact ⟨y, e1, e2⟩
end
end Mine
end
section
open PySem PySem.W PySem.Calls PyProof.Rows
set_option Elab.async false
set_option maxRecDepth 100000
set_option linter.unusedVariables false
namespace Mine

noncomputable def lenK (mi pl : Int) (j : Nat) : Int := 48 + pl - 2 * mi - (3 - (j : Int))
noncomputable def lensTo (mi pl sh : Int) (n : Nat) : List Int := (List.range n).flatMap fun (j : Nat) => List.replicate (ordersI mi pl sh (3 - (j : Int))).toNat (lenK mi pl j)
noncomputable def lensF (mi pl sh : Int) : List Int := lensTo mi pl sh 4
theorem lensTo_succ (mi pl sh : Int) (n : Nat) : lensTo mi pl sh (n + 1) = lensTo mi pl sh n ++ List.replicate (ordersI mi pl sh (3 - (n : Int))).toNat (lenK mi pl n) := by
  simp [lensTo, List.range_succ, List.flatMap_append]
theorem lensTo_len {mi pl sh : Int} (ho : ∀ j : Nat, j < 4 → ordersI mi pl sh (3 - (j : Int)) ≤ 100) : ∀ n, n ≤ 4 → (lensTo mi pl sh n).length ≤ 100 * n
  | 0, _ => by simp [lensTo]
  | n + 1, hn => by
    have := lensTo_len ho n (by (first | lia | omega))
    have h2 := ho n (by (first | lia | omega))
    rw [lensTo_succ, List.length_append, List.length_replicate]
    (first | lia | omega)

section
variable {prog : Program} {w : World} {A : Around} {E : Value → Shared → Prop} {s : Shared} {G h : Heap} {tk : Nat} {L : Nat} {m cm : Str → Option Value} {ps qs : Array Value} {mg mb mc : Str → Option Value} {pm : Value} {T : List (List (Int × Str))}
theorem Seq.tuple {l : Addr} {vs : Array Value} (hl : h.IsTuple l vs) : Seq prog w s h (.ref l) [l] vs.size (fun i v => vs[i]? = some v) := by
  constructor
  intro A' h₁ tk Q E S₁ k
  refine r_iterT (hl.at fun o e => S₁ _ _ e) fun I h₂ fI hI S₂ hl₂ hne => ?_
  refine k I [I, l] [I] (fun i h => h.IsTupleIter I l i ∧ h.IsTuple l vs) h₂ tk S₂ (fun A₂ hA₂ => Walks.tuple hA₂ I l hne vs) (by simpa using fI) ?_ (fun i h q b hb => by simp at hb; subst hb; obtain ⟨o, e, _⟩ := q.1; exact ⟨o, e⟩) ⟨hI, hl₂⟩
  intro b hb
  simp at hb
  rcases hb with rfl | rfl
  · simp
  · simp

theorem used_comp {elt tgt iter : Expr} {ifs : List Expr} {gs : List Comprehension} {scope : Scope} {y : Str} {py pos spos : Pos} {rest : List Stmt} {env : Env} {Q : Flow → Shared → Prop} {S : Shared}
    (hsw : swapsWith (.ListComp elt (⟨tgt, iter, ifs, 0⟩ :: gs) scope pos) (some (.Name y py)) spos.line env = pure true)
    (k : ∀ pos2, wpAny (model prog w) A (comprehension (.ListComp elt (⟨tgt, iter, ifs, 0⟩ :: gs) scope pos) scope env pos2 (newList []) false (eval iter env) (some (assign (.Name y py) env))) (fun _ s' => wpAny (model prog w) A (execs rest env) Q E s') E S) :
    wpAny (model prog w) A (execs (.Assign [.Name y py] (.ListComp elt (⟨tgt, iter, ifs, 0⟩ :: gs) scope pos) spos :: rest) env) Q E S := by
  refine wpAny_execs_cons ?_
  rw [exec_Assign_Name_used _ _ _ _ hsw]
  refine wpAny_bind (wpAny_standAt (wpAny_bind ?_))
  show wpAny _ A (do let _ ← comprehension (.ListComp elt (⟨tgt, iter, ifs, 0⟩ :: gs) scope pos) scope env _ (newList []) false (eval iter env) (some (assign (.Name y py) env))) _ _ _
  exact wpAny_bind (wpAny_mono (k _) (fun _ s' hq => wpAny_pure (wpAny_pure hq)) fun _ _ e => e)

set_option maxHeartbeats 4000000 in
theorem law_11 {mi pl sh : Int} {t1 t2 t3 : Tok} {Q : Flow → Shared → Prop} (R : Rm 7 A) (N : LN mg) (X : LG mg mb mc T G) (F : LF G L m cm ps qs h) (hm : cm "middles" = some (.int mi t1)) (hp : cm "plains" = some (.int pl t2)) (hs : cm "shared" = some (.int sh t3)) (hmi : 0 ≤ mi ∧ mi ≤ 4) (hpl : 0 ≤ pl ∧ pl ≤ 4)
    (hord : ∀ j : Nat, j < 4 → 0 ≤ ordersI mi pl sh (3 - (j : Int)) ∧ ordersI mi pl sh (3 - (j : Int)) ≤ 100)
    (k : ∀ D G' h' tk', Stay G G' → LF G' L (fun z => if z = "lengths" then some (.ref D) else m z) cm ps qs h' → IntsAt G' (.ref D) (lensF mi pl sh) → wpAny (model prog w) A (execs (lawFrom 12) (lawEnv pm L)) Q E (st s h' tk')) :
    wpAny (model prog w) A (execs (lawFrom 11) (lawEnv pm L)) Q E (st s h tk) := by
  refine used_comp rfl fun pos2 => ?_
  refine wp_lc (s := s) rfl (by intro _; rfl) rfl (by decide) rfl (by decide) ?_
  refine r_tuple ?_
  repeat' (first | with_reducible refine r_sp0 ?_ | ((with_reducible refine r_sp1 ?_ ?sw); (case sw => rfl)) | ((with_reducible refine r_int ?_)))
  refine r_newTuple (by simp) fun tq h₁ ftq htq S₁ => ?_
  have F₁ := F.stay S₁
  have ntq : tq ∉ LX L := fun q => by obtain ⟨o, e⟩ := F.ex tq q; rw [ftq] at e; cases e
  refine (Seq.tuple htq).it A h₁ _ _ _ (Stay.refl _) fun I fp wr St h₂ tk₂ S₂ W hwr hfp hlive hst => ?_
  refine ⟨h₂, tk₂, rfl, fun D C h₃ tk₃ fD fC hDC S₃ hD hC => ?_⟩
  have F₃ := (F₁.stay S₂).stay S₃
  have W' := W A R.hd
  have hst₃ : St 0 h₃ := W'.frame _ _ _ hst fun b _ o e => S₃ _ _ e
  have lx₂ : ∀ z ∈ LX L, ∃ o, h₂.get? z = some o := (F₁.stay S₂).ex
  have lx₁ : ∀ z ∈ LX L, ∃ o, h₁.get? z = some o := F₁.ex
  have nD : D ∉ LX L := fun q => by obtain ⟨o, e⟩ := lx₂ D q; rw [fD] at e; cases e
  have nC : C ∉ LX L := fun q => by obtain ⟨o, e⟩ := lx₂ C q; rw [fC] at e; cases e
  have nW : ∀ b ∈ wr, b ∉ LX L := fun b hb q => by obtain ⟨o, e⟩ := lx₁ b q; rw [hwr b hb] at e; cases e
  have live₂ : ∀ b ∈ wr, ∃ o, h₂.get? b = some o := fun b hb => hlive _ _ hst b hb
  have dW : ∀ b ∈ wr, b ≠ D ∧ b ≠ C := fun b hb => ⟨fun q => (by obtain ⟨o, e⟩ := live₂ b hb; rw [q, fD] at e; cases e), fun q => (by obtain ⟨o, e⟩ := live₂ b hb; rw [q, fC] at e; cases e)⟩
  have nfp : ∀ b ∈ fp, b ∉ LX L ∧ b ≠ D ∧ b ≠ C := by
    intro b hb
    rcases hfp b hb with q | q
    · exact ⟨nW b q, dW b q⟩
    · simp at q
      subst q
      obtain ⟨o, e, _⟩ := htq
      exact ⟨ntq, fun z => (by rw [z] at e; rw [S₂ _ _ e] at fD; cases fD), fun z => (by rw [z] at e; rw [S₂ _ _ e] at fC; cases fC)⟩
  let Z := C :: D :: wr
  have hZ : Z = C :: D :: wr := rfl
  have f₁ : ∀ z ∈ Z, h₁.get? z = none := by
    intro z hz
    rw [hZ] at hz
    simp only [List.mem_cons] at hz
    rcases hz with rfl | rfl | hz
    · exact fresh_of S₂ fC
    · exact fresh_of S₂ fD
    · exact hwr z hz
  generalize hGx : hideAll h₃ (LX L ++ Z) = Gx
  have gz : ∀ z ∈ LX L ++ Z, Gx.get? z = none := fun z hz => by rw [← hGx]; exact hideAll_none _ hz
  have g0 : Stay G Gx := fun b o e => by
    rw [← hGx]
    refine hideAll_get _ (F₃.keep _ _ e) ?_
    simp only [List.mem_append, not_or]
    exact ⟨fun q => (by rw [F.hid b q] at e; cases e), fun q => (by have := F₁.keep _ _ e; rw [f₁ b q] at this; cases this)⟩
  have LX0 : LF Gx L m cm ps qs h₃ := F₃.less (fun b o e => by rw [← hGx] at e; exact of_hideAll _ e) (fun z hz => gz z (by simp [hz]))
  have XG := X.stay g0
  have loop : codeAny (model prog w) A (.compLoop (asg (stmtAt 41 11)) 0 (.ref I) (.ref D) (compEnvC (match asg (stmtAt 41 11) with | .ListComp _ _ s _ => s | _ => default) [("shared", L + 5), ("plains", L + 4), ("middles", L + 3)] C (lawEnv pm L)))
      (compPost (model prog w) A E (some (assign (.Name "lengths" (match stmtAt 41 11 with | .Assign [.Name _ p] _ _ => p | _ => default)) (lawEnv pm L))) (fun _ s' => wpAny (model prog w) A (execs (lawFrom 12) (lawEnv pm L)) Q E s') (.ref D) C) (st s h₃ tk₃) := by
    refine comp_loop2_0 (turns_name W')
      (fun i h' => ∃ m' ys, LF Gx L m cm ps qs h' ∧ h'.Ns C m' ∧ h'.PlainList D (List.toArray ys) ∧ IntsAre ys (lensTo mi pl sh i)) ?hJ ?turn ?fin hst₃
      ⟨_, [], LX0, hC, hD, .nil⟩
    case hJ =>
      rintro i h₄ h₅ ⟨m', ys, a1, a2, a3, a4⟩ hk
      exact ⟨m', ys, a1.offX (fun z hz => ⟨nW z hz, gz z (by rw [hZ]; simp [hz])⟩) hk, a2.at' fun o e => hk _ _ (fun q => (dW C q).2 rfl) e, a3.at fun o e => hk _ _ (fun q => (dW D q).1 rfl) e, a4⟩
    case fin =>
      rintro h₄ tk₄ ⟨m', ys, a1, a2, a3, a4⟩
      show wpAny _ A (assign (.Name "lengths" _) (lawEnv pm L) (.ref D)) _ _ _
      have a1' : LF (hideAll h₄ (LX L ++ [C])) L m cm ps qs h₄ := a1.less (fun b o e => of_hideAll _ e) (fun z hz => hideAll_none _ (by simp [hz]))
      have hDg : (hideAll h₄ (LX L ++ [C])).PlainList D (List.toArray ys) := by
        obtain ⟨nn, e⟩ := a3
        refine ⟨nn, hideAll_get _ e ?_⟩
        simp only [List.mem_append, List.mem_singleton, not_or]
        exact ⟨nD, hDC⟩
      have gg : Stay Gx (hideAll h₄ (LX L ++ [C])) := fun b o e => hideAll_get _ (a1.keep _ _ e) (by
        simp only [List.mem_append, List.mem_singleton, not_or]
        exact ⟨fun q => (by rw [gz b (by simp [q])] at e; cases e), fun q => (by rw [q, gz C (by rw [hZ]; simp)] at e; cases e)⟩)
      refine wpAny_assign_Name (stL a1'.fm (fun h₅ tk₅ F₅ O₅ => ?_) rfl rfl rfl)
      have hCL : C ≠ L := fun q => nC (by rw [q]; simp [LX])
      refine ⟨m', a2.at' fun o e => O₅ _ _ hCL e, fun h₆ sb => ?_⟩
      have O : OffL [C] h₅ h₆ := fun b o n e => sb.extBut b o (by simpa using n) e
      exact k D _ h₆ tk₅ (g0.trans gg) ((a1'.setL F₅ O₅).offX (fun z hz => by simp at hz; subst hz; exact ⟨nC, hideAll_none _ (by simp)⟩) O) ⟨D, ys, rfl, hDg, a4⟩
    case turn =>
      rintro i v h₄ tk₄ hi hP hst₄ ⟨m', ys, a1, a2, a3, a4⟩
      have hi4 : i < 4 := by simpa using hi
      obtain ⟨tv, rfl⟩ : ∃ tv, v = .int (3 - (i : Int)) tv := by
        have : i = 0 ∨ i = 1 ∨ i = 2 ∨ i = 3 := by (first | lia | omega)
        rcases this with rfl | rfl | rfl | rfl <;> (simp at hP; exact ⟨_, hP.symm⟩)
      have ho := hord i hi4
      have F₄ : Fm Gx C m' h₄ := ⟨a2, a1.keep, gz C (by rw [hZ]; simp)⟩
      refine r_name F₄ fun h₅ tk₅ F₅ O₅ => ?_
      have LF₅ : LF Gx L m cm ps qs h₅ := a1.offX (X := [C]) (fun z hz => by simp at hz; subst hz; exact ⟨nC, gz z (by rw [hZ]; simp)⟩) (O₅.offL (by simp))
      have X₅ := XG.stay LF₅.keep
      (with_reducible refine r_call ?_)
      refine nmB X₅.bas N.b2 rfl ?_
      refine r_cwT (r_sp1 ?_)
      (with_reducible refine r_call ?_)
      refine nmG X₅.bas N.n17 ?_
      refine r_cwD X₅.f12 (r_sp1 (nmC (hm ▸ LF₅.cell "middles" (L + 3) (by simp [lawCells])) ?_ rfl rfl rfl (by decide)))
      refine r_sp1 (nmC (hp ▸ LF₅.cell "plains" (L + 4) (by simp [lawCells])) ?_ rfl rfl rfl (by decide))
      refine r_sp1 (nmC (hs ▸ LF₅.cell "shared" (L + 5) (by simp [lawCells])) ?_ rfl rfl rfl (by decide))
      refine r_sp1 (nmL F₅ rfl ?_)
      refine r_sp0 ⟨Stay.refl _, ?_⟩
      refine (c_orders (R.less (by decide)) X₅.bas X₅.f12 X₅.f11 X₅.f10 X₅.f9 N.n14 N.n15 N.n16 N.b2 hmi hpl ⟨by (first | lia | omega), by (first | lia | omega)⟩) _ _ _ fun cv h₆ tk₆ S₆ hcv => ?_
      obtain ⟨tc, rfl⟩ := hcv
      refine r_sp0 (r_range1 fun rg h₇ t₇ u₇ v₇ tk₇ frg hrg S₇ => ?_)
      have hrg' : IsRange h₇ rg 0 (0 + (((ordersI mi pl sh (3 - (i : Int))).toNat : Nat) : Int)) 1 t₇ u₇ v₇ := by
        have e : (0 : Int) + (((ordersI mi pl sh (3 - (i : Int))).toNat : Nat) : Int) = ordersI mi pl sh (3 - (i : Int)) := by (first | lia | omega)
        rw [e]; exact hrg
      refine (Seq.range (prog := prog) (w := w) (s := s) hrg' (small_one (by (first | lia | omega)) (by (first | lia | omega)) (by (first | lia | omega)) (by (first | lia | omega)))).it _ _ _ _ _ (Stay.refl _) fun I₂ fp₂ wr₂ St₂ h₈ tk₈ S₈ W₂ hwr₂ hfp₂ hlive₂ hst₈ => ?_
      have W₃ := W₂ A R.hd
      have S₅₇ : Stay h₅ h₇ := S₆.trans S₇
      have S₅₈ : Stay h₅ h₈ := S₅₇.trans S₈
      have hwr₅ : ∀ b ∈ wr₂, h₅.get? b = none := fun b hb => fresh_of S₅₇ (hwr₂ b hb)
      have ex₅ : ∀ z ∈ LX L, ∃ o, h₅.get? z = some o := LF₅.ex
      have nW₂ : ∀ b ∈ wr₂, b ∉ LX L ∧ Gx.get? b = none := fun b hb => ⟨fun q => (by obtain ⟨o, e⟩ := ex₅ b q; rw [hwr₅ b hb] at e; cases e), fresh_of LF₅.keep (hwr₅ b hb)⟩
      have hCw : C ∉ wr₂ := fun q => by obtain ⟨o, es, ep, e, _⟩ := F₅.ns; rw [hwr₅ C q] at e; cases e
      have hD₅ : h₅.PlainList D (List.toArray ys) := a3.at fun o e => O₅ _ _ hDC e
      have hDw : D ∉ wr₂ := fun q => by obtain ⟨n, e⟩ := hD₅; rw [hwr₅ D q] at e; cases e
      have loop2 : codeAny (model prog w) A (.compLoop (asg (stmtAt 41 11)) 1 (.ref I₂) (.ref D) (compEnvC (match asg (stmtAt 41 11) with | .ListComp _ _ s _ => s | _ => default) [("shared", L + 5), ("plains", L + 4), ("middles", L + 3)] C (lawEnv pm L)))
          (fun r s₅ => ∃ f, r = .ok f ∧ ∃ h₅ tk₅, s₅ = st s h₅ tk₅ ∧ Kept fp h₄ h₅ ∧ ∃ m' ys, LF Gx L m cm ps qs h₅ ∧ h₅.Ns C m' ∧ h₅.PlainList D (List.toArray ys) ∧ IntsAre ys (lensTo mi pl sh (i + 1))) (st s h₈ tk₈) := by
        refine comp_loop2_1 (turns_name W₃)
          (fun j h' => ∃ m' ys, LF Gx L m cm ps qs h' ∧ h'.Ns C m' ∧ m' "saved" = some (.int (3 - (i : Int)) tv) ∧ h'.PlainList D (List.toArray ys) ∧ IntsAre ys (lensTo mi pl sh i ++ List.replicate j (lenK mi pl i)) ∧ Kept fp h₄ h') ?hJ2 ?turn2 ?fin2 hst₈ ?start2
        case hJ2 =>
          rintro j h₉ h₁₀ ⟨m'', ys', b1, b2, b3, b4, b5, b6⟩ hk
          refine ⟨m'', ys', b1.offX nW₂ hk, b2.at' fun o e => hk _ _ hCw e, b3, b4.at fun o e => hk _ _ hDw e, b5, fun b hb o e => hk _ _ (fun q => ?_) (b6 b hb o e)⟩
          have hn := hwr₅ b q
          rw [O₅ _ _ (nfp b hb).2.2 e] at hn; cases hn
        case fin2 =>
          rintro h₉ tk₉ ⟨m'', ys', b1, b2, b3, b4, b5, b6⟩
          refine ⟨_, rfl, h₉, tk₉, rfl, b6, m'', ys', b1, b2, b4, ?_⟩
          rw [lensTo_succ]; exact b5
        case start2 =>
          exact ⟨_, ys, LF₅.stay S₅₈, F₅.ns.keeps S₅₈, rfl, plain_stay hD₅ S₅₈, by simpa using a4, fun b hb o e => S₅₈ _ _ (O₅ _ _ (nfp b hb).2.2 e)⟩
        case turn2 =>
          rintro j v h₉ tk₉ hj hPj hst₉ ⟨m'', ys', b1, b2, b3, b4, b5, b6⟩
          have F₉ : Fm Gx C m'' h₉ := ⟨b2, b1.keep, gz C (by rw [hZ]; simp)⟩
          refine r_name F₉ fun h₁₀ tk₁₀ F₁₀ O₁₀ => ?_
          have LF₁₀ : LF Gx L m cm ps qs h₁₀ := b1.offX (X := [C]) (fun z hz => by simp at hz; subst hz; exact ⟨nC, gz z (by rw [hZ]; simp)⟩) (O₁₀.offL (by simp))
          (with_reducible refine wpAny_BinOp ?_)
          (with_reducible refine wpAny_BinOp ?_)
          (with_reducible refine wpAny_BinOp ?_)
          (((with_reducible refine r_int ?_)))
          refine nmC (hp ▸ LF₁₀.cell "plains" (L + 4) (by simp [lawCells])) ?_ rfl rfl rfl (by decide)
          (((with_reducible refine r_add ?_)))
          (with_reducible refine wpAny_BinOp ?_)
          (((with_reducible refine r_int ?_)))
          refine nmC (hm ▸ LF₁₀.cell "middles" (L + 3) (by simp [lawCells])) ?_ rfl rfl rfl (by decide)
          refine r_mul ?_ ?_
          · have : mi = 0 ∨ mi = 1 ∨ mi = 2 ∨ mi = 3 ∨ mi = 4 := by (first | lia | omega)
            rcases this with rfl | rfl | rfl | rfl | rfl <;> decide +kernel
          (((with_reducible refine r_sub ?_)))
          refine nmL F₁₀ b3 ?_
          (((with_reducible refine r_sub ?_)))
          have hD₁₀ : h₁₀.PlainList D (List.toArray ys') := b4.at fun o e => O₁₀ _ _ hDC e
          have hys : ys'.length ≤ 1000 := by
            have h1 := b5.length
            have h2 := lensTo_len (mi := mi) (pl := pl) (sh := sh) (fun j hj => (hord j hj).2) i (by (first | lia | omega))
            rw [List.length_append, List.length_replicate] at h1
            (first | lia | omega)
          refine r_append hD₁₀ (by simpa using hys) fun h₁₁ hD₁₁ O₁₁ => ?_
          refine ⟨h₁₁, _, rfl, ?_, _, ys' ++ [.int (48 + pl - 2 * mi - (3 - (i : Int))) _], LF₁₀.offX (X := [D]) (fun z hz => by simp at hz; subst hz; exact ⟨nD, gz z (by rw [hZ]; simp)⟩) (O₁₁.offL (by simp)), F₁₀.ns.at' fun o e => O₁₁ _ _ hDC.symm e, b3, by simpa using hD₁₁, ?_, ?_⟩
          · intro b hb o e
            have hbw : b ∈ wr₂ := by
              rcases hfp₂ b hb with q | q
              · exact q
              · simp at q
            exact O₁₁ _ _ (fun q => hDw (q ▸ hbw)) (O₁₀ _ _ (fun q => hCw (q ▸ hbw)) e)
          · rw [List.replicate_succ', ← List.append_assoc]
            exact b5.append (.cons _ _ .nil)
          · intro b hb o e
            exact O₁₁ _ _ (nfp b hb).2.1 (O₁₀ _ _ (nfp b hb).2.2 (b6 b hb o e))
      exact compStart_two loop2 (W₃.self 0 _ _ _ hst₈ loop2)
  exact codeAny_compStart_list loop (W'.self 0 _ _ _ hst₃ loop)
end
end Mine
end
section
open PySem PySem.W PySem.Calls PyProof.Rows
set_option Elab.async false
set_option maxRecDepth 100000
set_option linter.unusedVariables false
namespace Mine

theorem lens_of {ys vs : List Value} {xs : List Str} (hi : StrsAre vs xs) (hl : ys.length = vs.length) (h : ∀ (j : Nat) (v : Value), vs[j]? = some v → ∃ y : Value, ys[j]? = some y ∧ ∀ n t, v = Value.str n t → ∃ t', y = Value.int (n.length : Int) t') : IntsAre ys (xs.map fun x => (x.length : Int)) := by
  induction hi generalizing ys with
  | nil => cases ys with
    | nil => exact .nil
    | cons _ _ => simp at hl
  | cons z u _ ih =>
    cases ys with
    | nil => simp at hl
    | cons y ys =>
      obtain ⟨y', e1, e2⟩ := h 0 (.str z u) rfl
      simp at e1
      subst e1
      obtain ⟨t', rfl⟩ := e2 z u rfl
      exact .cons _ t' (ih (by simpa using hl) fun j v hv => by simpa using h (j + 1) v (by simpa using hv))

section
variable {prog : Program} {w : World} {A : Around} {E : Value → Shared → Prop} {s : Shared} {G h : Heap} {tk : Nat} {L : Nat} {m cm : Str → Option Value} {ps qs : Array Value} {mg mb mc : Str → Option Value} {pm : Value} {T : List (List (Int × Str))}
theorem r_eqStrs {a b : Addr} {us vs : List Value} {xs : List Str} {Q : Value → Shared → Prop} (ha : h.IsList a us.toArray) (hb : h.IsList b vs.toArray) (h1 : StrsAre us xs) (h2 : StrsAre vs xs) (hu : A.units < cLine) (k : Q (.bool true) (st s h tk)) :
    wpAny (model prog w) A (compareOp .Eq (.ref a) (.ref b)) Q E (st s h tk) := by
  have l1 := h1.len_eq
  have l2 := h2.len_eq
  refine SeqAt.eq_listAt (s := st s h tk) (e := fun _ => true) ha hb (by simp; (first | lia | omega)) hu (fun j j1 j2 => ?_) ?_
  · obtain ⟨t, e1, _⟩ := strs_get' h1 (show us[j]? = some (us.toArray[j]) by simp)
    obtain ⟨u, e2, _⟩ := strs_get' h2 (show vs[j]? = some (vs.toArray[j]) by simp)
    rw [e1, e2]
    have := (eqGives_str (xs.getD j "") (xs.getD j "") t u).at A.in1 (st s h tk)
    simpa using this
  · have : (List.range us.toArray.size).all (fun _ => true) = true := by simp
    rw [this]; exact k

set_option maxHeartbeats 2000000 in
theorem law_12 {rv tv lv : Value} {xs ys : List Str} {ls : List Int} {Q : Flow → Shared → Prop} (R : Rm 10 A) (N : LN mg) (X : LG mg mb mc T G) (F : LF G L m cm ps qs h) (hT : TabOk ps G)
    (hm1 : m "ranked" = some rv) (hm2 : m "told" = some tv) (hm3 : m "lengths" = some lv) (h1 : StrsAt G rv xs) (h2 : StrsAt G tv ys) (h3 : IntsAt G lv ls)
    (e1 : xs.map (fun x => (x.length : Int)) = ls) (e2 : sortL ys = xs) (hy2 : 2 ≤ ys.length) (hy64 : ys.length < 64) (hz : ∀ i, (ys.getD i "").length ≤ 100000) (hzx : ∀ x ∈ xs, x.length ≤ 100000) (hxl : xs.length ≤ 100)
    (k : ∀ G' h' tk' ps', Stay G G' → LF G' L m cm ps' qs h' → Q (.ret (.bool true)) (st s h' tk')) :
    wpAny (model prog w) A (execs (lawFrom 12) (lawEnv pm L)) Q E (st s h tk) := by
  obtain ⟨da, us, rfl, hus, hui⟩ := h1
  obtain ⟨ta, tu, rfl, htu, hti⟩ := h2
  obtain ⟨la, lu, rfl, hlu, hli⟩ := h3
  have hul : us.length = xs.length := hui.len_eq
  have nda : da ∉ LX L := fun q => by obtain ⟨n, e⟩ := hus; rw [F.hid da q] at e; cases e
  refine r_ret ?_
  refine BoolOp_and ?_
  (((with_reducible refine wpAny_Compare1 ?_ ?mk); (case mk => with_unfolding_all rfl)))
  refine lf_plain (Pst := fun ps' _ => ps' = ps) rfl (by decide) rfl (by decide) rfl (by intro _; rfl) F rfl (fun _ _ _ e _ => e) R.hd ?_
  refine nmL F.fm hm1 ?_
  refine compQuiet (fun i v y => ∀ n t, v = .str n t → ∃ t', y = .int (n.length : Int) t') (Stay.refl _) (Seq.list (plain_stay hus F.keep).isList) ?hb (by simp; (first | lia | omega)) ?elem ?fin
  case hb =>
    intro b hb
    simp at hb
    subst hb
    obtain ⟨n, e⟩ := plain_stay hus F.keep
    exact ⟨nda, _, e⟩
  case elem =>
    intro i v C G₃ m₃ h₄ tk₄ hi' hP S LF₃ FC hv htk
    obtain ⟨t, rfl, hi⟩ := strs_get' hui (show us[i]? = some v by simpa using hP)
    have X₃ := (X.stay S).stay LF₃.keep
    show wpAny _ _ (eval (.Call _ _ _ _) _) _ _ _
    (with_reducible refine r_call ?_)
    refine nmB X₃.bas N.b1 rfl ?_
    refine r_cwB (r_sp1 ?_)
    refine nmL FC hv ?_
    refine r_sp0 (r_lenS (hzx _ (by rw [List.getD_eq_getElem?_getD, List.getElem?_eq_getElem hi]; simp)) fun t₁ tk₁ => ?_)
    refine ⟨?_, h₄, tk₁, rfl, Stay.refl _⟩
    rintro n t' ⟨⟩
    exact ⟨_, rfl⟩
  case fin =>
    intro D zs vs G' h' tk' fD SG hG hD hvl hvP hyl hF LF'
    have hvs := vs_eq hvl hvP
    subst hvs
    have hzi : IntsAre zs ls := by rw [← e1]; exact lens_of hui (by rw [hyl]; simp) hF
    refine nmL LF'.fm hm3 ?_
    refine eq_intsK (s := st s h' tk') (plain_stay hD LF'.keep).isList hzi (plain_stay (plain_stay hlu SG) LF'.keep).isList hli (by have := R.un; (first | lia | omega)) ?_
    rw [decide_eq_true rfl]
    refine wpAny_truthy_bool ?_
    rw [if_pos rfl]
    refine BoolOp_one ?_
    (((with_reducible refine wpAny_Compare1 ?_ ?mk); (case mk => with_unfolding_all rfl)))
    refine nmL LF'.fm hm1 ?_
    refine wpAny_Call_Name_kw ?_
    have XG := X.stay SG
    refine nmB (XG.bas.stay LF'.keep) N.b3 rfl ?_
    refine r_cwKw ?_
    refine r_sp1 (nmL LF'.fm hm2 (r_sp0 ?_))
    refine wpAny_evalAll_cons ?_
    refine wpAny_bind ?_
    refine lf_lam (e := lam4) (clos := []) LF' XG.bas.g XG.bm XG.c1 rfl rfl rfl rfl rfl (by kernel_rfl) (hT.stay SG) fun G₁ f h₁ tk₁ ps₁ SG₁ F₁ X₁ hT₁ _ O₁ => ?_
    refine wpAny_bind (wpAny_standAt (wpAny_pure ?_))
    refine wpAny_evalAll_nil ?_
    have S02 := SG.trans SG₁
    refine sort_I F₁.fm (R.less (by decide)) (X.stay S02).bas X₁ N.b1 (plain_stay htu S02) hti hy2 hy64 hz fun D₂ h₃ tk₃ us' fD₂ hD₂ hus' bt => ?_
    have F₃ := F₁.bt bt
    rw [e2] at hus'
    refine r_eqStrs (plain_stay (plain_stay hus S02) F₃.keep).isList hD₂.isList hui hus' R.units ?_
    exact k G₁ h₃ tk₃ ps₁ S02 F₃
end
end Mine
end
section
open PySem PySem.W PySem.Calls PyProof.Rows
set_option Elab.async false
set_option maxRecDepth 100000
set_option linter.unusedVariables false
namespace Mine

noncomputable def tabT : List (List (Int × Str)) := [[(40960, "l"), (49152, "s"), (32768, "-"), (24576, "b"), (16384, "d"), (8192, "c"), (4096, "p")], [(256, "r")], [(128, "w")], [(2112, "s"), (2048, "S"), (64, "x")], [(32, "r")], [(16, "w")], [(1032, "s"), (1024, "S"), (8, "x")], [(4, "r")], [(2, "w")], [(513, "t"), (512, "T"), (1, "x")]]

noncomputable abbrev cl (x : Str) : List Nat := x.cps.toList
theorem cl_append (a b : Str) : cl (a ++ b) = cl a ++ cl b := by
  show (a.cps ++ b.cps).toList = _
  simp
theorem flat_free (c : Nat) (z : List Nat) : ∀ l : List Nat, c ∉ l → l.flatMap (fun k => if k = c then z else [k]) = l
  | [], _ => rfl
  | k :: r, h => by
    have h1 : ¬ k = c := fun e => h (e ▸ List.mem_cons_self ..)
    rw [List.flatMap_cons, if_neg h1, flat_free c z r fun m => h (List.mem_cons_of_mem _ m)]
    rfl
theorem flat_join (c : Nat) (z : Str) : ∀ parts : List Str, (∀ p ∈ parts, c ∉ p.cps.toList) → (Str.join ⟨#[c]⟩ parts).cps.toList.flatMap (fun k => if k = c then z.cps.toList else [k]) = (Str.join z parts).cps.toList
  | [], _ => rfl
  | [p], h => flat_free c _ _ (h p (List.mem_singleton.mpr rfl))
  | p :: q :: r, h => by
    have ih := flat_join c z (q :: r) fun a ha => h a (List.mem_cons_of_mem _ ha)
    show (p ++ ⟨#[c]⟩ ++ Str.join ⟨#[c]⟩ (q :: r)).cps.toList.flatMap _ = (p ++ z ++ Str.join z (q :: r)).cps.toList
    simp only [Str.cps_append, Array.toList_append, List.flatMap_append]
    rw [ih, flat_free c _ _ (h p (List.mem_cons_self ..))]
    simp
theorem replace_flat (x z : Str) (c : Nat) : cl (Txt.replace x ⟨#[c]⟩ z) = (cl x).flatMap fun k => if k = c then cl z else [k] := by
  show (Txt.replace x ⟨#[c]⟩ z).cps.toList = _
  rw [StrLaws.replace_one, ← flat_join c z _ (StrLaws.split_free x c), StrLaws.join_split]

noncomputable def gC (k : Nat) : List Nat := if k = 45 then [46] else if k = 116 then [120, 10] else if k = 84 then [46, 13] else [k]
theorem piece_flat (T : List (List (Int × Str))) (mode : Int) : cl (pieceF T mode) = (cl (fmF T mode)).flatMap gC := by
  have e1 : Str.ofString "-" = ⟨#[45]⟩ := by decide
  have e2 : Str.ofString "t" = ⟨#[116]⟩ := by decide
  have e3 : Str.ofString "T" = ⟨#[84]⟩ := by decide
  have e4 : cl (Str.ofString ".") = [46] := by decide
  have e5 : cl (Str.ofString "x\n") = [120, 10] := by decide
  have e6 : cl (Str.ofString ".\r") = [46, 13] := by decide
  unfold pieceF
  rw [e3, replace_flat, e6]
  unfold rep2
  rw [e2, replace_flat, e5]
  unfold rep1
  rw [e1, replace_flat, e4, List.flatMap_assoc, List.flatMap_assoc]
  congr 1
  funext k
  unfold gC
  by_cases h1 : k = 45
  · subst h1; rfl
  · by_cases h2 : k = 116
    · subst h2; rfl
    · by_cases h3 : k = 84
      · subst h3; rfl
      · simp [h1, h2, h3]
theorem rep1_len (T : List (List (Int × Str))) (mode : Int) : (rep1 T mode).length = (fmF T mode).length := by
  have e1 : Str.ofString "-" = ⟨#[45]⟩ := by decide
  have e4 : cl (Str.ofString ".") = [46] := by decide
  have : (cl (rep1 T mode)).length = (cl (fmF T mode)).length := by
    unfold rep1
    rw [e1, replace_flat, e4]
    induction cl (fmF T mode) with
    | nil => rfl
    | cons k r ih =>
      rw [List.flatMap_cons, List.length_append, ih]
      split <;> simp <;> (first | lia | omega)
  simpa [Str.length] using this
theorem rep2_len (T : List (List (Int × Str))) (mode : Int) : (rep2 T mode).length ≤ 2 * (rep1 T mode).length := by
  have e1 : Str.ofString "t" = ⟨#[116]⟩ := by decide
  have e4 : cl (Str.ofString "x\n") = [120, 10] := by decide
  have : (cl (rep2 T mode)).length ≤ 2 * (cl (rep1 T mode)).length := by
    unfold rep2
    rw [e1, replace_flat, e4]
    induction cl (rep1 T mode) with
    | nil => simp
    | cons k r ih =>
      rw [List.flatMap_cons, List.length_append, List.length_cons]
      have : (if k = 116 then [120, 10] else [k]).length ≤ 2 := by split <;> simp
      (first | lia | omega)
  simpa [Str.length] using this
theorem glued_cl : ∀ (ps : List Str), cl (PySem.Builtin.Str.glued "" ps) = ps.flatMap cl := by
  have e0 : (Str.cps ("" : Str)) = #[] := by decide
  have gen : ∀ (ps : List Str) (a : Array Nat), (ps.foldl (fun acc p => acc ++ (Str.cps ("" : Str)) ++ p.cps) a).toList = a.toList ++ ps.flatMap cl := by
    intro ps
    induction ps with
    | nil => intro a; simp
    | cons p r ih => intro a; rw [List.foldl_cons, ih]; simp [e0, cl]
  intro ps
  show ((ps.drop 1).foldl (fun acc p => acc ++ (Str.cps ("" : Str)) ++ p.cps) (ps.headD Str.empty).cps).toList = _
  rw [gen]
  cases ps with
  | nil => rfl
  | cons p r => simp [cl]

/- bits -/
theorem land_bit (n k : Nat) : n &&& 2 ^ k = n / 2 ^ k % 2 * 2 ^ k := by
  have hb : n.testBit k = decide (n / 2 ^ k % 2 = 1) := Nat.testBit_eq_decide_div_mod_eq
  have : n / 2 ^ k % 2 = 0 ∨ n / 2 ^ k % 2 = 1 := by (first | lia | omega)
  apply Nat.eq_of_testBit_eq
  intro i
  rw [Nat.testBit_and, Nat.testBit_two_pow]
  by_cases hk : k = i
  · subst hk
    rcases this with h | h
    · rw [hb, h]; simp
    · rw [hb, h]; simp
  · rcases this with h | h
    · rw [h]; simp [hk]
    · rw [h, Nat.one_mul, Nat.testBit_two_pow]; simp [hk]
theorem band_nat (n k : Nat) : Builtin.bitAnd (n : Int) (k : Int) = ((n &&& k : Nat) : Int) := by
  unfold Builtin.bitAnd
  simp
theorem fdivN (n k : Nat) : (n : Int).fdiv (k : Int) = ((n / k : Nat) : Int) := by
  rw [Int.fdiv_eq_ediv_of_nonneg _ (by (first | lia | omega))]; simp
theorem fmodN (n k : Nat) : (n : Int).fmod (k : Int) = ((n % k : Nat) : Int) := by
  rw [Int.fmod_eq_emod_of_nonneg _ (by (first | lia | omega))]; simp

noncomputable def ch1 (n k : Nat) (c : Nat) : Nat := if n / 2 ^ k % 2 = 1 then c else 45
noncomputable def ch3 (n j k a b c : Nat) : Nat := if n / 2 ^ j % 2 = 1 then (if n / 2 ^ k % 2 = 1 then a else b) else if n / 2 ^ k % 2 = 1 then c else 45

theorem hit1 (n k i : Nat) (s : Str) (hi : i ≠ 0) : hits i (n : Int) (((2 ^ k : Nat) : Int), s) = (n / 2 ^ k % 2 == 1) := by
  unfold hits
  rw [if_neg hi]
  simp only
  rw [band_nat, land_bit]
  have hp : 0 < 2 ^ k := Nat.pow_pos (by decide)
  have : n / 2 ^ k % 2 = 0 ∨ n / 2 ^ k % 2 = 1 := by (first | lia | omega)
  rcases this with h | h
  · rw [h]
    have : ((0 * 2 ^ k : Nat) : Int) ≠ ((2 ^ k : Nat) : Int) := by rw [Nat.zero_mul]; intro q; have := Int.ofNat.inj q; (first | lia | omega)
    rw [beq_eq_false_iff_ne.mpr this]; rfl
  · rw [h]; simp
theorem or_sum {j k : Nat} (h : k < j) : 2 ^ j ||| 2 ^ k = 2 ^ j + 2 ^ k := by
  have := Nat.two_pow_add_eq_or_of_lt (i := j) (b := 2 ^ k) (Nat.pow_lt_pow_right (by decide) h) 1
  simpa using this.symm
theorem hit2 (n j k i : Nat) (s : Str) (hi : i ≠ 0) (hjk : k < j) : hits i (n : Int) (((2 ^ j + 2 ^ k : Nat) : Int), s) = (n / 2 ^ j % 2 == 1 && n / 2 ^ k % 2 == 1) := by
  unfold hits
  rw [if_neg hi]
  simp only
  rw [band_nat, ← or_sum hjk, Nat.and_or_distrib_left, land_bit, land_bit, or_sum hjk]
  have hp : 0 < 2 ^ j := Nat.pow_pos (by decide)
  have hp2 : 0 < 2 ^ k := Nat.pow_pos (by decide)
  have h1 : n / 2 ^ j % 2 = 0 ∨ n / 2 ^ j % 2 = 1 := by (first | lia | omega)
  have h2 : n / 2 ^ k % 2 = 0 ∨ n / 2 ^ k % 2 = 1 := by (first | lia | omega)
  have ne : ∀ {a b : Nat}, a ≠ b → (((a : Nat) : Int) == ((b : Nat) : Int)) = false := fun {a b} q => beq_eq_false_iff_ne.mpr fun z => q (Int.ofNat.inj z)
  rcases h1 with h | h <;> rcases h2 with h' | h' <;> rw [h, h']
  · rw [ne]; rfl
    simp only [Nat.zero_mul, Nat.or_self]; (first | lia | omega)
  · rw [ne]; rfl
    rw [Nat.zero_mul, Nat.zero_or, Nat.one_mul]; (first | lia | omega)
  · rw [ne]; rfl
    rw [Nat.zero_mul, Nat.or_zero, Nat.one_mul]; (first | lia | omega)
  · rw [Nat.one_mul, Nat.one_mul, or_sum hjk]; simp
end Mine
end
section
open PySem PySem.W PySem.Calls PyProof.Rows
set_option Elab.async false
set_option maxRecDepth 100000
set_option linter.unusedVariables false
namespace Mine

theorem pick1 (n k i c : Nat) (s : Str) (hi : i ≠ 0) (hs : cl s = [c]) : cl (pick i (n : Int) [(((2 ^ k : Nat) : Int), s)]) = [ch1 n k c] := by
  unfold pick ch1
  rw [List.find?_cons, hit1 n k i s hi]
  have : n / 2 ^ k % 2 = 0 ∨ n / 2 ^ k % 2 = 1 := by omega
  rcases this with h | h
  · rw [h]
    simp only [List.find?_nil, if_neg hi]
    rfl
  · rw [h]; exact hs
theorem pick3 (n j k i a b c : Nat) (s1 s2 s3 : Str) (hi : i ≠ 0) (hjk : k < j) (h1 : cl s1 = [a]) (h2 : cl s2 = [b]) (h3 : cl s3 = [c]) :
    cl (pick i (n : Int) [(((2 ^ j + 2 ^ k : Nat) : Int), s1), (((2 ^ j : Nat) : Int), s2), (((2 ^ k : Nat) : Int), s3)]) = [ch3 n j k a b c] := by
  unfold pick ch3
  rw [List.find?_cons, List.find?_cons, List.find?_cons, hit2 n j k i s1 hi hjk, hit1 n j i s2 hi, hit1 n k i s3 hi]
  have e1 : n / 2 ^ j % 2 = 0 ∨ n / 2 ^ j % 2 = 1 := by omega
  have e2 : n / 2 ^ k % 2 = 0 ∨ n / 2 ^ k % 2 = 1 := by omega
  rcases e1 with h | h <;> rcases e2 with h' | h' <;> rw [h, h']
  · simp only [List.find?_nil, if_neg hi]
    rfl
  · exact h3
  · exact h2
  · exact h1

noncomputable def k0 (K : Nat) : Nat := if K = 10 then 108 else if K = 12 then 115 else if K = 8 then 45 else if K = 6 then 98 else if K = 4 then 100 else if K = 2 then 99 else if K = 1 then 112 else 63
theorem land_top (n : Nat) (hn : n < 65536) : n &&& 61440 = n / 4096 * 4096 := by
  have e : (61440 : Nat) = 2 ^ 15 ||| 2 ^ 14 ||| 2 ^ 13 ||| 2 ^ 12 := by decide
  rw [e, Nat.and_or_distrib_left, Nat.and_or_distrib_left, Nat.and_or_distrib_left, land_bit, land_bit, land_bit, land_bit]
  have b15 : n / 2 ^ 15 % 2 = 0 ∨ n / 2 ^ 15 % 2 = 1 := by omega
  have b14 : n / 2 ^ 14 % 2 = 0 ∨ n / 2 ^ 14 % 2 = 1 := by omega
  have b13 : n / 2 ^ 13 % 2 = 0 ∨ n / 2 ^ 13 % 2 = 1 := by omega
  have b12 : n / 2 ^ 12 % 2 = 0 ∨ n / 2 ^ 12 % 2 = 1 := by omega
  have key : n / 4096 = n / 2 ^ 15 % 2 * 8 + n / 2 ^ 14 % 2 * 4 + n / 2 ^ 13 % 2 * 2 + n / 2 ^ 12 % 2 := by omega
  rw [key]
  rcases b15 with h1 | h1 <;> rcases b14 with h2 | h2 <;> rcases b13 with h3 | h3 <;> rcases b12 with h4 | h4 <;> rw [h1, h2, h3, h4] <;> decide
noncomputable def row0 : List (Int × Str) := [(40960, "l"), (49152, "s"), (32768, "-"), (24576, "b"), (16384, "d"), (8192, "c"), (4096, "p")]
theorem k0_ok : ∀ K, K < 16 → cl (match row0.find? (fun p => ((K * 4096 : Nat) : Int) == p.1) with | some p => p.2 | none => "?") = [k0 K] := by decide +kernel
theorem pick0 (n : Nat) (hn : n < 65536) : cl (pick 0 (n : Int) row0) = [k0 (n / 4096)] := by
  have := k0_ok (n / 4096) (by omega)
  rw [← this]
  unfold pick
  have e : hits 0 (n : Int) = fun p => ((n / 4096 * 4096 : Nat) : Int) == p.1 := by
    funext p
    unfold hits
    rw [if_pos rfl, show Builtin.bitAnd (n : Int) 61440 = ((n &&& 61440 : Nat) : Int) from band_nat n 61440, land_top n hn]
  rw [e]
  rfl

theorem fm_cl (n : Nat) (hn : n < 65536) : cl (fmF tabT (n : Int)) = [k0 (n / 4096), ch1 n 8 114, ch1 n 7 119, ch3 n 11 6 115 83 120, ch1 n 5 114, ch1 n 4 119, ch3 n 10 3 115 83 120, ch1 n 2 114, ch1 n 1 119, ch3 n 9 0 116 84 120] := by
  unfold fmF
  rw [glued_cl]
  have e : picks (n : Int) tabT = [pick 0 (n : Int) row0, pick 1 (n : Int) [(((2 ^ 8 : Nat) : Int), "r")], pick 2 (n : Int) [(((2 ^ 7 : Nat) : Int), "w")], pick 3 (n : Int) [(((2 ^ 11 + 2 ^ 6 : Nat) : Int), "s"), (((2 ^ 11 : Nat) : Int), "S"), (((2 ^ 6 : Nat) : Int), "x")],
    pick 4 (n : Int) [(((2 ^ 5 : Nat) : Int), "r")], pick 5 (n : Int) [(((2 ^ 4 : Nat) : Int), "w")], pick 6 (n : Int) [(((2 ^ 10 + 2 ^ 3 : Nat) : Int), "s"), (((2 ^ 10 : Nat) : Int), "S"), (((2 ^ 3 : Nat) : Int), "x")],
    pick 7 (n : Int) [(((2 ^ 2 : Nat) : Int), "r")], pick 8 (n : Int) [(((2 ^ 1 : Nat) : Int), "w")], pick 9 (n : Int) [(((2 ^ 9 + 2 ^ 0 : Nat) : Int), "t"), (((2 ^ 9 : Nat) : Int), "T"), (((2 ^ 0 : Nat) : Int), "x")]] := rfl
  rw [e]
  simp only [List.flatMap_cons, List.flatMap_nil]
  rw [pick0 n hn, pick1 n 8 1 114 _ (by decide) (by decide), pick1 n 7 2 119 _ (by decide) (by decide), pick3 n 11 6 3 115 83 120 _ _ _ (by decide) (by decide) (by decide) (by decide) (by decide),
    pick1 n 5 4 114 _ (by decide) (by decide), pick1 n 4 5 119 _ (by decide) (by decide), pick3 n 10 3 6 115 83 120 _ _ _ (by decide) (by decide) (by decide) (by decide) (by decide),
    pick1 n 2 7 114 _ (by decide) (by decide), pick1 n 1 8 119 _ (by decide) (by decide), pick3 n 9 0 9 116 84 120 _ _ _ (by decide) (by decide) (by decide) (by decide) (by decide)]
  rfl
theorem picks_small (n : Nat) (hn : n < 65536) : ∀ y ∈ picks (n : Int) tabT, y.length ≤ 10 := by
  have e : picks (n : Int) tabT = [pick 0 (n : Int) row0, pick 1 (n : Int) [(((2 ^ 8 : Nat) : Int), "r")], pick 2 (n : Int) [(((2 ^ 7 : Nat) : Int), "w")], pick 3 (n : Int) [(((2 ^ 11 + 2 ^ 6 : Nat) : Int), "s"), (((2 ^ 11 : Nat) : Int), "S"), (((2 ^ 6 : Nat) : Int), "x")],
    pick 4 (n : Int) [(((2 ^ 5 : Nat) : Int), "r")], pick 5 (n : Int) [(((2 ^ 4 : Nat) : Int), "w")], pick 6 (n : Int) [(((2 ^ 10 + 2 ^ 3 : Nat) : Int), "s"), (((2 ^ 10 : Nat) : Int), "S"), (((2 ^ 3 : Nat) : Int), "x")],
    pick 7 (n : Int) [(((2 ^ 2 : Nat) : Int), "r")], pick 8 (n : Int) [(((2 ^ 1 : Nat) : Int), "w")], pick 9 (n : Int) [(((2 ^ 9 + 2 ^ 0 : Nat) : Int), "t"), (((2 ^ 9 : Nat) : Int), "T"), (((2 ^ 0 : Nat) : Int), "x")]] := rfl
  have one : ∀ {x : Str} {c : Nat}, cl x = [c] → x.length ≤ 10 := fun {x c} h => by
    have : (cl x).length = x.length := by simp [Str.length]
    rw [← this, h]; simp
  rw [e]
  intro y hy
  simp only [List.mem_cons, List.not_mem_nil, or_false] at hy
  rcases hy with rfl | rfl | rfl | rfl | rfl | rfl | rfl | rfl | rfl | rfl
  · exact one (pick0 n hn)
  · exact one (pick1 n 8 1 114 _ (by decide) (by decide))
  · exact one (pick1 n 7 2 119 _ (by decide) (by decide))
  · exact one (pick3 n 11 6 3 115 83 120 _ _ _ (by decide) (by decide) (by decide) (by decide) (by decide))
  · exact one (pick1 n 5 4 114 _ (by decide) (by decide))
  · exact one (pick1 n 4 5 119 _ (by decide) (by decide))
  · exact one (pick3 n 10 3 6 115 83 120 _ _ _ (by decide) (by decide) (by decide) (by decide) (by decide))
  · exact one (pick1 n 2 7 114 _ (by decide) (by decide))
  · exact one (pick1 n 1 8 119 _ (by decide) (by decide))
  · exact one (pick3 n 9 0 9 116 84 120 _ _ _ (by decide) (by decide) (by decide) (by decide) (by decide))

noncomputable def hb (K : Nat) : Nat := (Str.ofString "?pc?d?b?.?l?s???").cps.getD K 0
noncomputable def m1 (n k c : Nat) : Nat := if n / 2 ^ k % 2 = 1 then c else 46
noncomputable def m3 (n j k : Nat) : Nat := if n / 2 ^ j % 2 = 1 then (if n / 2 ^ k % 2 = 1 then 115 else 83) else if n / 2 ^ k % 2 = 1 then 120 else 46
noncomputable def mdF (n : Nat) : List Nat := [m1 n 8 114, m1 n 7 119, m3 n 11 6, m1 n 5 114, m1 n 4 119, m3 n 10 3, m1 n 2 114, m1 n 1 119]
noncomputable def lastC (n : Nat) : Nat := m1 n 0 120
noncomputable def tailP (n : Nat) : List Nat := if n / 2 ^ 9 % 2 = 1 then (if n / 2 ^ 0 % 2 = 1 then [120, 10] else [46, 13]) else [lastC n]
noncomputable def tailB (n : Nat) : List Nat := lastC n :: (if n / 2 ^ 9 % 2 = 1 then [13, 10] else [])

theorem g_k0 : ∀ K, K < 16 → gC (k0 K) = [hb K] := by decide +kernel
theorem hb_ok : ∀ K, K < 16 → hb K ≠ 10 ∧ hb K ≠ 13 ∧ (hb K = 46 ↔ K = 8) := by decide +kernel
theorem g_ch1 (n k c : Nat) (hc : gC c = [c]) : gC (ch1 n k c) = [m1 n k c] := by
  unfold ch1 m1
  split
  · exact hc
  · rfl
theorem g_ch3 (n j k : Nat) : gC (ch3 n j k 115 83 120) = [m3 n j k] := by
  unfold ch3 m3
  split <;> split <;> rfl
theorem g_last (n : Nat) : gC (ch3 n 9 0 116 84 120) = tailP n := by
  unfold ch3 tailP lastC m1
  split <;> split <;> rfl
theorem piece_cl (n : Nat) (hn : n < 65536) : cl (pieceF tabT (n : Int)) = hb (n / 4096) :: (mdF n ++ tailP n) := by
  rw [piece_flat, fm_cl n hn]
  simp only [List.flatMap_cons, List.flatMap_nil]
  rw [g_k0 _ (by omega), g_ch1 n 8 114 rfl, g_ch1 n 7 119 rfl, g_ch3, g_ch1 n 5 114 rfl, g_ch1 n 4 119 rfl, g_ch3, g_ch1 n 2 114 rfl, g_ch1 n 1 119 rfl, g_last]
  simp [mdF]

theorem rw_cl (n k : Nat) : cl (bRW ((2 ^ k : Nat) : Int) (n : Int)) = [m1 n (k + 2) 114, m1 n (k + 1) 119] := by
  unfold bRW m1
  have p2 : n / 2 ^ (k + 2) = n / 2 ^ k / 4 := by rw [Nat.pow_add, Nat.div_div_eq_div_mul]
  have p1 : n / 2 ^ (k + 1) = n / 2 ^ k / 2 := by rw [Nat.pow_add, Nat.div_div_eq_div_mul]
  rw [cl_append, fdivN, p1, p2]
  generalize n / 2 ^ k = q
  rw [show Int.fmod ((q : Nat) : Int) 8 = ((q % 8 : Nat) : Int) from fmodN q 8, show Int.fmod ((q : Nat) : Int) 4 = ((q % 4 : Nat) : Int) from fmodN q 4]
  have e1 : (((q % 8 : Nat) : Int) > 3) ↔ q / 4 % 2 = 1 := by omega
  have e2 : (((q % 4 : Nat) : Int) > 1) ↔ q / 2 % 2 = 1 := by omega
  simp only [e1, e2]
  split <;> split <;> decide
theorem idx_eq (n j k : Nat) : (bIdx ((2 ^ k : Nat) : Int) ((2 ^ j : Nat) : Int) (n : Int)).toNat = n / 2 ^ k % 2 + 2 * (n / 2 ^ j % 2) := by
  unfold bIdx
  have f2 : ∀ q : Nat, Int.fmod ((q : Nat) : Int) 2 = ((q % 2 : Nat) : Int) := fun q => fmodN q 2
  rw [fdivN, fdivN, f2, f2]
  omega
theorem end_cl (n j k : Nat) : cl (([".", "x", "S", "s"] : List Str).getD (n / 2 ^ k % 2 + 2 * (n / 2 ^ j % 2)) "") = [m3 n j k] := by
  have e1 : n / 2 ^ j % 2 = 0 ∨ n / 2 ^ j % 2 = 1 := by omega
  have e2 : n / 2 ^ k % 2 = 0 ∨ n / 2 ^ k % 2 = 1 := by omega
  unfold m3
  rcases e1 with h | h <;> rcases e2 with h' | h' <;> rw [h, h'] <;> decide
theorem endL_cl (n : Nat) : cl (([".", "x", ".\r\n", "x\r\n"] : List Str).getD (n / 2 ^ 0 % 2 + 2 * (n / 2 ^ 9 % 2)) "") = tailB n := by
  have e1 : n / 2 ^ 9 % 2 = 0 ∨ n / 2 ^ 9 % 2 = 1 := by omega
  have e2 : n / 2 ^ 0 % 2 = 0 ∨ n / 2 ^ 0 % 2 = 1 := by omega
  unfold tailB lastC m1
  rcases e1 with h | h <;> rcases e2 with h' | h' <;> rw [h, h'] <;> decide
theorem body_cl (n : Nat) (hn : n < 65536) : cl (bodyF (n : Int)) = hb (n / 4096) :: (mdF n ++ tailB n) := by
  have e : bodyF (n : Int) = ((((((bHead (n : Int)) ++ bRW ((2 ^ 6 : Nat) : Int) (n : Int)) ++ ([".", "x", "S", "s"] : List Str).getD (bIdx ((2 ^ 6 : Nat) : Int) ((2 ^ 11 : Nat) : Int) (n : Int)).toNat "") ++ bRW ((2 ^ 3 : Nat) : Int) (n : Int)) ++ ([".", "x", "S", "s"] : List Str).getD (bIdx ((2 ^ 3 : Nat) : Int) ((2 ^ 10 : Nat) : Int) (n : Int)).toNat "") ++ bRW ((2 ^ 0 : Nat) : Int) (n : Int)) ++ ([".", "x", ".\r\n", "x\r\n"] : List Str).getD (bIdx ((2 ^ 0 : Nat) : Int) ((2 ^ 9 : Nat) : Int) (n : Int)).toNat "" := rfl
  rw [e]
  simp only [cl_append]
  rw [idx_eq, idx_eq, idx_eq, rw_cl, rw_cl, rw_cl, end_cl, end_cl, endL_cl]
  have h0 : cl (bHead (n : Int)) = [hb (n / 4096)] := by
    unfold bHead hb
    rw [show (n : Int).fdiv 4096 = ((n / 4096 : Nat) : Int) from fdivN n 4096]
    rfl
  rw [h0]
  simp [mdF]
end Mine
end
section
open PySem PySem.W PySem.Calls PyProof.Rows
set_option Elab.async false
set_option maxRecDepth 100000
set_option linter.unusedVariables false
namespace Mine

/-- a piece, its body, whether it is a plain file, whether it has no end of a row -/
structure PRel (pc bd : List Nat) (plain mid : Bool) : Prop where
  ex : ∃ hd md c, hd ≠ 10 ∧ hd ≠ 13 ∧ (hd = 46 ↔ plain = true) ∧ (∀ x ∈ md, x ≠ 10 ∧ x ≠ 13) ∧ md.length = 8 ∧ c ≠ 10 ∧ c ≠ 13 ∧
    ((mid = true ∧ pc = hd :: (md ++ [c]) ∧ bd = hd :: (md ++ [c])) ∨ (mid = false ∧ (pc = hd :: (md ++ [c, 10]) ∨ pc = hd :: (md ++ [c, 13])) ∧ bd = hd :: (md ++ [c, 13, 10])))

theorem m1_ok (n k c : Nat) (h1 : c ≠ 10) (h2 : c ≠ 13) : m1 n k c ≠ 10 ∧ m1 n k c ≠ 13 := by
  unfold m1; split
  · exact ⟨h1, h2⟩
  · decide
theorem m3_ok (n j k : Nat) : m3 n j k ≠ 10 ∧ m3 n j k ≠ 13 := by
  unfold m3; split <;> split <;> decide
theorem isPlain_nat (n : Nat) : isPlain (n : Int) = decide (n / 4096 = 8) := by
  unfold isPlain
  rw [show (n : Int).fdiv 4096 = ((n / 4096 : Nat) : Int) from fdivN n 4096]
  by_cases h : n / 4096 = 8
  · rw [h]; rfl
  · rw [decide_eq_false h]
    exact beq_eq_false_iff_ne.mpr fun q => h (by (first | lia | omega))
theorem isMid_nat (n : Nat) : isMid (n : Int) = decide (n / 2 ^ 9 % 2 = 0) := by
  unfold isMid
  rw [show (n : Int).fdiv 512 = ((n / 512 : Nat) : Int) from fdivN n 512, show ((n / 512 : Nat) : Int).fmod 2 = ((n / 512 % 2 : Nat) : Int) from fmodN _ 2]
  show (((n / 512 % 2 : Nat) : Int) == 0) = decide (n / 512 % 2 = 0)
  have : n / 512 % 2 = 0 ∨ n / 512 % 2 = 1 := by (first | lia | omega)
  rcases this with h | h <;> rw [h] <;> rfl
theorem prel (n : Nat) (hn : n < 65536) : PRel (cl (pieceF tabT (n : Int))) (cl (bodyF (n : Int))) (isPlain (n : Int)) (isMid (n : Int)) := by
  have hh := hb_ok (n / 4096) (by (first | lia | omega))
  refine ⟨hb (n / 4096), mdF n, lastC n, hh.1, hh.2.1, ?_, ?_, rfl, ?_, ?_, ?_⟩
  · rw [isPlain_nat]; simpa using hh.2.2
  · intro x hx
    simp only [mdF, List.mem_cons, List.not_mem_nil, or_false] at hx
    rcases hx with rfl | rfl | rfl | rfl | rfl | rfl | rfl | rfl
    · exact m1_ok _ _ _ (by decide) (by decide)
    · exact m1_ok _ _ _ (by decide) (by decide)
    · exact m3_ok _ _ _
    · exact m1_ok _ _ _ (by decide) (by decide)
    · exact m1_ok _ _ _ (by decide) (by decide)
    · exact m3_ok _ _ _
    · exact m1_ok _ _ _ (by decide) (by decide)
    · exact m1_ok _ _ _ (by decide) (by decide)
  · exact (m1_ok _ _ _ (by decide) (by decide)).1
  · exact (m1_ok _ _ _ (by decide) (by decide)).2
  · rw [piece_cl n hn, body_cl n hn, isMid_nat]
    have e1 : n / 2 ^ 9 % 2 = 0 ∨ n / 2 ^ 9 % 2 = 1 := by (first | lia | omega)
    have e2 : n / 2 ^ 0 % 2 = 0 ∨ n / 2 ^ 0 % 2 = 1 := by (first | lia | omega)
    unfold tailP tailB lastC m1
    rcases e1 with h | h
    · left; rw [h]; exact ⟨rfl, rfl, rfl⟩
    · right
      rw [h]
      rcases e2 with h' | h'
      · rw [h']; exact ⟨rfl, .inr rfl, rfl⟩
      · rw [h']; exact ⟨rfl, .inl rfl, rfl⟩

noncomputable def toldL : Bool → List (List Nat × List Nat × Bool × Bool) → List Nat
  | _, [] => []
  | b, q :: qs => (if b = true ∧ q.2.2.1 = true then [46] else []) ++ q.2.1 ++ toldL (!q.2.2.2) qs

theorem crlf_free : ∀ (l r : List Nat), (∀ x ∈ l, x ≠ 10 ∧ x ≠ 13) → crlfP false (l ++ r) = l ++ crlfP false r
  | [], _, _ => rfl
  | c :: l, r, h => by
    have hc := h c (by simp)
    rw [List.cons_append, crlfP, if_neg hc.1, if_neg hc.2, crlf_free l r fun x hx => h x (by simp [hx])]
    rfl
theorem dot_free : ∀ (l r : List Nat), (∀ x ∈ l, x ≠ 10 ∧ x ≠ 13) → dotL false (l ++ r) = l ++ dotL false r
  | [], _, _ => rfl
  | c :: l, r, h => by
    have hc := h c (by simp)
    have e : (c == 10) = false := by simpa using hc.1
    rw [List.cons_append, dotL, if_neg (by simp), e, dot_free l r fun x hx => h x (by simp [hx])]
    rfl
theorem dot_end (c : Nat) (r : List Nat) (h : c ≠ 10) : dotL false (c :: 13 :: 10 :: r) = c :: 13 :: 10 :: dotL true r := by
  have e : (c == 10) = false := by simpa using h
  rw [dotL, if_neg (by simp), e, dotL, if_neg (by simp)]
  show c :: 13 :: dotL false (10 :: r) = _
  rw [dotL, if_neg (by simp)]
  rfl
theorem quote_concat : ∀ (qs : List (List Nat × List Nat × Bool × Bool)), (∀ q ∈ qs, PRel q.1 q.2.1 q.2.2.1 q.2.2.2) → ∀ (b cr : Bool), dotL b (crlfP cr (qs.flatMap (·.1))) = toldL b qs
  | [], _, b, cr => by simp [crlfP, dotL, toldL]
  | (pc, bd, plain, mid) :: qs, h, b, cr => by
    obtain ⟨hd, md, c, h1, h2, h3, h4, h5, h6, h7, h8⟩ := (h _ List.mem_cons_self).ex
    have ih := quote_concat qs fun q hq => h q (by simp [hq])
    simp only at h1 h2 h3 h4 h5 h6 h7 h8
    rw [List.flatMap_cons, toldL]
    simp only
    have hcr : ∀ r, crlfP cr (hd :: r) = hd :: crlfP false r := fun r => by rw [crlfP, if_neg h1, if_neg h2]
    have hdot : ∀ r, dotL b (hd :: r) = (if b = true ∧ plain = true then [46] else []) ++ hd :: dotL false r := fun r => by
      have e : (hd == 10) = false := by simpa using h1
      rw [dotL]
      by_cases q : b = true ∧ plain = true
      · rw [if_pos ⟨q.1, h3.mpr q.2⟩, if_pos q, h3.mpr q.2]; rfl
      · rw [if_neg fun z => q ⟨z.1, h3.mp z.2⟩, if_neg q, e]; rfl
    rcases h8 with ⟨rfl, e1, e2⟩ | ⟨rfl, e1, e2⟩
    · subst e1; subst e2
      rw [List.cons_append, hcr, hdot, List.append_assoc, crlf_free _ _ h4, dot_free _ _ h4]
      have hc : ∀ x ∈ [c], x ≠ 10 ∧ x ≠ 13 := by simp [h6, h7]
      rw [crlf_free _ _ hc, dot_free _ _ hc, ih]
      simp
    · subst e2
      rcases e1 with rfl | rfl
      · rw [List.cons_append, hcr, hdot, List.append_assoc, crlf_free _ _ h4, dot_free _ _ h4]
        have e : ∀ r, crlfP false ([c, 10] ++ r) = c :: 13 :: 10 :: crlfP false r := fun r => by
          show crlfP false (c :: 10 :: r) = _
          rw [crlfP, if_neg h6, if_neg h7, crlfP, if_pos rfl, if_neg (by simp)]
        rw [e, dot_end _ _ h6, ih]
        simp
      · rw [List.cons_append, hcr, hdot, List.append_assoc, crlf_free _ _ h4, dot_free _ _ h4]
        have e : ∀ r, crlfP false ([c, 13] ++ r) = c :: 13 :: 10 :: crlfP true r := fun r => by
          show crlfP false (c :: 13 :: r) = _
          rw [crlfP, if_neg h6, if_neg h7, crlfP, if_neg (by simp), if_pos rfl]
        rw [e, dot_end _ _ h6, ih]
        simp

noncomputable def OkModes (ms : List Int) : Prop := ∀ m ∈ ms, 0 ≤ m ∧ m < 65536
noncomputable def quad (ms : List Int) (p : Int) : List Nat × List Nat × Bool × Bool := let m := ms.getD p.toNat 0; (cl (pieceF tabT m), cl (bodyF m), isPlain m, isMid m)
theorem quad_ok {ms : List Int} (h : OkModes ms) (p : Int) : PRel (quad ms p).1 (quad ms p).2.1 (quad ms p).2.2.1 (quad ms p).2.2.2 := by
  have hm : 0 ≤ ms.getD p.toNat 0 ∧ ms.getD p.toNat 0 < 65536 := by
    rw [List.getD_eq_getElem?_getD]
    cases e : ms[p.toNat]? with
    | none => exact ⟨by decide, by decide⟩
    | some m => exact h m (List.mem_of_getElem? e)
  have e : ms.getD p.toNat 0 = (((ms.getD p.toNat 0).toNat : Nat) : Int) := by (first | lia | omega)
  show PRel (cl (pieceF tabT (ms.getD p.toNat 0))) (cl (bodyF (ms.getD p.toNat 0))) (isPlain (ms.getD p.toNat 0)) (isMid (ms.getD p.toNat 0))
  rw [e]
  exact prel _ (by (first | lia | omega))
theorem getD_map {α β : Type} (f : α → β) (l : List α) (i : Nat) (a : α) (b : β) (h : i < l.length) : (l.map f).getD i b = f (l.getD i a) := by
  simp [List.getD_eq_getElem?_getD, h]
theorem join_cl (ms : List Int) : ∀ (row : List Int), (∀ p ∈ row, p.toNat < ms.length) → cl (joinF (ms.map (pieceF tabT)) row) = (row.map (quad ms)).flatMap (·.1) := by
  have gen : ∀ (row : List Int) (t : Str), (∀ p ∈ row, p.toNat < ms.length) → cl (row.foldl (fun t p => t ++ (ms.map (pieceF tabT)).getD p.toNat "") t) = cl t ++ (row.map (quad ms)).flatMap (·.1) := by
    intro row
    induction row with
    | nil => intro t _; simp
    | cons p r ih =>
      intro t h
      rw [List.foldl_cons, ih _ fun q hq => h q (by simp [hq]), cl_append, getD_map _ _ _ 0 _ (h p (by simp))]
      simp [quad]
  intro row h
  unfold joinF
  rw [gen row _ h]
  rfl
theorem told_cl (ms : List Int) : ∀ (row : List Int) (acc : Str × Bool), (∀ p ∈ row, p.toNat < ms.length) → cl (row.foldl (toldStep ms (ms.map bodyF)) acc).1 = cl acc.1 ++ toldL (!acc.2) (row.map (quad ms)) := by
  intro row
  induction row with
  | nil => intro acc _; simp [toldL]
  | cons p r ih =>
    intro acc h
    rw [List.foldl_cons, ih _ fun q hq => h q (by simp [hq]), List.map_cons, toldL]
    unfold toldStep
    simp only
    rw [cl_append, getD_map _ _ _ 0 _ (h p (by simp))]
    have e1 : decide (((ms.getD p.toNat 0).fdiv 512).fmod 2 = 0) = (quad ms p).2.2.2 := by
      show _ = isMid _
      unfold isMid
      by_cases q : ((ms.getD p.toNat 0).fdiv 512).fmod 2 = 0
      · rw [q]; rfl
      · rw [decide_eq_false q]; exact (beq_eq_false_iff_ne.mpr q).symm
    rw [e1]
    have e2 : (quad ms p).2.2.1 = true ↔ (ms.getD p.toNat 0).fdiv 4096 = 8 := by
      show (_ == _) = true ↔ _
      simp
    have e3 : cl (if acc.2 = false ∧ (ms.getD p.toNat 0).fdiv 4096 = 8 then acc.1 ++ "." else acc.1) = cl acc.1 ++ (if (!acc.2) = true ∧ (quad ms p).2.2.1 = true then [46] else []) := by
      by_cases q : acc.2 = false ∧ (ms.getD p.toNat 0).fdiv 4096 = 8
      · rw [if_pos q, if_pos ⟨by rw [q.1]; rfl, e2.mpr q.2⟩, cl_append]; rfl
      · rw [if_neg q, if_neg fun z => q ⟨by simpa using z.1, e2.mp z.2⟩]; simp
    rw [e3]
    show _ = _ ++ (_ ++ cl (bodyF _) ++ _)
    simp only [List.append_assoc]
theorem str_ext {a b : Str} (h : cl a = cl b) : a = b := by
  cases a; cases b
  congr 1
  exact Array.toList_inj.mp h
theorem sent_told {ms : List Int} (hm : OkModes ms) (row : List Int) (h : ∀ p ∈ row, p.toNat < ms.length) : sentF (ms.map (pieceF tabT)) row = toldF ms (ms.map bodyF) row := by
  apply str_ext
  have e1 : cl (sentF (ms.map (pieceF tabT)) row) = dotL true (crlfP false (cl (joinF (ms.map (pieceF tabT)) row))) := by
    show (List.toArray (quoteL (cl (joinF (ms.map (pieceF tabT)) row)))).toList = _
    rfl
  have e2 : cl (toldF ms (ms.map bodyF) row) = toldL true (row.map (quad ms)) := by
    unfold toldF
    rw [told_cl ms row _ h]
    rfl
  rw [e1, e2, join_cl ms row h]
  refine quote_concat _ (fun q hq => ?_) _ _
  obtain ⟨p, _, rfl⟩ := List.mem_map.mp hq
  exact quad_ok hm p

noncomputable def lenL : Bool → List (Bool × Bool) → Nat
  | _, [] => 0
  | b, q :: qs => (if b = true ∧ q.1 = true then 1 else 0) + (if q.2 = true then 10 else 12) + lenL (!q.2) qs
theorem toldL_len : ∀ (qs : List (List Nat × List Nat × Bool × Bool)), (∀ q ∈ qs, PRel q.1 q.2.1 q.2.2.1 q.2.2.2) → ∀ (b : Bool), (toldL b qs).length = lenL b (qs.map fun q => q.2.2)
  | [], _, b => rfl
  | (pc, bd, plain, mid) :: qs, h, b => by
    obtain ⟨hd, md, c, h1, h2, h3, h4, h5, h6, h7, h8⟩ := (h _ List.mem_cons_self).ex
    have ih := toldL_len qs fun q hq => h q (by simp [hq])
    simp only at h1 h2 h3 h4 h5 h6 h7 h8
    rw [toldL, List.map_cons, lenL, List.length_append, List.length_append, ih]
    simp only
    have e1 : (if b = true ∧ plain = true then [46] else ([] : List Nat)).length = (if b = true ∧ plain = true then 1 else 0) := by split <;> rfl
    rw [e1]
    rcases h8 with ⟨rfl, _, e2⟩ | ⟨rfl, _, e2⟩ <;> subst e2 <;> simp [h5]
noncomputable def cls (ms : List Int) (p : Int) : Bool × Bool := (isPlain (ms.getD p.toNat 0), isMid (ms.getD p.toNat 0))
theorem told_length {ms : List Int} (hm : OkModes ms) (row : List Int) (h : ∀ p ∈ row, p.toNat < ms.length) : (toldF ms (ms.map bodyF) row).length = lenL true (row.map (cls ms)) := by
  have e2 : cl (toldF ms (ms.map bodyF) row) = toldL true (row.map (quad ms)) := by
    unfold toldF
    rw [told_cl ms row _ h]
    rfl
  have : (toldF ms (ms.map bodyF) row).length = (cl (toldF ms (ms.map bodyF) row)).length := by simp [Str.length]
  rw [this, e2, toldL_len _ fun q hq => ?_]
  · rw [List.map_map]; rfl
  · obtain ⟨p, _, rfl⟩ := List.mem_map.mp hq
    exact quad_ok hm p
end Mine
end
section
open PySem PySem.W PySem.Calls PyProof.Rows
set_option Elab.async false
set_option maxRecDepth 100000
set_option linter.unusedVariables false
namespace Mine

noncomputable def ordTab : List ((Nat × Nat × Nat) × List Nat) := [((0, 0, 0), [0, 0, 0, 24]), ((0, 1, 0), [0, 0, 0, 24]), ((0, 2, 0), [0, 0, 0, 24]), ((0, 3, 0), [0, 0, 0, 24]), ((0, 4, 0), [0, 0, 0, 24]), ((1, 0, 0), [0, 0, 0, 24]), ((1, 1, 0), [0, 0, 6, 18]), ((1, 1, 1), [0, 0, 0, 24]), ((1, 2, 0), [0, 0, 12, 12]), ((1, 2, 1), [0, 0, 6, 18]), ((1, 3, 0), [0, 0, 18, 6]), ((1, 3, 1), [0, 0, 12, 12]), ((1, 4, 1), [0, 0, 18, 6]), ((2, 0, 0), [0, 0, 0, 24]), ((2, 1, 0), [0, 0, 12, 12]), ((2, 1, 1), [0, 0, 6, 18]), ((2, 2, 0), [0, 4, 16, 4]), ((2, 2, 1), [0, 2, 14, 8]), ((2, 2, 2), [0, 0, 12, 12]), ((2, 3, 1), [0, 8, 14, 2]), ((2, 3, 2), [0, 4, 16, 4]), ((2, 4, 2), [0, 12, 12, 0]), ((3, 0, 0), [0, 0, 0, 24]), ((3, 1, 0), [0, 0, 18, 6]), ((3, 1, 1), [0, 0, 12, 12]), ((3, 2, 1), [0, 8, 14, 2]), ((3, 2, 2), [0, 4, 16, 4]), ((3, 3, 2), [2, 14, 8, 0]), ((3, 3, 3), [0, 12, 12, 0]), ((3, 4, 3), [6, 18, 0, 0]), ((4, 0, 0), [0, 0, 0, 24]), ((4, 1, 1), [0, 0, 18, 6]), ((4, 2, 2), [0, 12, 12, 0]), ((4, 3, 3), [6, 18, 0, 0]), ((4, 4, 4), [24, 0, 0, 0])]
noncomputable def ordK (m p a : Nat) : List Nat := (ordTab.lookup (m, p, a)).getD []
theorem ordTab_ok : (ordTab.all fun r => (List.range 4).all fun (j : Nat) => decide (ordersI (r.1.1 : Int) (r.1.2.1 : Int) (r.1.2.2 : Int) (3 - (j : Int)) = ((r.2.getD j 0 : Nat) : Int)) && decide (r.2.getD j 0 ≤ 100)) = true := by decide +kernel
noncomputable def bb : List (Bool × Bool) := [(true, true), (true, false), (false, true), (false, false)]
noncomputable def cnt (f : Bool × Bool → Bool) (cs : List (Bool × Bool)) : Nat := (cs.filter f).length
noncomputable def rowsN : List (List Nat) := (ordersL 4).map fun r => r.map Int.toNat
noncomputable def lensC (cs : List (Bool × Bool)) : List Nat := rowsN.map fun row => lenL true (row.map fun p => cs.getD p (false, false))
noncomputable def lensN (m p : Nat) (o : List Nat) : List Nat := (List.range 4).flatMap fun (j : Nat) => List.replicate (o.getD j 0) (45 + p + j - 2 * m)
noncomputable def upN : List Nat → Bool
  | [] => true
  | [_] => true
  | a :: b :: r => Nat.ble a b && upN (b :: r)
noncomputable def okC (cs : List (Bool × Bool)) : Bool := (lensC cs).isPerm (lensN (cnt (·.2) cs) (cnt (·.1) cs) (ordK (cnt (·.2) cs) (cnt (·.1) cs) (cnt (fun q => q.1 && q.2) cs))) && upN (lensN (cnt (·.2) cs) (cnt (·.1) cs) (ordK (cnt (·.2) cs) (cnt (·.1) cs) (cnt (fun q => q.1 && q.2) cs))) &&
  (ordTab.lookup (cnt (·.2) cs, cnt (·.1) cs, cnt (fun q => q.1 && q.2) cs)).isSome
theorem okC_all : (bb.all fun a => bb.all fun b => bb.all fun c => bb.all fun d => okC [a, b, c, d]) = true := by decide +kernel
end Mine
end
section
open PySem PySem.W PySem.Calls PyProof.Rows
set_option Elab.async false
set_option maxRecDepth 100000
set_option linter.unusedVariables false
namespace Mine

theorem lensF_eq (m p a : Nat) (o : List Nat) (hm : m ≤ 4) (ho : ∀ j : Nat, j < 4 → ordersI (m : Int) (p : Int) (a : Int) (3 - (j : Int)) = ((o.getD j 0 : Nat) : Int)) : lensF m p a = (lensN m p o).map (fun (x : Nat) => (x : Int)) := by
  unfold lensF lensTo lensN
  rw [List.map_flatMap]
  have e : ∀ j ∈ List.range 4, List.replicate (ordersI (m : Int) (p : Int) (a : Int) (3 - (j : Int))).toNat (lenK m p j) = List.map (fun (x : Nat) => (x : Int)) (List.replicate (o.getD j 0) (45 + p + j - 2 * m)) := by
    intro j hj
    have hj : j < 4 := by simpa using hj
    rw [List.map_replicate, ho j hj]
    congr 1
    unfold lenK
    (first | lia | omega)
  simp only [List.flatMap_def]
  rw [List.map_congr_left e]
theorem up_pair : ∀ {l : List Nat}, upN l = true → l.Pairwise (· ≤ ·)
  | [], _ => .nil
  | [_], _ => by simp
  | a :: b :: r, h => by
    simp only [upN, Bool.and_eq_true] at h
    have ih := up_pair h.2
    have hab : a ≤ b := Nat.le_of_ble_eq_true h.1
    refine List.pairwise_cons.mpr ⟨fun x hx => ?_, ih⟩
    rcases List.mem_cons.mp hx with rfl | hx
    · exact hab
    · exact Nat.le_trans hab ((List.pairwise_cons.mp ih).1 x hx)

theorem sortL_perm (xs : List Str) (h2 : 2 ≤ xs.length) : (sortL xs).Perm xs := by
  have h := (go_isP (lenOrd xs) h2).1
  unfold sortL
  have hp : (goT (lenLt xs) (kas_sort xs.length)).toList.Perm (List.range xs.length) := by
    have := Array.Perm.toList h
    simpa using this
  have h3 := hp.map fun i => xs.getD i ""
  have e : (List.range xs.length).map (fun i => xs.getD i "") = xs := by
    apply List.ext_getElem?
    intro i
    rw [List.getElem?_map]
    rcases Nat.lt_or_ge i xs.length with hi | hi
    · rw [List.getElem?_range hi]; simp [List.getD_eq_getElem?_getD, hi]
    · rw [List.getElem?_eq_none (by simpa using hi), List.getElem?_eq_none hi]; rfl
  rw [e] at h3
  exact h3
theorem sortL_up (xs : List Str) (h2 : 2 ≤ xs.length) : ((sortL xs).map Str.length).Pairwise (· ≤ ·) := by
  have h := go_isP (lenOrd xs) h2
  have hs := h.1.size
  rw [List.pairwise_iff_getElem]
  intro i j hi hj hij
  have hl : (sortL xs).length = xs.length := (sortL_perm xs h2).length_eq
  simp only [List.length_map] at hi hj
  have := h.2 i j hij (by (first | lia | omega))
  simp only [List.getElem_map]
  unfold sortL
  simp only [List.getElem_map]
  have ai : ∀ k (hk : k < (sortL xs).length), at_ (goT (lenLt xs) (kas_sort xs.length)) k = (goT (lenLt xs) (kas_sort xs.length)).toList[k]'(by unfold sortL at hk; simpa using hk) := by
    intro k hk
    unfold at_
    have : k < (goT (lenLt xs) (kas_sort xs.length)).size := by (first | lia | omega)
    simp [this]
  rw [ai i hi, ai j hj] at this
  have key : ∀ a b, lenLt xs b a = false → (xs.getD a "").length ≤ (xs.getD b "").length := fun a b h => by
    unfold lenLt at h
    simpa using h
  exact key _ _ this
theorem pairwise_unique : ∀ {a b : List Nat}, a.Perm b → a.Pairwise (· ≤ ·) → b.Pairwise (· ≤ ·) → a = b := fun h1 h2 h3 => List.Perm.eq_of_pairwise (le := (· ≤ ·)) (fun a b _ _ h1 h2 => Nat.le_antisymm h1 h2) h2 h3 h1

theorem rows_ok : ∀ row ∈ ordersL 4, row.length ≤ 10 ∧ ∀ p ∈ row, 0 ≤ p ∧ p.toNat < 4 := by decide +kernel
theorem rows_len : (ordersL 4).length = 24 := by decide +kernel
theorem mem_bb (x : Bool × Bool) : x ∈ bb := by
  obtain ⟨a, b⟩ := x
  cases a <;> cases b <;> decide
theorem okC_any (a b c d : Bool × Bool) : okC [a, b, c, d] = true := by
  have h := okC_all
  rw [List.all_eq_true] at h
  have h := h a (mem_bb a)
  rw [List.all_eq_true] at h
  have h := h b (mem_bb b)
  rw [List.all_eq_true] at h
  have h := h c (mem_bb c)
  rw [List.all_eq_true] at h
  exact h d (mem_bb d)
theorem lookup_mem {α β : Type} [BEq α] [LawfulBEq α] {k : α} {v : β} : ∀ {l : List (α × β)}, l.lookup k = some v → (k, v) ∈ l
  | [], h => by simp at h
  | (a, b) :: r, h => by
    rw [List.lookup_cons] at h
    cases hq : k == a with
    | true => rw [hq] at h; cases h; rw [eq_of_beq hq]; simp
    | false => rw [hq] at h; exact List.mem_cons_of_mem _ (lookup_mem h)

theorem okC_map (f : Int → Bool × Bool) : ∀ (ms : List Int), ms.length = 4 → okC (ms.map f) = true
  | [a, b, c, d], _ => by
    rw [List.map_cons, List.map_cons, List.map_cons, List.map_cons, List.map_nil]
    exact okC_any (f a) (f b) (f c) (f d)
structure Plain01 (ms : List Int) : Prop where
  same : (ordersL 4).map (sentF (ms.map (pieceF tabT))) = (ordersL 4).map (toldF ms (ms.map bodyF))
  lens : (sortL ((ordersL 4).map (toldF ms (ms.map bodyF)))).map (fun x => (x.length : Int)) = lensF ((ms.filter isMid).length : Int) ((ms.filter isPlain).length : Int) ((ms.filter isBoth).length : Int)
  ords : ∀ j : Nat, j < 4 → 0 ≤ ordersI ((ms.filter isMid).length : Int) ((ms.filter isPlain).length : Int) ((ms.filter isBoth).length : Int) (3 - (j : Int)) ∧ ordersI ((ms.filter isMid).length : Int) ((ms.filter isPlain).length : Int) ((ms.filter isBoth).length : Int) (3 - (j : Int)) ≤ 100

theorem plain01 {ms : List Int} (hm : OkModes ms) (hl : ms.length = 4) : Plain01 ms := by
  have hrow : ∀ row ∈ ordersL 4, ∀ p ∈ row, p.toNat < ms.length := fun row hr p hp => by rw [hl]; exact ((rows_ok row hr).2 p hp).2
  have same : (ordersL 4).map (sentF (ms.map (pieceF tabT))) = (ordersL 4).map (toldF ms (ms.map bodyF)) := List.map_congr_left fun row hr => sent_told hm row (hrow row hr)
  let cs := ms.map fun m => (isPlain m, isMid m)
  have hcs : cs = ms.map fun m => (isPlain m, isMid m) := rfl
  have c1 : cnt (·.2) cs = (ms.filter isMid).length := by
    unfold cnt
    rw [hcs, List.filter_map, List.length_map]; rfl
  have c2 : cnt (·.1) cs = (ms.filter isPlain).length := by
    unfold cnt
    rw [hcs, List.filter_map, List.length_map]; rfl
  have c3 : cnt (fun q => q.1 && q.2) cs = (ms.filter isBoth).length := by
    unfold cnt
    rw [hcs, List.filter_map, List.length_map]; rfl
  have hok : okC cs = true := okC_map _ ms hl
  simp only [okC, Bool.and_eq_true] at hok
  rw [c1, c2, c3] at hok
  obtain ⟨⟨o1, o2⟩, o3⟩ := hok
  have hm4 : (ms.filter isMid).length ≤ 4 := by rw [← hl]; exact List.length_filter_le _ _
  generalize hmi : (ms.filter isMid).length = mi at *
  generalize hpl : (ms.filter isPlain).length = pl at *
  generalize hsh : (ms.filter isBoth).length = sh at *
  obtain ⟨o, ho⟩ := Option.isSome_iff_exists.mp o3
  have hoK : ordK mi pl sh = o := by unfold ordK; rw [ho]; rfl
  have hall : ∀ j : Nat, j < 4 → ordersI (mi : Int) (pl : Int) (sh : Int) (3 - (j : Int)) = ((o.getD j 0 : Nat) : Int) ∧ o.getD j 0 ≤ 100 := by
    intro j hj
    have h := ordTab_ok
    rw [List.all_eq_true] at h
    have h := h _ (lookup_mem ho)
    rw [List.all_eq_true] at h
    have h := h j (by simpa using hj)
    simp only [Bool.and_eq_true, decide_eq_true_eq] at h
    exact h
  refine ⟨same, ?_, fun j hj => ?_⟩
  · rw [hmi, hpl, hsh, lensF_eq mi pl sh o hm4 fun j hj => (hall j hj).1]
    have e1 : (sortL ((ordersL 4).map (toldF ms (ms.map bodyF)))).map (fun x => (x.length : Int)) = ((sortL ((ordersL 4).map (toldF ms (ms.map bodyF)))).map Str.length).map (fun (x : Nat) => (x : Int)) := (List.map_map (f := Str.length) (g := fun (x : Nat) => (x : Int))).symm
    rw [e1]
    refine congrArg (List.map (fun (x : Nat) => (x : Int))) ?_
    have h24 : 2 ≤ ((ordersL 4).map (toldF ms (ms.map bodyF))).length := by rw [List.length_map, rows_len]; decide
    rw [hoK] at o1 o2
    refine pairwise_unique ?_ (sortL_up _ h24) (up_pair o2)
    refine ((sortL_perm _ h24).map Str.length).trans ?_
    have e2 : ((ordersL 4).map (toldF ms (ms.map bodyF))).map Str.length = lensC cs := by
      unfold lensC rowsN
      rw [List.map_map, List.map_map]
      refine List.map_congr_left fun row hr => ?_
      show (toldF ms (ms.map bodyF) row).length = lenL true ((row.map Int.toNat).map fun p => cs.getD p (false, false))
      rw [told_length hm row (hrow row hr), List.map_map]
      refine congrArg (lenL true) ?_
      refine List.map_congr_left fun p hp => ?_
      show cls ms p = cs.getD p.toNat (false, false)
      rw [hcs, getD_map _ ms p.toNat 0 _ (hrow row hr p hp)]
      rfl
    rw [e2]
    exact List.isPerm_iff.mp o1
  · rw [hmi, hpl, hsh]
    have := hall j hj
    (first | lia | omega)
end Mine
end
section
open PySem PySem.W PySem.Calls PyProof.Rows
set_option Elab.async false
set_option maxRecDepth 100000
set_option linter.unusedVariables false
namespace Mine

theorem modeF_ok (n : Int) : 0 ≤ modeF n ∧ modeF n < 65536 := by
  unfold modeF
  have a1 := Int.fmod_nonneg_of_pos (n.fdiv 16) (show (0 : Int) < 16 by decide)
  have a2 := Int.fmod_lt_of_pos (n.fdiv 16) (show (0 : Int) < 16 by decide)
  have b1 := Int.fmod_nonneg_of_pos (n.fdiv 4096) (show (0 : Int) < 4 by decide)
  have b2 := Int.fmod_lt_of_pos (n.fdiv 4096) (show (0 : Int) < 4 by decide)
  have c1 := Int.fmod_nonneg_of_pos (n.fdiv 2) (show (0 : Int) < 2 by decide)
  have c2 := Int.fmod_lt_of_pos (n.fdiv 2) (show (0 : Int) < 2 by decide)
  have d1 := Int.fmod_nonneg_of_pos (n.fdiv 4) (show (0 : Int) < 512 by decide)
  have d2 := Int.fmod_lt_of_pos (n.fdiv 4) (show (0 : Int) < 512 by decide)
  split <;> (first | lia | omega)
theorem modes_ok (ns : List Int) : OkModes (modesF ns) := by
  intro m hm
  obtain ⟨n, _, rfl⟩ := List.mem_map.mp hm
  exact modeF_ok n
theorem modes_len (ns : List Int) : (modesF ns).length = 4 := by unfold modesF; rw [List.length_map, numsF_len]
theorem cl_len (x : Str) : x.length = (cl x).length := by simp [Str.length]
theorem small_ok {m : Int} (h : 0 ≤ m ∧ m < 65536) : Small tabT m := by
  have e : m = ((m.toNat : Nat) : Int) := by (first | lia | omega)
  have hn : m.toNat < 65536 := by (first | lia | omega)
  rw [e]
  have hf : (fmF tabT (m.toNat : Int)).length = 10 := by rw [cl_len, fm_cl _ hn]; rfl
  have h1 := rep1_len tabT (m.toNat : Int)
  have h2 := rep2_len tabT (m.toNat : Int)
  exact ⟨picks_small _ hn, by (first | lia | omega), by (first | lia | omega), by (first | lia | omega)⟩
theorem piece_small {m : Int} (h : 0 ≤ m ∧ m < 65536) : (pieceF tabT m).length ≤ 100 := by
  have e : m = ((m.toNat : Nat) : Int) := by (first | lia | omega)
  have hn : m.toNat < 65536 := by (first | lia | omega)
  rw [e, cl_len, piece_cl _ hn]
  unfold tailP
  split
  · split <;> simp [mdF]
  · simp [mdF]
theorem body_small {m : Int} (h : 0 ≤ m ∧ m < 65536) : (bodyF m).length ≤ 100 := by
  have e : m = ((m.toNat : Nat) : Int) := by (first | lia | omega)
  have hn : m.toNat < 65536 := by (first | lia | omega)
  rw [e, cl_len, body_cl _ hn]
  unfold tailB
  split <;> simp [mdF]
theorem getD_small {f : Int → Str} {ms : List Int} (h : ∀ m ∈ ms, (f m).length ≤ 100) (i : Nat) : ((ms.map f).getD i "").length ≤ 100 := by
  rw [List.getD_eq_getElem?_getD, List.getElem?_map]
  cases e : ms[i]? with
  | none => show (0 : Nat) ≤ 100; decide
  | some m => exact h m (List.mem_of_getElem? e)
theorem told_small {ms : List Int} (h : OkModes ms) {row : List Int} (hr : row.length ≤ 10) : (toldF ms (ms.map bodyF) row).length ≤ 1010 := by
  have := told_len ms (ms.map bodyF) (fun i => getD_small (fun m hm => body_small (h m hm)) i) row ("", false)
  unfold toldF
  have e : ("" : Str).length = 0 := rfl
  simp only [e] at this
  (first | lia | omega)

section
variable {prog : Program} {w : World} {A : Around} {E : Value → Shared → Prop} {s : Shared} {G h : Heap} {tk : Nat} {L : Nat} {m cm : Str → Option Value} {mg mb mc : Str → Option Value} {pm : Value}
set_option maxHeartbeats 4000000 in
theorem law_all {sa : Nat} {us : List Value} {ns : List Int} {Q : Flow → Shared → Prop} (R : Rm 12 A) (N : LN mg) (X : LG mg mb mc tabT G) (F : LF G L m cm #[] #[] h) (hm : m "script" = some (.ref sa)) (hl : G.IsList sa us.toArray) (hi : IntsAre us ns) (hz : us.length ≤ 1000) (hmc : mc "thirdparty.any" = none)
    (k : ∀ G' m' cm' ps' qs' h' tk', Stay G G' → LF G' L m' cm' ps' qs' h' → Q (.ret (.bool true)) (st s h' tk')) :
    wpAny (model prog w) A (execs (lawFrom 0) (lawEnv pm L)) Q E (st s h tk) := by
  have P := plain01 (modes_ok ns) (modes_len ns)
  have ok := modes_ok ns
  have ml := modes_len ns
  have pieces_small : ∀ i, (((modesF ns).map (pieceF tabT)).getD i "").length ≤ 100 := fun i => getD_small (fun m hm => piece_small (ok m hm)) i
  have bodies_small : ∀ i, (((modesF ns).map bodyF).getD i "").length ≤ 100 := fun i => getD_small (fun m hm => body_small (ok m hm)) i
  refine law_0 (R.less (by decide)) N X F hm hl hi hz fun D0 G0 h0 tk0 S0 F0 I0 => ?_
  have X0 := X.stay S0
  refine law_1 (R.less (by decide)) N X0 F0 rfl I0 fun D1 G1 h1 tk1 S1 F1 I1 => ?_
  have X1 := X0.stay S1
  refine law_2 (R.less (by decide)) N X1 F1 rfl I1 (by (first | lia | omega)) (by decide) (fun mo hmo => small_ok (ok mo hmo)) fun D2 G2 h2 tk2 S2 F2 I2 => ?_
  have X2 := X1.stay S2
  have I1 := I1.stay S2
  refine law_3 (R.less (by decide)) N X2 F2 (TabOk.nil _) fun ov G3 h3 tk3 ps3 S3 F3 O3 T3 => ?_
  have X3 := X2.stay S3
  have I1 := I1.stay S3
  have I2 := I2.stay S3
  refine law_4 (R.less (by decide)) N X3 F3 T3 rfl O3 rfl I2 (by rw [rows_len]; decide) (by rw [List.length_map]; (first | lia | omega)) (fun row hr => ⟨(rows_ok row hr).1, fun p hp => by have := (rows_ok row hr).2 p hp; rw [List.length_map, ml]; exact this⟩) pieces_small fun D4 G4 h4 tk4 ps4 S4 F4 I4 T4 => ?_
  have X4 := X3.stay S4
  have I1 := I1.stay S4
  have O3 := O3.stay S4
  rw [P.same] at I4
  have tl : ((ordersL 4).map (toldF (modesF ns) ((modesF ns).map bodyF))).length = 24 := by rw [List.length_map, rows_len]
  have tsm : ∀ x ∈ (ordersL 4).map (toldF (modesF ns) ((modesF ns).map bodyF)), x.length ≤ 100000 := by
    intro x hx
    obtain ⟨row, hr, rfl⟩ := List.mem_map.mp hx
    exact Nat.le_trans (told_small ok (rows_ok row hr).1) (by decide)
  have tsm' : ∀ i, (((ordersL 4).map (toldF (modesF ns) ((modesF ns).map bodyF))).getD i "").length ≤ 100000 := by
    intro i
    rw [List.getD_eq_getElem?_getD]
    cases e : ((ordersL 4).map (toldF (modesF ns) ((modesF ns).map bodyF)))[i]? with
    | none => show (0 : Nat) ≤ 100000; decide
    | some x => exact tsm x (List.mem_of_getElem? e)
  refine law_5 (R.less (by decide)) N X4 F4 T4 rfl I4 (by rw [tl]; decide) (by rw [tl]; decide) tsm' hmc fun rv G5 h5 tk5 ps5 qs5 S5 F5 I5 T5 => ?_
  have X5 := X4.stay S5
  have I1 := I1.stay S5
  have O3 := O3.stay S5
  refine law_6 (R.less (by decide)) N X5 F5 rfl I1 (by (first | lia | omega)) ok fun D6 G6 h6 tk6 S6 F6 I6 => ?_
  have X6 := X5.stay S6
  have I1 := I1.stay S6
  have O3 := O3.stay S6
  have I5 := I5.stay S6
  have T5 := T5.stay S6
  refine law_7 (R.less (by decide)) N X6 F6 rfl rfl rfl O3 I1 I6 (by (first | lia | omega)) (by rw [rows_len]; decide) (fun row hr => ⟨Nat.le_trans (rows_ok row hr).1 (by decide), fun p hp => by have := (rows_ok row hr).2 p hp; rw [List.length_map, ml]; exact ⟨this.1, this.2, this.2⟩⟩) bodies_small fun D7 G7 h7 tk7 S7 F7 I7 => ?_
  have X7 := X6.stay S7
  have I1 := I1.stay S7
  have I5 := I5.stay S7
  have T5 := T5.stay S7
  refine law_8 (R.less (by decide)) N X7 F7 rfl I1 (by (first | lia | omega)) fun t8 G8 h8 tk8 S8 F8 => ?_
  have X8 := X7.stay S8
  have I1 := I1.stay S8
  have I5 := I5.stay S8
  have I7 := I7.stay S8
  have T5 := T5.stay S8
  refine law_9 (R.less (by decide)) N X8 F8 rfl I1 (by (first | lia | omega)) fun t9 G9 h9 tk9 S9 F9 => ?_
  have X9 := X8.stay S9
  have I1 := I1.stay S9
  have I5 := I5.stay S9
  have I7 := I7.stay S9
  have T5 := T5.stay S9
  refine law_10 (R.less (by decide)) N X9 F9 rfl I1 (by (first | lia | omega)) fun t10 G10 h10 tk10 S10 F10 => ?_
  have X10 := X9.stay S10
  have I5 := I5.stay S10
  have I7 := I7.stay S10
  have T5 := T5.stay S10
  have f1 : ((modesF ns).filter isMid).length ≤ (modesF ns).length := List.length_filter_le _ _
  have f2 : ((modesF ns).filter isPlain).length ≤ (modesF ns).length := List.length_filter_le _ _
  refine law_11 (R.less (by decide)) N X10 F10 rfl rfl rfl ⟨by (first | lia | omega), by (first | lia | omega)⟩ ⟨by (first | lia | omega), by (first | lia | omega)⟩ P.ords fun D11 G11 h11 tk11 S11 F11 I11 => ?_
  have X11 := X10.stay S11
  have I5 := I5.stay S11
  have I7 := I7.stay S11
  have T5 := T5.stay S11
  have sp := sortL_perm ((ordersL 4).map (toldF (modesF ns) ((modesF ns).map bodyF))) (by rw [tl]; decide)
  refine law_12 (R.less (by decide)) N X11 F11 T5 rfl rfl rfl I5 I7 I11 P.lens rfl (by rw [tl]; decide) (by rw [tl]; decide) tsm' (fun x hx => tsm x (sp.mem_iff.mp hx)) (by rw [sp.length_eq, tl]; decide) fun G12 h12 tk12 ps12 S12 F12 => ?_
  exact k G12 _ _ ps12 qs5 h12 tk12 (((((((((((((S0.trans S1).trans S2).trans S3).trans S4).trans S5).trans S6).trans S7).trans S8).trans S9).trans S10).trans S11).trans S12)) F12
end
end Mine
end
section
open PySem PySem.W PySem.Calls PyProof.Rows
set_option Elab.async false
set_option maxRecDepth 100000
set_option linter.unusedVariables false
namespace Mine
section
variable {h : Heap} {P : Params}
theorem top_f1 (X : (Mine.hd.heap_39 P).In h) : FnAt h 38 37 2 .none := ⟨_, X 38 _ rfl, 37, _, _, _, rfl, X 37 _ rfl, rfl, rfl⟩
theorem top_f2 (X : (Mine.hd.heap_39 P).In h) : FnAt h 78 77 23 .none := ⟨_, X 78 _ rfl, 77, _, _, _, rfl, X 77 _ rfl, rfl, rfl⟩
theorem top_f3 (X : (Mine.hd.heap_39 P).In h) : FnAt h 85 84 25 .none := ⟨_, X 85 _ rfl, 84, _, _, _, rfl, X 84 _ rfl, rfl, rfl⟩
theorem top_f4 (X : (Mine.hd.heap_39 P).In h) : FnAt h 94 93 27 (.ref 87) := ⟨_, X 94 _ rfl, 93, _, _, _, rfl, X 93 _ rfl, rfl, rfl⟩
theorem top_f5 (X : (Mine.hd.heap_39 P).In h) : FnAt h 111 110 32 .none := ⟨_, X 111 _ rfl, 110, _, _, _, rfl, X 110 _ rfl, rfl, rfl⟩
theorem top_f6 (X : (Mine.hd.heap_39 P).In h) : FnAt h 118 117 34 .none := ⟨_, X 118 _ rfl, 117, _, _, _, rfl, X 117 _ rfl, rfl, rfl⟩
theorem top_f7 (X : (Mine.hd.heap_39 P).In h) : FnAt h 125 124 35 .none := ⟨_, X 125 _ rfl, 124, _, _, _, rfl, X 124 _ rfl, rfl, rfl⟩
theorem top_f8 (X : (Mine.hd.heap_39 P).In h) : FnAt h 132 131 36 .none := ⟨_, X 132 _ rfl, 131, _, _, _, rfl, X 131 _ rfl, rfl, rfl⟩
theorem top_f9 (X : (Mine.hd.heap_39 P).In h) : FnAt h 139 138 37 .none := ⟨_, X 139 _ rfl, 138, _, _, _, rfl, X 138 _ rfl, rfl, rfl⟩
theorem top_f10 (X : (Mine.hd.heap_39 P).In h) : FnAt h 146 145 38 .none := ⟨_, X 146 _ rfl, 145, _, _, _, rfl, X 145 _ rfl, rfl, rfl⟩
theorem top_f11 (X : (Mine.hd.heap_39 P).In h) : FnAt h 153 152 39 .none := ⟨_, X 153 _ rfl, 152, _, _, _, rfl, X 152 _ rfl, rfl, rfl⟩
theorem top_f12 (X : (Mine.hd.heap_39 P).In h) : FnAt h 160 159 40 .none := ⟨_, X 160 _ rfl, 159, _, _, _, rfl, X 159 _ rfl, rfl, rfl⟩
theorem top_f13 (X : (Mine.hd.heap_39 P).In h) : FnAt h 165 164 41 .none := ⟨_, X 165 _ rfl, 164, _, _, _, rfl, X 164 _ rfl, rfl, rfl⟩
theorem top_p1 (X : (Mine.hd.heap_39 P).In h) : PatAt h 99 codeDot := ⟨_, _, 98, _, _, _, X 99 _ rfl, rfl, rfl, rfl, rfl, rfl, rfl, X 98 _ rfl, rfl, by decide +kernel⟩
theorem top_p2 (X : (Mine.hd.heap_39 P).In h) : PatAt h 104 codeEnd := ⟨_, _, 103, _, _, _, X 104 _ rfl, rfl, rfl, rfl, rfl, rfl, rfl, X 103 _ rfl, rfl, by decide +kernel⟩
theorem top_c1 (X : (Mine.hd.heap_39 P).In h) : CodeHd h 164 162 := codeHd_of_K X (by kernel_rfl)
theorem top_c2 (X : (Mine.hd.heap_39 P).In h) : CodeHd h 84 80 := codeHd_of_K X (by kernel_rfl)
theorem top_d87 (X : (Mine.hd.heap_39 P).In h) : ∃ o, h.get? 87 = some o ∧ o.data = .seq #[.ref 86] := ⟨_, X 87 _ rfl, rfl⟩
theorem top_o86 (X : (Mine.hd.heap_39 P).In h) : ∃ o, h.get? 86 = some o ∧ o.cls = .type "object" := ⟨_, X 86 _ rfl, rfl⟩
theorem top_2 (X : (Mine.hd.heap_39 P).In h) {mc : Str → Option Value} (G : h.Ns cStatics mc) : mc "thirdparty.any" = none := by
  obtain ⟨o, es, ep, ho, hd, _, hf⟩ := G
  rw [show h.get? cStatics = _ from X 2 _ rfl] at ho
  cases ho
  cases hd
  rw [← hf]
  kernel_rfl
theorem top_3 (X : (Mine.hd.heap_39 P).In h) : ∃ o, h.get? mainGlobals = some o ∧ o.cls = .type "dict" := ⟨_, X 3 _ rfl, rfl⟩
theorem top_mg (X : (Mine.hd.heap_39 P).In h) {mg : Str → Option Value} (G : h.Ns mainGlobals mg) : LN mg ∧ mg "law" = some (.ref 165) := by
  obtain ⟨o, es, ep, ho, hd, _, hf⟩ := G
  rw [show h.get? mainGlobals = _ from X 3 _ rfl] at ho
  cases ho
  cases hd
  exact ⟨⟨(hf _).symm.trans (by kernel_rfl), (hf _).symm.trans (by kernel_rfl), (hf _).symm.trans (by kernel_rfl), (hf _).symm.trans (by kernel_rfl), (hf _).symm.trans (by kernel_rfl), (hf _).symm.trans (by kernel_rfl), (hf _).symm.trans (by kernel_rfl), (hf _).symm.trans (by kernel_rfl), ⟨_, (hf _).symm.trans (by rfl)⟩, (hf _).symm.trans (by kernel_rfl), (hf _).symm.trans (by kernel_rfl), (hf _).symm.trans (by kernel_rfl), (hf _).symm.trans (by kernel_rfl), (hf _).symm.trans (by kernel_rfl), (hf _).symm.trans (by kernel_rfl), (hf _).symm.trans (by kernel_rfl), (hf _).symm.trans (by kernel_rfl), (hf _).symm.trans (by kernel_rfl), (hf _).symm.trans (by kernel_rfl), (hf _).symm.trans (by kernel_rfl), (hf _).symm.trans (by kernel_rfl), (hf _).symm.trans (by kernel_rfl), (hf _).symm.trans (by kernel_rfl), (hf _).symm.trans (by kernel_rfl), ⟨_, (hf _).symm.trans (by rfl), _, _, rfl⟩⟩, (hf _).symm.trans (by kernel_rfl)⟩
theorem top_tab (X : (Mine.hd.heap_39 P).In h) : TabAt h 71 tabT :=
  ⟨[.ref 46, .ref 48, .ref 50, .ref 54, .ref 56, .ref 58, .ref 62, .ref 64, .ref 66, .ref 70], ⟨_, X 71 _ rfl, rfl, _, rfl⟩, .cons ⟨46, [.ref 39, .ref 40, .ref 41, .ref 42, .ref 43, .ref 44, .ref 45], rfl, ⟨_, X 46 _ rfl, rfl, _, rfl⟩, .cons ⟨39, 301, 329, rfl, ⟨_, X 39 _ rfl, rfl, _, rfl⟩⟩ (.cons ⟨40, 303, 330, rfl, ⟨_, X 40 _ rfl, rfl, _, rfl⟩⟩ (.cons ⟨41, 297, 331, rfl, ⟨_, X 41 _ rfl, rfl, _, rfl⟩⟩ (.cons ⟨42, 295, 332, rfl, ⟨_, X 42 _ rfl, rfl, _, rfl⟩⟩ (.cons ⟨43, 291, 333, rfl, ⟨_, X 43 _ rfl, rfl, _, rfl⟩⟩ (.cons ⟨44, 293, 334, rfl, ⟨_, X 44 _ rfl, rfl, _, rfl⟩⟩ (.cons ⟨45, 299, 335, rfl, ⟨_, X 45 _ rfl, rfl, _, rfl⟩⟩ (.nil)))))))⟩ (.cons ⟨48, [.ref 47], rfl, ⟨_, X 48 _ rfl, rfl, _, rfl⟩, .cons ⟨47, 311, 336, rfl, ⟨_, X 47 _ rfl, rfl, _, rfl⟩⟩ (.nil)⟩ (.cons ⟨50, [.ref 49], rfl, ⟨_, X 50 _ rfl, rfl, _, rfl⟩, .cons ⟨49, 313, 337, rfl, ⟨_, X 49 _ rfl, rfl, _, rfl⟩⟩ (.nil)⟩ (.cons ⟨54, [.ref 51, .ref 52, .ref 53], rfl, ⟨_, X 54 _ rfl, rfl, _, rfl⟩, .cons ⟨51, 338, 339, rfl, ⟨_, X 51 _ rfl, rfl, _, rfl⟩⟩ (.cons ⟨52, 305, 340, rfl, ⟨_, X 52 _ rfl, rfl, _, rfl⟩⟩ (.cons ⟨53, 315, 341, rfl, ⟨_, X 53 _ rfl, rfl, _, rfl⟩⟩ (.nil)))⟩ (.cons ⟨56, [.ref 55], rfl, ⟨_, X 56 _ rfl, rfl, _, rfl⟩, .cons ⟨55, 317, 342, rfl, ⟨_, X 55 _ rfl, rfl, _, rfl⟩⟩ (.nil)⟩ (.cons ⟨58, [.ref 57], rfl, ⟨_, X 58 _ rfl, rfl, _, rfl⟩, .cons ⟨57, 319, 343, rfl, ⟨_, X 57 _ rfl, rfl, _, rfl⟩⟩ (.nil)⟩ (.cons ⟨62, [.ref 59, .ref 60, .ref 61], rfl, ⟨_, X 62 _ rfl, rfl, _, rfl⟩, .cons ⟨59, 344, 345, rfl, ⟨_, X 59 _ rfl, rfl, _, rfl⟩⟩ (.cons ⟨60, 307, 346, rfl, ⟨_, X 60 _ rfl, rfl, _, rfl⟩⟩ (.cons ⟨61, 321, 347, rfl, ⟨_, X 61 _ rfl, rfl, _, rfl⟩⟩ (.nil)))⟩ (.cons ⟨64, [.ref 63], rfl, ⟨_, X 64 _ rfl, rfl, _, rfl⟩, .cons ⟨63, 323, 348, rfl, ⟨_, X 63 _ rfl, rfl, _, rfl⟩⟩ (.nil)⟩ (.cons ⟨66, [.ref 65], rfl, ⟨_, X 66 _ rfl, rfl, _, rfl⟩, .cons ⟨65, 325, 349, rfl, ⟨_, X 65 _ rfl, rfl, _, rfl⟩⟩ (.nil)⟩ (.cons ⟨70, [.ref 67, .ref 68, .ref 69], rfl, ⟨_, X 70 _ rfl, rfl, _, rfl⟩, .cons ⟨67, 350, 351, rfl, ⟨_, X 67 _ rfl, rfl, _, rfl⟩⟩ (.cons ⟨68, 309, 352, rfl, ⟨_, X 68 _ rfl, rfl, _, rfl⟩⟩ (.cons ⟨69, 327, 353, rfl, ⟨_, X 69 _ rfl, rfl, _, rfl⟩⟩ (.nil)))⟩ (.nil))))))))))⟩
theorem top_hide (X : (Mine.hd.heap_39 P).In h) : (Mine.hd.heap_39 P).In (hideAll h [80, 162]) := fun a o e => hideAll_get _ (X a o e) (by
  simp only [List.mem_cons, List.not_mem_nil, or_false, not_or]
  refine ⟨fun q => ?_, fun q => ?_⟩
  · rw [q, show (Mine.hd.heap_39 P).lookup 80 = none from rfl] at e; cases e
  · rw [q, show (Mine.hd.heap_39 P).lookup 162 = none from rfl] at e; cases e)
end
section
variable {prog : Program} {w : World} {A : Around} {s : Shared} {mg mb : Str → Option Value} {P : Params}
set_option maxHeartbeats 4000000 in
theorem law_run {sa : Nat} {us : List Value} {ns : List Int} {Rs : Result → Shared → Prop} (R : Rm 13 A) (KX : (Mine.hd.heap_39 P).In s.heap) (hT8 : ∀ P, P ∈ [80, 162] → s.heap.get? P = some (tabObj #[]))
    (hg : s.heap.Ns mainGlobals mg) (hb : s.heap.Ns builtinsNs mb) (bi : ∀ x : Str, x ≠ "__name__" → mb x = bootBuiltins x) (lim : s.heap.NoLimit) (hst : ∃ mc, s.heap.Ns cStatics mc)
    (bmain : ∃ bm ob, mg "__builtins__" = some (.ref bm) ∧ bm ≠ builtinsNs ∧ s.heap.get? bm = some ob ∧ ob.cls = .type "module" ∧ ob.dict = some builtinsNs ∧ ob.data = .plain)
    (hl : s.heap.IsList sa us.toArray) (hi : IntsAre us ns) (hz : us.length ≤ 1000)
    (k : ∀ h' tk', (∀ b o, b ∉ [80, 162] → s.heap.get? b = some o → h'.get? b = some o) → (∃ ps, h'.get? 80 = some (tabObj ps)) → (∃ ps, h'.get? 162 = some (tabObj ps)) → Rs (.ok (.ret (.bool true))) { s with heap := h', toks := tk' }) :
    codeAny (model prog w) A (.call (.ref 165) ⟨[.ref sa], []⟩) Rs s := by
  have t80 : s.heap.get? 80 = some (tabObj #[]) := hT8 80 (by simp)
  have t162 : s.heap.get? 162 = some (tabObj #[]) := hT8 162 (by simp)
  obtain ⟨pm, ho, hc⟩ := top_f13 KX
  refine codeAny_call_cells (binds := [("script", .ref sa)]) R.room ho rfl lim hc (body := bodyAt 41) rfl rfl rfl ?hkind ?_
  case hkind =>
    intro x hx
    simp at hx; subst hx
    exact .inl rfl
  intro s₂ I
  have hcell := I.cell
  obtain ⟨h₁, tk₁, rfl⟩ := I.toInCall.same
  have keep := I.toInCall.keep
  have ns := I.toInCall.ns
  generalize hL : s.heap.objs.size = L at *
  change Stay s.heap h₁ at keep
  change h₁.Ns L _ at ns
  have lt : ∀ b o, s.heap.get? b = some o → b < L := fun b o e => hL ▸ Heap.lt_size e
  have lo : 165 < L := lt _ _ ho
  have nLX : ∀ b, b < L → b ≠ 80 → b ≠ 162 → b ∉ LX L := by
    intro b hb h1 h2 hm
    simp only [LX, List.mem_cons, List.not_mem_nil, or_false] at hm
    (first | lia | omega)
  have SG : Stay (hideAll s.heap [80, 162]) (hideAll h₁ (LX L)) := fun b o e => by
    have e' := of_hideAll _ e
    have n1 : b ∉ [80, 162] := fun q => by rw [hideAll_none _ q] at e; cases e
    simp only [List.mem_cons, List.not_mem_nil, or_false, not_or] at n1
    exact hideAll_get _ (keep _ _ e') (nLX b (lt _ _ e') n1.1 n1.2)
  have F : LF (hideAll h₁ (LX L)) L _ (fun _ => none) #[] #[] h₁ := ⟨ns, fun n c hm => hcell n c ?_, keep _ _ t162, trivial, keep _ _ t80, fun b o e => of_hideAll _ e, fun z hz => hideAll_none _ hz, lo⟩
  case refine_1 =>
    simp only [lawCells, List.mem_cons, Prod.mk.injEq, List.not_mem_nil, or_false] at hm
    rcases hm with ⟨rfl, rfl⟩ | ⟨rfl, rfl⟩ | ⟨rfl, rfl⟩ | ⟨rfl, rfl⟩ | ⟨rfl, rfl⟩ | ⟨rfl, rfl⟩ <;> rfl
  have XH := top_hide KX
  have hide : ∀ {a : Nat} {m : Str → Option Value}, s.heap.Ns a m → a ≠ 80 → a ≠ 162 → (hideAll s.heap [80, 162]).Ns a m := fun {a m} x n1 n2 => hid_ns x (by simp only [List.mem_cons, List.not_mem_nil, or_false, not_or]; exact ⟨n1, n2⟩)
  have hgH := hide hg (by decide) (by decide)
  obtain ⟨mc, hmc⟩ := hst
  have hmcH := hide hmc (by decide) (by decide)
  have N := top_mg XH hgH
  have bmH : BM (hideAll s.heap [80, 162]) mg := by
    obtain ⟨bm, ob, b1, b2, b3, b4, b5, b6⟩ := bmain
    obtain ⟨o3, e3, c3⟩ := top_3 KX
    refine ⟨bm, ob, b1, b2, fun q => ?_, hideAll_get _ b3 ?_, b4, b5, b6⟩
    · rw [q, e3] at b3; cases b3; rw [c3] at b4; exact absurd b4 (by decide)
    · simp only [List.mem_cons, List.not_mem_nil, or_false, not_or]
      refine ⟨fun q => ?_, fun q => ?_⟩
      · rw [q, t80] at b3; cases b3; cases b4
      · rw [q, t162] at b3; cases b3; cases b4
  have limH : (hideAll s.heap [80, 162]).NoLimit := by
    obtain ⟨m0, a0, r0⟩ := lim
    exact ⟨m0, hide a0 (by decide) (by decide), r0⟩
  have XG : LG mg mb mc tabT (hideAll s.heap [80, 162]) := ⟨⟨hgH, hide hb (by decide) (by decide), bi, limH⟩, bmH, hmcH, top_f1 XH, top_f2 XH, top_f3 XH, top_f4 XH, top_f5 XH, top_f6 XH, top_f7 XH, top_f8 XH, top_f9 XH, top_f10 XH, top_f11 XH, top_f12 XH,
    top_tab XH, top_p1 XH, top_p2 XH, top_c1 XH, top_c2 XH, top_d87 XH, top_o86 XH⟩
  have slt : ∀ o, s.heap.get? sa = some o → o.cls = .type "list" → (hideAll h₁ (LX L)).get? sa = some o := fun o e hc => SG _ _ (hideAll_get _ e (by
    simp only [List.mem_cons, List.not_mem_nil, or_false, not_or]
    refine ⟨fun q => ?_, fun q => ?_⟩
    · rw [q, t80] at e; cases e; cases hc
    · rw [q, t162] at e; cases e; cases hc))
  have hlG : (hideAll h₁ (LX L)).IsList sa us.toArray := by
    obtain ⟨o, e, hc, r⟩ := hl
    exact ⟨o, slt o e hc, hc, r⟩
  have R' : Rm 12 (A.deeper (callEnvC (fnD 41 164 pm .none) L 165)) := R.deeper
  generalize A.deeper (callEnvC (fnD 41 164 pm .none) L 165) = A' at *
  show wpAny _ _ (execs (lawFrom 0) (lawEnv pm L)) _ _ (st s h₁ tk₁)
  refine law_all (s := s) R' N.1 (XG.stay SG) F rfl hlG hi hz (top_2 XH hmcH) fun G' m' cm' ps' qs' h' tk' SG' F' => ?_
  refine k h' tk' (fun b o nb e => F'.keep _ _ (SG' _ _ (SG _ _ (hideAll_get _ e nb)))) ⟨_, F'.t80⟩ ⟨_, F'.tab⟩
end
end Mine
end
open PySem PySem.W PyProof.Rows
set_option Elab.async false
set_option maxRecDepth 100000
set_option maxHeartbeats 8000000
theorem PySem.Challenge.cw_om0029_01_holds : PySem.Challenge.rw_om0029_01.Holds :=
  Mine.hd (by
  k_fill
  intro w s₀ s₁ mg mb G Y fa o pm cd doc dV kV ho hd hcd hD hmg hg args vals as hpre hlay hrd hwl hlo
  have KX := km_in_of Y
  km_tabs Y
  have X := (Ground.X G).1
  have V := (Ground.X G).2
  refine Ground.open G ?_
  intro T B D TE TW
  try (refine guard_noD D (by decide +kernel) ?_; clear D)
  km_lay T hmg ho hd cd
  have hfa : fa = 165 := by
    have h1 := (Mine.top_mg KX T.g).2
    have h2 := hmg.symm.trans h1
    exact Value.ref.inj (Option.some.inj h2)
  wrow_args hpre hlay hrd hwl hlo
  all_goals (
    first | refine callC_kw (enter_call ?_) | refine enter_call ?_
    w_top on)
  rename_i hI _ hz _
  subst hfa
  refine kn_post hT9 (fun _ _ => rfl) ?_
  refine Mine.law_run ⟨rfl, by decide, by decide⟩ KX hT8 T.g T.b T.builtins T.nolimit (let ⟨mc, a, _⟩ := T.nodigits; ⟨mc, a⟩) T.bmain (by assumption) hI ?_ fun h' tk' k1 k2 k3 => ?_
  · have := hI.length
    omega
  · refine ⟨⟨.inl ⟨.bool true, .bool true, [], rfl, fun _ => rfl, .bool true, ?_, fun _ => ⟨.nil, fun a ha => by cases ha⟩⟩, fun b o e => ?_, rfl, hg⟩, k2, k3, trivial⟩
    · kernel_rfl
    exact k1 b o (fun q => by rw [show (ghostOf s₁.heap [(84, 80), (164, 162)]).get? b = none from hideAll_none _ q] at e; cases e) (of_hideAll _ e))
