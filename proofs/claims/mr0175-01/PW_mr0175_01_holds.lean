import PyProof.Rows.All
import Wide.All
import OpenK.AllK
import Wide.FinOn
import Lean
import PySem.Challenge.RW_mr0175_01
open PySem PySem.W PyProof.Rows PySem.Calls
set_option Elab.async false
set_option maxRecDepth 100000
set_option maxHeartbeats 8000000
set_option linter.unusedVariables false
set_option linter.unusedSimpArgs false
namespace Mine
open_top hd for PySem.Challenge.rw_mr0175_01
end Mine
namespace Mine

/-! ## the logic: heaps alone; toks are hidden, no way raises -/
noncomputable abbrev PR : Program := PySem.Challenge.rw_mr0175_01.row.prog
noncomputable abbrev St (G : Shared) (h : Heap) (tk : Nat) : Shared := { G with heap := h, toks := tk }
noncomputable def W (w : World) (G : Shared) (A : Around) {α : Type} (t : Sem α) (h : Heap) (Q : α → Heap → Prop) : Prop :=
  ∀ tk, wpAny (model PR w) A t (fun a s' => ∃ h' tk', s' = St G h' tk' ∧ Q a h') (fun _ _ => False) (St G h tk)

section
variable {w : World} {G : Shared} {A : Around} {α β : Type} {h : Heap} {env : Env}

/-- under a post over states -/
theorem W.nest {t : Sem α} {f : α → Shared → Prop} {E : Value → Shared → Prop} {tk : Nat} (H : W w G A t h fun a h' => ∀ tk', f a (St G h' tk')) : wpAny (model PR w) A t f E (St G h tk) :=
  wpAny_mono (H tk) (fun _ _ ⟨_, _, e, k⟩ => e ▸ k _) fun _ _ x => x.elim
theorem W.mono {t : Sem α} {Q Q' : α → Heap → Prop} (H : W w G A t h Q) (k : ∀ a h', Q a h' → Q' a h') : W w G A t h Q' :=
  fun tk => wpAny_mono (H tk) (fun _ _ ⟨h', tk', e, q⟩ => ⟨h', tk', e, k _ _ q⟩) fun _ _ x => x
theorem W.pure {a : α} {Q : α → Heap → Prop} (q : Q a h) : W w G A (pure a) h Q := fun tk => wpAny_pure ⟨h, tk, rfl, q⟩
theorem W.bind {t : Sem α} {f : α → Sem β} {Q : β → Heap → Prop} (H : W w G A t h fun a h' => W w G A (f a) h' Q) : W w G A (t >>= f) h Q :=
  fun _ => wpAny_bind (W.nest (H.mono fun _ _ k => fun tk' => k tk'))

theorem W.execs_nil {Q : Flow → Heap → Prop} (q : Q .next h) : W w G A (execs [] env) h Q := fun tk => wpAny_execs_nil ⟨h, tk, rfl, q⟩
theorem W.execs_cons {st : Stmt} {rest : List Stmt} {Q : Flow → Heap → Prop}
    (H : W w G A (exec st env) h fun f h' => match f with | .next => W w G A (execs rest env) h' Q | f => Q f h') : W w G A (execs (st :: rest) env) h Q := fun _ =>
  wpAny_execs_cons (W.nest (H.mono fun f h' k => fun tk' => by
    cases f with
    | next => exact k tk'
    | _ => exact ⟨h', tk', rfl, k⟩))
/-- a statement that goes on -/
theorem W.seq {st : Stmt} {rest : List Stmt} {Q : Flow → Heap → Prop} {J : Heap → Prop}
    (H : W w G A (exec st env) h fun f h' => f = .next ∧ J h') (k : ∀ h', J h' → W w G A (execs rest env) h' Q) : W w G A (execs (st :: rest) env) h Q :=
  W.execs_cons (H.mono fun f h' ⟨e, j⟩ => by subst e; exact k h' j)
theorem W.assign {x : Str} {p' pos : Pos} {value : Expr} {Q : Flow → Heap → Prop}
    (H : W w G A (eval value env) h fun v h₁ => W w G A (storeName env x v) h₁ fun _ h' => Q .next h')
    (hs : swapsWith value (some (.Name x p')) pos.line env = Pure.pure false := by rfl) : W w G A (exec (.Assign [.Name x p'] value pos) env) h Q := fun _ =>
  wpAny_Assign_Name (W.nest (H.mono fun v h₁ k => fun tk' => W.nest (k.mono fun _ h' q => fun tk'' => ⟨h', tk'', rfl, q⟩))) hs
theorem W.store {x : Str} {v : Value} {m : Str → Option Value} {Q : Unit → Heap → Prop} (hn : h.Ns env.locals m) (hl : env.kindOf x = some .local)
    (k : ∀ h', h'.Ns env.locals (fun y => if y = x then some v else m y) → Heap.SameBut env.locals h h' → Q () h')
    (hp : (env.scope.kind == .class || (env.scope.kind == .module && env.locals != env.globals)) = false := by rfl) : W w G A (storeName env x v) h Q := fun _ =>
  wpAny_storeName_local hl hn (fun h' n s => ⟨h', _, rfl, k h' n s⟩) hp
theorem W.ret {e : Expr} {pos : Pos} {Q : Flow → Heap → Prop} (H : W w G A (eval e env) h fun v h' => Q (.ret v) h') : W w G A (exec (.Return (some e) pos) env) h Q := fun tk =>
  wpAny_Return_some (H tk)
theorem W.brk {pos : Pos} {Q : Flow → Heap → Prop} (q : Q .brk h) : W w G A (exec (.Break pos) env) h Q := fun tk => wpAny_Break ⟨h, tk, rfl, q⟩
theorem W.ifs {test : Expr} {body orelse : List Stmt} {pos : Pos} {Q : Flow → Heap → Prop}
    (H : W w G A (isTrue test env (eval test env)) h fun b h₁ => if b then W w G A (execs body env) h₁ Q else W w G A (execs orelse env) h₁ Q) : W w G A (exec (.If test body orelse pos) env) h Q := fun _ =>
  wpAny_If (W.nest (H.mono fun b h₁ k => fun tk' => by
    cases b
    · exact k tk'
    · exact k tk'))
theorem W.expr {e : Expr} {pos : Pos} {Q : Flow → Heap → Prop} (H : W w G A (eval e env) h fun v h' => match v with | .ref _ => False | _ => Q .next h')
    (hi : interactive env = false := by rfl) (hs : swapsWith e none pos.line env = Pure.pure false := by rfl) : W w G A (exec (.Expr e pos) env) h Q := fun _ =>
  wpAny_Expr (W.nest (H.mono fun v h' k => fun tk' => by cases v <;> first | exact ⟨h', tk', rfl, k⟩ | exact k)) hi hs

/-! ## expressions that leave the heap -/
noncomputable def EV (w : World) (A : Around) (env : Env) (h : Heap) (e : Expr) (P : Value → Prop) : Prop := ∀ G, W w G A (eval e env) h fun v h' => h' = h ∧ P v
noncomputable def TB (w : World) (A : Around) (env : Env) (h : Heap) (e : Expr) (b : Bool) : Prop := ∀ G, W w G A (isTrue e env (eval e env)) h fun c h' => h' = h ∧ c = b
noncomputable def IsI (n : Int) : Value → Prop := fun v => ∃ t, v = .int n t
noncomputable def IsB (b : Bool) : Value → Prop := fun v => v = .bool b
noncomputable def IsS (x : Str) : Value → Prop := fun v => ∃ t, v = .str x t
noncomputable def IsV (x : Value) : Value → Prop := fun v => v = x
theorem EV.use {e : Expr} {P : Value → Prop} {Q : Value → Heap → Prop} (H : EV w A env h e P) (k : ∀ v, P v → Q v h) : W w G A (eval e env) h Q :=
  (H G).mono fun v _ ⟨e, p⟩ => e ▸ k v p
theorem EV.useV {e : Expr} {x : Value} {Q : Value → Heap → Prop} (H : EV w A env h e (IsV x)) (k : Q x h) : W w G A (eval e env) h Q := H.use fun _ q => q ▸ k
theorem EV.useI {e : Expr} {n : Int} {Q : Value → Heap → Prop} (H : EV w A env h e (IsI n)) (k : ∀ t, Q (.int n t) h) : W w G A (eval e env) h Q := H.use fun _ ⟨t, q⟩ => q ▸ k t
theorem EV.useB {e : Expr} {b : Bool} {Q : Value → Heap → Prop} (H : EV w A env h e (IsB b)) (k : Q (.bool b) h) : W w G A (eval e env) h Q := H.use fun _ q => q ▸ k
theorem TB.use {e : Expr} {b : Bool} {Q : Bool → Heap → Prop} (H : TB w A env h e b) (k : Q b h) : W w G A (isTrue e env (eval e env)) h Q :=
  (H G).mono fun _ _ ⟨e, p⟩ => e ▸ p ▸ k
theorem EV.int {i : Int} {k : Nat} {pos : Pos} : EV w A env h (.Constant (.int i) k pos) (IsI i) := fun _ tk => wpAny_Constant_int ⟨h, tk + 1, rfl, rfl, _, rfl⟩
theorem EV.str {x : Str} {k : Nat} {pos : Pos} : EV w A env h (.Constant (.str x) k pos) (IsS x) := fun _ tk => wpAny_Constant_str ⟨h, tk + 1, rfl, rfl, _, rfl⟩
theorem EV.none {k : Nat} {pos : Pos} : EV w A env h (.Constant .none k pos) (IsV .none) := fun _ tk => wpAny_Constant_none ⟨h, tk, rfl, rfl, rfl⟩
theorem EV.boolc {b : Bool} {k : Nat} {pos : Pos} : EV w A env h (.Constant (.bool b) k pos) (IsB b) := fun _ tk => wpAny_Constant_bool ⟨h, tk, rfl, rfl, rfl⟩
theorem EV.loc {x : Str} {pos : Pos} {m : Str → Option Value} {v : Value} {P : Value → Prop} (hn : h.Ns env.locals m) (hv : m x = some v) (p : P v) (hl : env.kindOf x = some .local := by rfl)
    (hk : env.scope.kind = .function := by rfl) (hd : (x == ("__debug__" : Str)) = false := by decide) : EV w A env h (.Name x pos) P := fun _ tk =>
  wpAny_Name (wpAny_loadName_local hk hl hn hv ⟨h, tk, rfl, rfl, p⟩) hd
theorem EV.binop {l r : Expr} {op : Operator} {pos : Pos} {P P' P'' : Value → Prop} (h1 : EV w A env h l P) (h2 : EV w A env h r P')
    (k : ∀ a b, P a → P' b → ∀ G, W w G A (binaryOp op a b) h fun v h' => h' = h ∧ P'' v) : EV w A env h (.BinOp l op r pos) P'' := fun G _ =>
  wpAny_BinOp (W.nest (h1.use fun a pa => fun _ => W.nest (h2.use fun b pb => fun tk => k a b pa pb G tk)))
theorem EV.add {l r : Expr} {pos : Pos} {a b : Int} (h1 : EV w A env h l (IsI a)) (h2 : EV w A env h r (IsI b)) : EV w A env h (.BinOp l .Add r pos) (IsI (a + b)) :=
  h1.binop h2 fun _ _ ⟨_, e1⟩ ⟨_, e2⟩ _ tk => by subst e1 e2; exact PyProof.Rows.add_int ⟨h, tk + 1, rfl, rfl, _, rfl⟩
theorem EV.sub {l r : Expr} {pos : Pos} {a b : Int} (h1 : EV w A env h l (IsI a)) (h2 : EV w A env h r (IsI b)) : EV w A env h (.BinOp l .Sub r pos) (IsI (a - b)) :=
  h1.binop h2 fun _ _ ⟨_, e1⟩ ⟨_, e2⟩ _ tk => by subst e1 e2; exact PyProof.Rows.sub_int ⟨h, tk + 1, rfl, rfl, _, rfl⟩
theorem EV.mul {l r : Expr} {pos : Pos} {a b : Int} (h1 : EV w A env h l (IsI a)) (h2 : EV w A env h r (IsI b)) (hm : IntMulOk a b) : EV w A env h (.BinOp l .Mult r pos) (IsI (a * b)) :=
  h1.binop h2 fun _ _ ⟨_, e1⟩ ⟨_, e2⟩ _ tk => by subst e1 e2; exact PyProof.Rows.mul_int ⟨h, tk + 1, rfl, rfl, _, rfl⟩ hm
theorem EV.bitand {l r : Expr} {pos : Pos} {a b : Int} (h1 : EV w A env h l (IsI a)) (h2 : EV w A env h r (IsI b)) : EV w A env h (.BinOp l .BitAnd r pos) (IsI (Builtin.bitAnd a b)) :=
  h1.binop h2 fun _ _ ⟨_, e1⟩ ⟨_, e2⟩ _ tk => by subst e1 e2; exact PyProof.Rows.and_int ⟨h, tk + 1, rfl, rfl, _, rfl⟩

theorem EV.floordiv {l r : Expr} {pos : Pos} {a b : Int} (h1 : EV w A env h l (IsI a)) (h2 : EV w A env h r (IsI b)) (hb : b ≠ 0) (hs : b.natAbs < 1073741824) : EV w A env h (.BinOp l .FloorDiv r pos) (IsI (a.fdiv b)) :=
  h1.binop h2 fun _ _ ⟨_, e1⟩ ⟨_, e2⟩ _ tk => by subst e1 e2; exact PyProof.Rows.floordiv_int hb ⟨h, tk + 1, rfl, rfl, _, rfl⟩ (.inl (PyProof.noPylong_small hs))
theorem EV.mod {l r : Expr} {pos : Pos} {a b : Int} (h1 : EV w A env h l (IsI a)) (h2 : EV w A env h r (IsI b)) (hb : b ≠ 0) : EV w A env h (.BinOp l .Mod r pos) (IsI (a.fmod b)) :=
  h1.binop h2 fun _ _ ⟨_, e1⟩ ⟨_, e2⟩ _ tk => by subst e1 e2; exact PyProof.Rows.mod_int hb ⟨h, tk + 1, rfl, rfl, _, rfl⟩
theorem EV.pow {l r : Expr} {pos : Pos} {a b : Int} (h1 : EV w A env h l (IsI a)) (h2 : EV w A env h r (IsI b)) (hn : 0 ≤ b) (hz : (Builtin.Int.intBits a : Int) * b ≤ 2 ^ 27) : EV w A env h (.BinOp l .Pow r pos) (IsI (a ^ b.toNat)) :=
  h1.binop h2 fun _ _ ⟨_, e1⟩ ⟨_, e2⟩ _ tk => by subst e1 e2; exact PyProof.Rows.pow_int hn hz ⟨h, tk + 1, rfl, rfl, _, rfl⟩
theorem EV.addstr {l r : Expr} {pos : Pos} {a b : Str} (h1 : EV w A env h l (IsS a)) (h2 : EV w A env h r (IsS b)) (hz : a.length + b.length ≤ sizeLine) : EV w A env h (.BinOp l .Add r pos) (IsS (a ++ b)) :=
  h1.binop h2 fun _ _ ⟨_, e1⟩ ⟨_, e2⟩ _ tk => by subst e1 e2; exact PyProof.Rows.add_str (fun t' tk' => ⟨h, tk', rfl, rfl, _, rfl⟩) hz
theorem EV.cmp {l r : Expr} {op : CmpOp} {pos : Pos} {P P' P'' : Value → Prop} (h1 : EV w A env h l P) (h2 : EV w A env h r P')
    (k : ∀ a b, P a → P' b → ∀ G, W w G A (compareOp op a b) h fun v h' => h' = h ∧ P'' v) (hm : behindInMarks op r = false := by with_unfolding_all rfl) : EV w A env h (.Compare l [op] [r] pos) P'' := fun G _ =>
  wpAny_Compare1 (W.nest (h1.use fun a pa => fun _ => W.nest (h2.use fun b pb => fun tk => k a b pa pb G tk))) hm
theorem TB.cmp {l r : Expr} {op : CmpOp} {pos : Pos} {P P' : Value → Prop} {b : Bool} (h1 : EV w A env h l P) (h2 : EV w A env h r P')
    (k : ∀ x y, P x → P' y → ∀ G, W w G A (compareOp op x y) h fun v h' => h' = h ∧ IsB b v) (hm : behindInMarks op r = false := by with_unfolding_all rfl) : TB w A env h (.Compare l [op] [r] pos) b := fun G _ =>
  wpAny_isTrue_Compare1 (W.nest (h1.use fun x px => fun _ => W.nest (h2.use fun y py => fun _ => W.nest ((k x y px py G).mono fun v h' ⟨e, q⟩ => fun tk => by
    subst e; cases q; exact wpAny_truthy_bool ⟨h', tk, rfl, rfl, rfl⟩)))) hm
theorem W.cmpII {op : CmpOp} {a b : Int} {c : Bool} (hc : ∀ {Q : Value → Shared → Prop} {E : Value → Shared → Prop} {s : Shared} {t u : Tok}, Q (.bool c) s → wpAny (model PR w) A (compareOp op (.int a t) (.int b u)) Q E s) :
    ∀ x y, IsI a x → IsI b y → ∀ G, W w G A (compareOp op x y) h fun v h' => h' = h ∧ IsB c v := fun _ _ ⟨_, e1⟩ ⟨_, e2⟩ _ tk => by subst e1 e2; exact hc ⟨h, tk, rfl, rfl, rfl⟩
theorem lt_ii {a b : Int} : ∀ x y, IsI a x → IsI b y → ∀ G, W w G A (compareOp .Lt x y) h fun v h' => h' = h ∧ IsB (decide (a < b)) v := W.cmpII PyProof.Rows.lt_int
theorem le_ii {a b : Int} : ∀ x y, IsI a x → IsI b y → ∀ G, W w G A (compareOp .LtE x y) h fun v h' => h' = h ∧ IsB (decide (a ≤ b)) v := W.cmpII PyProof.Rows.le_int
theorem gt_ii {a b : Int} : ∀ x y, IsI a x → IsI b y → ∀ G, W w G A (compareOp .Gt x y) h fun v h' => h' = h ∧ IsB (decide (b < a)) v := W.cmpII PyProof.Rows.gt_int
theorem ge_ii {a b : Int} : ∀ x y, IsI a x → IsI b y → ∀ G, W w G A (compareOp .GtE x y) h fun v h' => h' = h ∧ IsB (decide (b ≤ a)) v := W.cmpII PyProof.Rows.ge_int
theorem eq_ii {a b : Int} : ∀ x y, IsI a x → IsI b y → ∀ G, W w G A (compareOp .Eq x y) h fun v h' => h' = h ∧ IsB (a == b) v := W.cmpII PyProof.Rows.eq_int
theorem ne_ii {a b : Int} : ∀ x y, IsI a x → IsI b y → ∀ G, W w G A (compareOp .NotEq x y) h fun v h' => h' = h ∧ IsB (a != b) v := W.cmpII PyProof.Rows.ne_int
theorem eq_ss {a b : Str} : ∀ x y, IsS a x → IsS b y → ∀ G, W w G A (compareOp .Eq x y) h fun v h' => h' = h ∧ IsB (a == b) v := fun _ _ ⟨_, e1⟩ ⟨_, e2⟩ _ tk => by
  subst e1 e2; exact PyProof.Rows.eq_str ⟨h, tk, rfl, rfl, rfl⟩
theorem fits_small {n : Int} (h1 : -(2 ^ 63) ≤ n) (h2 : n < 2 ^ 63) : fitsSsize n = true := by
  simp [fitsSsize]; omega
/-- an item of a text -/
theorem EV.itemS {v i : Expr} {pos : Pos} {x : Str} {n : Int} (h1 : EV w A env h v (IsS x)) (h2 : EV w A env h i (IsI n)) (lo : 0 ≤ n) (hi : n < x.length) (hz : x.length ≤ sizeLine)
    (hs : ∀ t u, subscripted i false (.str x t) (.int n u) = operate [.str x t, .int n u] (getItem (.str x t) (.int n u)) := by intro _ _; with_unfolding_all rfl)
    (ht : ∀ t r, letTemporaryGo v (.str x t) r = Pure.pure () := by intro _ _; with_unfolding_all rfl) : EV w A env h (.Subscript v i pos) (IsS (Txt.item x n)) := fun G _ =>
  Subscript_ (W.nest (h1.use fun a ⟨t, e1⟩ => fun _ => W.nest (h2.use fun b ⟨u, e2⟩ => fun tk => by
    subst e1 e2
    refine item_str ?_ (by omega) hi (fun _ => ⟨h, tk + 1, rfl, rfl, _, rfl⟩) (hs _ _) (ht _)
    have : (x.length : Int) ≤ 2 ^ 24 := by have := hz; simp only [sizeLine] at this; omega
    exact fits_small (by omega) (by omega))))
theorem TB.not {e : Expr} {pos : Pos} {b : Bool} (H : TB w A env h e b) : TB w A env h (.UnaryOp .Not e pos) (!b) := fun _ _ =>
  wpAny_isTrue_Not (W.nest (H.use fun tk => ⟨h, tk, rfl, rfl, rfl⟩))
theorem TB.ofB {e : Expr} {b : Bool} (H : EV w A env h e (IsB b)) (he : ∀ whole, isTrue e env whole = (do let v ← whole; standAt e.pos; holding [v] (truthy v)) := by intro _; rfl) : TB w A env h e b := fun _ _ =>
  wpAny_isTrue_value (W.nest (H.use fun v q => fun tk => by cases q; exact wpAny_truthy_bool ⟨h, tk, rfl, rfl, rfl⟩)) (he _)
theorem TB.and {x y : Expr} {pos : Pos} {a b : Bool} (h1 : TB w A env h x a) (h2 : a = true → TB w A env h y b) : TB w A env h (.BoolOp .And [x, y] pos) (a && b) := fun _ _ =>
  wpAny_isTrue_BoolOp (wpAny_allTrue_And_cons (W.nest (h1.use fun tk => by
    cases a with
    | false => exact ⟨h, tk, rfl, rfl, rfl⟩
    | true => exact wpAny_allTrue_And_cons (W.nest ((h2 rfl).use fun tk => by
        cases b with
        | false => exact ⟨h, tk, rfl, rfl, rfl⟩
        | true => exact wpAny_allTrue_And_nil ⟨h, tk, rfl, rfl, rfl⟩)))))
/-- an if whose test is told -/
theorem W.ifb {test : Expr} {body orelse : List Stmt} {pos : Pos} {Q : Flow → Heap → Prop} {b : Bool} (H : TB w A env h test b)
    (k1 : b = true → W w G A (execs body env) h Q) (k2 : b = false → W w G A (execs orelse env) h Q) : W w G A (exec (.If test body orelse pos) env) h Q :=
  W.ifs (H.use (by cases b with | true => exact k1 rfl | false => exact k2 rfl))

/-! ## what stands at the top -/
structure Gd0 (w : World) (h : Heap) : Prop where
  X : (Mine.hd.heap_39 w.params).In h
  T : ∃ loose mg mb, TopRead topProg loose mg mb h ∧ ∃ bm ob, mg "__builtins__" = some (.ref bm) ∧ bm ≠ builtinsNs ∧ h.get? bm = some ob ∧ ob.cls = .type "module" ∧ ob.dict = some builtinsNs ∧ ob.data = .plain
noncomputable abbrev Ext (h h' : Heap) : Prop := ∀ b o, h.get? b = some o → h'.get? b = some o
noncomputable def KX (X : List Addr) (h h' : Heap) : Prop := ∀ b o, b ∉ X → h.get? b = some o → h'.get? b = some o
theorem Gd0.keeps {h' : Heap} (g : Gd0 w h) (k : Ext h h') : Gd0 w h' :=
  let ⟨l, mg, mb, t, bm, ob, a, b, c, d⟩ := g.T; ⟨g.X.keeps k, l, mg, mb, t.keeps k, bm, ob, a, b, k _ _ c, d⟩
/-- the top's own objects stand, over a heap without the two code tables that a run may change -/
noncomputable def Gd (w : World) (h : Heap) : Prop := ∃ g₀, Gd0 w g₀ ∧ (∀ b o, g₀.get? b = some o → b ∉ ([133, 140] : List Addr)) ∧ Ext g₀ h
theorem Gd.base (g : Gd w h) : Gd0 w h := let ⟨_, a, _, b⟩ := g; a.keeps b
theorem Gd.keepsX {h' : Heap} (g : Gd w h) (k : KX [133, 140] h h') : Gd w h' := let ⟨g₀, a, n, b⟩ := g; ⟨g₀, a, n, fun c o e => k c o (n c o e) (b c o e)⟩
theorem Gd.keeps {h' : Heap} (g : Gd w h) (k : Ext h h') : Gd w h' := g.keepsX fun b o _ e => k b o e
theorem Gd.X (g : Gd w h) : (Mine.hd.heap_39 w.params).In h := g.base.X
theorem Gd.T (g : Gd w h) : ∃ loose mg mb, TopRead topProg loose mg mb h ∧ ∃ bm ob, mg "__builtins__" = some (.ref bm) ∧ bm ≠ builtinsNs ∧ h.get? bm = some ob ∧ ob.cls = .type "module" ∧ ob.dict = some builtinsNs ∧ ob.data = .plain := g.base.T
theorem Gd.nolimit (g : Gd w h) : h.NoLimit := let ⟨_, _, _, t, _⟩ := g.T; t.nolimit
theorem EV.glob {x : Str} {pos : Pos} {v : Value} {cn : Str} {cs : Scope} {L a : Addr} {ccd : Value} {cl : List (Str × Addr)} (g : Gd w h) (e : nsIn (Mine.hd.heap_39 w.params) mainGlobals x = some (some v))
    (hk : cs.kind = .function := by rfl) (hx : (envX cn cs L a ccd cl).kindOf x = some .globalImplicit := by rfl) (hd : (x == ("__debug__" : Str)) = false := by decide) :
    EV w A (envX cn cs L a ccd cl) h (.Name x pos) (IsV v) := fun _ tk =>
  let ⟨_, _, _, t, _⟩ := g.T; Name_function_global hk hx (loadGlobal_global (env := envX cn cs L a ccd cl) t.g (mg_of g.X t.g e) ⟨h, tk, rfl, rfl, rfl⟩) hd
theorem EV.bi {x : Str} {pos : Pos} {v : Value} {cn : Str} {cs : Scope} {L a : Addr} {ccd : Value} {cl : List (Str × Addr)} (g : Gd w h) (e : nsIn (Mine.hd.heap_39 w.params) mainGlobals x = some Option.none) (hv : bootBuiltins x = some v) (hn : x ≠ "__name__")
    (hk : cs.kind = .function := by rfl) (hx : (envX cn cs L a ccd cl).kindOf x = some .globalImplicit := by rfl) (hd : (x == ("__debug__" : Str)) = false := by decide) :
    EV w A (envX cn cs L a ccd cl) h (.Name x pos) (IsV v) := fun _ tk =>
  let ⟨_, _, _, t, _⟩ := g.T; Name_function_global hk hx (loadGlobal_builtin (env := envX cn cs L a ccd cl) t.g (mg_none_of g.X t.g e) t.b ((t.builtins x hn).trans hv) ⟨h, tk, rfl, rfl, rfl⟩) hd

/-! ## calls -/
structure Rm (A : Around) (k : Nat) : Prop where
  hd : A.handled = none
  dp : A.depth + k < recursionLimit
  un : A.units + 8 * k < cLine
theorem Rm.deeper {k : Nat} (r : Rm A (k + 1)) (env : Env) : Rm (A.deeper env) k := ⟨r.hd, by have := r.dp; show A.depth + 1 + k < _; omega, by have := r.un; show A.units + 3 + 8 * k < _; omega⟩
theorem Rm.le {k j : Nat} (r : Rm A k) (h : j ≤ k) : Rm A j := ⟨r.hd, by have := r.dp; omega, by have := r.un; omega⟩

theorem W.args_nil {pos : Pos} {Q : List Value → Heap → Prop} (q : Q [] h) : W w G A (spliced (backTo pos (starEach [] env))) h Q := fun tk => PyProof.Rows.args_nil ⟨h, tk, rfl, q⟩
theorem W.args_cons {e : Expr} {rest : List Expr} {pos : Pos} {Q : List Value → Heap → Prop}
    (H : W w G A (eval e env) h fun v h₁ => W w G A (spliced (backTo pos (starEach rest env))) h₁ fun vs h₂ => Q (v :: vs) h₂)
    (he : starEach (e :: rest) env = (false, eval e env) :: starEach rest env := by rfl) : W w G A (spliced (backTo pos (starEach (e :: rest) env))) h Q := fun _ =>
  PyProof.Rows.args_cons (W.nest (H.mono fun v h₁ k => fun tk' => k tk')) he
/-- a call of a function object under a name (one argument or more) -/
theorem W.callFn {func e : Expr} {rest : List Expr} {pos : Pos} {Q : Value → Heap → Prop} {f : Addr} {o : Obj} {fd : FuncData} (hf : EV w A env h func (IsV (.ref f))) (hd : o.data = .func fd)
    (H : W w G A (spliced (backTo pos (starEach (e :: rest) env))) h fun vs h₁ => h₁.get? f = some o ∧ W w G A (call (.ref f) vs) h₁ Q)
    (he : eval (.Call func (e :: rest) [] pos) env = (do callWith pos (← eval func env) [] (backTo pos (starEach (e :: rest) env)) (backToKw pos (keywordEach [] env))) := by rfl)
    (hs : starEach (e :: rest) env = (false, eval e env) :: starEach rest env := by rfl) : W w G A (eval (.Call func (e :: rest) [] pos) env) h Q := fun _ =>
  Call_ (W.nest (hf.use fun v q => fun _ => by cases q; exact callWith_def hd (W.nest (H.mono fun vs h₁ k => fun tk' => ⟨k.1, k.2 tk'⟩)) hs)) he
/-- a call of a built-in under a name (one argument or more) -/
theorem W.callBi {func e : Expr} {rest : List Expr} {pos : Pos} {Q : Value → Heap → Prop} {id : String} (hf : EV w A env h func (IsV (.builtin id)))
    (H : W w G A (spliced (backTo pos (starEach (e :: rest) env))) h fun vs h₁ => W w G A (call (.builtin id) vs) h₁ Q)
    (he : eval (.Call func (e :: rest) [] pos) env = (do callWith pos (← eval func env) [] (backTo pos (starEach (e :: rest) env)) (backToKw pos (keywordEach [] env))) := by rfl)
    (hs : starEach (e :: rest) env = (false, eval e env) :: starEach rest env := by rfl) (hp : (backTo pos (starEach rest env)).any (·.1) = false := by rfl) : W w G A (eval (.Call func (e :: rest) [] pos) env) h Q := fun _ =>
  Call_ (W.nest (hf.use fun v q => fun _ => by cases q; exact callWith_builtin1 (W.nest (H.mono fun vs h₁ k => fun tk' => k tk')) hs hp)) he

noncomputable def codeOk (K : Frag) (cd : Value) (q : Str) : Bool := codeIn K cd q
/-- a def without cells is entered -/
theorem W.enter {f : Addr} {o : Obj} {name qual : Str} {params : Arguments} {body : List Stmt} {scope : Scope} {cl : List (Str × Addr)} {dV kV doc pm cdv ct : Value} {an : Option Addr} {vs : List Value} {binds : List (Str × Value)} {Q : Value → Heap → Prop} {k : Nat}
    (r : Rm A (k + 1)) (hl : h.NoLimit) (ho : h.get? f = some o) (hd : o.data = .func (fnX name qual params body scope cl dV kV doc pm an cdv ct)) (hc : h.CodeRec cdv qual)
    (hb : ∀ tk, BindsTo (St G h tk) (fnX name qual params body scope cl dV kV doc pm an cdv ct) ⟨vs, []⟩ binds) (hloc : (binds.all fun x => decide (scope.names.lookup x.1 = some .local)) = true)
    (H : ∀ h₁, h₁.Ns h.objs.size (fun x => binds.reverse.lookup x) → Ext h h₁ →
      W w G (A.deeper (envX qual scope h.objs.size f cdv cl)) (execs body (envX qual scope h.objs.size f cdv cl)) h₁ fun fl h' => Q (match fl with | .ret v => v | _ => .none) h')
    (hcell : ∀ x ∈ scope.names, x.2 ≠ .cell := by decide) (hco : scope.isCoroutine = false := by rfl) (hgen : scope.isGenerator = false := by rfl) (hk : scope.kind = .function := by rfl) : W w G A (call (.ref f) vs) h Q := fun tk =>
  wpAny_call (codeAny_call_def (s := St G h tk) (fd := fnX name qual params body scope cl dV kV doc pm an cdv ct) (body := body) (by have := r.dp; omega) ho hd hl hc rfl (hb tk) hcell (locs hloc)
    (fun h₁ n e => W.nest ((H h₁ n e).mono fun fl h' q => fun tk' => ⟨h', tk', rfl, q⟩)) hco hgen hk)
end
end Mine
namespace Mine
/-! ## heaps that keep all but a few -/
theorem KX.refl (X : List Addr) (h : Heap) : KX X h h := fun _ _ _ e => e
theorem KX.trans {X : List Addr} {h h' h'' : Heap} (a : KX X h h') (b : KX X h' h'') : KX X h h'' := fun c o n e => b c o n (a c o n e)
theorem KX.mono {X Y : List Addr} {h h' : Heap} (a : KX X h h') (s : ∀ b ∈ X, b ∈ Y) : KX Y h h' := fun c o n e => a c o (fun q => n (s c q)) e
theorem KX.ofExt {X : List Addr} {h h' : Heap} (a : Ext h h') : KX X h h' := fun c o _ e => a c o e
theorem KX.same {X : List Addr} {h h' : Heap} {a : Addr} (s : Heap.SameBut a h h') (m : a ∈ X) : KX X h h' := fun c o n e => (s.2 c fun q => n (q ▸ m)).trans e
theorem KX.at {X : List Addr} {h h' : Heap} {a : Addr} {o : Obj} (k : KX X h h') (e : h.get? a = some o) (n : a ∉ X) : h'.get? a = some o := k a o n e
theorem KX.ns {X : List Addr} {h h' : Heap} {a : Addr} {m : Str → Option Value} (k : KX X h h') (e : h.Ns a m) (n : a ∉ X) : h'.Ns a m := e.at' fun o q => k a o n q
theorem not_mem1 {a b : Addr} (h : a ≠ b) : a ∉ [b] := fun q => h (List.mem_singleton.mp q)
theorem Ext.trans {h h' h'' : Heap} (a : Ext h h') (b : Ext h' h'') : Ext h h'' := fun c o e => b c o (a c o e)
theorem Ext.push {h : Heap} (o : Obj) : Ext h (h.push o) := fun _ _ e => Heap.get?_push_of_some _ e

section
variable {w : World} {G : Shared} {A : Around} {h : Heap} {env : Env}

/-- the post behind a bound name: smaller terms -/
theorem W.hide {α : Type} {t : Sem α} {Q : α → Heap → Prop} (H : ∀ Q', (∀ a h', Q a h' → Q' a h') → W w G A t h Q') : W w G A t h Q := H Q fun _ _ q => q
/-- a for by an invariant, over any walk -/
noncomputable def ForAt (w : World) (G : Shared) (A : Around) (env : Env) (target : Expr) (body orelse : List Stmt) (Q : Flow → Heap → Prop) (it : Value) (h₂ : Heap) : Prop :=
  ∃ (I : Addr) (fp wr : List Addr) (n : Nat) (P : Nat → Value → Prop) (S : Nat → Heap → Prop) (X : List Addr) (J : Nat → Heap → Prop), it = .ref I ∧ Walks PR w A I fp wr n P S ∧ S 0 h₂ ∧ (∀ b ∈ fp, b ∉ X) ∧ J 0 h₂ ∧
    (∀ i hc hc', J i hc → KX wr hc hc' → J i hc') ∧
    (∀ i v hc, i < n → P i v → J i hc → S (i + 1) hc → W w G A (assign target env v) hc fun _ h₃ => W w G A (execs body env) h₃ fun fl h₄ => match fl with
      | .next | .cont => KX X hc h₄ ∧ J (i + 1) h₄
      | .brk => Q .next h₄
      | .ret v => Q (.ret v) h₄) ∧
    (∀ hc, J n hc → W w G A (execs orelse env) hc Q)
theorem W.for {target iter : Expr} {body orelse : List Stmt} {pos : Pos} {Q : Flow → Heap → Prop}
    (H : W w G A (eval iter env) h fun xv h₁ => W w G A (pyIter xv) h₁ fun it h₂ => ForAt w G A env target body orelse Q it h₂)
    (hs : ∀ x, foldedSetIterable iter env x = Pure.pure x := by intro _; rfl) (ht : ∀ it v, letOwnedTupleGo target it v = Pure.pure () := by intro _ _; rfl) :
    W w G A (exec (.For target iter body orelse pos) env) h Q := fun _ => by
  refine wpAny_For (W.nest (H.mono fun xv h₁ k => fun _ => W.nest (k.mono fun it h₂ k₂ => fun tk₂ => ?_))) hs
  obtain ⟨I, fp, wr, n, P, S, X, J, rfl, Wk, s0, hX, j0, stab, turn, done⟩ := k₂
  refine codeAny_forLoop (fun k s' => ∃ hc tk i, s' = St G hc tk ∧ S i hc ∧ J i hc ∧ i ≤ n ∧ k = n + 1 - i) ?_ (n + 1) ⟨h₂, tk₂, 0, rfl, s0, j0, Nat.zero_le _, rfl⟩ (ht _)
  rintro k s' ⟨hc, tk, i, rfl, si, ji, hi, rfl⟩
  by_cases hlt : i < n
  · refine Wk.item i _ _ _ hlt si fun v h₁ tk₁ pv s₁ k₁ => ?_
    have j₁ := stab i hc h₁ ji fun b o hb e => k₁ b o hb e
    refine W.nest ((turn i v h₁ hlt pv j₁ s₁).mono fun _ h₃ k₃ => fun _ => W.nest (k₃.mono fun fl h₄ k₄ => fun tk₄ => ?_))
    cases fl with
    | ret v => exact ⟨h₄, tk₄, rfl, k₄⟩
    | brk => exact ⟨h₄, tk₄, rfl, k₄⟩
    | next => exact ⟨n + 1 - (i + 1), by omega, h₄, tk₄, i + 1, rfl, Wk.frame _ _ _ s₁ fun b hb o e => k₄.1 b o (hX b hb) e, k₄.2, hlt, rfl⟩
    | cont => exact ⟨n + 1 - (i + 1), by omega, h₄, tk₄, i + 1, rfl, Wk.frame _ _ _ s₁ fun b hb o e => k₄.1 b o (hX b hb) e, k₄.2, hlt, rfl⟩
  · have : i = n := by omega
    subst this
    refine Wk.done _ _ _ si fun h₁ tk₁ k₁ => ?_
    exact W.nest ((done h₁ (stab i hc h₁ ji fun b o hb e => k₁ b o hb e)).mono fun fl h₃ q => fun tk₃ => ⟨h₃, tk₃, rfl, q⟩)
theorem W.assignName {x : Str} {px : Pos} {v : Value} {Q : Unit → Heap → Prop} (H : W w G A (storeName env x v) h Q) : W w G A (PySem.assign (Expr.Name x px) env v) h Q := fun tk => wpAny_assign_Name (H tk)

/-- range(e) and its iterator -/
theorem W.rangeIt {cn : Str} {cs : Scope} {L a : Addr} {ccd : Value} {cl : List (Str × Addr)} {e : Expr} {rp rpos : Pos} {N : Int} {K : Value → Heap → Prop} (g : Gd w h) (hh : A.handled = none) (hN : 0 ≤ N) (hN' : N < 2 ^ 62)
    (he : EV w A (envX cn cs L a ccd cl) h e (IsI N))
    (k : ∀ I h₂, Ext h h₂ → h.objs.size ≤ I → Walks PR w A I [I] [I] N.toNat (fun i v => IsI (i : Int) v) (fun i hc => IsRangeIter hc I (0 + (i : Nat) * 1) ((N.toNat : Int) - (i : Nat)) 1) →
      IsRangeIter h₂ I (0 + ((0 : Nat) : Int) * 1) ((N.toNat : Int) - ((0 : Nat) : Int)) 1 → K (.ref I) h₂)
    (hk : cs.kind = .function := by rfl) (hx : (envX cn cs L a ccd cl).kindOf "range" = some .globalImplicit := by rfl)
    (hse : backTo rpos (starEach [e] (envX cn cs L a ccd cl)) = [(false, eval e (envX cn cs L a ccd cl))] := by rfl) (hn : nsIn (Mine.hd.heap_39 w.params) mainGlobals "range" = some Option.none := by k_is) :
    W w G A (eval (.Call (.Name "range" rp) [e] [] rpos) (envX cn cs L a ccd cl)) h fun xv h₁ => W w G A (pyIter xv) h₁ K := fun _ => by
  refine wpAny_Call_NameR (W.nest ((EV.bi g hn rfl (by decide) hk hx).use fun f q => fun _ => ?_))
  cases q
  rw [hse]
  refine PyProof.Rows.callWith_type rfl (Calls.evalArgs_plain (Calls.spliced_cons (W.nest (he.use fun v ⟨t, ev⟩ => fun tk => ?_))))
  subst ev
  refine Calls.spliced_nil (call_range_1 ?_)
  refine ⟨_, _, rfl, fun tk' => wpAny_pyIter_range (IsRange.new ..) (small_one (by decide) (by decide) (by omega) hN') ?_⟩
  have hsz : Builtin.Range.rangeSize 0 N 1 = (N.toNat : Int) := by rw [rangeSize_one]; split <;> omega
  refine ⟨_, _, rfl, k _ _ (fun _ _ e => Heap.get?_push_of_some _ (Heap.get?_push_of_some _ e)) (by simp [Heap.size_push]) ?_ ?_⟩
  · have W₀ := Walks.range (prog := PR) (w := w) hh (St G h tk |>.heap.push { cls := .type "range", data := .fields #[.int 0 tk, .int N t, .int 1 (tk + 1)] }).objs.size 0 1 N.toNat
    exact ⟨W₀.sub, W₀.frame, fun i s Q E hi st hQ => W₀.item i s Q E hi st fun v h' tk' ⟨t', e'⟩ => hQ v h' tk' ⟨t', by simpa using e'⟩, W₀.done, W₀.self⟩
  · have e1 : (0 + ((0 : Nat) : Int) * 1) = 0 := by simp
    have e2 : ((N.toNat : Int) - ((0 : Nat) : Int)) = Builtin.Range.rangeSize 0 N 1 := by rw [hsz]; simp
    rw [e1, e2]
    exact Heap.get?_push_size _ rfl

/-- displays -/
theorem W.listD {es : List Expr} {pos : Pos} {Q : Value → Heap → Prop}
    (H : W w G A (spliced (backTo pos (starEach es env))) h fun vs h₁ => vs.length ≤ sizeLine ∧ ∀ l h₂, l = h₁.objs.size → Ext h₁ h₂ → h₂.IsList l vs.toArray → Q (.ref l) h₂) : W w G A (eval (.List es pos) env) h Q := fun _ =>
  wpAny_List (W.nest (H.mono fun vs h₁ k => fun tk => ⟨k.1, _, tk, rfl, k.2 _ _ rfl (Ext.push _) ⟨_, Heap.get?_push_size _ rfl, rfl, _, rfl⟩⟩))
theorem W.tupleD {es : List Expr} {n : Nat} {pos : Pos} {Q : Value → Heap → Prop}
    (H : W w G A (spliced (backTo pos (starEach es env))) h fun vs h₁ => vs.length ≤ sizeLine ∧ ∀ l h₂, l = h₁.objs.size → Ext h₁ h₂ → IsTup h₂ l vs.toArray → Q (.ref l) h₂) : W w G A (eval (.Tuple es n pos) env) h Q := fun _ =>
  wpAny_Tuple (W.nest (H.mono fun vs h₁ k => fun tk => ⟨k.1, _, tk, rfl, k.2 _ _ rfl (Ext.push _) (IsTup.new ..)⟩))
/-- an item of a list, of a tuple -/
theorem W.itemL {v i : Expr} {pos : Pos} {Q : Value → Heap → Prop}
    (H : W w G A (eval v env) h fun a h₁ => ∃ l items n x, a = .ref l ∧ h₁.IsList l items ∧ EV w A env h₁ i (IsI n) ∧ 0 ≤ n ∧ n < 2 ^ 63 ∧ items[n.toNat]? = some x ∧ Q x h₁)
    (hs : ∀ l n u, subscripted i false (.ref l) (.int n u) = operate [.ref l, .int n u] (getItem (.ref l) (.int n u)) := by intro _ _ _; with_unfolding_all rfl) : W w G A (eval (.Subscript v i pos) env) h Q := fun _ =>
  Subscript_ (W.nest (H.mono fun a h₁ ⟨l, items, n, x, e, hl, hi, h0, h1, hx, q⟩ => fun _ => by
    subst e
    exact W.nest (hi.use fun b ⟨u, e⟩ => fun tk => by
      subst e
      exact tail_any hl.typeIs slot_list_getitem.lookup (wpAny_getItem_list hl h0 h1 hx ⟨h₁, tk, rfl, q⟩) (hs _ _ _))))
theorem W.itemLneg {v i : Expr} {pos : Pos} {Q : Value → Heap → Prop}
    (H : W w G A (eval v env) h fun a h₁ => ∃ l items n x, a = .ref l ∧ h₁.IsList l items ∧ EV w A env h₁ i (IsI n) ∧ n < 0 ∧ -(items.size : Int) ≤ n ∧ -(2 ^ 63) ≤ n ∧ items[(n + items.size).toNat]? = some x ∧ Q x h₁)
    (hs : ∀ l n u, subscripted i false (.ref l) (.int n u) = operate [.ref l, .int n u] (getItem (.ref l) (.int n u)) := by intro _ _ _; with_unfolding_all rfl) : W w G A (eval (.Subscript v i pos) env) h Q := fun _ =>
  Subscript_ (W.nest (H.mono fun a h₁ ⟨l, items, n, x, e, hl, hi, h0, h1, h2, hx, q⟩ => fun _ => by
    subst e
    exact W.nest (hi.use fun b ⟨u, e⟩ => fun tk => by
      subst e
      exact tail_any hl.typeIs slot_list_getitem.lookup (wpAny_getItem_list_neg hl h0 h1 h2 hx ⟨h₁, tk, rfl, q⟩) (hs _ _ _))))
theorem W.itemT {v i : Expr} {pos : Pos} {Q : Value → Heap → Prop}
    (H : W w G A (eval v env) h fun a h₁ => ∃ l items n j x, a = .ref l ∧ IsTup h₁ l items ∧ EV w A env h₁ i (IsI n) ∧ -(2 ^ 63) ≤ n ∧ n < 2 ^ 63 ∧ seqIndex? n items.size = some j ∧ items[j]? = some x ∧ Q x h₁)
    (hs : ∀ l n u, subscripted i false (.ref l) (.int n u) = operate [.ref l, .int n u] (getItem (.ref l) (.int n u)) := by intro _ _ _; with_unfolding_all rfl) : W w G A (eval (.Subscript v i pos) env) h Q := fun _ =>
  Subscript_ (W.nest (H.mono fun a h₁ ⟨l, items, n, j, x, e, hl, hi, h0, h1, hj, hx, q⟩ => fun _ => by
    subst e
    exact W.nest (hi.use fun b ⟨u, e⟩ => fun tk => by
      subst e
      exact tail_any hl.typeIs slot_tuple_getitem.lookup (getItem_tuple hl h0 h1 hj hx ⟨h₁, tk, rfl, q⟩) (hs _ _ _))))
/-- arguments that leave the heap -/
theorem W.args1 {e : Expr} {pos : Pos} {P : Value → Prop} {Q : List Value → Heap → Prop} (h1 : EV w A env h e P) (k : ∀ v, P v → Q [v] h) (hs : starEach [e] env = (false, eval e env) :: starEach [] env := by rfl) : W w G A (spliced (backTo pos (starEach [e] env))) h Q :=
  W.args_cons (h1.use fun v p => W.args_nil (k v p)) hs
theorem W.args2 {e e' : Expr} {pos : Pos} {P P' : Value → Prop} {Q : List Value → Heap → Prop} (h1 : EV w A env h e P) (h2 : EV w A env h e' P') (k : ∀ v v', P v → P' v' → Q [v, v'] h)
    (hs : starEach [e, e'] env = (false, eval e env) :: starEach [e'] env := by rfl) (hs' : starEach [e'] env = (false, eval e' env) :: starEach [] env := by rfl) : W w G A (spliced (backTo pos (starEach [e, e'] env))) h Q :=
  W.args_cons (h1.use fun v p => W.args1 h2 (fun v' p' => k v v' p p') hs') hs

theorem W.args1V {e : Expr} {pos : Pos} {x : Value} {Q : List Value → Heap → Prop} (h1 : EV w A env h e (IsV x)) (k : Q [x] h) (hs : starEach [e] env = (false, eval e env) :: starEach [] env := by rfl) : W w G A (spliced (backTo pos (starEach [e] env))) h Q :=
  W.args1 h1 (fun _ q => q ▸ k) hs
theorem W.args1I {e : Expr} {pos : Pos} {n : Int} {Q : List Value → Heap → Prop} (h1 : EV w A env h e (IsI n)) (k : ∀ t, Q [.int n t] h) (hs : starEach [e] env = (false, eval e env) :: starEach [] env := by rfl) : W w G A (spliced (backTo pos (starEach [e] env))) h Q :=
  W.args1 h1 (fun _ ⟨t, q⟩ => q ▸ k t) hs
theorem W.args2V {e e' : Expr} {pos : Pos} {x y : Value} {Q : List Value → Heap → Prop} (h1 : EV w A env h e (IsV x)) (h2 : EV w A env h e' (IsV y)) (k : Q [x, y] h)
    (hs : starEach [e, e'] env = (false, eval e env) :: starEach [e'] env := by rfl) (hs' : starEach [e'] env = (false, eval e' env) :: starEach [] env := by rfl) : W w G A (spliced (backTo pos (starEach [e, e'] env))) h Q :=
  W.args2 h1 h2 (fun _ _ q q' => q ▸ q' ▸ k) hs hs'
theorem W.args2I {e e' : Expr} {pos : Pos} {m n : Int} {Q : List Value → Heap → Prop} (h1 : EV w A env h e (IsI m)) (h2 : EV w A env h e' (IsI n)) (k : ∀ t u, Q [.int m t, .int n u] h)
    (hs : starEach [e, e'] env = (false, eval e env) :: starEach [e'] env := by rfl) (hs' : starEach [e'] env = (false, eval e' env) :: starEach [] env := by rfl) : W w G A (spliced (backTo pos (starEach [e, e'] env))) h Q :=
  W.args2 h1 h2 (fun _ _ ⟨t, q⟩ ⟨u, q'⟩ => q ▸ q' ▸ k t u) hs hs'
theorem W.args2VI {e e' : Expr} {pos : Pos} {x : Value} {n : Int} {Q : List Value → Heap → Prop} (h1 : EV w A env h e (IsV x)) (h2 : EV w A env h e' (IsI n)) (k : ∀ u, Q [x, .int n u] h)
    (hs : starEach [e, e'] env = (false, eval e env) :: starEach [e'] env := by rfl) (hs' : starEach [e'] env = (false, eval e' env) :: starEach [] env := by rfl) : W w G A (spliced (backTo pos (starEach [e, e'] env))) h Q :=
  W.args2 h1 h2 (fun _ _ q ⟨u, q'⟩ => q ▸ q' ▸ k u) hs hs'

/-! ## a frame: its names, what stands since the call, what stands since a mark -/
structure Fk (T X : List Addr) (h : Heap) (L : Addr) (m : Str → Option Value) (hb hc : Heap) : Prop where
  ns : hc.Ns L m
  ext : KX T h hc
  kp : KX X hb hc
  mem : L ∈ X
  lt : @LE.le Nat _ h.objs.size L
theorem lt_of_get {h : Heap} {b : Addr} {o : Obj} (e : h.get? b = some o) : @LT.lt Nat _ b h.objs.size := Heap.lt_size e
theorem Fk.mark {T X : List Addr} {h hb hc : Heap} {L : Addr} {m : Str → Option Value} (F : Fk T X h L m hb hc) : Fk T X h L m hc hc := ⟨F.ns, F.ext, KX.refl _ _, F.mem, F.lt⟩
theorem Fk.since {T X : List Addr} {h hb hc hd : Heap} {L : Addr} {m m' : Str → Option Value} (F : Fk T X h L m hb hc) (F' : Fk T X h L m' hc hd) : Fk T X h L m' hb hd := ⟨F'.ns, F'.ext, F.kp.trans F'.kp, F.mem, F.lt⟩
theorem Fk.more {T X : List Addr} {h hb hc h' : Heap} {L : Addr} {m : Str → Option Value} (F : Fk T X h L m hb hc) (e : Ext hc h') : Fk T X h L m hb h' :=
  ⟨F.ns.keeps e, fun b o n q => e b o (F.ext b o n q), fun b o n q => e b o (F.kp b o n q), F.mem, F.lt⟩
/-- the iterator's own turn -/
theorem Fk.kx {T X Y : List Addr} {h hb hc h' : Heap} {L : Addr} {m : Str → Option Value} (F : Fk T X h L m hb hc) (k : KX Y hc h') (hY : ∀ b ∈ Y, @LT.lt Nat _ L b) (hY' : ∀ b ∈ Y, @LE.le Nat _ hb.objs.size b) : Fk T X h L m hb h' :=
  ⟨k.ns F.ns fun q => Nat.lt_irrefl _ (hY _ q), fun b o n q => k b o (fun z => by have := hY _ z; have := lt_of_get q; have := F.lt; omega) (F.ext b o n q),
    fun b o n q => k b o (fun z => by have := hY' _ z; have := lt_of_get q; omega) (F.kp b o n q), F.mem, F.lt⟩
theorem Fk.upd {T X : List Addr} {h hb hc h' : Heap} {L a : Addr} {m : Str → Option Value} (F : Fk T X h L m hb hc) (s : Heap.SameBut a hc h') (ha : a ∈ X) (hne : a ≠ L) (hlt : @LE.le Nat _ h.objs.size a) : Fk T X h L m hb h' :=
  ⟨F.ns.sameBut s (Ne.symm hne), fun b o n q => (s.2 b fun z => by have := lt_of_get q; rw [z] at this; omega).trans (F.ext b o n q), F.kp.trans (KX.same s ha), F.mem, F.lt⟩
theorem Fk.gd {T X : List Addr} {h hb hc : Heap} {L : Addr} {m : Str → Option Value} (F : Fk T X h L m hb hc) (g : Gd w h) (hT : ∀ b ∈ T, b ∈ ([133, 140] : List Addr)) : Gd w hc := g.keepsX (F.ext.mono hT)
theorem Fk.gd0 {X : List Addr} {h hb hc : Heap} {L : Addr} {m : Str → Option Value} (F : Fk [] X h L m hb hc) (g : Gd w h) : Gd w hc := F.gd g (fun _ q => (nomatch q))
theorem Fk.ext0 {X : List Addr} {h hb hc : Heap} {L : Addr} {m : Str → Option Value} (F : Fk [] X h L m hb hc) : Ext h hc := fun b o e => F.ext b o (fun q => (nomatch q)) e
theorem Fk.at {T X : List Addr} {h hb hc : Heap} {L : Addr} {m : Str → Option Value} (F : Fk T X h L m hb hc) {a : Addr} {o : Obj} (e : h.get? a = some o) (n : a ∉ T) : hc.get? a = some o := F.ext a o n e
theorem W.st {T X : List Addr} {h₀ hb : Heap} {L : Addr} {x : Str} {v : Value} {m : Str → Option Value} {Q : Unit → Heap → Prop} (F : Fk T X h₀ L m hb h)
    (k : ∀ h', Fk T X h₀ L (fun y => if y = x then some v else m y) hb h' → Heap.SameBut L h h' → Q () h') (hL : env.locals = L := by rfl) (hl : env.kindOf x = some .local := by rfl)
    (hp : (env.scope.kind == .class || (env.scope.kind == .module && env.locals != env.globals)) = false := by rfl) : W w G A (storeName env x v) h Q := by
  subst hL
  refine W.store F.ns hl (fun h' n s => k h' ⟨n, fun b o nb q => (s.2 b fun z => ?_).trans (F.ext b o nb q), F.kp.trans (KX.same s F.mem), F.mem, F.lt⟩ s) hp
  have := lt_of_get q; have := F.lt; rw [z] at *; omega
theorem EV.lc {T X : List Addr} {h₀ hb : Heap} {L : Addr} {x : Str} {pos : Pos} {m : Str → Option Value} {v : Value} {P : Value → Prop} (F : Fk T X h₀ L m hb h) (hv : m x = some v) (p : P v) (hL : env.locals = L := by rfl) (hl : env.kindOf x = some .local := by rfl)
    (hk : env.scope.kind = .function := by rfl) (hd : (x == ("__debug__" : Str)) = false := by decide) : EV w A env h (.Name x pos) P := by
  subst hL; exact EV.loc F.ns hv p hl hk hd
/-- a def without cells is entered -/
theorem W.into {f : Addr} {o : Obj} {name qual : Str} {params : Arguments} {body : List Stmt} {scope : Scope} {cl : List (Str × Addr)} {dV kV doc pm cdv ct : Value} {an : Option Addr} {vs : List Value} {binds : List (Str × Value)} {Q : Value → Heap → Prop} {k : Nat} (T : List Addr)
    (r : Rm A (k + 1)) (hl : h.NoLimit) (ho : h.get? f = some o) (hd : o.data = .func (fnX name qual params body scope cl dV kV doc pm an cdv ct)) (hc : h.CodeRec cdv qual)
    (hb : ∀ tk, BindsTo (St G h tk) (fnX name qual params body scope cl dV kV doc pm an cdv ct) ⟨vs, []⟩ binds) (hloc : (binds.all fun x => decide (scope.names.lookup x.1 = some .local)) = true)
    (H : ∀ L h₁, Fk T [L] h L (fun x => binds.reverse.lookup x) h₁ h₁ → Ext h h₁ →
      W w G (A.deeper (envX qual scope L f cdv cl)) (execs body (envX qual scope L f cdv cl)) h₁ fun fl h' => Q (match fl with | .ret v => v | _ => .none) h')
    (hcell : ∀ x ∈ scope.names, x.2 ≠ .cell := by decide) (hco : scope.isCoroutine = false := by rfl) (hgen : scope.isGenerator = false := by rfl) (hk : scope.kind = .function := by rfl) : W w G A (call (.ref f) vs) h Q :=
  W.enter r hl ho hd hc hb hloc (fun h₁ n e => H _ h₁ ⟨n, KX.ofExt e, KX.refl _ _, List.mem_singleton.mpr rfl, Nat.le_refl _⟩ e) hcell hco hgen hk
/-- for x in range(e), the frame kept -/
theorem W.forRange {cn : Str} {cs : Scope} {L a : Addr} {ccd : Value} {cl : List (Str × Addr)} {T X : List Addr} {h₀ hb : Heap} {m : Str → Option Value} {x : Str} {e : Expr} {px rp rpos pos : Pos} {body : List Stmt} {N : Int} {Q : Flow → Heap → Prop}
    (F : Fk T X h₀ L m hb h) (g : Gd w h) (hh : A.handled = none) (hN : 0 ≤ N) (hN' : N < 2 ^ 62) (he : EV w A (envX cn cs L a ccd cl) h e (IsI N)) (hX : ∀ b ∈ X, @LT.lt Nat _ b h.objs.size)
    (J : Nat → (Str → Option Value) → Heap → Prop) (j0 : ∀ h', Ext h h' → J 0 m h') (stab : ∀ I i m' hc hc', @LE.le Nat _ h.objs.size I → J i m' hc → KX [L, I] hc hc' → J i m' hc')
    (turn : ∀ (i : Nat) t m' hc, (i : Int) < N → J i m' hc → Fk T X h₀ L (fun y => if y = x then some (.int (i : Int) t) else m' y) hc hc → KX X h hc →
      W w G A (execs body (envX cn cs L a ccd cl)) hc fun fl h₄ => match fl with
        | .next | .cont => ∃ m₄, Fk T X h₀ L m₄ hc h₄ ∧ J (i + 1) m₄ h₄
        | .brk => Q .next h₄
        | .ret v => Q (.ret v) h₄)
    (done : ∀ m' hc, Fk T X h₀ L m' hb hc → J N.toNat m' hc → Q .next hc)
    (hkx : (envX cn cs L a ccd cl).kindOf x = some .local := by rfl)
    (hk : cs.kind = .function := by rfl) (hx : (envX cn cs L a ccd cl).kindOf "range" = some .globalImplicit := by rfl)
    (hse : backTo rpos (starEach [e] (envX cn cs L a ccd cl)) = [(false, eval e (envX cn cs L a ccd cl))] := by rfl) (hn : nsIn (Mine.hd.heap_39 w.params) mainGlobals "range" = some Option.none := by k_is) :
    W w G A (exec (.For (.Name x px) (.Call (.Name "range" rp) [e] [] rpos) body [] pos) (envX cn cs L a ccd cl)) h Q := by
  refine W.for (W.rangeIt g hh hN hN' he (fun I h₂ e₂ hI Wk s0 => ?_) hk hx hse hn) (by intro _; rfl) (by intro _ _; rfl)
  have hI : @LE.le Nat _ h.objs.size I := hI
  have hLI : @LT.lt Nat _ L I := Nat.lt_of_lt_of_le (hX L F.mem) hI
  refine ⟨I, [I], [I], N.toNat, _, _, X, fun i hc => ∃ m', Fk T X h₀ L m' h hc ∧ J i m' hc, rfl, Wk, s0, ?_, ⟨m, F.mark.more e₂, j0 h₂ e₂⟩, ?_, ?_, ?_⟩
  · intro b hb hbX
    rw [List.mem_singleton.mp hb] at hbX
    exact Nat.lt_irrefl _ (Nat.lt_of_lt_of_le (hX I hbX) hI)
  · rintro i hc hc' ⟨m', F', j'⟩ k
    exact ⟨m', F'.kx k (fun b hb => by rw [List.mem_singleton.mp hb]; exact hLI) (fun b hb => by rw [List.mem_singleton.mp hb]; exact hI), stab I i m' hc hc' hI j' (k.mono fun b hb => .tail _ hb)⟩
  · rintro i v hc hi ⟨t, rfl⟩ ⟨m', F', j'⟩ _
    refine W.assignName (W.st F' (fun h₃ F₃ s₃ => ?_) rfl hkx (by show (cs.kind == .class || (cs.kind == .module && _)) = false; rw [hk]; rfl))
    refine (turn i t m' h₃ (by omega) (stab I i m' hc h₃ hI j' (KX.same s₃ (.head _))) F₃.mark F₃.kp).mono fun fl h₄ q => ?_
    have kx : ∀ m₄, Fk T X h₀ L m₄ h₃ h₄ → KX X hc h₄ := fun m₄ F₄ => (KX.same s₃ F.mem).trans F₄.kp
    cases fl with
    | next => obtain ⟨m₄, F₄, j₄⟩ := q; exact ⟨kx m₄ F₄, m₄, F₃.since F₄, j₄⟩
    | cont => obtain ⟨m₄, F₄, j₄⟩ := q; exact ⟨kx m₄ F₄, m₄, F₃.since F₄, j₄⟩
    | brk => exact q
    | ret v => exact q
  · rintro hc ⟨m', F', j'⟩
    exact W.execs_nil (done m' hc (F.since F') j')
end
end Mine
namespace Mine
section
variable {w : World} {G : Shared} {A : Around} {h : Heap} {env : Env}
/-- a for by an invariant, over any turns -/
noncomputable def ForK (w : World) (G : Shared) (A : Around) (env : Env) (target : Expr) (body orelse : List Stmt) (Q : Flow → Heap → Prop) (it : Value) (h₂ : Heap) : Prop :=
  ∃ (I : Addr) (fp wr : List Addr) (n : Nat) (P Md : Nat → Value → Heap → Prop) (S : Nat → Heap → Prop) (X : List Addr) (J : Nat → Heap → Prop), it = .ref I ∧ KTurns PR w A target I fp wr n P Md S ∧ S 0 h₂ ∧ (∀ b ∈ fp, b ∉ X) ∧ J 0 h₂ ∧
    (∀ i hc hc', J i hc → KX wr hc hc' → J i hc') ∧
    (∀ i v hc, i < n → P i v hc → J i hc → S (i + 1) hc → W w G A (PySem.assign target env v) hc fun _ h₃ => W w G A (execs body env) h₃ fun fl h₄ => match fl with
      | .next | .cont => KX X hc h₄ ∧ J (i + 1) h₄
      | .brk => Q .next h₄
      | .ret v => Q (.ret v) h₄) ∧
    (∀ hc, J n hc → W w G A (execs orelse env) hc Q)
theorem W.forK {target iter : Expr} {body orelse : List Stmt} {pos : Pos} {Q : Flow → Heap → Prop}
    (H : W w G A (eval iter env) h fun xv h₁ => W w G A (pyIter xv) h₁ fun it h₂ => ForK w G A env target body orelse Q it h₂)
    (hs : ∀ x, foldedSetIterable iter env x = Pure.pure x := by intro _; rfl) :
    W w G A (exec (.For target iter body orelse pos) env) h Q := fun _ => by
  refine wpAny_For (W.nest (H.mono fun xv h₁ k => fun _ => W.nest (k.mono fun it h₂ k₂ => fun tk₂ => ?_))) hs
  obtain ⟨I, fp, wr, n, P, Md, S, X, J, rfl, Wk, s0, hX, j0, stab, turn, done⟩ := k₂
  refine codeAny_forLoop_any (fun k s' => ∃ hc tk i, s' = St G hc tk ∧ S i hc ∧ J i hc ∧ i ≤ n ∧ k = n + 1 - i) ?_ (n + 1) ⟨h₂, tk₂, 0, rfl, s0, j0, Nat.zero_le _, rfl⟩
  rintro k s' ⟨hc, tk, i, rfl, si, ji, hi, rfl⟩
  by_cases hlt : i < n
  · refine Wk.item i _ _ _ hlt si fun v h₁ tk₁ md k₁ => ?_
    refine Wk.go i v _ _ _ md fun h₂ pv s₁ k₂ => ?_
    have j₁ := stab i hc h₂ ji fun b o hb e => k₂ b o hb (k₁ b o hb e)
    refine W.nest ((turn i v h₂ hlt pv j₁ s₁).mono fun _ h₃ k₃ => fun _ => W.nest (k₃.mono fun fl h₄ k₄ => fun tk₄ => ?_))
    cases fl with
    | ret v => exact ⟨h₄, tk₄, rfl, k₄⟩
    | brk => exact ⟨h₄, tk₄, rfl, k₄⟩
    | next => exact ⟨n + 1 - (i + 1), by omega, h₄, tk₄, i + 1, rfl, Wk.frame _ _ _ s₁ fun b hb o e => k₄.1 b o (hX b hb) e, k₄.2, hlt, rfl⟩
    | cont => exact ⟨n + 1 - (i + 1), by omega, h₄, tk₄, i + 1, rfl, Wk.frame _ _ _ s₁ fun b hb o e => k₄.1 b o (hX b hb) e, k₄.2, hlt, rfl⟩
  · have : i = n := by omega
    subst this
    refine Wk.done _ _ _ si fun h₁ tk₁ k₁ => ?_
    exact W.nest ((done h₁ (stab i hc h₁ ji fun b o hb e => k₁ b o hb e)).mono fun fl h₃ q => fun tk₃ => ⟨h₃, tk₃, rfl, q⟩)

/-! ## a tuple's turns -/
theorem goes_tupleiter {elts : List Expr} {k : Nat} {pos : Pos} {I t : Addr} {i : Nat} {v : Value} {E : Value → Shared → Prop} {s : Shared} {Q : Unit → Shared → Prop} (hI : s.heap.IsTupleIter I t i) (q : Q () s) :
    wpAny (model PR w) A (letOwnedTupleGo (.Tuple elts k pos) (.ref I) v) Q E s := by
  obtain ⟨o, ho, hc, hd⟩ := hI
  unfold letOwnedTupleGo
  cases v <;> first
    | exact wpAny_pure q
    | (refine wpAny_bind (wpAny_load ho ?_)
       rw [hc, hd]
       dsimp only
       rw [if_neg (by simp)]
       exact wpAny_pure q)
theorem turns_tuple {elts : List Expr} {k : Nat} {pos : Pos} (hh : A.handled = none) (I t : Addr) (hne : t ≠ I) (items : Array Value) :
    KTurns PR w A (.Tuple elts k pos) I [I, t] [I] items.size (fun i v _ => items[i]? = some v) (fun i v h => items[i]? = some v ∧ h.IsTupleIter I t (i + 1) ∧ h.IsTuple t items) (fun i h => h.IsTupleIter I t i ∧ h.IsTuple t items) :=
  KTurns.ofWalks (Walks.tuple hh I t hne items) fun i v s Q E st q => goes_tupleiter st.1 q

/-! ## enumerate over a tuple -/
theorem next_tuple_item {s : Shared} {E : Value → Shared → Prop} {it t : Addr} {i : Nat} {items} {x : Value} {Q : Value → Shared → Prop} (hit : s.heap.IsTupleIter it t i) (ht : s.heap.IsTuple t items) (hx : items[i]? = some x)
    (hQ : ∀ h', h'.IsTupleIter it t (i + 1) → Heap.SameBut it s.heap h' → Q x { s with heap := h' }) : wpAny (model PR w) A (Builtin.SmallTypes.nextOf (.ref it)) Q E s := by
  obtain ⟨o, ho, hc, hd⟩ := id hit
  obtain ⟨ol, hol, _, nl, hdl⟩ := ht
  unfold Builtin.SmallTypes.nextOf
  refine wpAny_bind (wpAny_callSpecial?_slot (name := Str.ofString "__next__") hit.typeIs F.slot_tuple_iterator_next
    (wpAny_call_entry F.slot_tuple_iterator_next hit.typeIs F.entry_tuple_iterator_next ?_ (F.args_tuple_iterator_next_1 _)))
  show wpAny _ _ (field (.ref it) 0 >>= _) _ _ s
  refine wpAny_bind (wpAny_field ho hd (x := .ref t) rfl ?_)
  show wpAny _ _ (if (Value.ref t == Value.none) = true then _ else _) _ _ s
  rw [if_neg (show ¬ ((Value.ref t == Value.none) = true) from Bool.false_ne_true)]
  show wpAny _ _ (field (.ref it) 1 >>= _) _ _ s
  refine wpAny_bind (wpAny_field ho hd (x := .int i 0) rfl ?_)
  show wpAny _ _ (seqItems? (.ref t) >>= _) _ _ s
  refine wpAny_bind (wpAny_seqItems hol hdl ?_)
  simp only [Int.toNat_natCast, hx]
  refine wpAny_bind (wpAny_setField ho hd (by simp) (wpAny_pure ⟨x, rfl, wpAny_pure (hQ _ ?_ (Heap.SameBut.update ..))⟩))
  exact ⟨_, Heap.get?_update_self _ ho (Obj.isFreed_of_fields (Obj.data_mapFields hd _)), (Obj.cls_mapFields ..).trans hc, by
    rw [Obj.data_mapFields hd]; simp [rawInt]⟩
theorem next_tuple_end {s : Shared} {E : Value → Shared → Prop} {it t : Addr} {i : Nat} {items} {Q : Value → Shared → Prop} (hh : A.handled = none) (hit : s.heap.IsTupleIter it t i) (ht : s.heap.IsTuple t items) (hx : items[i]? = none)
    (hE : ∀ h' e, Heap.ExtBut it s.heap h' → (∃ o, h'.get? e = some o ∧ o.cls = .type "StopIteration") → E (.ref e) { s with heap := h' }) : wpAny (model PR w) A (Builtin.SmallTypes.nextOf (.ref it)) Q E s := by
  obtain ⟨o, ho, hc, hd⟩ := id hit
  obtain ⟨ol, hol, _, nl, hdl⟩ := ht
  unfold Builtin.SmallTypes.nextOf
  refine wpAny_bind (wpAny_callSpecial?_slot (name := Str.ofString "__next__") hit.typeIs F.slot_tuple_iterator_next
    (wpAny_call_entry F.slot_tuple_iterator_next hit.typeIs F.entry_tuple_iterator_next ?_ (F.args_tuple_iterator_next_1 _)))
  show wpAny _ _ (field (.ref it) 0 >>= _) _ _ s
  refine wpAny_bind (wpAny_field ho hd (x := .ref t) rfl ?_)
  show wpAny _ _ (if (Value.ref t == Value.none) = true then _ else _) _ _ s
  rw [if_neg (show ¬ ((Value.ref t == Value.none) = true) from Bool.false_ne_true)]
  show wpAny _ _ (field (.ref it) 1 >>= _) _ _ s
  refine wpAny_bind (wpAny_field ho hd (x := .int i 0) rfl ?_)
  show wpAny _ _ (seqItems? (.ref t) >>= _) _ _ s
  refine wpAny_bind (wpAny_seqItems hol hdl ?_)
  simp only [Int.toNat_natCast, hx]
  refine wpAny_bind (wpAny_rule (wpAny_bind (wpAny_setField ho hd (by simp) ?_)))
  show wpAny _ _ (newExc (.type "StopIteration") [] >>= _) _ _ _
  refine wpAny_bind ?_
  simp only [newExc, newTuple]
  refine wpAny_bind (wpAny_newObj_type ?_ (by size_fits))
  refine wpAny_bind (m := firstArgMember _ _) (wpAny_of_eq (a := Value.none) (by first | rfl | (simp only [firstArgMember]; rfl)) ?_)
  refine wpAny_newObj_type ?_ (by size_fits)
  simp only [raiseNew]
  refine wpAny_bind (wpAny_handled ?_)
  first | rw [show A.in1.handled = none from hh] | rw [hh]
  refine wpAny_bind (wpAny_pure (wpAny_throw ?_))
  exact hE _ _ (((Heap.SameBut.update ..).extBut.push _).push _) ⟨_, Heap.get?_push_size _ rfl, rfl⟩
theorem draws_tuple (hh : A.handled = none) (it t : Addr) (hne : t ≠ it) (items : Array Value) :
    Draws PR w A it [it, t] items.size (fun i v => items[i]? = some v) (fun i h => h.IsTupleIter it t i ∧ h.IsTuple t items) where
  live := fun _ _ st => let ⟨o, ho, _⟩ := st.1; ⟨o, ho⟩
  frame := fun _ _ _ st hk => ⟨st.1.at fun o e => hk it (by simp) o e, st.2.at fun o e => hk t (by simp) o e⟩
  item := fun i s Q E hi st hQ => by
    refine next_tuple_item st.1 st.2 (x := items[i]) (by simp [hi]) fun h' hit' hs' => ?_
    exact hQ _ h' s.toks (by simp [hi]) ⟨hit', st.2.extBut hs'.extBut hne⟩ hs'
  done := fun s Q E st hE => next_tuple_end hh st.1 st.2 (by simp) hE

theorem meets_enum_tuple (l : Addr) (items : Array Value) (n : Nat) (dct : Option Addr) (sl : Array (Option Value)) :
    Meets (Builtin.«enumerate.__new__» ⟨[.type "enumerate", .ref l], []⟩) (fun _ R s => s.heap.get? l = some { cls := .type "tuple", dict := dct, data := .seq items n, slots := sl } ∧
      R (.ok (.ret (.ref (s.heap.push { cls := .type "tuple_iterator", data := .fields #[.ref l, .int 0 0] }).objs.size)))
        { s with heap := (s.heap.push { cls := .type "tuple_iterator", data := .fields #[.ref l, .int 0 0] }).push { cls := .type "enumerate", data := .fields #[.none, .bool false, .ref s.heap.objs.size, rawInt 0, .none, .none] } }) :=
  .of_wp fun prog w A R s h => by
    obtain ⟨hp, g, d, tk, os⟩ := s; obtain ⟨hl, h⟩ := h
    have hsub := sub_enumerate
    have hL : Heap.IsTuple (Shared.heap ⟨hp, g, d, tk, os⟩) l items := ⟨_, hl, rfl, n, rfl⟩
    wp_walk using AutoSeq1.wpAny_loadPart' hl
    refine wpAny_stack_any fun st => wpAny_pure ?_
    split
    · rename_i c _ _ _ _ _
      cases (c == Value.type "enumerate")
      · wp_walk using AutoSeq1.wpAny_loadPart' hl, wpAny_pyIter_tuple hL
        exact ⟨_, rfl, h⟩
      · wp_walk using AutoSeq1.wpAny_loadPart' hl, wpAny_pyIter_tuple hL
        exact ⟨_, rfl, h⟩
    · wp_walk using AutoSeq1.wpAny_loadPart' hl, wpAny_pyIter_tuple hL
      exact ⟨_, rfl, h⟩
theorem call_enum_tuple {s : Shared} {E : Value → Shared → Prop} {l : Addr} {items : Array Value} {Q : Value → Shared → Prop} (hL : s.heap.IsTuple l items)
    (h : ∀ h', IsEnum h' (s.heap.objs.size + 1) s.heap.objs.size 0 .none → h'.IsTupleIter s.heap.objs.size l 0 → Ext s.heap h' → Q (.ref (s.heap.objs.size + 1)) { s with heap := h' }) :
    wpAny (model PR w) A (call (.type "enumerate") [.ref l]) Q E s := by
  obtain ⟨⟨c, dct, dt, sl⟩, hl, hc, n, hd⟩ := hL
  replace hc : c = .type "tuple" := hc
  replace hd : dt = .seq items n := hd
  subst hc hd
  refine callType_new F.called_enumerate (by decide) (F.typeCall_enumerate_1 _) (F.newCall_enumerate_1 _) (fun obj => F.args_object_init_2 obj _) F.entry_enumerate_new (meets_enum_tuple l items n dct sl) ⟨hl, ?_⟩
  have hz : (s.heap.push { cls := .type "tuple_iterator", data := .fields #[.ref l, .int 0 0] }).objs.size = s.heap.objs.size + 1 := Heap.size_push ..
  show _ ∧ _
  rw [hz]
  have he : IsEnum ((s.heap.push { cls := .type "tuple_iterator", data := .fields #[.ref l, .int 0 0] }).push
      { cls := .type "enumerate", data := .fields #[.none, .bool false, .ref s.heap.objs.size, rawInt 0, .none, .none] }) (s.heap.objs.size + 1) s.heap.objs.size 0 .none := by
    have := Heap.get?_push_size (s.heap.push { cls := .type "tuple_iterator", data := .fields #[.ref l, .int 0 0] })
      (o := { cls := .type "enumerate", data := .fields #[.none, .bool false, .ref s.heap.objs.size, rawInt 0, .none, .none] }) rfl
    rw [hz] at this; exact this
  exact ⟨⟨_, he, rfl⟩, h _ he ⟨_, Heap.get?_push_of_some _ (Heap.get?_push_size _ rfl), rfl, rfl⟩ fun b o x => Heap.get?_push_of_some _ (Heap.get?_push_of_some _ x)⟩
/-- enumerate(e) over a tuple: its turns -/
theorem W.enumIt {cn : Str} {cs : Scope} {L a : Addr} {ccd : Value} {cl : List (Str × Addr)} {e : Expr} {rp rpos : Pos} {t : Addr} {items : Array Value} {K : Value → Heap → Prop} (g : Gd w h) (hh : A.handled = none)
    (he : EV w A (envX cn cs L a ccd cl) h e (IsV (.ref t))) (ht : h.IsTuple t items)
    (k : ∀ (I it : Addr) h₂, Ext h h₂ → @LE.le Nat _ h.objs.size I → @LE.le Nat _ h.objs.size it → ∀ Md S, (∀ elts kk tpos, KTurns PR w A (.Tuple elts kk tpos) I [I, it, t] [I, it] items.size (fun i v hc => ∃ T vals, v = .ref T ∧ (∃ t x, items[i]? = some x ∧ vals = #[.int (i : Int) t, x]) ∧ hc.IsTuple T vals) Md S) → S 0 h₂ → K (.ref I) h₂)
    (hk : cs.kind = .function := by rfl) (hx : (envX cn cs L a ccd cl).kindOf "enumerate" = some .globalImplicit := by rfl)
    (hse : backTo rpos (starEach [e] (envX cn cs L a ccd cl)) = [(false, eval e (envX cn cs L a ccd cl))] := by rfl) (hn : nsIn (Mine.hd.heap_39 w.params) mainGlobals "enumerate" = some Option.none := by k_is) :
    W w G A (eval (.Call (.Name "enumerate" rp) [e] [] rpos) (envX cn cs L a ccd cl)) h fun xv h₁ => W w G A (pyIter xv) h₁ K := fun _ => by
  refine wpAny_Call_NameR (W.nest ((EV.bi g hn rfl (by decide) hk hx).use fun f q => fun _ => ?_))
  cases q
  rw [hse]
  refine PyProof.Rows.callWith_type rfl (Calls.evalArgs_plain (Calls.spliced_cons (W.nest (he.use fun v ev => fun tk => ?_))))
  cases ev
  refine Calls.spliced_nil (call_enum_tuple (s := St G h tk) ht fun h' ie ii ex => ⟨h', tk, rfl, fun tk' => wpAny_pyIter_enum ie ⟨h', tk', rfl, ?_⟩⟩)
  have hlt : @LT.lt Nat _ t h.objs.size := by obtain ⟨o, ho, _⟩ := ht; exact lt_of_get ho
  have tn : t ≠ h.objs.size := Nat.ne_of_lt hlt
  have tn1 : t ≠ h.objs.size + 1 := Nat.ne_of_lt (Nat.lt_succ_of_lt hlt)
  have D := WalksT.enumerateD (prog := PR) (w := w) (A := A) (draws_tuple (A := A.in1) hh h.objs.size t tn items) (h.objs.size + 1) (Nat.succ_ne_self _)
    (by intro q; rcases List.mem_cons.mp q with q | q; exact Nat.succ_ne_self _ q; exact tn1 (List.mem_singleton.mp q).symm) (by simp)
  exact k (h.objs.size + 1) h.objs.size h' ex (Nat.le_succ _) (Nat.le_refl _) _ _ (fun _ _ _ => KTurns.ofWalksU D.toU) ⟨⟨_, ie⟩, ii, ht.at fun o q => ex _ _ q⟩
/-- two names at once -/
theorem W.assign2 {T X : List Addr} {h₀ hb : Heap} {L : Addr} {x y : Str} {px py pt : Pos} {kk : Nat} {m : Str → Option Value} {t : Addr} {u v : Value} {Q : Unit → Heap → Prop} (F : Fk T X h₀ L m hb h) (hh : A.handled = none) (ht : h.IsTuple t #[u, v])
    (k : ∀ h', Fk T X h₀ L (fun z => if z = y then some v else if z = x then some u else m z) hb h' → KX [L] h h' → Q () h') (hL : env.locals = L := by rfl) (hx : env.kindOf x = some .local := by rfl) (hy : env.kindOf y = some .local := by rfl)
    (hp : (env.scope.kind == .class || (env.scope.kind == .module && env.locals != env.globals)) = false := by rfl) :
    W w G A (PySem.assign (.Tuple [.Name x px, .Name y py] kk pt) env (.ref t)) h Q := fun tk => by
  refine wpAny_assign_Tuple hh ht rfl rfl fun h₁ e₁ => ?_
  have E₁ : Ext h h₁ := fun b o q => e₁ b o (Nat.ne_of_lt (lt_of_get q)) q
  show wpAny _ A (do holding [v] (PySem.assign (.Name x px) env u); do holding [] (PySem.assign (.Name y py) env v); Pure.pure ()) _ _ (St G h₁ tk)
  refine wpAny_bind (wpAny_holding (wpAny_assign_Name (W.nest (W.st (F.more E₁) (fun h₂ F₂ s₂ => fun tk₂ => ?_) hL hx hp))))
  refine wpAny_bind (wpAny_holding (wpAny_assign_Name (W.nest (W.st F₂ (fun h₃ F₃ s₃ => fun tk₃ => ?_) hL hy hp))))
  exact wpAny_pure ⟨h₃, tk₃, rfl, k h₃ F₃ ((KX.ofExt E₁).trans ((KX.same s₂ (List.mem_singleton.mpr rfl)).trans (KX.same s₃ (List.mem_singleton.mpr rfl))))⟩

/-! ## lists -/
noncomputable abbrev lo (items : Array Value) (n : Nat) : Obj := { cls := .type "list", data := .seq items n }
theorem isList_lo {a : Addr} {items : Array Value} {n : Nat} (e : h.get? a = some (lo items n)) : h.IsList a items := ⟨_, e, rfl, n, rfl⟩
theorem W.listO {es : List Expr} {pos : Pos} {Q : Value → Heap → Prop}
    (H : W w G A (spliced (backTo pos (starEach es env))) h fun vs h₁ => vs.length ≤ sizeLine ∧ ∀ l h₂, l = h₁.objs.size → Ext h₁ h₂ → h₂.get? l = some (lo vs.toArray 0) → Q (.ref l) h₂) : W w G A (eval (.List es pos) env) h Q := fun _ =>
  wpAny_List (W.nest (H.mono fun vs h₁ k => fun tk => ⟨k.1, _, tk, rfl, k.2 _ _ rfl (Ext.push _) (Heap.get?_push_size _ rfl)⟩))
/-- l.append(e) as a statement -/
theorem W.append {pl : Sem Bool} {x : Str} {xp ap pos pos' : Pos} {e : Expr} {Q : Flow → Heap → Prop} {D : Addr} {items : Array Value} {n : Nat} {P : Value → Prop} (hx : EV w A env h (.Name x xp) (IsV (.ref D))) (hD : h.get? D = some (lo items n)) (he : EV w A env h e P) (hz : items.size ≤ sizeLine)
    (k : ∀ v h', P v → Heap.SameBut D h h' → h'.get? D = some (lo (items.push v) (n + 1)) → Q .next h')
    (hi : interactive env = false := by rfl) (hs : swapsWith (.Call (.Attribute (.Name x xp) "append" ap) [e] [] pos) none pos'.line env = Pure.pure false := by rfl)
    (hst : starEach [e] env = (false, eval e env) :: starEach [] env := by rfl)
    (hm : eval (.Call (.Attribute (.Name x xp) "append" ap) [e] [] pos) env = (do
      let ov ← eval (.Name x xp) env
      standAt ap.atName
      let (f, first) ← holding [ov] (getMethod ov "append" pl)
      callWith pos f first (backTo pos (starEach [e] env)) []) := by rfl) : W w G A (exec (.Expr (.Call (.Attribute (.Name x xp) "append" ap) [e] [] pos) pos') env) h Q := by
  refine W.expr (fun tk₀ => ?_) hi hs
  refine MethodCall_ (pl := pl) (W.nest (hx.use fun ov q => fun tk => ?_)) hm
  cases q
  refine Calls.getMethod_list_append hD rfl rfl ?_
  refine callWith_method1 (W.nest ((W.args1 (Q := fun vs h' => ∀ tk, wpAny (model PR w) A (call (.builtin "list.append") ([.ref D] ++ vs)) _ _ (St G h' tk)) he (fun v pv => fun tk => ?_) hst).mono fun vs h' k => k)) hst rfl
  exact append_at hD (fun h' s' e' => ⟨h', tk, rfl, k v h' pv s' e'⟩) hz

/-- a comparison as a test, whatever its sides do -/
theorem W.testCmp {l r : Expr} {op : CmpOp} {pos : Pos} {whole : Sem Value} {Q : Bool → Heap → Prop}
    (H : W w G A (eval l env) h fun a h₁ => W w G A (eval r env) h₁ fun b h₂ => W w G A (compareOp op a b) h₂ fun c h₃ => ∃ d, c = .bool d ∧ Q d h₃)
    (hm : behindInMarks op r = false := by with_unfolding_all rfl) : W w G A (isTrue (.Compare l [op] [r] pos) env whole) h Q := fun _ =>
  wpAny_isTrue_Compare1 (W.nest (H.mono fun a h₁ k => fun _ => W.nest (k.mono fun b h₂ k => fun _ => W.nest (k.mono fun c h₃ ⟨d, e, q⟩ => fun tk => by
    subst e; exact wpAny_truthy_bool ⟨h₃, tk, rfl, q⟩)))) hm
theorem W.cmpE {l r : Expr} {op : CmpOp} {pos : Pos} {Q : Value → Heap → Prop}
    (H : W w G A (eval l env) h fun a h₁ => W w G A (eval r env) h₁ fun b h₂ => W w G A (compareOp op a b) h₂ Q)
    (hm : behindInMarks op r = false := by with_unfolding_all rfl) : W w G A (eval (.Compare l [op] [r] pos) env) h Q := fun _ =>
  wpAny_Compare1 (W.nest (H.mono fun a h₁ k => fun _ => W.nest (k.mono fun b h₂ k => fun tk => k tk))) hm
/-- a comparison of ints under a call -/
theorem W.useII {op : CmpOp} {a b : Int} {c : Bool} {x y : Value} {Q : Value → Heap → Prop} (k : ∀ x y, IsI a x → IsI b y → ∀ G, W w G A (compareOp op x y) h fun v h' => h' = h ∧ IsB c v) (hx : IsI a x) (hy : IsI b y) (q : Q (.bool c) h) : W w G A (compareOp op x y) h Q :=
  (k x y hx hy G).mono fun _ _ ⟨e, p⟩ => by subst e; cases p; exact q
/-- the join of a list of texts -/
theorem W.joinL {sp jp pos : Pos} {k0 : Nat} {sep : Str} {pl : Sem Bool} {e : Expr} {Q : Value → Heap → Prop}
    (H : W w G A (eval e env) h fun v h₁ => ∃ D l texts, v = .ref D ∧ h₁.IsList D (strValues l).toArray ∧ l.map (·.1) = texts ∧ JoinOk sep texts = true ∧ ∀ t, Q (.str (Txt.join sep texts) t) h₁)
    (hst : starEach [e] env = (false, eval e env) :: starEach [] env := by rfl)
    (hm : eval (.Call (.Attribute (.Constant (.str sep) k0 sp) "join" jp) [e] [] pos) env = (do
      let ov ← eval (.Constant (.str sep) k0 sp) env
      standAt jp.atName
      let (f, first) ← holding [ov] (getMethod ov "join" pl)
      callWith pos f first (backTo pos (starEach [e] env)) []) := by rfl) : W w G A (eval (.Call (.Attribute (.Constant (.str sep) k0 sp) "join" jp) [e] [] pos) env) h Q := fun _ => by
  refine MethodCall_ (pl := pl) (W.nest (EV.str.use fun ov q => fun tk => ?_)) hm
  obtain ⟨t, rfl⟩ := q
  refine GM.join ?_
  refine callWith_method1 (W.nest (W.args_cons (Q := fun vs h' => ∀ tk, wpAny (model PR w) A (call (.builtin "str.join") ([.str sep t] ++ vs)) _ _ (St G h' tk)) (H.mono fun v h₁ k => W.args_nil fun tk => ?_) hst)) hst rfl
  obtain ⟨D, l, texts, rfl, il, el, ok, q⟩ := k
  exact SC.join il el ok fun t' tk' => ⟨h₁, tk', rfl, q t'⟩

theorem W.iterTup {t : Addr} {items : Array Value} {K : Value → Heap → Prop} (ht : h.IsTuple t items) (k : ∀ I h', I = h.objs.size → Ext h h' → h'.IsTupleIter I t 0 → K (.ref I) h') : W w G A (pyIter (.ref t)) h K := fun tk =>
  wpAny_pyIter_tuple ht ⟨_, tk, rfl, k _ _ rfl (Ext.push _) ⟨_, Heap.get?_push_size _ rfl, rfl, rfl⟩⟩
end
end Mine
namespace Mine
theorem fill1 : PySem.Challenge.rw_mr0175_01.row.prog = PySem.Challenge.rw_mr0175_01.row.prog ∧ Mine.hd.heap_39 = Mine.hd.heap_39 := by
  k_fill
  exact ⟨rfl, rfl⟩
section
variable {w : World} {G : Shared} {A : Around} {h : Heap}
theorem ifmt {n : Int} {u : Tok} {k : Nat} {Q : Value → Heap → Prop} (g : Gd w h) (r : Rm A (k + 1)) (q : ∀ v h', Ext h h' → IsI (Builtin.bitAnd n 61440) v → Q v h') : W w G A (call (.ref 35) [.int n u]) h Q := by
  refine W.enter r g.nolimit (g.X _ _ (by k_is)) rfl (codeRec_of g.X (by k_is)) (fun _ => BindsTo.of_eq rfl) rfl fun h₁ n₁ e₁ => ?_
  refine W.execs_cons (W.ret ?_)
  refine EV.use (EV.bitand (EV.loc n₁ rfl ⟨_, rfl⟩) EV.int) fun v p => ?_
  exact q v h₁ e₁ p
theorem imode {n : Int} {u : Tok} {k : Nat} {Q : Value → Heap → Prop} (g : Gd w h) (r : Rm A (k + 1)) (q : ∀ v h', Ext h h' → IsI (Builtin.bitAnd n 4095) v → Q v h') : W w G A (call (.ref 28) [.int n u]) h Q := by
  refine W.enter r g.nolimit (g.X _ _ (by k_is)) rfl (codeRec_of g.X (by k_is)) (fun _ => BindsTo.of_eq rfl) rfl fun h₁ n₁ e₁ => ?_
  refine W.execs_cons (W.ret ?_)
  refine EV.use (EV.bitand (EV.loc n₁ rfl ⟨_, rfl⟩) EV.int) fun v p => ?_
  exact q v h₁ e₁ p
end
end Mine
namespace Mine
theorem fill2 : PySem.Challenge.rw_mr0175_01.row.prog = PySem.Challenge.rw_mr0175_01.row.prog ∧ Mine.hd.heap_39 = Mine.hd.heap_39 := by
  k_fill
  exact ⟨rfl, rfl⟩
/-! ## _law_signs -/
noncomputable def rightF (n : Int) (k : Int) : Int := (n.fdiv (8 ^ (2 - k).toNat)).fmod 8
noncomputable def aboveF (n : Int) (k : Int) : Int := (n.fdiv (2 ^ (11 - k).toNat)).fmod 2
noncomputable def lastF (n : Int) (k : Int) : Str := if aboveF n k = 0 then "-x" else if k.fdiv 2 = 1 then "Tt" else "Ss"
noncomputable def stepF (n : Int) (s : Str) (k : Int) : Str := s ++ Txt.item "-r" ((rightF n k).fdiv 4) ++ Txt.item "-w" (((rightF n k).fdiv 2).fmod 2) ++ Txt.item (lastF n k) ((rightF n k).fmod 2)
noncomputable def sgF (n : Int) : Nat → Str
  | 0 => Txt.item "?pc?d?b?-?l?s???" (n.fdiv 4096)
  | i + 1 => stepF n (sgF n i) i

theorem len_sg (n : Int) : ∀ i, (sgF n i).length = 1 + 3 * i
  | 0 => rfl
  | i + 1 => by
    show (stepF n (sgF n i) i).length = _
    unfold stepF
    rw [Str.length_append, Str.length_append, Str.length_append, len_sg n i, len_item, len_item, len_item]; omega
theorem len_last (n k : Int) : (lastF n k).length = 2 := by
  unfold lastF; split
  · rfl
  · split <;> rfl
theorem right_lo (n k : Int) : 0 ≤ rightF n k := by unfold rightF; exact Int.fmod_nonneg_of_pos _ (by decide)
theorem right_hi (n k : Int) : rightF n k < 8 := Int.fmod_lt_of_pos _ (by decide)
theorem above_lo (n k : Int) : 0 ≤ aboveF n k := by unfold aboveF; exact Int.fmod_nonneg_of_pos _ (by decide)
theorem above_hi (n k : Int) : aboveF n k < 2 := Int.fmod_lt_of_pos _ (by decide)
theorem bits_small {a : Int} {k : Nat} (h : Builtin.Int.intBits a = k) {n : Int} (hn : (k : Int) * n ≤ 2 ^ 27) : (Builtin.Int.intBits a : Int) * n ≤ 2 ^ 27 := by rw [h]; exact hn
theorem three {i : Nat} (h : i < 3) : i = 0 ∨ i = 1 ∨ i = 2 := by omega
theorem two01 {a : Int} (h0 : 0 ≤ a) (h1 : a < 2) : a = 0 ∨ a = 1 := by omega
theorem nn3 {c : Int} {i : Nat} (hc : 2 ≤ c) (h : i < 3) : 0 ≤ c - (i : Int) := by omega
theorem b27 {c k : Int} {i : Nat} (hc : c ≤ 11) (hk : k = 2 ∨ k = 4) : k * (c - (i : Int)) ≤ 2 ^ 27 := by rcases hk with rfl | rfl <;> omega
theorem d16 {n : Int} (h : n < 65536) : n.fdiv 4096 < 16 := by rw [Int.fdiv_eq_ediv_of_nonneg n (b := 4096) (by decide)]; omega
theorem d2 {n : Int} (h : n < 8) : n.fdiv 4 < 2 := by rw [Int.fdiv_eq_ediv_of_nonneg _ (by decide)]; omega
theorem ix0 {a : Int} (i : Nat) (h : 0 ≤ a) : 0 ≤ (i : Int).fdiv 2 * 2 + a := by have := Int.fdiv_nonneg (a := (i : Int)) (b := 2) (by omega) (by decide); omega
theorem ix1 {a : Int} {i : Nat} (h : a < 2) (hi : i < 3) : (i : Int).fdiv 2 * 2 + a < 2 ^ 63 := by rw [Int.fdiv_eq_ediv_of_nonneg _ (by decide)]; omega
theorem s24 {i : Nat} (h : i < 3) {j : Nat} (hj : j ≤ 9) : 1 + 3 * i + j ≤ 2 ^ 24 := by omega
section
variable {w : World} {G : Shared} {A : Around} {h : Heap}
theorem signs_says {n : Int} {u : Tok} {k : Nat} {Q : Value → Heap → Prop} (g : Gd w h) (r : Rm A (k + 1)) (n0 : 0 ≤ n) (n1 : n < 65536) (q : ∀ v h', Ext h h' → IsS (sgF n 3) v → Q v h') : W w G A (call (.ref 131) [.int n u]) h Q := by
  refine W.into [] r g.nolimit (g.X _ _ (by k_is)) rfl (codeRec_of g.X (by k_is)) (fun _ => BindsTo.of_eq rfl) rfl fun L h₁ F₁ e₁ => ?_
  refine W.execs_cons (W.assign (EV.use (EV.itemS (n := n.fdiv 4096) EV.str (EV.floordiv (EV.lc F₁ rfl ⟨_, rfl⟩) EV.int (by decide) (by decide)) ?_ ?_ (by decide)) fun v ⟨t, e⟩ => ?_))
  · exact Int.fdiv_nonneg n0 (by decide)
  · exact d16 n1
  subst e
  refine W.st F₁ fun h₂ F₂ s₂ => ?_
  show W _ _ _ (execs _ _) _ _
  refine W.execs_cons (W.forRange (N := 3) F₂ (F₂.gd0 g) (r.deeper _).hd (by decide) (by decide) EV.int (fun b hb => by rw [List.mem_singleton.mp hb]; exact F₂.ns.lt)
    (fun i m' _ => m' "mode" = some (.int n u) ∧ ∃ t, m' "signs" = some (.str (sgF n i) t)) (fun _ _ => ⟨rfl, _, rfl⟩) (fun _ _ _ _ _ _ j _ => j) ?_ ?_)
  · rintro i ti m hc hi ⟨jm, ts, js⟩ F _
    have hi' : i < 3 := Int.ofNat_lt.mp hi
    have hL : L < hc.objs.size := F.ns.lt
    -- right
    refine W.execs_cons (W.assign (EV.use (EV.mod (EV.floordiv (EV.lc F jm ⟨_, rfl⟩) (EV.pow EV.int (EV.sub EV.int (EV.lc F rfl ⟨_, rfl⟩)) (nn3 (by decide) hi') (bits_small (k := 4) (by decide) (b27 (by decide) (.inr rfl)))) ?_ ?_) EV.int (by decide)) fun v₁ ⟨t₁, e₁⟩ => W.st F fun h₃ F₃ s₃ => ?_))
    · have := three hi'
      rcases this with rfl | rfl | rfl <;> decide
    · have := three hi'
      rcases this with rfl | rfl | rfl <;> decide
    subst e₁
    show W _ _ _ (execs _ _) _ _
    -- above
    refine W.execs_cons (W.assign (EV.use (EV.mod (EV.floordiv (EV.lc F₃ jm ⟨_, rfl⟩) (EV.pow EV.int (EV.sub EV.int (EV.lc F₃ rfl ⟨_, rfl⟩)) (nn3 (by decide) hi') (bits_small (k := 2) (by decide) (b27 (by decide) (.inl rfl)))) ?_ ?_) EV.int (by decide)) fun v₂ ⟨t₂, e₂⟩ => W.st F₃ fun h₄ F₄ s₄ => ?_))
    · have := three hi'
      rcases this with rfl | rfl | rfl <;> decide
    · have := three hi'
      rcases this with rfl | rfl | rfl <;> decide
    subst e₂
    show W _ _ _ (execs _ _) _ _
    -- last
    have ab0 := above_lo n i
    have ab1 := above_hi n i
    refine W.execs_cons (W.assign (W.itemL (W.listD (W.args_cons (EV.str.use fun a1 ⟨x1, E1⟩ => W.args_cons (EV.str.use fun a2 ⟨x2, E2⟩ => W.args_cons (EV.str.use fun a3 ⟨x3, E3⟩ => W.args1 EV.str fun a4 ⟨x4, E4⟩ =>
      ⟨by show (4 : Nat) ≤ _; decide, fun l h₅ hl e₅ il => ?_⟩)))))))
    subst E1 E2 E3 E4
    have F₅ := F₄.more e₅
    have hx : ∃ x, (([Value.str "-x" x1, .str "Ss" x2, .str "-x" x3, .str "Tt" x4] : List Value).toArray)[((i : Int).fdiv 2 * 2 + aboveF n i).toNat]? = some (.str (lastF n i) x) := by
      have hab := two01 ab0 ab1
      have := three hi'
      unfold lastF
      rcases this with rfl | rfl | rfl <;> rcases hab with hab | hab <;> rw [hab] <;> exact ⟨_, rfl⟩
    obtain ⟨x, hx⟩ := hx
    refine ⟨l, _, _, _, rfl, il, EV.add (EV.mul (EV.floordiv (EV.lc F₅ rfl ⟨_, rfl⟩) EV.int (by decide) (by decide)) EV.int (IntMulOk.of_right (by decide))) (EV.lc F₅ rfl ⟨_, rfl⟩), ?_, ?_, hx, W.st F₅ fun h₆ F₆ s₆ => ?_⟩
    · exact ix0 i ab0
    · exact ix1 ab1 hi'
    show W _ _ _ (execs _ _) _ _
    -- signs
    have r0 := right_lo n i
    have r1 := right_hi n i
    refine W.execs_cons (W.assign (EV.use (EV.addstr (EV.addstr (EV.addstr (EV.lc F₆ js ⟨_, rfl⟩) (EV.itemS (n := (rightF n i).fdiv 4) EV.str (EV.floordiv (EV.lc F₆ rfl ⟨_, rfl⟩) EV.int (by decide) (by decide)) ?_ ?_ (by decide)) ?_)
      (EV.itemS (n := ((rightF n i).fdiv 2).fmod 2) EV.str (EV.mod (EV.floordiv (EV.lc F₆ rfl ⟨_, rfl⟩) EV.int (by decide) (by decide)) EV.int (by decide)) ?_ ?_ (by decide)) ?_)
      (EV.itemS (n := (rightF n i).fmod 2) (x := lastF n i) (EV.lc F₆ rfl ⟨_, rfl⟩) (EV.mod (EV.lc F₆ rfl ⟨_, rfl⟩) EV.int (by decide)) ?_ ?_ ?_) ?_) fun v₇ ⟨t₇, e₇⟩ => W.st F₆ fun h₇ F₇ s₇ => ?_))
    · exact Int.fdiv_nonneg r0 (by decide)
    · exact d2 r1
    · rw [len_sg, len_item]; exact s24 hi' (by decide)
    · exact Int.fmod_nonneg_of_pos _ (by decide)
    · exact Int.fmod_lt_of_pos _ (by decide)
    · rw [Str.length_append, len_sg, len_item, len_item]; exact s24 hi' (j := 2) (by decide)
    · exact Int.fmod_nonneg_of_pos _ (by decide)
    · rw [len_last]; exact Int.fmod_lt_of_pos _ (by decide)
    · rw [len_last]; decide
    · rw [Str.length_append, Str.length_append, len_sg, len_item, len_item, len_item]; show _ ≤ 2 ^ 24; omega
    subst e₇
    show W _ _ _ (execs _ _) _ _
    exact W.execs_nil ⟨_, F₇, jm, _, rfl⟩
  · rintro m' hc F ⟨jm, ts, js⟩
    show W _ _ _ (execs _ _) _ _
    exact W.execs_cons (W.ret ((EV.lc F js ⟨_, rfl⟩ : EV w _ _ hc _ (IsS (sgF n 3))).use fun v p => q v hc F.ext0 p))
end
end Mine
namespace Mine
theorem fill3 : PySem.Challenge.rw_mr0175_01.row.prog = PySem.Challenge.rw_mr0175_01.row.prog ∧ Mine.hd.heap_39 = Mine.hd.heap_39 := by
  k_fill
  exact ⟨rfl, rfl⟩
/-! ## filemode -/
noncomputable def fileTab : List (List (Int × Str)) :=
  [[(40960, "l"), (49152, "s"), (32768, "-"), (24576, "b"), (16384, "d"), (8192, "c"), (4096, "p")], [(256, "r")], [(128, "w")], [(2112, "s"), (2048, "S"), (64, "x")],
   [(32, "r")], [(16, "w")], [(1032, "s"), (1024, "S"), (8, "x")], [(4, "r")], [(2, "w")], [(513, "t"), (512, "T"), (1, "x")]]
noncomputable def condF (n : Int) (i : Nat) (b : Int) : Bool := if i = 0 then Builtin.bitAnd n 61440 == b else Builtin.bitAnd n b == b
noncomputable def chF (n : Int) (i : Nat) (ents : List (Int × Str)) : Str := match ents.find? fun p => condF n i p.1 with | some p => p.2 | none => if i = 0 then ("?" : Str) else ("-" : Str)
noncomputable def permF (n : Int) (i : Nat) : Str := chF n i (fileTab.getD i [])
noncomputable def fmF (n : Int) : Str := Txt.join "" ((List.range 10).map (permF n))
theorem len_permF (n : Int) (i : Nat) (hi : i < 10) : (permF n i).length ≤ 1 := by
  unfold permF chF
  split
  · rename_i p hp
    have hm := List.mem_of_find?_eq_some hp
    have : ∀ j, j < 10 → ∀ q ∈ fileTab.getD j [], q.2.length ≤ 1 := by decide
    exact this i hi p hm
  · split <;> decide
/-- a row of the table -/
noncomputable def TabIs (h : Heap) (v : Value) (ents : List (Int × Str)) : Prop := ∃ (tb : Addr) (items : Array Value), v = .ref tb ∧ h.IsTuple tb items ∧ items.size = ents.length ∧
  ∀ (j : Nat) (b : Int) (c : Str), ents[j]? = some (b, c) → ∃ (e : Addr) (t t' : Tok), items[j]? = some (Value.ref e) ∧ h.IsTuple e #[.int b t, .str c t']
theorem TabIs.keeps {h h' : Heap} {v : Value} {ents : List (Int × Str)} (x : TabIs h v ents) (k : Ext h h') : TabIs h' v ents :=
  let ⟨tb, items, e, it, sz, r⟩ := x; ⟨tb, items, e, it.at (fun o q => k _ _ q), sz, fun j b c q => let ⟨a, t, t', p, z⟩ := r j b c q; ⟨a, t, t', p, z.at (fun o q => k _ _ q)⟩⟩
section
variable {w : World} {G : Shared} {A : Around} {h : Heap}
theorem isTup_of {a : Addr} {items : Array Value} {n : Nat} {d : Option Addr} {s : Array (Option Value)} (e : h.get? a = some { cls := .type "tuple", dict := d, data := .seq items n, slots := s }) : h.IsTuple a items := ⟨_, e, rfl, _, rfl⟩
theorem tabIs1 {tb e : Addr} {b : Int} {c : Str} {t t' : Tok} (h1 : h.IsTuple tb #[.ref e]) (h2 : h.IsTuple e #[.int b t, .str c t']) : TabIs h (.ref tb) [(b, c)] :=
  ⟨tb, _, rfl, h1, rfl, fun j b' c' q => by match j, q with | 0, q => cases q; exact ⟨_, _, _, rfl, h2⟩⟩
theorem tabIs3 {tb e1 e2 e3 : Addr} {b1 b2 b3 : Int} {c1 c2 c3 : Str} {t1 t1' t2 t2' t3 t3' : Tok} (h0 : h.IsTuple tb #[.ref e1, .ref e2, .ref e3]) (h1 : h.IsTuple e1 #[.int b1 t1, .str c1 t1']) (h2 : h.IsTuple e2 #[.int b2 t2, .str c2 t2'])
    (h3 : h.IsTuple e3 #[.int b3 t3, .str c3 t3']) : TabIs h (.ref tb) [(b1, c1), (b2, c2), (b3, c3)] :=
  ⟨tb, _, rfl, h0, rfl, fun j b' c' q => by
    match j, q with
    | 0, q => cases q; exact ⟨_, _, _, rfl, h1⟩
    | 1, q => cases q; exact ⟨_, _, _, rfl, h2⟩
    | 2, q => cases q; exact ⟨_, _, _, rfl, h3⟩⟩
theorem tab_rows (g : Gd w h) : ∃ items, h.IsTuple 117 items ∧ items.size = 10 ∧ ∀ i, i < 10 → ∃ x, items[i]? = some x ∧ TabIs h x (fileTab.getD i []) := by
  refine ⟨_, isTup_of (g.X _ _ (by k_is)), rfl, fun i hi => ?_⟩
  match i, hi with
  | 0, _ =>
    refine ⟨_, rfl, 92, _, rfl, isTup_of (g.X _ _ (by k_is)), rfl, fun j b c q => ?_⟩
    match j, q with
    | 0, q => cases q; exact ⟨_, _, _, rfl, isTup_of (g.X _ _ (by k_is))⟩
    | 1, q => cases q; exact ⟨_, _, _, rfl, isTup_of (g.X _ _ (by k_is))⟩
    | 2, q => cases q; exact ⟨_, _, _, rfl, isTup_of (g.X _ _ (by k_is))⟩
    | 3, q => cases q; exact ⟨_, _, _, rfl, isTup_of (g.X _ _ (by k_is))⟩
    | 4, q => cases q; exact ⟨_, _, _, rfl, isTup_of (g.X _ _ (by k_is))⟩
    | 5, q => cases q; exact ⟨_, _, _, rfl, isTup_of (g.X _ _ (by k_is))⟩
    | 6, q => cases q; exact ⟨_, _, _, rfl, isTup_of (g.X _ _ (by k_is))⟩
  | 1, _ => exact ⟨_, rfl, tabIs1 (isTup_of (g.X 94 _ (by k_is))) (isTup_of (g.X 93 _ (by k_is)))⟩
  | 2, _ => exact ⟨_, rfl, tabIs1 (isTup_of (g.X 96 _ (by k_is))) (isTup_of (g.X 95 _ (by k_is)))⟩
  | 3, _ => exact ⟨_, rfl, tabIs3 (isTup_of (g.X 100 _ (by k_is))) (isTup_of (g.X 97 _ (by k_is))) (isTup_of (g.X 98 _ (by k_is))) (isTup_of (g.X 99 _ (by k_is)))⟩
  | 4, _ => exact ⟨_, rfl, tabIs1 (isTup_of (g.X 102 _ (by k_is))) (isTup_of (g.X 101 _ (by k_is)))⟩
  | 5, _ => exact ⟨_, rfl, tabIs1 (isTup_of (g.X 104 _ (by k_is))) (isTup_of (g.X 103 _ (by k_is)))⟩
  | 6, _ => exact ⟨_, rfl, tabIs3 (isTup_of (g.X 108 _ (by k_is))) (isTup_of (g.X 105 _ (by k_is))) (isTup_of (g.X 106 _ (by k_is))) (isTup_of (g.X 107 _ (by k_is)))⟩
  | 7, _ => exact ⟨_, rfl, tabIs1 (isTup_of (g.X 110 _ (by k_is))) (isTup_of (g.X 109 _ (by k_is)))⟩
  | 8, _ => exact ⟨_, rfl, tabIs1 (isTup_of (g.X 112 _ (by k_is))) (isTup_of (g.X 111 _ (by k_is)))⟩
  | 9, _ => exact ⟨_, rfl, tabIs3 (isTup_of (g.X 116 _ (by k_is))) (isTup_of (g.X 113 _ (by k_is))) (isTup_of (g.X 114 _ (by k_is))) (isTup_of (g.X 115 _ (by k_is)))⟩

theorem find_take {α : Type} (p : α → Bool) : ∀ (l : List α) (j : Nat) (x : α), (∀ y ∈ l.take j, p y = false) → l[j]? = some x → p x = true → l.find? p = some x
  | [], j, x, _, e, _ => by simp at e
  | y :: l, 0, x, _, e, q => by simp at e; subst e; simp [q]
  | y :: l, j + 1, x, n, e, q => by
    have ny : p y = false := n y (by simp)
    rw [List.find?_cons, ny]
    exact find_take p l j x (fun z hz => n z (by simp [hz])) (by simpa using e) q
theorem find_none {α : Type} (p : α → Bool) (l : List α) (n : ∀ y ∈ l, p y = false) : l.find? p = none := List.find?_eq_none.mpr fun x hx q => by rw [n x hx] at q; cases q
theorem filemode_says {n : Int} {u : Tok} {k : Nat} {Q : Value → Heap → Prop} (g : Gd w h) (r : Rm A (k + 2)) (q : ∀ v h', Ext h h' → IsS (fmF n) v → Q v h') : W w G A (call (.ref 124) [.int n u]) h Q := by
  refine W.into [] r g.nolimit (g.X _ _ (by k_is)) rfl (codeRec_of g.X (by k_is)) (fun _ => BindsTo.of_eq rfl) rfl fun L h₁ F₁ e₁ => ?_
  have hL₁ := F₁.ns.lt
  -- perm = []
  refine W.execs_cons (W.assign (W.listO (W.args_nil ⟨Nat.zero_le _, fun D h₂ hD e₂ o₂ => ?_⟩)))
  have hLD : @LT.lt Nat _ L D := by rw [hD]; exact hL₁
  have hDsz : @LT.lt Nat _ D h₂.objs.size := lt_of_get o₂
  have F₂ : Fk [] [L, D] h L _ h₂ h₂ := ⟨(F₁.more e₂).ns, (F₁.more e₂).ext, KX.refl _ _, .head _, F₁.lt⟩
  refine W.st F₂ fun h₃ F₃ s₃ => ?_
  have o₃ : h₃.get? D = some (lo #[] 0) := (s₃.2 D (Nat.ne_of_gt hLD)).trans o₂
  show W _ _ _ (execs _ _) _ _
  -- the loop
  obtain ⟨items, it117, isz, rows⟩ := tab_rows g
  have hX3 : ∀ b ∈ [L, D], @LT.lt Nat _ b h₃.objs.size := by
    intro b hb
    rcases List.mem_cons.mp hb with rfl | hb
    · exact F₃.ns.lt
    · rw [List.mem_singleton.mp hb]; exact lt_of_get o₃
  refine W.execs_cons (W.forK (W.enumIt (F₃.gd0 g) (r.deeper _).hd (EV.glob (F₃.gd0 g) (by k_is)) (it117.at fun o e => F₃.ext0 _ _ e) fun I it h₄ e₄ hI hit Md S Wk s0 => ?_))
  refine ⟨I, _, _, _, _, _, _, [L, D], fun i hc => ∃ m', Fk [] [L, D] h L m' h₃ hc ∧ m' "mode" = some (.int n u) ∧ m' "perm" = some (.ref D) ∧ ∃ l, hc.get? D = some (lo (strValues l).toArray i) ∧ l.map (·.1) = (List.range i).map (permF n),
    rfl, Wk _ _ _, s0, ?_, ⟨_, F₃.mark.more e₄, rfl, rfl, [], e₄ _ _ o₃, rfl⟩, ?_, ?_, ?_⟩
  · intro b hb hb'
    have hb2 := hX3 b hb'
    rcases List.mem_cons.mp hb with e | hb
    · rw [e] at hb2; exact Nat.lt_irrefl _ (Nat.lt_of_lt_of_le hb2 hI)
    rcases List.mem_cons.mp hb with e | hb
    · rw [e] at hb2; exact Nat.lt_irrefl _ (Nat.lt_of_lt_of_le hb2 hit)
    · rw [List.mem_singleton.mp hb] at hb'
      -- 117 is neither L nor D
      have i117 := lt_of_get (g.X 117 _ (by k_is))
      rcases List.mem_cons.mp hb' with e | e
      · rw [e] at i117; exact Nat.lt_irrefl _ (Nat.lt_of_lt_of_le i117 F₁.lt)
      · rw [List.mem_singleton.mp e] at i117; exact Nat.lt_irrefl _ (Nat.lt_trans (Nat.lt_of_lt_of_le i117 F₁.lt) hLD)
  · rintro i hc hc' ⟨m', F', jm, jp, l, jl, el⟩ kx
    have hw : ∀ b ∈ ([I, it] : List Addr), @LE.le Nat _ h₃.objs.size b := by
      intro b hb
      rcases List.mem_cons.mp hb with rfl | hb
      · exact hI
      · rw [List.mem_singleton.mp hb]; exact hit
    refine ⟨m', F'.kx kx (fun b hb => Nat.lt_of_lt_of_le (hX3 L (.head _)) (hw b hb)) hw, jm, jp, l, kx.at jl fun hb => ?_, el⟩
    exact Nat.lt_irrefl _ (Nat.lt_of_lt_of_le (hX3 D (.tail _ (.head _))) (hw D hb))
  · rintro i v hc hi ⟨T, vals, rfl, ⟨ti, x, hx, rfl⟩, iT⟩ ⟨m', F', jm, jp, l, jl, el⟩ _
    have hi10 : i < 10 := isz ▸ hi
    obtain ⟨x', hx', tx⟩ := rows i hi10
    cases hx.symm.trans hx'
    have hDL : D ≠ L := Nat.ne_of_gt hLD
    have hln : l.length = i := by have := congrArg List.length el; simpa using this
    refine W.assign2 F' (r.deeper _).hd iT fun h₅ F₅ k₅ => ?_
    refine W.hide fun Q1 hQ1 => ?_
    have o₅ := k₅.at jl (not_mem1 hDL)
    obtain ⟨tb, its, rfl, itb0, hsz, ents⟩ := tx
    have itb := itb0.at fun o e => F₅.ext0 tb o e
    have fin : ∀ h₆ m₆ t, Fk [] [L, D] h L m₆ h₅ h₆ → m₆ "mode" = some (.int n u) → m₆ "perm" = some (.ref D) → h₆.get? D = some (lo ((strValues l).toArray.push (.str (permF n i) t)) (i + 1)) →
        KX [L, D] hc h₆ ∧ ∃ m', Fk [] [L, D] h L m' h₃ h₆ ∧ m' "mode" = some (.int n u) ∧ m' "perm" = some (.ref D) ∧ ∃ l, h₆.get? D = some (lo (strValues l).toArray (i + 1)) ∧ l.map (·.1) = (List.range (i + 1)).map (permF n) := by
      intro h₆ m₆ t F₆ a b c
      refine ⟨(k₅.mono fun b hb => by rw [List.mem_singleton.mp hb]; exact .head _).trans F₆.kp, m₆, F₅.since F₆, a, b, l ++ [(permF n i, t)], ?_, ?_⟩
      · rw [c]; simp [strValues]
      · rw [List.range_succ, List.map_append, List.map_append, el]; rfl
    have hX5 : ∀ b ∈ [L, D], @LT.lt Nat _ b h₅.objs.size := by
      intro b hb
      rcases List.mem_cons.mp hb with rfl | hb
      · exact F₅.ns.lt
      · rw [List.mem_singleton.mp hb]; exact lt_of_get o₅
    have htb : tb ∉ ([L, D] : List Addr) := by
      intro hb
      have i1 : @LT.lt Nat _ tb h.objs.size := by obtain ⟨o, ho, _⟩ := itb0; exact lt_of_get ho
      rcases List.mem_cons.mp hb with e | e
      · rw [e] at i1; exact Nat.lt_irrefl _ (Nat.lt_of_lt_of_le i1 F₁.lt)
      · rw [List.mem_singleton.mp e] at i1; exact Nat.lt_irrefl _ (Nat.lt_trans (Nat.lt_of_lt_of_le i1 F₁.lt) hLD)
    refine W.execs_cons (W.forK ((EV.lc F₅ rfl rfl : EV w _ _ h₅ _ (IsV (.ref tb))).useV ?_))
    refine W.iterTup itb fun I' h₆ hI' e₆ ii => ?_
    have hI'' : @LE.le Nat _ h₅.objs.size I' := by rw [hI']; exact Nat.le_refl _
    have tbI : tb ≠ I' := by rw [hI']; obtain ⟨o, ho, _⟩ := itb; exact Nat.ne_of_lt (lt_of_get ho)
    refine ⟨I', _, _, _, _, _, _, [L, D], fun j hc' => ∃ m'', Fk [] [L, D] h L m'' h₅ hc' ∧ m'' "mode" = some (.int n u) ∧ m'' "perm" = some (.ref D) ∧ m'' "index" = some (.int i ti) ∧ hc'.get? D = some (lo (strValues l).toArray i) ∧ ∀ p ∈ (fileTab.getD i []).take j, condF n i p.1 = false,
      rfl, turns_tuple (r.deeper _).hd I' tb tbI its, ⟨ii, itb.at fun o q => e₆ _ _ q⟩, ?_, ⟨_, F₅.mark.more e₆, jm, jp, rfl, e₆ _ _ o₅, fun p hp => by simp at hp⟩, ?_, ?_, ?_⟩
    · intro b hb hb'
      rcases List.mem_cons.mp hb with e | hb
      · have hb2 := hX5 b hb'; rw [e] at hb2; exact Nat.lt_irrefl _ (Nat.lt_of_lt_of_le hb2 hI'')
      · rw [List.mem_singleton.mp hb] at hb'; exact htb hb'
    · rintro j ha hb ⟨m'', Fj, a, b, c, d, e⟩ kx
      refine ⟨m'', Fj.kx kx (fun b hb => by rw [List.mem_singleton.mp hb]; exact Nat.lt_of_lt_of_le (hX5 L (.head _)) hI'') (fun b hb => by rw [List.mem_singleton.mp hb]; exact hI''), a, b, c, kx.at d (not_mem1 ?_), e⟩
      exact Nat.ne_of_lt (Nat.lt_of_lt_of_le (hX5 D (.tail _ (.head _))) hI'')
    · rintro j v ha hj hv ⟨m'', Fj, a, b, c, d, ne⟩ _
      have hj' : j < (fileTab.getD i []).length := hsz ▸ hj
      obtain ⟨bc, hbc'⟩ : ∃ bc, (fileTab.getD i [])[j]? = some bc := ⟨_, List.getElem?_eq_getElem hj'⟩
      obtain ⟨ea, t1, t2, q1, q2⟩ := ents j bc.1 bc.2 hbc'
      cases hv.symm.trans q1
      have iea := q2.at fun o e => Fj.ext0 ea o e
      refine W.assign2 Fj (r.deeper _).hd iea fun h₇ F₇ k₇ => ?_
      refine W.hide fun Q2 hQ2 => ?_
      have o₇ := k₇.at d (not_mem1 hDL)
      have hz : (strValues l).toArray.size ≤ sizeLine := by simp [strValues, hln]; show _ ≤ 2 ^ 24; omega
      have hit : condF n i bc.1 = true → permF n i = bc.2 := fun hq => by
        unfold permF chF
        rw [find_take (fun p : Int × Str => condF n i p.1) _ j bc ne hbc' hq]
      have miss : condF n i bc.1 = false → ∀ p ∈ (fileTab.getD i []).take (j + 1), condF n i p.1 = false := fun hq p hp => by
        rw [List.take_add_one, hbc'] at hp
        rcases List.mem_append.mp hp with hp | hp
        · exact ne p hp
        · simp at hp; subst hp; exact hq
      refine W.execs_cons (W.ifb (TB.cmp (EV.lc F₇ c ⟨_, rfl⟩) EV.int eq_ii) (fun hi0 => ?_) fun hi0 => ?_)
      · have hi0' : i = 0 := by simpa using hi0
        refine W.execs_cons (W.ifs (W.testCmp (W.callFn (EV.glob (F₇.gd0 g) (by k_is)) rfl (W.args1 (P := IsI n) (by exact EV.lc F₇ a ⟨_, rfl⟩) fun v₈ ⟨t₈, e₈⟩ => ⟨(F₇.gd0 g).X _ _ (by k_is), ?_⟩))))
        subst e₈
        refine ifmt (F₇.gd0 g) (r.deeper _) fun v₉ h₈ e₈ p₉ => ?_
        have F₈ := F₇.more e₈
        refine (EV.lc F₈ rfl ⟨_, rfl⟩ : EV w _ _ h₈ _ (IsI bc.1)).use fun v₁₀ p₁₀ => W.useII eq_ii p₉ p₁₀ ⟨_, rfl, ?_⟩
        have hcd : condF n i bc.1 = (Builtin.bitAnd n 61440 == bc.1) := by unfold condF; rw [if_pos hi0']
        by_cases hq : (Builtin.bitAnd n 61440 == bc.1) = true
        · rw [if_pos hq]
          refine W.execs_cons (W.append (EV.lc F₈ b rfl) (e₈ _ _ o₇) (EV.lc F₈ rfl ⟨_, rfl⟩ : EV w _ _ h₈ _ (IsS bc.2)) hz fun v₁₁ h₁₁ ⟨t₁₁, e₁₁⟩ s₁₁ o₁₁ => ?_)
          subst e₁₁
          show W _ _ _ (execs _ _) _ _
          refine W.execs_cons (W.brk (hQ2 .brk _ ?_))
          refine W.execs_nil ?_
          have F₁₁ := F₈.upd s₁₁ (.tail _ (.head _)) hDL (Nat.le_of_lt (Nat.lt_of_le_of_lt F₁.lt hLD))
          exact hQ1 .next _ (fin h₁₁ _ t₁₁ F₁₁ a b (by rw [hit (hcd.trans hq)]; exact o₁₁))
        · rw [if_neg hq]
          refine W.execs_nil ?_
          show W _ _ _ (execs _ _) _ _
          refine W.execs_nil ?_
          show W _ _ _ (execs _ _) _ _
          refine W.execs_nil ?_
          exact hQ2 .next _ ⟨(k₇.mono fun b hb => by rw [List.mem_singleton.mp hb]; exact .head _).trans (KX.ofExt e₈), _, F₈, a, b, c, e₈ _ _ o₇, miss (hcd.trans (by simpa using hq))⟩
      · have hi0' : i ≠ 0 := by simpa using hi0
        have hcd : condF n i bc.1 = (Builtin.bitAnd n bc.1 == bc.1) := by unfold condF; rw [if_neg hi0']
        refine W.execs_cons (W.ifb (TB.cmp (EV.bitand (EV.lc F₇ a ⟨_, rfl⟩) (EV.lc F₇ rfl ⟨_, rfl⟩)) (EV.lc F₇ rfl ⟨_, rfl⟩ : EV w _ _ h₇ _ (IsI bc.1)) eq_ii) (fun hq => ?_) fun hq => ?_)
        · refine W.execs_cons (W.append (EV.lc F₇ b rfl) o₇ (EV.lc F₇ rfl ⟨_, rfl⟩ : EV w _ _ h₇ _ (IsS bc.2)) hz fun v₁₁ h₁₁ ⟨t₁₁, e₁₁⟩ s₁₁ o₁₁ => ?_)
          subst e₁₁
          show W _ _ _ (execs _ _) _ _
          refine W.execs_cons (W.brk (hQ2 .brk _ ?_))
          refine W.execs_nil ?_
          have F₁₁ := F₇.upd s₁₁ (.tail _ (.head _)) hDL (Nat.le_of_lt (Nat.lt_of_le_of_lt F₁.lt hLD))
          exact hQ1 .next _ (fin h₁₁ _ t₁₁ F₁₁ a b (by rw [hit (hcd.trans hq)]; exact o₁₁))
        · refine W.execs_nil ?_
          show W _ _ _ (execs _ _) _ _
          refine W.execs_nil ?_
          show W _ _ _ (execs _ _) _ _
          refine W.execs_nil ?_
          exact hQ2 .next _ ⟨k₇.mono fun b hb => by rw [List.mem_singleton.mp hb]; exact .head _, _, F₇, a, b, c, o₇, miss (hcd.trans hq)⟩
    · rintro ha ⟨m'', Fj, a, b, c, d, ne⟩
      have hz : (strValues l).toArray.size ≤ sizeLine := by simp [strValues, hln]; show _ ≤ 2 ^ 24; omega
      have ne' : ∀ p ∈ fileTab.getD i [], condF n i p.1 = false := fun p hp => ne p (by rw [hsz, List.take_length]; exact hp)
      have pf : permF n i = if i = 0 then ("?" : Str) else ("-" : Str) := by
        unfold permF chF
        rw [find_none (fun p : Int × Str => condF n i p.1) _ ne']
      refine W.execs_cons (W.ifb (TB.cmp (EV.lc Fj c ⟨_, rfl⟩) EV.int eq_ii) (fun hi0 => ?_) fun hi0 => ?_)
      · have hi0' : i = 0 := by simpa using hi0
        refine W.execs_cons (W.append (EV.lc Fj b rfl) d EV.str hz fun v₁₁ h₁₁ ⟨t₁₁, e₁₁⟩ s₁₁ o₁₁ => ?_)
        subst e₁₁
        show W _ _ _ (execs _ _) _ _
        refine W.execs_nil ?_
        show W _ _ _ (execs _ _) _ _
        refine W.execs_nil ?_
        show W _ _ _ (execs _ _) _ _
        refine W.execs_nil ?_
        have F₁₁ := Fj.upd s₁₁ (.tail _ (.head _)) hDL (Nat.le_of_lt (Nat.lt_of_le_of_lt F₁.lt hLD))
        exact hQ1 .next _ (fin h₁₁ _ t₁₁ F₁₁ a b (by rw [pf, if_pos hi0']; exact o₁₁))
      · have hi0' : i ≠ 0 := by simpa using hi0
        refine W.execs_cons (W.append (EV.lc Fj b rfl) d EV.str hz fun v₁₁ h₁₁ ⟨t₁₁, e₁₁⟩ s₁₁ o₁₁ => ?_)
        subst e₁₁
        show W _ _ _ (execs _ _) _ _
        refine W.execs_nil ?_
        show W _ _ _ (execs _ _) _ _
        refine W.execs_nil ?_
        show W _ _ _ (execs _ _) _ _
        refine W.execs_nil ?_
        have F₁₁ := Fj.upd s₁₁ (.tail _ (.head _)) hDL (Nat.le_of_lt (Nat.lt_of_le_of_lt F₁.lt hLD))
        exact hQ1 .next _ (fin h₁₁ _ t₁₁ F₁₁ a b (by rw [pf, if_neg hi0']; exact o₁₁))
  · rintro hc ⟨m', F', jm, jp, l, jl, el⟩
    rw [isz] at el jl
    refine W.execs_nil ?_
    show W _ _ _ (execs _ _) _ _
    refine W.execs_cons (W.ret (W.joinL ((EV.lc F' jp rfl : EV w _ _ hc _ (IsV (.ref D))).useV ?_)))
    refine ⟨D, l, _, rfl, isList_lo jl, el, ?_, fun t => q _ hc F'.ext0 ⟨t, rfl⟩⟩
    unfold JoinOk
    rw [Bool.not_eq_true']
    refine StrLaws.joinFits (B := 1) ?_ (by rw [List.length_map, List.length_range]; decide)
    intro y hy
    obtain ⟨j, hj, rfl⟩ := List.mem_map.mp hy
    exact len_permF n j (List.mem_range.mp hj)
end
end Mine
namespace Mine
/-! ## list comprehensions -/
/-- keeps all of the old but wr, and all that is newer than the block's own two -/
noncomputable def KB (wr : List Addr) (n₂ : Nat) (h h' : Heap) : Prop := ∀ b o, h.get? b = some o → (@LE.le Nat _ (n₂ + 2) b ∨ (@LT.lt Nat _ b n₂ ∧ b ∉ wr)) → h'.get? b = some o
noncomputable abbrev testsOf (ifs : List Expr) (env : Env) : Sem Bool := forIn ifs true fun c r => if r = true then do let ok ← isTrue c env (eval c env); Pure.pure (ForInStep.yield ok) else Pure.pure (ForInStep.yield r)
section
variable {w : World} {G : Shared} {A : Around} {h : Heap} {env : Env}
theorem compLoop_any {elt target iter : Expr} {ifs : List Expr} {scope : Scope} {pos : Pos} {it acc : Value} {s : Shared} {R : Result → Shared → Prop} (I : Nat → Shared → Prop)
    (turn : ∀ n s, I n s → wpAny (model PR w) A (pyNext it) (fun r s₁ => match r with
      | none => R (.ok .next) s₁
      | some v => wpAny (model PR w) A (letOwnedTupleGo target it v) (fun _ s₁' => wpAny (model PR w) A (PySem.assign target env v) (fun _ s₂ =>
          wpAny (model PR w) A (testsOf ifs env) (fun ok s₃ =>
            if ok = true then wpAny (model PR w) A (eval elt env) (fun x s₄ =>
              wpAny (model PR w) A (call (.builtin "list.append") [acc, x]) (fun _ s₅ => ∃ m, m < n ∧ I m s₅) (notedBy (model PR w) A env fun e s' => R (.error e) s') s₄) (notedBy (model PR w) A env fun e s' => R (.error e) s') s₃
            else ∃ m, m < n ∧ I m s₃) (notedBy (model PR w) A env fun e s' => R (.error e) s') s₂) (notedBy (model PR w) A env fun e s' => R (.error e) s') s₁') (notedBy (model PR w) A env fun e s' => R (.error e) s') s₁) (notedBy (model PR w) A env fun e s' => R (.error e) s') s)
    (n : Nat) (h : I n s) : codeAny (model PR w) A (.compLoop (.ListComp elt [⟨target, iter, ifs, 0⟩] scope pos) 0 it acc env) R s := by
  refine codeAny_loop rfl I (fun n s hI => ?_) n h
  show wpAny _ A ((compTurn (.ListComp elt [⟨target, iter, ifs, 0⟩] scope pos) 0 it acc env).onRaise (fun x => do noteFrame x env; theTreesLotGoes x)) _ _ s
  refine wpAny_noted ?_
  rw [compTurn_list]
  refine wpAny_bind (wpAny_standAt (wpAny_bind (wpAny_mono (turn n s hI) (fun r s₁ h₁ => ?_) fun _ _ h' => h')))
  cases r with
  | none => exact wpAny_pure h₁
  | some v =>
    refine wpAny_bind (wpAny_mono h₁ (fun _ s₁' h₁' => ?_) fun _ _ h' => h')
    refine wpAny_bind (wpAny_mono h₁' (fun _ s₂ h₂ => wpAny_bind (wpAny_mono h₂ (fun ok s₃ h₃ => ?_) fun _ _ h' => h')) fun _ _ h' => h')
    cases ok with
    | false => exact wpAny_pure ⟨rfl, h₃⟩
    | true => exact wpAny_bind (wpAny_bind (wpAny_mono h₃ (fun x s₄ h₄ => wpAny_bind (wpAny_mono h₄ (fun _ s₅ h₅ => wpAny_pure (wpAny_pure ⟨rfl, h₅⟩)) fun _ _ h' => h')) fun _ _ h' => h'))

/-- what the block does, turn by turn: J over (turns done, what is gathered, heap) -/
structure CompTurns (w : World) (G : Shared) (A : Around) (env : Env) (target : Expr) (scope : Scope) (cl : List (Str × Addr)) (ifs : List Expr) (elt : Expr) (wr : List Addr) (n : Nat) (P : Nat → Value → Heap → Prop) (h₂ : Heap) (J : Nat → List Value → Heap → Prop) : Prop where
  j0 : J 0 [] h₂
  stab : ∀ i ys hc hc', J i ys hc → KB wr h₂.objs.size hc hc' → J i ys hc'
  turn : ∀ i v ys C m hc, i < n → P i v hc → J i ys hc → C = h₂.objs.size + 1 → hc.Ns C m → (∀ b o, b ∉ wr → h₂.get? b = some o → hc.get? b = some o) → @LE.le Nat _ (h₂.objs.size + 2) hc.objs.size →
    W w G A (PySem.assign target (compEnvC scope cl C env) v) hc fun _ h₃ => W w G A (testsOf ifs (compEnvC scope cl C env)) h₃ fun ok h₄ => KX [C] hc h₄ ∧ (∃ m', h₄.Ns C m') ∧
      if ok = true then W w G A (eval elt (compEnvC scope cl C env)) h₄ fun y h₅ => Ext h₄ h₅ ∧ J (i + 1) (ys ++ [y]) h₅ else J (i + 1) ys h₄
theorem comp_block {elt target iter : Expr} {ifs : List Expr} {scope : Scope} {cl : List (Str × Addr)} {pos : Pos} {h₂ : Heap} {tk₂ : Nat} {E : Value → Shared → Prop} {I : Addr} {fp wr : List Addr} {n : Nat} {P Md : Nat → Value → Heap → Prop} {S : Nat → Heap → Prop}
    {J : Nat → List Value → Heap → Prop} (Wk : KTurns PR w A target I fp wr n P Md S) (hI : ∀ {tk}, ∀ {Q : Value → Shared → Prop} {E : Value → Shared → Prop} {hc : Heap}, S 0 hc → Q (.ref I) (St G hc tk) → wpAny (model PR w) A (pyIter (.ref I)) Q E (St G hc tk))
    (hsz : n ≤ sizeLine) {RR : Value → Addr → Result → Shared → Prop}
    (hcell : ∀ y ∈ scope.names, y.2 ≠ .cell) (hkind : scope.kind = .function) (s0 : S 0 h₂) (hfp : ∀ b ∈ fp, @LT.lt Nat _ b h₂.objs.size)
    (T : CompTurns w G A env target scope cl ifs elt wr n P h₂ J)
    (hRR : ∀ D C h' m' tk ys k, D = h₂.objs.size → C = h₂.objs.size + 1 → h'.Ns C m' → J n ys h' → h'.get? D = some (lo ys.toArray k) → (∀ b o, b ∉ wr → h₂.get? b = some o → h'.get? b = some o) → RR (.ref D) C (.ok .next) (St G h' tk)) :
    wpAny (model PR w) A (newList []) (fun acc s₃ => wpAny (model PR w) A (newFunctionEnv scope env.globals cl [] env.qual none .none (some env)) (fun cenv s₄ =>
      codeAny (model PR w) A (.compStart (.ListComp elt [⟨target, iter, ifs, 0⟩] scope pos) 0 (.ref I) acc { cenv with scope := relabel scope env }) (RR acc cenv.locals) s₄) E s₃) E (St G h₂ tk₂) := by
  refine wpAny_newObj_type (wpAny_newFunctionEnv hcell (by intro y hy; simp at hy) (fun h₁ hns₁ hsb₁ => ?_) hkind)
  dsimp only at hns₁ hsb₁ ⊢
  generalize hH2 : h₂.push { cls := .type "list", dict := none, data := .seq ([] : List Value).toArray } = H2 at hns₁ hsb₁ ⊢
  have hC : H2.objs.size = h₂.objs.size + 1 := by rw [← hH2, Heap.size_push]
  have old : Ext h₂ h₁ := fun b o e => hsb₁.extBut b o (by have := lt_of_get e; intro q; rw [q, hC] at this; omega) (Heap.get?_push_of_some _ (hH2 ▸ Heap.get?_push_of_some _ e))
  have oD : h₁.get? h₂.objs.size = some (lo #[] 0) := hsb₁.extBut _ _ (by rw [hC]; exact Nat.ne_of_lt (Nat.lt_succ_self _)) (Heap.get?_push_of_some _ (hH2 ▸ Heap.get?_push_size _ rfl))
  rw [hC] at hns₁
  have sz₁ : @LE.le Nat _ (h₂.objs.size + 2) h₁.objs.size := hns₁.lt
  have st₁ : S 0 h₁ := Wk.frame _ _ _ s0 fun b _ o e => old b o e
  have j₁ : J 0 [] h₁ := T.stab _ _ _ _ T.j0 fun b o e _ => old b o e
  have wrlt : ∀ b ∈ wr, @LT.lt Nat _ b h₂.objs.size := fun b hb => hfp b (Wk.sub b hb)
  have loop : ∀ tk, codeAny (model PR w) A (.compLoop (.ListComp elt [⟨target, iter, ifs, 0⟩] scope pos) 0 (.ref I) (.ref h₂.objs.size) (compEnvC scope cl (h₂.objs.size + 1) env)) (RR (.ref h₂.objs.size) (h₂.objs.size + 1)) (St G h₁ tk) := by
    intro tk
    refine compLoop_any (fun k s' => ∃ hc tk i m ys kk, s' = St G hc tk ∧ S i hc ∧ J i ys hc ∧ hc.get? h₂.objs.size = some (lo ys.toArray kk) ∧ hc.Ns (h₂.objs.size + 1) m ∧ (∀ b o, b ∉ wr → h₂.get? b = some o → hc.get? b = some o) ∧
      @LE.le Nat _ (h₂.objs.size + 2) hc.objs.size ∧ ys.length ≤ i ∧ i ≤ n ∧ k = n + 1 - i) ?_ (n + 1) ⟨h₁, tk, 0, _, [], 0, rfl, st₁, j₁, oD, hns₁, fun b o _ e => old b o e, sz₁, Nat.le_refl _, Nat.zero_le _, rfl⟩
    rintro k s' ⟨hc, tk, i, m, ys, kk, rfl, si, ji, oi, ni, ki, zi, li, hi, rfl⟩
    have Dw : h₂.objs.size ∉ wr := fun q => Nat.lt_irrefl _ (wrlt _ q)
    have Cw : h₂.objs.size + 1 ∉ wr := fun q => by have := wrlt _ q; omega
    have CD : h₂.objs.size ≠ h₂.objs.size + 1 := Nat.ne_of_lt (Nat.lt_succ_self _)
    have size_of : ∀ (ha hb : Heap), (∀ b o, b ∉ wr → ha.get? b = some o → hb.get? b = some o) → ha.Ns (h₂.objs.size + 1) m → @LE.le Nat _ (h₂.objs.size + 2) hb.objs.size := fun ha hb k n => (n.at' fun o e => k _ o Cw e).lt
    by_cases hlt : i < n
    · refine Wk.item i _ _ _ hlt si fun v h₃ tk₃ md k₃ => ?_
      refine Wk.go i v _ _ _ md fun h₄ pv s₄ k₄ => ?_
      have k34 : ∀ b o, b ∉ wr → hc.get? b = some o → h₄.get? b = some o := fun b o hb e => k₄ b o hb (k₃ b o hb e)
      have j₄ : J i ys h₄ := T.stab _ _ _ _ ji fun b o e q => k34 b o (fun z => by have := wrlt _ z; rcases q with q | q; omega; exact q.2 z) e
      have n₄ : h₄.Ns (h₂.objs.size + 1) m := ni.at' fun o e => k34 _ o Cw e
      have z₄ := size_of hc h₄ k34 ni
      refine W.nest ((T.turn i v ys _ m h₄ hlt pv j₄ rfl n₄ (fun b o hb e => k34 b o hb (ki b o hb e)) z₄).mono fun _ h₅ k₅ => fun tk₅ => W.nest (k₅.mono fun ok h₆ k₆ => fun tk₆ => ?_))
      obtain ⟨x₆, ⟨m₆, n₆⟩, r₆⟩ := k₆
      have s₆ : S (i + 1) h₆ := Wk.frame _ _ _ s₄ fun b hb o e => x₆ b o (not_mem1 (Nat.ne_of_lt (Nat.lt_succ_of_lt (hfp b hb)))) e
      have o₆ : h₆.get? h₂.objs.size = some (lo ys.toArray kk) := x₆ _ _ (not_mem1 CD) (k34 _ _ Dw oi)
      have ki₆ : ∀ b o, b ∉ wr → h₂.get? b = some o → h₆.get? b = some o := fun b o hb e => x₆ b o (not_mem1 (Nat.ne_of_lt (Nat.lt_succ_of_lt (lt_of_get e)))) (k34 b o hb (ki b o hb e))
      cases ok with
      | false => exact ⟨n + 1 - (i + 1), by omega, h₆, tk₆, i + 1, m₆, ys, kk, rfl, s₆, r₆, o₆, n₆, ki₆, n₆.lt, by omega, hlt, rfl⟩
      | true =>
        refine W.nest (W.mono r₆ fun y h₇ ⟨e₇, j₇⟩ => fun tk₇ => ?_)
        refine append_at (e₇ _ _ o₆) (fun h₈ s₈ o₈ => ?_) (by simp only [List.size_toArray]; exact Nat.le_trans li (Nat.le_trans hi hsz))
        refine ⟨n + 1 - (i + 1), by omega, h₈, tk₇, i + 1, m₆, ys ++ [y], kk + 1, rfl, ?_, ?_, by rw [o₈]; simp, (n₆.keeps e₇).sameBut s₈ (Ne.symm CD), ?_, ((n₆.keeps e₇).sameBut s₈ (Ne.symm CD)).lt, by simp; omega, hlt, rfl⟩
        · exact Wk.frame _ _ _ s₆ fun b hb o e => (s₈.2 b (by have := hfp b hb; intro q; rw [q] at this; omega)).trans (e₇ b o e)
        · refine T.stab _ _ _ _ j₇ fun b o e q => (s₈.2 b ?_).trans e
          intro z; rw [z] at q; rcases q with q | q <;> omega
        · exact fun b o hb e => (s₈.2 b (by have := lt_of_get e; intro q; rw [q] at this; omega)).trans (e₇ b o (ki₆ b o hb e))
    · have : i = n := by omega
      subst this
      refine Wk.done _ _ _ si fun h₃ tk₃ k₃ => ?_
      have j₃ : J i ys h₃ := T.stab _ _ _ _ ji fun b o e q => k₃ b o (fun z => by have := wrlt _ z; rcases q with q | q; omega; exact q.2 z) e
      exact hRR _ _ h₃ m tk₃ ys kk rfl rfl (ni.at' fun o e => k₃ _ o Cw e) j₃ (k₃ _ _ Dw oi) fun b o hb e => k₃ b o hb (ki b o hb e)
  have key := codeAny_compStart_list (elt := elt) (target := target) (iter := iter) (ifs := ifs) (rest := []) (scope := scope) (pos := pos) (it := .ref I) (acc := .ref h₂.objs.size) (loop (tk₂ + ([] : List (Str × Value)).length)) (hI st₁ (loop _))
  rw [hC]
  exact key

/-- a comprehension as an expression -/
theorem W.comp {elt target iter : Expr} {ifs : List Expr} {scope : Scope} {cl : List (Str × Addr)} {pos : Pos} {Q : Value → Heap → Prop}
    (hclos : closureFor scope env = Pure.pure cl) (hcell : ∀ y ∈ scope.names, y.2 ≠ .cell) (hkind : scope.kind = .function) (hnames : ∀ y ∈ scope.names, y.2 = .local → scope.names.lookup y.1 = some .local)
    (H : W w G A (eval iter env) h fun xv h₁ => W w G A (pyIter xv) h₁ fun it h₂ => ∃ (I : Addr) (fp wr : List Addr) (n : Nat) (P Md : Nat → Value → Heap → Prop) (S : Nat → Heap → Prop) (J : Nat → List Value → Heap → Prop),
      it = .ref I ∧ KTurns PR w A target I fp wr n P Md S ∧ (∀ {tk}, ∀ {Q : Value → Shared → Prop} {E : Value → Shared → Prop} {hc : Heap}, S 0 hc → Q (.ref I) (St G hc tk) → wpAny (model PR w) A (pyIter (.ref I)) Q E (St G hc tk)) ∧
      n ≤ sizeLine ∧ S 0 h₂ ∧ (∀ b ∈ fp, @LT.lt Nat _ b h₂.objs.size) ∧ CompTurns w G A env target scope cl ifs elt wr n P h₂ J ∧
      ∀ D ys k h', D = h₂.objs.size → J n ys h' → h'.get? D = some (lo ys.toArray k) → (∀ b o, b ∉ wr → h₂.get? b = some o → h'.get? b = some o) → Q (.ref D) h')
    (hs : ∀ x, foldedSetIterable iter env x = Pure.pure x := by intro _; rfl) : W w G A (eval (.ListComp elt [⟨target, iter, ifs, 0⟩] scope pos) env) h Q := fun _ => by
  rw [eval_ListComp]
  refine wpAny_comprehension_free (use := Option.none) rfl hs hclos hkind hnames (W.nest (H.mono fun xv h₁ k => fun _ => W.nest (k.mono fun it h₂ k₂ => fun tk₂ => ?_)))
  obtain ⟨I, fp, wr, n, P, Md, S, J, rfl, Wk, hI, hz, s0, hfp, T, fin⟩ := k₂
  refine comp_block (RR := fun acc C => compPost (model PR w) A _ Option.none _ acc C) Wk hI hz hcell hkind s0 hfp T ?_
  intro D C h' m' tk ys k hD hC n' j' o' k'
  have CD : D ≠ C := by rw [hD, hC]; exact Nat.ne_of_lt (Nat.lt_succ_self _)
  refine ⟨m', n', fun h'' s'' => ⟨h'', tk, rfl, fin D ys k h'' hD ?_ ((s''.2 D CD).trans o') fun b o hb e => (s''.2 b ?_).trans (k' b o hb e)⟩⟩
  · refine T.stab _ _ _ _ j' fun b o e q => (s''.2 b ?_).trans e
    intro z; rw [z, hC] at q; rcases q with q | q <;> omega
  · have := lt_of_get e; intro z; rw [z, hC] at this; omega
/-- a comprehension that is stored at once -/
theorem W.assignComp {T₀ X : List Addr} {h₀ hb : Heap} {L : Addr} {m : Str → Option Value} {y : Str} {py spos : Pos} {elt target iter : Expr} {ifs : List Expr} {scope : Scope} {cl : List (Str × Addr)} {pos : Pos} {Q : Flow → Heap → Prop} (F : Fk T₀ X h₀ L m hb h) (hLX : ∀ b ∈ X, @LT.lt Nat _ b h.objs.size)
    (hclos : closureFor scope env = Pure.pure cl) (hcell : ∀ y ∈ scope.names, y.2 ≠ .cell) (hkind : scope.kind = .function) (hnames : ∀ y ∈ scope.names, y.2 = .local → scope.names.lookup y.1 = some .local)
    (H : W w G A (eval iter env) h fun xv h₁ => W w G A (pyIter xv) h₁ fun it h₂ => Ext h h₂ ∧ @LE.le Nat _ h.objs.size h₂.objs.size ∧ ∃ (I : Addr) (fp wr : List Addr) (n : Nat) (P Md : Nat → Value → Heap → Prop) (S : Nat → Heap → Prop) (J : Nat → List Value → Heap → Prop),
      it = .ref I ∧ KTurns PR w A target I fp wr n P Md S ∧ (∀ {tk}, ∀ {Q : Value → Shared → Prop} {E : Value → Shared → Prop} {hc : Heap}, S 0 hc → Q (.ref I) (St G hc tk) → wpAny (model PR w) A (pyIter (.ref I)) Q E (St G hc tk)) ∧
      n ≤ sizeLine ∧ S 0 h₂ ∧ (∀ b ∈ fp, @LT.lt Nat _ b h₂.objs.size) ∧ (∀ b ∈ wr, @LE.le Nat _ h.objs.size b) ∧ CompTurns w G A env target scope cl ifs elt wr n P h₂ J ∧ (∀ i ys hc hc', J i ys hc → KX [L] hc hc' → J i ys hc') ∧
      ∀ D ys k h', @LE.le Nat _ h.objs.size D → J n ys h' → h'.get? D = some (lo ys.toArray k) → Fk T₀ X h₀ L (fun z => if z = y then some (.ref D) else m z) h h' → Q .next h')
    (hs : ∀ x, foldedSetIterable iter env x = Pure.pure x := by intro _; rfl) (hsw : swapsWith (.ListComp elt [⟨target, iter, ifs, 0⟩] scope pos) (some (.Name y py)) spos.line env = Pure.pure true := by rfl)
    (hL : env.locals = L := by rfl) (hl : env.kindOf y = some .local := by rfl) (hp : (env.scope.kind == .class || (env.scope.kind == .module && env.locals != env.globals)) = false := by rfl) :
    W w G A (exec (.Assign [.Name y py] (.ListComp elt [⟨target, iter, ifs, 0⟩] scope pos) spos) env) h Q := fun _ => by
  rw [exec_Assign_Name_used _ _ _ _ hsw]
  refine wpAny_bind (wpAny_standAt (wpAny_bind ?_))
  show wpAny _ A (do let _ ← comprehension (.ListComp elt [⟨target, iter, ifs, 0⟩] scope pos) scope env _ (newList []) false (eval iter env) (some (PySem.assign (.Name y py) env))) _ _ _
  refine wpAny_bind (wpAny_mono (wpAny_comprehension_free (use := some (PySem.assign (.Name y py) env)) (Q := fun _ s' => ∃ h' tk', s' = St G h' tk' ∧ Q .next h') (E := fun _ _ => False) rfl hs hclos hkind hnames (W.nest (H.mono fun xv h₁ k => fun _ => W.nest (k.mono fun it h₂ k₂ => fun tk₂ => ?_)))) (fun _ s' hq => wpAny_pure (wpAny_pure hq)) fun _ _ e => e)
  obtain ⟨e₂, hh₂, I, fp, wr, n, P, Md, S, J, rfl, Wk, hI, hz, s0, hfp, hwr, T, stL, fin⟩ := k₂
  refine comp_block (RR := fun acc C => compPost (model PR w) A (fun _ _ => False) (some (PySem.assign (.Name y py) env)) (fun _ s' => ∃ h' tk', s' = St G h' tk' ∧ Q .next h') acc C) Wk hI hz hcell hkind s0 hfp T ?_
  intro D C h' m' tk ys k hD hC n' j' o' k'
  have CD : D ≠ C := by rw [hD, hC]; exact Nat.ne_of_lt (Nat.lt_succ_self _)
  have hLh : @LT.lt Nat _ L h.objs.size := hLX L F.mem
  have F' : Fk T₀ X h₀ L m h h' := by
    have up : ∀ b o, h.get? b = some o → h'.get? b = some o := fun b o e => k' b o (fun q => by have := hwr b q; have := lt_of_get e; omega) (e₂ b o e)
    exact F.mark.more up
  have hLD : L ≠ D := by rw [hD]; exact Nat.ne_of_lt (Nat.lt_of_lt_of_le hLh hh₂)
  have hLC : L ≠ C := by rw [hC]; exact Nat.ne_of_lt (Nat.lt_succ_of_lt (Nat.lt_of_lt_of_le hLh hh₂))
  show wpAny _ A (PySem.assign (.Name y py) env (.ref D)) _ _ _
  refine wpAny_assign_Name (W.nest (W.st F' (fun h₅ F₅ s₅ => fun tk₅ => ?_) hL hl hp))
  refine ⟨m', n'.sameBut s₅ (Ne.symm hLC), fun h₆ s₆ => ⟨h₆, tk₅, rfl, fin D ys k h₆ (by rw [hD]; exact hh₂) ?_ ((s₆.2 D CD).trans ((s₅.2 D (Ne.symm hLD)).trans o')) ?_⟩⟩
  · refine T.stab _ _ _ _ (stL _ _ _ _ j' (KX.same s₅ (List.mem_singleton.mpr rfl))) fun b o e q => (s₆.2 b ?_).trans e
    intro z; rw [z, hC] at q; rcases q with q | q <;> omega
  · refine F₅.kx (Y := [C]) (KX.same s₆ (List.mem_singleton.mpr rfl)) (fun b hb => ?_) (fun b hb => ?_)
    · rw [List.mem_singleton.mp hb, hC]; exact Nat.lt_succ_of_lt (Nat.lt_of_lt_of_le hLh hh₂)
    · rw [List.mem_singleton.mp hb, hC]; exact Nat.le_succ_of_le hh₂

theorem W.tests0 {Q : Bool → Heap → Prop} (q : Q true h) : W w G A (testsOf [] env) h Q := fun tk => wpAny_tests_nil ⟨h, tk, rfl, q⟩
theorem W.tests1 {c : Expr} {Q : Bool → Heap → Prop} (H : W w G A (isTrue c env (eval c env)) h Q) : W w G A (testsOf [c] env) h Q := fun tk => wpAny_tests_one (H tk)
theorem KB.ofC {wr : List Addr} {n₂ : Nat} {hc hc' : Heap} {C : Addr} (hC : C = n₂ + 1) (k : KX [C] hc hc') : KB wr n₂ hc hc' := fun b o e q => k b o (not_mem1 (by rw [hC]; rcases q with q | q; exact Nat.ne_of_gt q; exact Nat.ne_of_lt (Nat.lt_succ_of_lt q.1))) e
theorem KB.ofExt {wr : List Addr} {n₂ : Nat} {hc hc' : Heap} (k : Ext hc hc') : KB wr n₂ hc hc' := fun b o e _ => k b o e
theorem kind_comp {scope : Scope} {cl : List (Str × Addr)} {C : Addr} (hkind : scope.kind = .function) : ((compEnvC scope cl C env).scope.kind == .class || ((compEnvC scope cl C env).scope.kind == .module && (compEnvC scope cl C env).locals != (compEnvC scope cl C env).globals)) = false := by
  show (scope.kind == .class || (scope.kind == .module && _)) = false; rw [hkind]; rfl
theorem CompTurns.name {x : Str} {px : Pos} {scope : Scope} {cl : List (Str × Addr)} {elt : Expr} {wr : List Addr} {n : Nat} {P : Nat → Value → Heap → Prop} {h₂ : Heap} {J : Nat → List Value → Heap → Prop} (hkind : scope.kind = .function) (hx : scope.names.lookup x = some .local)
    (j0 : J 0 [] h₂) (stab : ∀ i ys hc hc', J i ys hc → KB wr h₂.objs.size hc hc' → J i ys hc')
    (el : ∀ i v ys C m hc₀ hc, i < n → P i v hc₀ → KX [C] hc₀ hc → J i ys hc → C = h₂.objs.size + 1 → hc.Ns C m → m x = some v → (∀ b o, b ∉ wr → h₂.get? b = some o → hc.get? b = some o) → @LE.le Nat _ (h₂.objs.size + 2) hc.objs.size →
      W w G A (eval elt (compEnvC scope cl C env)) hc fun y h₅ => Ext hc h₅ ∧ J (i + 1) (ys ++ [y]) h₅) : CompTurns w G A env (.Name x px) scope cl [] elt wr n P h₂ J where
  j0 := j0
  stab := stab
  turn := fun i v ys C m hc hi pv j hC hn k sz => by
    refine W.assignName (W.store hn (lookup_relabel_local hx) (fun h₃ n₃ s₃ => ?_) (kind_comp hkind))
    have k₃ : KX [C] hc h₃ := KX.same s₃ (List.mem_singleton.mpr rfl)
    refine W.tests0 ⟨k₃, ⟨_, n₃⟩, ?_⟩
    rw [if_pos rfl]
    refine el i v ys C _ hc h₃ hi pv k₃ (stab _ _ _ _ j (KB.ofC hC k₃)) hC n₃ (if_pos rfl) (fun b o hb e => k₃ b o (not_mem1 ?_) (k b o hb e)) (by have := n₃.lt; rw [hC] at this; exact this)
    rw [hC]; exact Nat.ne_of_lt (Nat.lt_succ_of_lt (lt_of_get e))
theorem CompTurns.name1 {x : Str} {px : Pos} {scope : Scope} {cl : List (Str × Addr)} {c elt : Expr} {wr : List Addr} {n : Nat} {P : Nat → Value → Heap → Prop} {h₂ : Heap} {J : Nat → List Value → Heap → Prop} (hkind : scope.kind = .function) (hx : scope.names.lookup x = some .local)
    (j0 : J 0 [] h₂) (stab : ∀ i ys hc hc', J i ys hc → KB wr h₂.objs.size hc hc' → J i ys hc')
    (el : ∀ i v ys C m hc₀ hc, i < n → P i v hc₀ → KX [C] hc₀ hc → J i ys hc → C = h₂.objs.size + 1 → hc.Ns C m → m x = some v → (∀ b o, b ∉ wr → h₂.get? b = some o → hc.get? b = some o) → @LE.le Nat _ (h₂.objs.size + 2) hc.objs.size →
      ∃ b, TB w A (compEnvC scope cl C env) hc c b ∧ (b = true → W w G A (eval elt (compEnvC scope cl C env)) hc fun y h₅ => Ext hc h₅ ∧ J (i + 1) (ys ++ [y]) h₅) ∧ (b = false → J (i + 1) ys hc)) : CompTurns w G A env (.Name x px) scope cl [c] elt wr n P h₂ J where
  j0 := j0
  stab := stab
  turn := fun i v ys C m hc hi pv j hC hn k sz => by
    refine W.assignName (W.store hn (lookup_relabel_local hx) (fun h₃ n₃ s₃ => ?_) (kind_comp hkind))
    have k₃ : KX [C] hc h₃ := KX.same s₃ (List.mem_singleton.mpr rfl)
    have kk : ∀ b o, b ∉ wr → h₂.get? b = some o → h₃.get? b = some o := fun b o hb e => k₃ b o (not_mem1 (by rw [hC]; exact Nat.ne_of_lt (Nat.lt_succ_of_lt (lt_of_get e)))) (k b o hb e)
    obtain ⟨b, tb, y1, y2⟩ := el i v ys C _ hc h₃ hi pv k₃ (stab _ _ _ _ j (KB.ofC hC k₃)) hC n₃ (if_pos rfl) kk (by have := n₃.lt; rw [hC] at this; exact this)
    refine W.tests1 (tb.use ⟨k₃, ⟨_, n₃⟩, ?_⟩)
    cases b with
    | true => rw [if_pos rfl]; exact y1 rfl
    | false => exact y2 rfl
theorem CompTurns.pair {x y : Str} {px py pt : Pos} {kk : Nat} {scope : Scope} {cl : List (Str × Addr)} {elt : Expr} {wr : List Addr} {n : Nat} {P : Nat → Value → Heap → Prop} {h₂ : Heap} {J : Nat → List Value → Heap → Prop} (hh : A.handled = none) (hkind : scope.kind = .function) (hx : scope.names.lookup x = some .local) (hy : scope.names.lookup y = some .local)
    (pt2 : ∀ i v hc, P i v hc → ∃ t u w', v = .ref t ∧ hc.IsTuple t #[u, w'])
    (j0 : J 0 [] h₂) (stab : ∀ i ys hc hc', J i ys hc → KB wr h₂.objs.size hc hc' → J i ys hc')
    (el : ∀ i v t u w' ys C m hc₀ hc, i < n → P i v hc₀ → v = .ref t → hc₀.IsTuple t #[u, w'] → J i ys hc → C = h₂.objs.size + 1 → hc.Ns C m → (y ≠ x → m x = some u) → m y = some w' → (∀ b o, b ∉ wr → h₂.get? b = some o → hc.get? b = some o) → @LE.le Nat _ (h₂.objs.size + 2) hc.objs.size →
      W w G A (eval elt (compEnvC scope cl C env)) hc fun y h₅ => Ext hc h₅ ∧ J (i + 1) (ys ++ [y]) h₅) : CompTurns w G A env (.Tuple [.Name x px, .Name y py] kk pt) scope cl [] elt wr n P h₂ J where
  j0 := j0
  stab := stab
  turn := fun i v ys C m hc hi pv j hC hn k sz => by
    obtain ⟨t, u, w', rfl, it⟩ := pt2 i v hc pv
    have F : Fk [] [C] hc C m hc hc ∨ True := .inr trivial
    have aux : W w G A (PySem.assign (.Tuple [.Name x px, .Name y py] kk pt) (compEnvC scope cl C env) (.ref t)) hc fun _ h' => (∃ m', h'.Ns C m' ∧ (y ≠ x → m' x = some u) ∧ m' y = some w') ∧ KX [C] hc h' := fun tk => by
      refine wpAny_assign_Tuple hh it rfl rfl fun h₁ e₁ => ?_
      have E₁ : Ext hc h₁ := fun b o q => e₁ b o (Nat.ne_of_lt (lt_of_get q)) q
      show wpAny _ A (do holding [w'] (PySem.assign (.Name x px) (compEnvC scope cl C env) u); do holding [] (PySem.assign (.Name y py) (compEnvC scope cl C env) w'); Pure.pure ()) _ _ (St G h₁ tk)
      refine wpAny_bind (wpAny_holding (wpAny_assign_Name (W.nest (W.store (hn.keeps E₁) (lookup_relabel_local hx) (fun h₂ n₂ s₂ => fun tk₂ => ?_) (kind_comp hkind)))))
      refine wpAny_bind (wpAny_holding (wpAny_assign_Name (W.nest (W.store n₂ (lookup_relabel_local hy) (fun h₃ n₃ s₃ => fun tk₃ => ?_) (kind_comp hkind)))))
      exact wpAny_pure ⟨h₃, tk₃, rfl, ⟨_, n₃, fun q => by rw [if_neg (Ne.symm q), if_pos rfl], if_pos rfl⟩, (KX.ofExt E₁).trans ((KX.same s₂ (List.mem_singleton.mpr rfl)).trans (KX.same s₃ (List.mem_singleton.mpr rfl)))⟩
    refine aux.mono fun _ h₃ ⟨⟨m₃, n₃, a, b⟩, k₃⟩ => W.tests0 ⟨k₃, ⟨_, n₃⟩, ?_⟩
    rw [if_pos rfl]
    refine el i _ t u w' ys C _ hc h₃ hi pv rfl it (stab _ _ _ _ j (KB.ofC hC k₃)) hC n₃ a b (fun b o hb e => k₃ b o (not_mem1 ?_) (k b o hb e)) (by have := n₃.lt; rw [hC] at this; exact this)
    rw [hC]; exact Nat.ne_of_lt (Nat.lt_succ_of_lt (lt_of_get e))

/-! ## sources -/
theorem W.iterList {l : Addr} {items : Array Value} {K : Value → Heap → Prop} (hl : h.IsList l items) (k : ∀ I h', I = h.objs.size → h'.objs.size = h.objs.size + 1 → Ext h h' → h'.IsListIter I l 0 → K (.ref I) h') : W w G A (pyIter (.ref l)) h K := fun tk =>
  wpAny_pyIter_list hl ⟨_, tk, rfl, k _ _ rfl (Heap.size_push ..) (Ext.push _) ⟨_, Heap.get?_push_size _ rfl, rfl, rfl⟩⟩
theorem turns_list {x : Str} {px : Pos} (hh : A.handled = none) (I l : Addr) (hne : l ≠ I) (items : Array Value) :
    KTurns PR w A (.Name x px) I [I, l] [I] items.size (fun i v _ => items[i]? = some v) (fun i v h => items[i]? = some v ∧ h.IsListIter I l (i + 1) ∧ h.IsList l items) (fun i h => h.IsListIter I l i ∧ h.IsList l items) :=
  KTurns.ofWalks (Walks.list hh I l hne items) fun i v s Q E st q => wpAny_pure q
theorem goes_listiter {elts : List Expr} {k : Nat} {pos : Pos} {I t : Addr} {i : Nat} {v : Value} {E : Value → Shared → Prop} {s : Shared} {Q : Unit → Shared → Prop} (hI : s.heap.IsListIter I t i) (q : Q () s) :
    wpAny (model PR w) A (letOwnedTupleGo (.Tuple elts k pos) (.ref I) v) Q E s := by
  obtain ⟨o, ho, hc, hd⟩ := hI
  unfold letOwnedTupleGo
  cases v <;> first
    | exact wpAny_pure q
    | (refine wpAny_bind (wpAny_load ho ?_)
       rw [hc, hd]
       dsimp only
       rw [if_neg (by simp)]
       exact wpAny_pure q)
theorem turns_listT {elts : List Expr} {k : Nat} {pos : Pos} (hh : A.handled = none) (I l : Addr) (hne : l ≠ I) (items : Array Value) :
    KTurns PR w A (.Tuple elts k pos) I [I, l] [I] items.size (fun i v _ => items[i]? = some v) (fun i v h => items[i]? = some v ∧ h.IsListIter I l (i + 1) ∧ h.IsList l items) (fun i h => h.IsListIter I l i ∧ h.IsList l items) :=
  KTurns.ofWalks (Walks.list hh I l hne items) fun i v s Q E st q => goes_listiter st.1 q
/-- a comprehension over a list, a plain name, no test -/
theorem W.compList {elt iter : Expr} {x : Str} {px : Pos} {scope : Scope} {cl : List (Str × Addr)} {pos : Pos} {Q : Value → Heap → Prop} (hh : A.handled = none)
    (hclos : closureFor scope env = Pure.pure cl) (hcell : ∀ y ∈ scope.names, y.2 ≠ .cell) (hkind : scope.kind = .function) (hnames : ∀ y ∈ scope.names, y.2 = .local → scope.names.lookup y.1 = some .local) (hx : scope.names.lookup x = some .local)
    (H : W w G A (eval iter env) h fun xv h₁ => ∃ l items, xv = .ref l ∧ h₁.IsList l items ∧ items.size ≤ sizeLine ∧ ∃ J : Nat → List Value → Heap → Prop,
      J 0 [] h₁ ∧ (∀ i ys hc hc', J i ys hc → KB [h₁.objs.size] (h₁.objs.size + 1) hc hc' → J i ys hc') ∧
      (∀ i v ys C m hc, items[i]? = some v → J i ys hc → C = h₁.objs.size + 2 → hc.Ns C m → m x = some v → Ext h₁ hc → @LE.le Nat _ (h₁.objs.size + 3) hc.objs.size →
        W w G A (eval elt (compEnvC scope cl C env)) hc fun y h₅ => Ext hc h₅ ∧ J (i + 1) (ys ++ [y]) h₅) ∧
      ∀ D ys k h', D = h₁.objs.size + 1 → J items.size ys h' → h'.get? D = some (lo ys.toArray k) → Ext h₁ h' → Q (.ref D) h')
    (hs : ∀ x, foldedSetIterable iter env x = Pure.pure x := by intro _; rfl) : W w G A (eval (.ListComp elt [⟨.Name x px, iter, [], 0⟩] scope pos) env) h Q := by
  refine W.comp hclos hcell hkind hnames (H.mono fun xv h₁ k => ?_) hs
  obtain ⟨l, items, rfl, il, hz, J, j0, stab, el, fin⟩ := k
  refine W.iterList il fun I h₂ hI sz e₂ ii => ?_
  have lI : l ≠ I := by rw [hI]; obtain ⟨o, ho, _⟩ := il; exact Nat.ne_of_lt (lt_of_get ho)
  have ll : @LT.lt Nat _ l h₁.objs.size := by obtain ⟨o, ho, _⟩ := il; exact lt_of_get ho
  have up : ∀ hc : Heap, (∀ b o, b ∉ [I] → h₂.get? b = some o → hc.get? b = some o) → Ext h₁ hc := fun hc k b o e => k b o (not_mem1 (by rw [hI]; exact Nat.ne_of_lt (lt_of_get e))) (e₂ b o e)
  refine ⟨I, _, _, _, _, _, _, J, rfl, turns_list hh I l lI items, fun st q => wpAny_pyIter_listiter st.1 q, hz, ⟨ii, il.at fun o e => e₂ _ _ e⟩, ?_, ?_, ?_⟩
  · intro b hb
    rcases List.mem_cons.mp hb with e | hb
    · rw [e, hI, sz]; exact Nat.lt_succ_self _
    · rw [List.mem_singleton.mp hb, sz]; exact Nat.lt_succ_of_lt ll
  · refine CompTurns.name hkind hx ?_ ?_ ?_
    · exact stab _ _ _ _ j0 (KB.ofExt e₂)
    · intro i ys hc hc' j k
      refine stab _ _ _ _ j fun b o e q => k b o e ?_
      rw [sz, hI]; exact q
    · intro i v ys C m hc₀ hc hi pv _ j hC hn hm k sz'
      exact el i v ys C m hc pv j (by rw [hC, sz]) hn hm (up hc k) (by rw [sz] at sz'; exact sz')
  · intro D ys k h' hD j o' k'
    exact fin D ys k h' (by rw [hD, sz]) j o' (up h' k')
end
end Mine
namespace Mine
section
variable {w : World} {G : Shared} {A : Around} {h : Heap} {env : Env}
/-- a def with cells is entered -/
theorem W.intoC {f : Addr} {o : Obj} {name qual : Str} {params : Arguments} {body : List Stmt} {scope : Scope} {dV kV doc pm cdv ct : Value} {an : Option Addr} {vs : List Value} {binds : List (Str × Value)} {Q : Value → Heap → Prop} {k : Nat} (T : List Addr)
    (r : Rm A (k + 1)) (hl : h.NoLimit) (ho : h.get? f = some o) (hd : o.data = .func (fnX name qual params body scope [] dV kV doc pm an cdv ct)) (hc : h.CodeRec cdv qual)
    (hb : bindArgs (fnX name qual params body scope [] dV kV doc pm an cdv ct) ⟨vs, []⟩ = Pure.pure binds) (hkind : (binds.all fun y => scope.names.lookup y.1 == some .local || scope.names.lookup y.1 == some .cell) = true)
    (H : ∀ L h₁, Fk T [L] h L (bindL (envX qual scope L f cdv (cellsFrom (L + 1) scope.names [])).kindOf binds fun _ => none) h₁ h₁ → Ext h h₁ →
      (∀ n c, (cellsFrom (L + 1) scope.names []).lookup n = some c → h₁.IsCell c (bindC (envX qual scope L f cdv (cellsFrom (L + 1) scope.names [])).kindOf binds (fun _ => none) n)) →
      W w G (A.deeper (envX qual scope L f cdv (cellsFrom (L + 1) scope.names []))) (execs body (envX qual scope L f cdv (cellsFrom (L + 1) scope.names []))) h₁ fun fl h' => Q (match fl with | .ret v => v | _ => .none) h')
    (hco : scope.isCoroutine = false := by rfl) (hgen : scope.isGenerator = false := by rfl) (hk : scope.kind = .function := by rfl) : W w G A (call (.ref f) vs) h Q := fun tk =>
  wpAny_call (codeAny_call_cells (s := St G h tk) (fd := fnX name qual params body scope [] dV kV doc pm an cdv ct) (body := body) (by have := r.dp; omega) ho hd hl hc rfl hb rfl (kindsX hkind _)
    (fun s₁ x => by
      obtain ⟨h₁, tk₁, rfl⟩ := x.toInCall.same
      exact W.nest ((H h.objs.size h₁ ⟨x.toInCall.ns, KX.ofExt x.toInCall.keep, KX.refl _ _, List.mem_singleton.mpr rfl, Nat.le_refl _⟩ x.toInCall.keep x.cell).mono fun fl h' q => fun tk' => ⟨h', tk', rfl, q⟩)) hco hgen hk)
/-- names in cells -/
theorem EV.cell {x : Str} {pos : Pos} {c : Addr} {v : Value} {P : Value → Prop} (hc : env.cells.lookup x = some c) (hv : h.IsCell c (some v)) (p : P v) (hl : env.kindOf x = some .cell := by rfl)
    (hk : env.scope.kind = .function := by rfl) (hd : (x == ("__debug__" : Str)) = false := by decide) : EV w A env h (.Name x pos) P := fun _ tk =>
  wpAny_Name (wpAny_loadName_cell hk hl hc hv ⟨h, tk, rfl, rfl, p⟩) hd
theorem EV.free {x : Str} {pos : Pos} {c : Addr} {v : Value} {P : Value → Prop} (hc : env.cells.lookup x = some c) (hv : h.IsCell c (some v)) (p : P v) (hl : env.kindOf x = some .free := by rfl)
    (hk : env.scope.kind = .function := by rfl) (hd : (x == ("__debug__" : Str)) = false := by decide) (hn : (x == ("__classdict__" : Str)) = false := by decide) : EV w A env h (.Name x pos) P := fun _ tk =>
  wpAny_Name (wpAny_loadName_free hk hl hc hv ⟨h, tk, rfl, rfl, p⟩ hn) hd
theorem isCell_keeps {h h' : Heap} {c : Addr} {v : Option Value} (x : h.IsCell c v) (k : Ext h h') : h'.IsCell c v := x.keeps k
theorem isCell_kx {X : List Addr} {h h' : Heap} {c : Addr} {v : Option Value} (x : h.IsCell c v) (k : KX X h h') (n : c ∉ X) : h'.IsCell c v := let ⟨o, e, d⟩ := x; ⟨o, k c o n e, d⟩
/-- globals and built-ins inside a comprehension's block -/
theorem EV.globE {x : Str} {pos : Pos} {v : Value} (g : Gd w h) (e : nsIn (Mine.hd.heap_39 w.params) mainGlobals x = some (some v)) (hg : env.globals = mainGlobals)
    (hk : env.scope.kind = .function) (hx : env.kindOf x = some .globalImplicit) (hd : (x == ("__debug__" : Str)) = false := by decide) : EV w A env h (.Name x pos) (IsV v) := fun _ tk =>
  let ⟨_, _, _, t, _⟩ := g.T; Name_function_global hk hx (loadGlobal_global (env := env) (hg ▸ t.g) (mg_of g.X t.g e) ⟨h, tk, rfl, rfl, rfl⟩) hd
theorem EV.biE {x : Str} {pos : Pos} {v : Value} (g : Gd w h) (e : nsIn (Mine.hd.heap_39 w.params) mainGlobals x = some Option.none) (hv : bootBuiltins x = some v) (hn : x ≠ "__name__") (hg : env.globals = mainGlobals) (hb : env.builtins = builtinsNs)
    (hk : env.scope.kind = .function) (hx : env.kindOf x = some .globalImplicit) (hd : (x == ("__debug__" : Str)) = false := by decide) : EV w A env h (.Name x pos) (IsV v) := fun _ tk =>
  let ⟨_, _, _, t, _⟩ := g.T; Name_function_global hk hx (loadGlobal_builtin (env := env) (hg ▸ t.g) (mg_none_of g.X t.g e) (hb ▸ t.b) ((t.builtins x hn).trans hv) ⟨h, tk, rfl, rfl, rfl⟩) hd
/-- a call of a type under a name (one argument or more) -/
theorem W.callTy {func e : Expr} {rest : List Expr} {pos : Pos} {Q : Value → Heap → Prop} {id : String} (hf : EV w A env h func (IsV (.type id)))
    (H : W w G A (spliced (backTo pos (starEach (e :: rest) env))) h fun vs h₁ => W w G A (call (.type id) vs) h₁ Q)
    (he : eval (.Call func (e :: rest) [] pos) env = (do callWith pos (← eval func env) [] (backTo pos (starEach (e :: rest) env)) (backToKw pos (keywordEach [] env))) := by rfl)
    (hs : starEach (e :: rest) env = (false, eval e env) :: starEach rest env := by rfl) (hp : (backTo pos (starEach rest env)).any (·.1) = false := by rfl) : W w G A (eval (.Call func (e :: rest) [] pos) env) h Q := fun _ =>
  Call_ (W.nest (hf.use fun v q => fun _ => by cases q; exact PyProof.Rows.callWith_type1 (W.nest (H.mono fun vs h₁ k => fun tk' => k tk')) hs hp)) he

theorem W.binop {l r : Expr} {op : Operator} {pos : Pos} {Q : Value → Heap → Prop} (H : W w G A (eval l env) h fun a h₁ => W w G A (eval r env) h₁ fun b h₂ => W w G A (binaryOp op a b) h₂ Q) : W w G A (eval (.BinOp l op r pos) env) h Q := fun _ =>
  wpAny_BinOp (W.nest (H.mono fun a h₁ k => fun _ => W.nest (k.mono fun b h₂ k => fun tk => k tk)))
theorem W.addII {a b : Int} {x y : Value} {Q : Value → Heap → Prop} (hx : IsI a x) (hy : IsI b y) (q : ∀ v, IsI (a + b) v → Q v h) : W w G A (binaryOp .Add x y) h Q := fun tk => by
  obtain ⟨_, rfl⟩ := hx; obtain ⟨_, rfl⟩ := hy; exact PyProof.Rows.add_int ⟨h, tk + 1, rfl, q _ ⟨_, rfl⟩⟩
theorem W.andII {a b : Int} {x y : Value} {Q : Value → Heap → Prop} (hx : IsI a x) (hy : IsI b y) (q : ∀ v, IsI (Builtin.bitAnd a b) v → Q v h) : W w G A (binaryOp .BitAnd x y) h Q := fun tk => by
  obtain ⟨_, rfl⟩ := hx; obtain ⟨_, rfl⟩ := hy; exact PyProof.Rows.and_int ⟨h, tk + 1, rfl, q _ ⟨_, rfl⟩⟩
theorem W.addSS {a b : Str} {x y : Value} {Q : Value → Heap → Prop} (hx : IsS a x) (hy : IsS b y) (hz : a.length + b.length ≤ sizeLine) (q : ∀ v, IsS (a ++ b) v → Q v h) : W w G A (binaryOp .Add x y) h Q := fun tk => by
  obtain ⟨_, rfl⟩ := hx; obtain ⟨_, rfl⟩ := hy; exact PyProof.Rows.add_str (fun t' tk' => ⟨h, tk', rfl, q _ ⟨_, rfl⟩⟩) hz
theorem W.neData {a b : Value} {da db : PyData} {as bs : List Addr} {Q : Value → Heap → Prop} (ra : Reads h a da as) (rb : Reads h b db bs) (ha : SeqAt.shaped da = true) (hb : SeqAt.shaped db = true) (hu : A.units + 64 < cLine) (q : Q (.bool (!PyData.eqv da db)) h) : W w G A (compareOp .NotEq a b) h Q := fun tk =>
  ne_dataH ra rb ha hb hu ⟨h, tk, rfl, q⟩
theorem W.eqData {a b : Value} {da db : PyData} {as bs : List Addr} {Q : Value → Heap → Prop} (ra : Reads h a da as) (rb : Reads h b db bs) (ha : SeqAt.shaped da = true) (hb : SeqAt.shaped db = true) (hu : A.units + 64 < cLine) (q : Q (.bool (PyData.eqv da db)) h) : W w G A (compareOp .Eq a b) h Q := fun tk =>
  eq_dataH ra rb ha hb hu ⟨h, tk, rfl, q⟩
/-- the signs of a written text -/
theorem W.iterStr {x : Str} {v : Value} {K : Value → Heap → Prop} (hv : IsS x v) (ha : x.cps.all (· < 128) = true) (k : ∀ I t h', I = h.objs.size → h'.objs.size = h.objs.size + 1 → Ext h h' → h'.IsStrIter I "str_ascii_iterator" x t 0 → K (.ref I) h') : W w G A (pyIter v) h K := fun tk => by
  obtain ⟨t, rfl⟩ := hv
  exact wpAny_pyIter_ascii ha ⟨_, tk, rfl, k _ t _ rfl (Heap.size_push ..) (Ext.push _) ⟨_, Heap.get?_push_size _ rfl, rfl, rfl⟩⟩
theorem turns_str {x : Str} {px : Pos} {y : Str} (hh : A.handled = none) (I : Addr) (t : Tok) :
    KTurns PR w A (.Name y px) I [I] [I] x.cps.size (fun i v _ => SignAt x i v) (fun i v h => SignAt x i v ∧ h.IsStrIter I "str_ascii_iterator" x t (i + 1)) (fun i h => h.IsStrIter I "str_ascii_iterator" x t i) :=
  KTurns.ofWalks (Walks.strAscii hh I x t) fun i v s Q E st q => wpAny_pure q
/-- a comprehension over a written text's signs -/
theorem W.compStr {elt iter : Expr} {x : Str} {px : Pos} {scope : Scope} {cl : List (Str × Addr)} {pos : Pos} {Q : Value → Heap → Prop} {txt : Str} (hh : A.handled = none)
    (hclos : closureFor scope env = Pure.pure cl) (hcell : ∀ y ∈ scope.names, y.2 ≠ .cell) (hkind : scope.kind = .function) (hnames : ∀ y ∈ scope.names, y.2 = .local → scope.names.lookup y.1 = some .local) (hx : scope.names.lookup x = some .local)
    (ha : txt.cps.all (· < 128) = true) (hz : txt.cps.size ≤ sizeLine) (he : EV w A env h iter (IsS txt)) (J : Nat → List Value → Heap → Prop) (j0 : J 0 [] h) (stab : ∀ i ys hc hc', J i ys hc → KB [h.objs.size] (h.objs.size + 1) hc hc' → J i ys hc')
    (el : ∀ i v ys C m hc, SignAt txt i v → J i ys hc → C = h.objs.size + 2 → hc.Ns C m → m x = some v → Ext h hc → W w G A (eval elt (compEnvC scope cl C env)) hc fun y h₅ => Ext hc h₅ ∧ J (i + 1) (ys ++ [y]) h₅)
    (fin : ∀ D ys k h', D = h.objs.size + 1 → J txt.cps.size ys h' → h'.get? D = some (lo ys.toArray k) → Ext h h' → Q (.ref D) h')
    (hs : ∀ x, foldedSetIterable iter env x = Pure.pure x := by intro _; rfl) : W w G A (eval (.ListComp elt [⟨.Name x px, iter, [], 0⟩] scope pos) env) h Q := by
  refine W.comp hclos hcell hkind hnames (he.use fun xv hv => ?_) hs
  refine W.iterStr hv ha fun I t h₂ hI sz e₂ ii => ?_
  have up : ∀ hc : Heap, (∀ b o, b ∉ [I] → h₂.get? b = some o → hc.get? b = some o) → Ext h hc := fun hc k b o e => k b o (not_mem1 (by rw [hI]; exact Nat.ne_of_lt (lt_of_get e))) (e₂ b o e)
  refine ⟨I, _, _, _, _, _, _, J, rfl, turns_str hh I t, fun st q => wpAny_pyIter_striter_ascii st q, hz, ii, ?_, ?_, ?_⟩
  · intro b hb
    rw [List.mem_singleton.mp hb, hI, sz]; exact Nat.lt_succ_self _
  · refine CompTurns.name hkind hx (stab _ _ _ _ j0 (KB.ofExt e₂)) ?_ ?_
    · intro i ys hc hc' j k
      refine stab _ _ _ _ j fun b o e q => k b o e ?_
      rw [sz, hI]; exact q
    · intro i v ys C m hc₀ hc hi pv _ j hC hn hm k sz'
      exact el i v ys C m hc pv j (by rw [hC, sz]) hn hm (up hc k)
  · intro D ys k h' hD j o' k'
    exact fin D ys k h' (by rw [hD, sz]) j o' (up h' k')
end
end Mine
namespace Mine
theorem fill4 : PySem.Challenge.rw_mr0175_01.row.prog = PySem.Challenge.rw_mr0175_01.row.prog ∧ Mine.hd.heap_39 = Mine.hd.heap_39 := by
  k_fill
  exact ⟨rfl, rfl⟩
section
variable {w : World} {G : Shared} {A : Around} {h : Heap}
theorem isDIR {n : Int} {u : Tok} {k : Nat} {Q : Value → Heap → Prop} (g : Gd w h) (r : Rm A (k + 2)) (q : ∀ v h', Ext h h' → IsB (Builtin.bitAnd n 61440 == 16384) v → Q v h') : W w G A (call (.ref 42) [.int n u]) h Q := by
  refine W.into [] r g.nolimit (g.X _ _ (by k_is)) rfl (codeRec_of g.X (by k_is)) (fun _ => BindsTo.of_eq rfl) rfl fun L h₁ F₁ e₁ => ?_
  refine W.execs_cons (W.ret (W.cmpE (W.callFn (EV.glob (F₁.gd0 g) (by k_is)) rfl (W.args1 (P := IsI n) (by exact EV.lc F₁ rfl ⟨_, rfl⟩) fun v ⟨t, e⟩ => ⟨(F₁.gd0 g).X _ _ (by k_is), ?_⟩))))
  subst e
  refine ifmt (F₁.gd0 g) (r.deeper _) fun v₂ h₂ e₂ p₂ => ?_
  exact (EV.glob (F₁.gd0 g |>.keeps e₂) (by k_is)).use fun v₃ p₃ => by
    cases p₃
    exact W.useII eq_ii p₂ ⟨_, rfl⟩ (q _ h₂ (Ext.trans e₁ e₂) rfl)
theorem isCHR {n : Int} {u : Tok} {k : Nat} {Q : Value → Heap → Prop} (g : Gd w h) (r : Rm A (k + 2)) (q : ∀ v h', Ext h h' → IsB (Builtin.bitAnd n 61440 == 8192) v → Q v h') : W w G A (call (.ref 49) [.int n u]) h Q := by
  refine W.into [] r g.nolimit (g.X _ _ (by k_is)) rfl (codeRec_of g.X (by k_is)) (fun _ => BindsTo.of_eq rfl) rfl fun L h₁ F₁ e₁ => ?_
  refine W.execs_cons (W.ret (W.cmpE (W.callFn (EV.glob (F₁.gd0 g) (by k_is)) rfl (W.args1 (P := IsI n) (by exact EV.lc F₁ rfl ⟨_, rfl⟩) fun v ⟨t, e⟩ => ⟨(F₁.gd0 g).X _ _ (by k_is), ?_⟩))))
  subst e
  refine ifmt (F₁.gd0 g) (r.deeper _) fun v₂ h₂ e₂ p₂ => ?_
  exact (EV.glob (F₁.gd0 g |>.keeps e₂) (by k_is)).use fun v₃ p₃ => by
    cases p₃
    exact W.useII eq_ii p₂ ⟨_, rfl⟩ (q _ h₂ (Ext.trans e₁ e₂) rfl)
theorem isBLK {n : Int} {u : Tok} {k : Nat} {Q : Value → Heap → Prop} (g : Gd w h) (r : Rm A (k + 2)) (q : ∀ v h', Ext h h' → IsB (Builtin.bitAnd n 61440 == 24576) v → Q v h') : W w G A (call (.ref 56) [.int n u]) h Q := by
  refine W.into [] r g.nolimit (g.X _ _ (by k_is)) rfl (codeRec_of g.X (by k_is)) (fun _ => BindsTo.of_eq rfl) rfl fun L h₁ F₁ e₁ => ?_
  refine W.execs_cons (W.ret (W.cmpE (W.callFn (EV.glob (F₁.gd0 g) (by k_is)) rfl (W.args1 (P := IsI n) (by exact EV.lc F₁ rfl ⟨_, rfl⟩) fun v ⟨t, e⟩ => ⟨(F₁.gd0 g).X _ _ (by k_is), ?_⟩))))
  subst e
  refine ifmt (F₁.gd0 g) (r.deeper _) fun v₂ h₂ e₂ p₂ => ?_
  exact (EV.glob (F₁.gd0 g |>.keeps e₂) (by k_is)).use fun v₃ p₃ => by
    cases p₃
    exact W.useII eq_ii p₂ ⟨_, rfl⟩ (q _ h₂ (Ext.trans e₁ e₂) rfl)
theorem isREG {n : Int} {u : Tok} {k : Nat} {Q : Value → Heap → Prop} (g : Gd w h) (r : Rm A (k + 2)) (q : ∀ v h', Ext h h' → IsB (Builtin.bitAnd n 61440 == 32768) v → Q v h') : W w G A (call (.ref 63) [.int n u]) h Q := by
  refine W.into [] r g.nolimit (g.X _ _ (by k_is)) rfl (codeRec_of g.X (by k_is)) (fun _ => BindsTo.of_eq rfl) rfl fun L h₁ F₁ e₁ => ?_
  refine W.execs_cons (W.ret (W.cmpE (W.callFn (EV.glob (F₁.gd0 g) (by k_is)) rfl (W.args1 (P := IsI n) (by exact EV.lc F₁ rfl ⟨_, rfl⟩) fun v ⟨t, e⟩ => ⟨(F₁.gd0 g).X _ _ (by k_is), ?_⟩))))
  subst e
  refine ifmt (F₁.gd0 g) (r.deeper _) fun v₂ h₂ e₂ p₂ => ?_
  exact (EV.glob (F₁.gd0 g |>.keeps e₂) (by k_is)).use fun v₃ p₃ => by
    cases p₃
    exact W.useII eq_ii p₂ ⟨_, rfl⟩ (q _ h₂ (Ext.trans e₁ e₂) rfl)
theorem isFIFO {n : Int} {u : Tok} {k : Nat} {Q : Value → Heap → Prop} (g : Gd w h) (r : Rm A (k + 2)) (q : ∀ v h', Ext h h' → IsB (Builtin.bitAnd n 61440 == 4096) v → Q v h') : W w G A (call (.ref 70) [.int n u]) h Q := by
  refine W.into [] r g.nolimit (g.X _ _ (by k_is)) rfl (codeRec_of g.X (by k_is)) (fun _ => BindsTo.of_eq rfl) rfl fun L h₁ F₁ e₁ => ?_
  refine W.execs_cons (W.ret (W.cmpE (W.callFn (EV.glob (F₁.gd0 g) (by k_is)) rfl (W.args1 (P := IsI n) (by exact EV.lc F₁ rfl ⟨_, rfl⟩) fun v ⟨t, e⟩ => ⟨(F₁.gd0 g).X _ _ (by k_is), ?_⟩))))
  subst e
  refine ifmt (F₁.gd0 g) (r.deeper _) fun v₂ h₂ e₂ p₂ => ?_
  exact (EV.glob (F₁.gd0 g |>.keeps e₂) (by k_is)).use fun v₃ p₃ => by
    cases p₃
    exact W.useII eq_ii p₂ ⟨_, rfl⟩ (q _ h₂ (Ext.trans e₁ e₂) rfl)
theorem isLNK {n : Int} {u : Tok} {k : Nat} {Q : Value → Heap → Prop} (g : Gd w h) (r : Rm A (k + 2)) (q : ∀ v h', Ext h h' → IsB (Builtin.bitAnd n 61440 == 40960) v → Q v h') : W w G A (call (.ref 77) [.int n u]) h Q := by
  refine W.into [] r g.nolimit (g.X _ _ (by k_is)) rfl (codeRec_of g.X (by k_is)) (fun _ => BindsTo.of_eq rfl) rfl fun L h₁ F₁ e₁ => ?_
  refine W.execs_cons (W.ret (W.cmpE (W.callFn (EV.glob (F₁.gd0 g) (by k_is)) rfl (W.args1 (P := IsI n) (by exact EV.lc F₁ rfl ⟨_, rfl⟩) fun v ⟨t, e⟩ => ⟨(F₁.gd0 g).X _ _ (by k_is), ?_⟩))))
  subst e
  refine ifmt (F₁.gd0 g) (r.deeper _) fun v₂ h₂ e₂ p₂ => ?_
  exact (EV.glob (F₁.gd0 g |>.keeps e₂) (by k_is)).use fun v₃ p₃ => by
    cases p₃
    exact W.useII eq_ii p₂ ⟨_, rfl⟩ (q _ h₂ (Ext.trans e₁ e₂) rfl)
theorem isSOCK {n : Int} {u : Tok} {k : Nat} {Q : Value → Heap → Prop} (g : Gd w h) (r : Rm A (k + 2)) (q : ∀ v h', Ext h h' → IsB (Builtin.bitAnd n 61440 == 49152) v → Q v h') : W w G A (call (.ref 84) [.int n u]) h Q := by
  refine W.into [] r g.nolimit (g.X _ _ (by k_is)) rfl (codeRec_of g.X (by k_is)) (fun _ => BindsTo.of_eq rfl) rfl fun L h₁ F₁ e₁ => ?_
  refine W.execs_cons (W.ret (W.cmpE (W.callFn (EV.glob (F₁.gd0 g) (by k_is)) rfl (W.args1 (P := IsI n) (by exact EV.lc F₁ rfl ⟨_, rfl⟩) fun v ⟨t, e⟩ => ⟨(F₁.gd0 g).X _ _ (by k_is), ?_⟩))))
  subst e
  refine ifmt (F₁.gd0 g) (r.deeper _) fun v₂ h₂ e₂ p₂ => ?_
  exact (EV.glob (F₁.gd0 g |>.keeps e₂) (by k_is)).use fun v₃ p₃ => by
    cases p₃
    exact W.useII eq_ii p₂ ⟨_, rfl⟩ (q _ h₂ (Ext.trans e₁ e₂) rfl)
/-! ## _law_agrees -/
noncomputable def strB (b : Bool) : Str := if b then ("True" : Str) else ("False" : Str)
noncomputable def saidF (n : Int) : List Bool := [Builtin.bitAnd n 61440 == 4096, Builtin.bitAnd n 61440 == 8192, Builtin.bitAnd n 61440 == 16384, Builtin.bitAnd n 61440 == 24576, Builtin.bitAnd n 61440 == 32768, Builtin.bitAnd n 61440 == 40960, Builtin.bitAnd n 61440 == 49152]
noncomputable def kindText : Str := "pcdb-ls"
noncomputable def kindsF (kd : Str) : List Bool := kindText.cps.toList.map fun c => kd == (⟨#[c]⟩ : Str)
noncomputable def bitsF (c : Int) : Int := 2 ^ (9 - c).toNat + (if c.fmod 3 = 0 then 2 ^ (12 - c.fdiv 3).toNat else 0)
noncomputable def cellOk (n wd : Int) (kd : Str) (c : Int) : Bool := if c == 0 then saidF n == kindsF kd else Builtin.bitAnd (Builtin.bitAnd n 4095) (bitsF c) == Builtin.bitAnd wd (bitsF c)
/-- str of each of a list of bools -/
theorem strs_comp {env : Env} {C : Addr} (bs : List Bool) (i : Nat) (b : Bool) (ys : List Value) (hb : bs[i]? = some b) (t : Tok) (hy : ∃ l, ys = strValues l ∧ l.map (·.1) = (bs.take i).map strB) :
    ∃ l, ys ++ [.str (strB b) t] = strValues l ∧ l.map (·.1) = (bs.take (i + 1)).map strB := by
  obtain ⟨l, rfl, hl⟩ := hy
  refine ⟨l ++ [(strB b, t)], by simp [strValues], ?_⟩
  rw [List.take_add_one, hb, List.map_append, List.map_append, hl]; rfl
theorem W.strOf {b : Bool} {Q : Value → Heap → Prop} (q : ∀ v, IsS (strB b) v → Q v h) : W w G A (call (.type "str") [.bool b]) h Q := fun tk =>
  P.str_of_bool ⟨h, tk + 1, rfl, q _ ⟨tk, by unfold strB; cases b <;> rfl⟩⟩
theorem carried_strs : ∀ (l : List (Str × Tok)), CarriedAll (strValues l) ((l.map (·.1)).map PyData.str)
  | [] => .nil
  | p :: l => .cons (.str p.1 p.2) (carried_strs l)
theorem strs_reads (l : List (Str × Tok)) {D : Addr} {k : Nat} (e : h.get? D = some (lo (strValues l).toArray k)) : Reads h (.ref D) (.list ((l.map (·.1)).map PyData.str)) [D] := reads_newData (isList_lo e) (carried_strs l)
theorem canLay_strs : ∀ ns : List Str, (∀ x ∈ ns, PyData.strOk x = true) → PyData.canLayAll0 (ns.map PyData.str) = true
  | [], _ => rfl
  | x :: r, k => by simp [PyData.canLayAll0, PyData.canLay0, canLay_strs r fun y hy => k y (.tail _ hy), k x (.head _)]
theorem depth_strs : ∀ ns : List Str, PyData.depthAll (ns.map PyData.str) = 0
  | [] => rfl
  | _ :: r => by simp [PyData.depthAll, PyData.depth, depth_strs r]
theorem shaped_strs (bs : List Bool) : SeqAt.shaped (.list ((bs.map strB).map PyData.str)) = true := by
  have : ∀ x ∈ bs.map strB, PyData.strOk x = true := fun x hx => by
    obtain ⟨b, _, rfl⟩ := List.mem_map.mp hx
    cases b <;> decide +kernel
  simp only [SeqAt.shaped, PyData.canLay0, PyData.depth, canLay_strs _ this, depth_strs]; decide
theorem eqv_strs : ∀ ns ms : List Str, PyData.eqvAll (ns.map PyData.str) (ms.map PyData.str) = decide (ns = ms)
  | [], [] => by simp [PyData.eqvAll]
  | [], _ :: _ => by simp [PyData.eqvAll]
  | _ :: _, [] => by simp [PyData.eqvAll]
  | a :: r, b :: t => by
    simp only [List.map_cons, PyData.eqvAll, PyData.eqv, eqv_strs r t]
    by_cases h : a = b <;> by_cases h' : r = t <;> simp [h, h']
theorem strB_inj {a b : Bool} (h : strB a = strB b) : a = b := by
  revert h; cases a <;> cases b <;> decide
theorem map_strB {xs ys : List Bool} (h : xs.map strB = ys.map strB) : xs = ys := by
  induction xs generalizing ys with
  | nil => cases ys with | nil => rfl | cons y ys => cases h
  | cons x xs ih => cases ys with
    | nil => cases h
    | cons y ys => injection h with h1 h2; rw [strB_inj h1, ih h2]
theorem bits_pow {c : Int} (h0 : 1 ≤ c) (h1 : c < 10) : (Builtin.Int.intBits 2 : Int) * (9 - c) ≤ 2 ^ 27 := by
  have : Builtin.Int.intBits 2 = 2 := by decide
  rw [this]; omega
theorem bits_pow' {c : Int} (h0 : 1 ≤ c) (h1 : c < 10) : (Builtin.Int.intBits 2 : Int) * (12 - c.fdiv 3) ≤ 2 ^ 27 := by
  have : Builtin.Int.intBits 2 = 2 := by decide
  rw [this, Int.fdiv_eq_ediv_of_nonneg _ (by decide)]; omega
theorem agrees_says {n wd : Int} {u1 u2 u3 : Tok} {kd : Str} {lc : Addr} {items : Array Value} {cs : List Int} {k : Nat} {Q : Value → Heap → Prop} (g : Gd w h) (r : Rm A (k + 12))
    (il : h.IsList lc items) (isz : items.size = cs.length) (iit : ∀ (j : Nat) v, items[j]? = some v → ∃ c, cs[j]? = some c ∧ IsI c v) (rng : ∀ c ∈ cs, 0 ≤ c ∧ c < 10)
    (q : ∀ v h', Ext h h' → IsB (cs.all (cellOk n wd kd)) v → Q v h') : W w G A (call (.ref 150) [.int n u1, .int wd u2, .str kd u3, .ref lc]) h Q := by
  refine W.intoC [] (k := k + 11) r g.nolimit (g.X _ _ (by k_is)) rfl (codeRec_of g.X (by k_is)) rfl rfl fun L h₁ F₁ e₁ cel => ?_
  have ck : h₁.IsCell (L + 1) (some (.str kd u3)) := cel "kind" (L + 1) rfl
  -- the loop over counted
  have lcL : @LT.lt Nat _ lc h.objs.size := by obtain ⟨o, ho, _⟩ := il; exact lt_of_get ho
  refine W.execs_cons (W.forK ((EV.lc F₁ rfl rfl : EV w _ _ h₁ _ (IsV (.ref lc))).useV ?_))
  refine W.iterList (il.at fun o e => e₁ _ _ e) fun I h₂ hI sz e₂ ii => ?_
  have lcI : lc ≠ I := by rw [hI]; exact Nat.ne_of_lt (Nat.lt_trans (Nat.lt_of_lt_of_le lcL F₁.lt) F₁.ns.lt)
  have hI' : @LE.le Nat _ h₁.objs.size I := by rw [hI]; exact Nat.le_refl _
  have hL1 := F₁.ns.lt
  have hLI : @LT.lt Nat _ L I := Nat.lt_of_lt_of_le hL1 hI'
  have cL : @LT.lt Nat _ (L + 1) h₁.objs.size := by obtain ⟨o, ho, _⟩ := ck; exact lt_of_get ho
  refine ⟨I, _, _, _, _, _, _, [L], fun i hc => ∃ m', Fk [] [L] h L m' h₁ hc ∧ m' "mode" = some (.int n u1) ∧ m' "wanted" = some (.int wd u2) ∧ (cs.take i).all (cellOk n wd kd) = true,
    rfl, turns_list (by exact r.hd) I lc lcI items, ⟨ii, il.at fun o e => e₂ _ _ (e₁ _ _ e)⟩, ?_, ⟨_, F₁.mark.more e₂, rfl, rfl, rfl⟩, ?_, ?_, ?_⟩
  · intro b hb hb'
    rw [List.mem_singleton.mp hb'] at hb
    rcases List.mem_cons.mp hb with e | hb
    · exact Nat.ne_of_lt hLI e
    · have e := List.mem_singleton.mp hb
      rw [← e] at lcL
      exact Nat.lt_irrefl _ (Nat.lt_of_lt_of_le lcL F₁.lt)
  · rintro i hc hc' ⟨m', F', a, b, c⟩ kx
    exact ⟨m', F'.kx kx (fun b hb => by rw [List.mem_singleton.mp hb]; exact hLI) (fun b hb => by rw [List.mem_singleton.mp hb]; exact hI'), a, b, c⟩
  · rintro i v hc hi hv ⟨m', F', a, b, ok⟩ _
    obtain ⟨c, hc', ⟨tc, rfl⟩⟩ := iit i v hv
    obtain ⟨c0, c9⟩ := rng c (List.mem_of_getElem? hc')
    have step : ∀ x : Bool, cellOk n wd kd c = x → (cs.take (i + 1)).all (cellOk n wd kd) = x := fun x hx => by
      rw [List.take_add_one, hc', List.all_append, ok]; simp [hx]
    have out : cellOk n wd kd c = false → cs.all (cellOk n wd kd) = false := fun hx => by
      rw [List.all_eq_false]; exact ⟨c, List.mem_of_getElem? hc', by rw [hx]; decide⟩
    refine W.assignName (W.st F' fun h₃ F₃0 s₃ => ?_)
    refine W.hide fun Q' hQ' => ?_
    have F₃ := F₃0.mark
    have ck₃ : h₃.IsCell (L + 1) (some (.str kd u3)) := isCell_kx ck F₃0.kp (not_mem1 (Nat.succ_ne_self _))
    have k₃ : KX [L] hc h₃ := KX.same s₃ (List.mem_singleton.mpr rfl)
    refine W.execs_cons (W.ifb (TB.cmp (EV.lc F₃ rfl ⟨_, rfl⟩) EV.int eq_ii) (fun hc0 => ?_) fun hc0 => ?_)
    · have cz : c = 0 := by simpa using hc0
      subst cz
      have ctr : cellOk n wd kd 0 = (saidF n == kindsF kd) := rfl
      -- said
      have g₃ := F₃.gd0 g
      refine W.execs_cons (W.assign (W.listO (W.args_cons (W.callFn (EV.glob g₃ (by k_is)) rfl (W.args1 (P := IsI n) (by exact EV.lc F₃ a ⟨_, rfl⟩) fun v ⟨t, e⟩ => ⟨g₃.X _ _ (by k_is), ?_⟩)))))
      subst e
      refine isFIFO g₃ (r.deeper _) fun v1 h4 x4 p1 => ?_
      have F4 := F₃.more x4
      have g4 := F4.gd0 g
      refine W.args_cons (W.callFn (EV.glob g4 (by k_is)) rfl (W.args1 (P := IsI n) (by exact EV.lc F4 a ⟨_, rfl⟩) fun v ⟨t, e⟩ => ⟨g4.X _ _ (by k_is), ?_⟩))
      subst e
      refine isCHR g4 (r.deeper _) fun v2 h5 x5 p2 => ?_
      have F5 := F4.more x5
      have g5 := F5.gd0 g
      refine W.args_cons (W.callFn (EV.glob g5 (by k_is)) rfl (W.args1 (P := IsI n) (by exact EV.lc F5 a ⟨_, rfl⟩) fun v ⟨t, e⟩ => ⟨g5.X _ _ (by k_is), ?_⟩))
      subst e
      refine isDIR g5 (r.deeper _) fun v3 h6 x6 p3 => ?_
      have F6 := F5.more x6
      have g6 := F6.gd0 g
      refine W.args_cons (W.callFn (EV.glob g6 (by k_is)) rfl (W.args1 (P := IsI n) (by exact EV.lc F6 a ⟨_, rfl⟩) fun v ⟨t, e⟩ => ⟨g6.X _ _ (by k_is), ?_⟩))
      subst e
      refine isBLK g6 (r.deeper _) fun v4 h7 x7 p4 => ?_
      have F7 := F6.more x7
      have g7 := F7.gd0 g
      refine W.args_cons (W.callFn (EV.glob g7 (by k_is)) rfl (W.args1 (P := IsI n) (by exact EV.lc F7 a ⟨_, rfl⟩) fun v ⟨t, e⟩ => ⟨g7.X _ _ (by k_is), ?_⟩))
      subst e
      refine isREG g7 (r.deeper _) fun v5 h8 x8 p5 => ?_
      have F8 := F7.more x8
      have g8 := F8.gd0 g
      refine W.args_cons (W.callFn (EV.glob g8 (by k_is)) rfl (W.args1 (P := IsI n) (by exact EV.lc F8 a ⟨_, rfl⟩) fun v ⟨t, e⟩ => ⟨g8.X _ _ (by k_is), ?_⟩))
      subst e
      refine isLNK g8 (r.deeper _) fun v6 h9 x9 p6 => ?_
      have F9 := F8.more x9
      have g9 := F9.gd0 g
      refine W.args_cons (W.callFn (EV.glob g9 (by k_is)) rfl (W.args1 (P := IsI n) (by exact EV.lc F9 a ⟨_, rfl⟩) fun v ⟨t, e⟩ => ⟨g9.X _ _ (by k_is), ?_⟩))
      subst e
      refine isSOCK g9 (r.deeper _) fun v7 h10 x10 p7 => W.args_nil ⟨by show (7 : Nat) ≤ _; decide, fun D h11 hD x11 oD => ?_⟩
      cases p1; cases p2; cases p3; cases p4; cases p5; cases p6; cases p7
      have F11 := (F9.more x10).more x11
      refine W.st F11 fun h12 F12 s12 => ?_
      have DL : D ≠ L := by rw [hD]; exact Nat.ne_of_gt ((F9.more x10).ns.lt)
      have o12 : h12.get? D = some (lo ((saidF n).map Value.bool).toArray 0) := (s12.2 D DL).trans oD
      show W _ _ _ (execs _ _) _ _
      have g12 := F12.gd0 g
      have ck12 : h12.IsCell (L + 1) (some (.str kd u3)) := isCell_kx ck₃ F12.kp (not_mem1 (Nat.succ_ne_self _))
      refine W.execs_cons (W.ifs (W.testCmp (W.compList (by exact r.hd) rfl (by decide) rfl (by decide) rfl ((EV.lc F12 rfl rfl : EV w _ _ h12 _ (IsV (.ref D))).useV ?_))))
      refine ⟨D, _, rfl, isList_lo o12, by simp [saidF]; decide, fun i ys _ => ∃ l, ys = strValues l ∧ l.map (·.1) = ((saidF n).take i).map strB, ⟨[], rfl, rfl⟩, fun _ _ _ _ j _ => j, ?_, ?_⟩
      · intro i v ys C m hx hv j hC hn hm ex sz
        obtain ⟨b, hb, rfl⟩ : ∃ b, (saidF n)[i]? = some b ∧ v = .bool b := by
          have : (((saidF n).map Value.bool))[i]? = some v := by simpa using hv
          rw [List.getElem?_map] at this
          cases e : (saidF n)[i]? with
          | none => rw [e] at this; cases this
          | some b => rw [e] at this; cases this; exact ⟨b, rfl, rfl⟩
        refine W.callTy (EV.biE (g12.keeps ex) (by k_is) rfl (by decide) rfl rfl rfl rfl) (W.args1 (P := IsB b) (by exact EV.loc hn hm rfl) fun v e => ?_)
        cases e
        exact W.strOf fun v ⟨t, e⟩ => by
          subst e
          exact ⟨fun _ _ e => e, strs_comp (env := default) (C := 0) _ i b ys hb t j⟩
      · rintro D2 ys k2 h13 hD2 ⟨l1, rfl, hl1⟩ o13 x13
        have F13 := F12.more x13
        have g13 := F13.gd0 g
        have ck13 := isCell_keeps ck12 x13
        refine W.compStr (txt := kindText) (by exact r.hd) rfl (by decide) rfl (by decide) rfl (by decide +kernel) (by decide +kernel) EV.str (fun i ys _ => ∃ l, ys = strValues l ∧ l.map (·.1) = ((kindsF kd).take i).map strB) ⟨[], rfl, rfl⟩ (fun _ _ _ _ j _ => j) ?_ ?_
        · rintro i v ys C m hx ⟨c, uu, hcc, rfl⟩ j hC hn hm ex
          refine W.callTy (EV.biE (g13.keeps ex) (by k_is) rfl (by decide) rfl rfl rfl rfl) (W.args1 (P := IsB (kd == (⟨#[c]⟩ : Str))) (by exact EV.cmp (EV.cell rfl (isCell_keeps ck13 ex) ⟨_, rfl⟩) (EV.loc hn hm ⟨_, rfl⟩) eq_ss) fun v e => ?_)
          cases e
          refine W.strOf fun v ⟨t, e⟩ => ?_
          subst e
          refine ⟨fun _ _ e => e, strs_comp (env := default) (C := 0) _ i _ ys ?_ t j⟩
          unfold kindsF
          rw [List.getElem?_map, Array.getElem?_toList, hcc]; rfl
        · rintro D3 ys k3 h14 hD3 ⟨l2, rfl, hl2⟩ o14 x14
          have F14 := F13.more x14
          have e1 : l1.map (·.1) = (saidF n).map strB := by rw [hl1]; congr 1
          have e2 : l2.map (·.1) = (kindsF kd).map strB := by rw [hl2]; congr 1
          refine W.neData (strs_reads l1 (x14 _ _ o13)) (strs_reads l2 o14) (by rw [e1]; exact shaped_strs _) (by rw [e2]; exact shaped_strs _) (by have := (r.deeper (envX default default 0 0 default default)).un; show A.units + 3 + 64 < cLine; have : A.units + 3 + 8 * (k + 11) < cLine := this; omega) ⟨_, rfl, ?_⟩
          have ev : PyData.eqv (.list ((l1.map (·.1)).map PyData.str)) (.list ((l2.map (·.1)).map PyData.str)) = (saidF n == kindsF kd) := by
            simp only [PyData.eqv]
            rw [e1, e2, eqv_strs]
            by_cases hq : saidF n = kindsF kd
            · rw [hq]; simp
            · rw [decide_eq_false (fun q => hq (map_strB q)), beq_eq_false_iff_ne.mpr hq]
          rw [ev]
          by_cases hq : (saidF n == kindsF kd) = true
          · rw [hq]
            show W _ _ _ (execs [] _) _ _
            refine W.execs_nil ?_
            show W _ _ _ (execs _ _) _ _
            refine W.execs_nil ?_
            show W _ _ _ (execs _ _) _ _
            exact W.execs_nil (hQ' .next _ ⟨k₃.trans F14.kp, _, F₃0.since F14, a, b, step _ (ctr.trans hq)⟩)
          · rw [Bool.not_eq_true] at hq
            rw [hq]
            show W _ _ _ (execs [_] _) _ _
            exact W.execs_cons (W.ret (EV.boolc.use fun v e => by cases e; exact hQ' (.ret _) _ (q _ h14 F14.ext0 (by rw [out (ctr.trans hq)]; rfl))))
    · have cne : c ≠ 0 := by simpa using hc0
      have c1 : 1 ≤ c := by omega
      have ctr : cellOk n wd kd c = (Builtin.bitAnd (Builtin.bitAnd n 4095) (bitsF c) == Builtin.bitAnd wd (bitsF c)) := by
        unfold cellOk; rw [if_neg (by simpa using cne)]
      have g₃ := F₃.gd0 g
      -- bits
      refine W.execs_cons (W.assign (W.binop ((EV.pow EV.int (EV.sub EV.int (EV.lc F₃ rfl ⟨_, rfl⟩)) (by omega) (bits_pow c1 c9)).use fun v1 p1 => ?_)))
      refine W.itemL (W.listD (W.args_cons ((EV.pow EV.int (EV.sub EV.int (EV.floordiv (EV.lc F₃ rfl ⟨_, rfl⟩) EV.int (by decide) (by decide))) ?_ (bits_pow' c1 c9)).use fun a1 ⟨x1, E1⟩ => W.args2 EV.int EV.int fun a2 a3 ⟨x2, E2⟩ ⟨x3, E3⟩ => ⟨by show (3 : Nat) ≤ _; decide, fun l h₄ hl e₄ il4 => ?_⟩)))
      · rw [Int.fdiv_eq_ediv_of_nonneg _ (by decide)]; omega
      subst E1 E2 E3
      have F₄ := F₃.more e₄
      have hx : ∃ x, (([Value.int (2 ^ (12 - c.fdiv 3).toNat) x1, .int 0 x2, .int 0 x3] : List Value).toArray)[(c.fmod 3).toNat]? = some (.int (if c.fmod 3 = 0 then 2 ^ (12 - c.fdiv 3).toNat else 0) x) := by
        have h3 : c.fmod 3 = 0 ∨ c.fmod 3 = 1 ∨ c.fmod 3 = 2 := by have := Int.fmod_nonneg_of_pos c (b := 3) (by decide); have := Int.fmod_lt_of_pos c (b := 3) (by decide); omega
        rcases h3 with h3 | h3 | h3 <;> rw [h3] <;> exact ⟨_, rfl⟩
      obtain ⟨x, hx⟩ := hx
      refine ⟨l, _, _, _, rfl, il4, EV.mod (EV.lc F₄ rfl ⟨_, rfl⟩) EV.int (by decide), Int.fmod_nonneg_of_pos _ (by decide), ?_, hx, W.addII p1 ⟨_, rfl⟩ fun v2 p2 => W.st F₄ fun h₅ F₅ s₅ => ?_⟩
      · have := Int.fmod_lt_of_pos c (b := 3) (by decide); omega
      obtain ⟨t2, rfl⟩ := p2
      show W _ _ _ (execs _ _) _ _
      have g₅ := F₅.gd0 g
      refine W.execs_cons (W.ifs (W.testCmp (W.binop (W.callFn (EV.glob g₅ (by k_is)) rfl (W.args1 (P := IsI n) (by exact EV.lc F₅ a ⟨_, rfl⟩) fun v ⟨t, e⟩ => ⟨g₅.X _ _ (by k_is), ?_⟩)))))
      subst e
      refine imode g₅ (r.deeper _) fun v3 h₆ e₆ p3 => ?_
      have F₆ := F₅.more e₆
      refine (EV.lc F₆ rfl ⟨_, rfl⟩ : EV w _ _ h₆ _ (IsI (bitsF c))).use fun v4 p4 => W.andII p3 p4 fun v5 p5 => ?_
      refine EV.use (EV.bitand (EV.lc F₆ b ⟨_, rfl⟩) (EV.lc F₆ rfl ⟨_, rfl⟩ : EV w _ _ h₆ _ (IsI (bitsF c)))) fun v6 p6 => W.useII ne_ii p5 p6 ⟨_, rfl, ?_⟩
      by_cases hq : (Builtin.bitAnd (Builtin.bitAnd n 4095) (bitsF c) == Builtin.bitAnd wd (bitsF c)) = true
      · have hq' : (Builtin.bitAnd (Builtin.bitAnd n 4095) (bitsF c) != Builtin.bitAnd wd (bitsF c)) = false := by simpa [bne] using hq
        rw [hq']
        show W _ _ _ (execs [] _) _ _
        refine W.execs_nil ?_
        show W _ _ _ (execs _ _) _ _
        refine W.execs_nil ?_
        show W _ _ _ (execs _ _) _ _
        exact W.execs_nil (hQ' .next _ ⟨k₃.trans F₆.kp, _, F₃0.since F₆, a, b, step _ (ctr.trans hq)⟩)
      · rw [Bool.not_eq_true] at hq
        have hq' : (Builtin.bitAnd (Builtin.bitAnd n 4095) (bitsF c) != Builtin.bitAnd wd (bitsF c)) = true := by simpa [bne] using hq
        rw [hq']
        show W _ _ _ (execs [_] _) _ _
        exact W.execs_cons (W.ret (EV.boolc.use fun v e => by cases e; exact hQ' (.ret _) _ (q _ h₆ F₆.ext0 (by rw [out (ctr.trans hq)]; rfl))))
  · rintro hc ⟨m', F', a, b, ok⟩
    rw [isz, List.take_length] at ok
    refine W.execs_nil ?_
    show W _ _ _ (execs _ _) _ _
    exact W.execs_cons (W.ret (EV.boolc.use fun v e => by cases e; exact q _ hc F'.ext0 (by rw [ok]; rfl)))
end
end Mine
namespace Mine
theorem fn_setattr : typeLookup (.type "function") "__setattr__" = pure (some (.builtin "object.__setattr__")) := by rw [typeLookup_type, builtinLookup_eq_fast]; kernel_rfl
theorem fn_getattribute : typeLookup (.type "function") "__getattribute__" = pure (some (.builtin "object.__getattribute__")) := by rw [typeLookup_type, builtinLookup_eq_fast]; kernel_rfl
theorem fn_getattr : typeLookup (.type "function") "__getattr__" = pure none := by rw [typeLookup_type, builtinLookup_eq_fast]; kernel_rfl
theorem fn_span : typeLookup (.type "function") "span" = pure none := by rw [typeLookup_type, builtinLookup_eq_fast]; kernel_rfl
theorem fn_search : typeLookup (.type "function") "search" = pure none := by rw [typeLookup_type, builtinLookup_eq_fast]; kernel_rfl
theorem fn_mro : mroOf (.type "function") = pure [.type "function", .type "object"] := by rw [mroOf_type]; kernel_rfl
theorem fn_own : classOwn (.type "function") "__setattr__" = pure none := by kernel_rfl
theorem slot_fn_setattr : Slot "function" "__setattr__" "object.__setattr__" :=
  .of (owner := "object") (n := "__setattr__") (by rw [typeLookup_type, builtinLookup_eq_fast]; kernel_rfl) (by decide +kernel) (by decide +kernel) (by decide +kernel)
    (by first | exact .inl (by decide +kernel) | exact .inr (by decide +kernel)) (by rw [isSubtype_type]; kernel_rfl)
theorem slot_fn_getattribute : Slot "function" "__getattribute__" "object.__getattribute__" :=
  .of (owner := "object") (n := "__getattribute__") (by rw [typeLookup_type, builtinLookup_eq_fast]; kernel_rfl) (by decide +kernel) (by decide +kernel) (by decide +kernel)
    (by first | exact .inl (by decide +kernel) | exact .inr (by decide +kernel)) (by rw [isSubtype_type]; kernel_rfl)
theorem entry_getattribute : entryFor table "object.__getattribute__" = some Builtin.«object.__getattribute__» := entryFor_of_tree (by kernel_rfl)
open Builtin Builtin.ObjectAttr
theorem fn_own' : classOwn (.type "function") "__setattr__" = pure none := fn_own
theorem isObj : isObjects "object" "__setattr__" = true := by decide +kernel
theorem refuse_fn {w : World} {A : Around} {s : Shared} {E : Value → Shared → Prop} {Q : Unit → Shared → Prop} {f : Addr} (hT : s.TypeIs (.ref f) "function") (q : Q () s) : wpAny (model PR w) A (refuseIfOverridden (.ref f) "__setattr__") Q E s := by
  unfold refuseIfOverridden
  refine wpAny_bind (wpAny_typeOf hT ?_)
  rw [fn_mro]
  refine wpAny_bind (wpAny_pure ?_)
  have f3 := F.own_object_setattr
  have f2 := fn_own
  simp only [List.forIn_cons, List.forIn_nil, f2, f3, pure_bind, bind_assoc]
  exact wpAny_pure q

theorem instDict_fn {w : World} {A : Around} {s : Shared} {E : Value → Shared → Prop} {Q : Option Addr → Shared → Prop} {f : Addr} {fd : FuncData} {sl : Array (Option Value)} (ho : s.heap.get? f = some ⟨.type "function", none, .func fd, sl⟩)
    (q : Q (some s.heap.objs.size) { s with heap := (s.heap.push { cls := .type "dict", data := .dict #[] }).update f fun o => { o with dict := some s.heap.objs.size } }) : wpAny (model PR w) A (instanceDict f true) Q E s := by
  unfold instanceDict
  refine wpAny_bind (wpAny_loadPart ho ?_)
  show wpAny _ _ (if (!true || !typeHasDict (.type "function")) = true then _ else _) _ _ _
  rw [if_neg (by decide +kernel)]
  refine wpAny_bind (wpAny_alloc ?_)
  refine wpAny_bind (wpAny_update (Heap.get?_push_of_some _ ho) ?_)
  unfold dictMade
  show wpAny _ _ (if finalisedInACycleAlone "function" = true then _ else _) _ _ _
  rw [if_neg (by decide +kernel)]
  exact wpAny_pure q
theorem setAttr_fn {w : World} {A : Around} {s : Shared} {E : Value → Shared → Prop} {Q : Unit → Shared → Prop} {f : Addr} {fd : FuncData} {sl : Array (Option Value)} {name : Str} {v : Value} (ho : s.heap.get? f = some ⟨.type "function", none, .func fd, sl⟩) (hn : typeLookup (.type "function") name = pure none)
    (h : ∀ h' hsh t tk, h'.get? f = some ⟨.type "function", some s.heap.objs.size, .func fd, sl⟩ → h'.get? s.heap.objs.size = some (dictOf [⟨hsh, .str name t, v⟩] 1) → (∀ b o, b ≠ f → s.heap.get? b = some o → h'.get? b = some o) → Q () { s with heap := h', toks := tk }) :
    wpAny (model PR w) A (setAttr (.ref f) name v) Q E s := by
  obtain ⟨hp, g, d, tk, os⟩ := s
  have hT : ∀ tk', (⟨hp, g, d, tk', os⟩ : Shared).TypeIs (.ref f) "function" := fun _ => ⟨_, ho, rfl⟩
  unfold setAttr
  refine wpAny_bind (wpAny_mkText (wpAny_bind (wpAny_callSpecial?_slot (name := Str.ofString "__setattr__") (hT _) slot_fn_setattr (wpAny_call_entry slot_fn_setattr (hT _) F.entry_object_setattr ?_ (F.args_object_setattr_3 _ _ _)))))
  show wpAny _ _ (refuseIfOverridden (.ref f) "__setattr__" >>= fun _ => attrName (.str name tk) >>= fun nm => typeOf (.ref f) >>= fun tp => typeLookup tp nm >>= fun attr => storeTaker? attr >>= fun x => match x with
    | some a => setByDescriptor a (.ref f) v
    | none => storeInOwnDict (.ref f) tp (.str name tk) nm v attr.isSome) _ _ _
  refine wpAny_bind (refuse_fn (hT _) (wpAny_bind (wpAny_pure (wpAny_bind (wpAny_typeOf (hT _) ?_)))))
  rw [hn]
  refine wpAny_bind (wpAny_pure (wpAny_bind (wpAny_pure ?_)))
  have lt := lt_of_get ho
  have fne : f ≠ hp.objs.size := Nat.ne_of_lt lt
  show wpAny _ _ (instanceDict f true >>= fun x => match x with
    | some d => storeInDict d (.str name tk) name v
    | none => noDictFor (.ref f) (.type "function") name false) _ _ _
  refine wpAny_bind (instDict_fn ho ?_)
  have D0 : (hp.push { cls := .type "dict", data := .dict #[] }).get? hp.objs.size = some (dictOf [] 0) := Heap.get?_push_size _ rfl
  have D1 : ((hp.push { cls := .type "dict", data := .dict #[] }).update f fun o => { o with dict := some hp.objs.size }).get? hp.objs.size = some (dictOf [] 0) := ((Heap.SameBut.update _ _ _).2 _ (Ne.symm fne)).trans D0
  have F1 : ((hp.push { cls := .type "dict", data := .dict #[] }).update f fun o => { o with dict := some hp.objs.size }).get? f = some ⟨.type "function", some hp.objs.size, .func fd, sl⟩ := Heap.get?_update_self _ (Heap.get?_push_of_some _ ho) rfl
  have keep : ∀ b o, b ≠ f → hp.get? b = some o → ((hp.push { cls := .type "dict", data := .dict #[] }).update f fun o => { o with dict := some hp.objs.size }).get? b = some o := fun b o hb e => ((Heap.SameBut.update _ _ _).2 b hb).trans (Heap.get?_push_of_some _ e)
  dsimp only
  generalize ((hp.push { cls := .type "dict", data := .dict #[] }).update f fun o => { o with dict := some hp.objs.size }) = H at D1 F1 keep
  show wpAny _ _ (nsSet hp.objs.size name v >>= fun _ => lookBehind hp.objs.size (some (.str name 0)) >>= fun _ => ret .none) _ _ ⟨H, g, d, tk + 1, os⟩
  refine wpAny_bind ?_
  unfold nsSet
  refine wpAny_bind (wpAny_bind (wpAny_askSetting (wpAny_pure (wpAny_bind (wpAny_mkText (wpAny_bind (wpAny_loadPart D1 ?_)))))))
  dsimp only
  rw [aRefKeyMayBeTheName_at]
  rw [if_neg (by simp)]
  refine wpAny_updatePart (s := ⟨H, g, d, tk + 1 + 1, os⟩) D1 ?_
  have D2 : ∀ hsh t, (H.update hp.objs.size (Obj.putName name hsh (.str name t) v)).get? hp.objs.size = some (dictOf [⟨hsh, .str name t, v⟩] 1) := fun hsh t => by
    rw [Heap.get?_update_self _ D1 (by rw [putName_dict]; rfl), putName_dict]; rfl
  refine wpAny_bind (wpAny_lookBehind (D2 _ _) (pastItsLine_dict (by show (1 : Nat) ≤ _; decide)) ?_)
  refine wpAny_pure ⟨_, rfl, wpAny_pure (h _ _ _ _ (((Heap.SameBut.update _ _ _).2 f fne).trans F1) (D2 _ _) fun b o hb e => ((Heap.SameBut.update _ _ _).2 b ?_).trans (keep b o hb e))⟩
  exact Nat.ne_of_lt (lt_of_get e)
theorem getAttr_fn {w : World} {A : Around} {s : Shared} {E : Value → Shared → Prop} {Q : Value → Shared → Prop} {f dd : Addr} {fd : FuncData} {sl : Array (Option Value)} {name : Str} {v : Value} {hsh : Int} {t : Tok} {b : Bool} (ho : s.heap.get? f = some ⟨.type "function", some dd, .func fd, sl⟩) (hd : s.heap.get? dd = some (dictOf [⟨hsh, .str name t, v⟩] 1))
    (hn : typeLookup (.type "function") name = pure none) (hv : handedOut v = pure v) (h : ∀ tk, Q v { s with toks := tk }) : wpAny (model PR w) A (getAttr (.ref f) name b) Q E s := by
  obtain ⟨hp, g, d, tk, os⟩ := s
  have hT : ∀ tk', (⟨hp, g, d, tk', os⟩ : Shared).TypeIs (.ref f) "function" := fun _ => ⟨_, ho, rfl⟩
  unfold getAttr
  refine wpAny_bind (wpAny_mkText ?_)
  unfold getAttrBy
  refine wpAny_holding (wpAny_bind (wpAny_typeOf (hT _) ?_))
  rw [fn_getattribute]
  refine wpAny_bind (wpAny_pure ?_)
  show wpAny _ _ (getAttrByItsOwn (.ref f) (.str name tk) (.type "function") (.builtin "object.__getattribute__") true b) _ _ _
  unfold getAttrByItsOwn
  show wpAny _ _ (pure none >>= fun before : Option Value => (holding before.toList (callGetattribute (.ref f) (.str name tk) (.builtin "object.__getattribute__") b)).attempt >>= fun r => match r with
    | .ok v => handedOut v
    | .error e => getattributeRaised (.ref f) (.str name tk) (.type "function") e before true b) _ _ _
  refine wpAny_bind (wpAny_pure (wpAny_bind (wpAny_attempt (wpAny_holding ?_))))
  have hc : callGetattribute (.ref f) (.str name tk) (.builtin "object.__getattribute__") b = boundAndCalled (.builtin "object.__getattribute__") (.ref f) (.str name tk) := by
    unfold callGetattribute; cases b <;> rfl
  rw [hc]
  unfold boundAndCalled
  rw [slot_fn_getattribute.bind]
  refine wpAny_bind (wpAny_pure ?_)
  refine wpAny_call_entry slot_fn_getattribute (hT _) entry_getattribute ?_ (F.args_object_getattribute_2 _ _)
  show wpAny _ _ (typeOf (.ref f) >>= fun tp => find (.ref f) tp name >>= _) _ _ _
  refine wpAny_bind (wpAny_typeOf (hT _) (wpAny_bind ?_))
  unfold find
  rw [hn]
  refine wpAny_bind (wpAny_pure (wpAny_bind (wpAny_pure (wpAny_bind (wpAny_pure ?_)))))
  show wpAny _ _ (ownThenClass (.ref f) name none none) _ _ _
  unfold ownThenClass
  refine wpAny_bind ?_
  show wpAny _ _ (ObjectAttr.ownDict f >>= fun x => inDict name x) _ _ _
  unfold ObjectAttr.ownDict
  refine wpAny_bind (wpAny_bind (wpAny_loadPart ho ?_))
  show wpAny _ _ (instanceDict f false) _ _ _
  unfold instanceDict
  refine wpAny_bind (wpAny_loadPart ho ?_)
  refine wpAny_pure (a := some dd) ?_
  have N : hp.Ns dd (fun x => if x = name then some v else none) := by
    refine ⟨_, _, _, hd, rfl, ?_, ?_⟩
    · intro e he
      have : e = ⟨hsh, .str name t, v⟩ := by simpa using he
      exact ⟨name, t, by rw [this]⟩
    · intro x
      unfold nsFind findBy
      by_cases hx : x = name
      · subst hx; simp [Value.isStr]
      · have : (name == x) = false := beq_eq_false_iff_ne.mpr (Ne.symm hx)
        simp [Value.isStr, this, hx]
  refine wpAny_nsGet (m := fun x => if x = name then some v else none) N ?_
  rw [if_pos rfl]
  refine wpAny_bind (wpAny_rule (wpAny_pure (wpAny_pure ⟨v, rfl, ?_⟩)))
  show wpAny _ _ (handedOut v) _ _ _
  rw [hv]
  exact wpAny_pure (h _)
theorem getMethod_fn {w : World} {A : Around} {s : Shared} {E : Value → Shared → Prop} {Q : Value × List Value → Shared → Prop} {pl : Sem Bool} {f dd : Addr} {fd : FuncData} {sl : Array (Option Value)} {name : Str} {v : Value} {hsh : Int} {t : Tok} (ho : s.heap.get? f = some ⟨.type "function", some dd, .func fd, sl⟩) (hd : s.heap.get? dd = some (dictOf [⟨hsh, .str name t, v⟩] 1))
    (hn : typeLookup (.type "function") name = pure none) (hv : handedOut v = pure v) (h : ∀ tk, Q (v, []) { s with toks := tk }) : wpAny (model PR w) A (getMethod (.ref f) name pl) Q E s := by
  have hT : s.TypeIs (.ref f) "function" := ⟨_, ho, rfl⟩
  unfold getMethod
  refine wpAny_bind (wpAny_specialOf hT fn_getattribute ?_)
  show wpAny _ _ (if (Manifest.canonical "object.__getattribute__" != "object.__getattribute__") = true then _ else _) _ _ _
  rw [if_neg (by decide +kernel)]
  refine wpAny_bind (wpAny_specialOf hT fn_getattr ?_)
  refine wpAny_bind (wpAny_specialOf hT hn ?_)
  exact wpAny_bind (getAttr_fn ho hd hn hv fun tk => wpAny_pure (h tk))
end Mine
namespace Mine
section
variable {w : World} {G : Shared} {A : Around} {h : Heap} {env : Env}
/-! ## code records and the tables of nested codes -/
noncomputable def Sft (h : Heap) (X : List Addr) : Prop := ∀ x ∈ X, @LT.lt Nat _ x 141 ∨ ∃ o, h.get? x = some o ∧ ∀ vs, o.data ≠ .fields vs
theorem Sft.ns {L : Addr} {m : Str → Option Value} (n : h.Ns L m) : Sft h [L] := fun x hx => by
  rw [List.mem_singleton.mp hx]
  obtain ⟨o, es, ep, e, hd, _⟩ := n
  exact .inr ⟨o, e, fun vs q => by rw [hd] at q; cases q⟩
theorem Sft.t133 : Sft h [133] := fun x hx => .inl (by rw [List.mem_singleton.mp hx]; decide)
theorem Sft.t140 : Sft h [140] := fun x hx => .inl (by rw [List.mem_singleton.mp hx]; decide)
theorem Sft.nil : Sft h [] := fun x hx => nomatch hx
noncomputable def CR (h : Heap) (c : Addr) (q : Str) : Prop := h.CodeRec (.ref c) q ∧ @LE.le Nat _ 141 c
theorem CR.kx {h' : Heap} {X : List Addr} {c : Addr} {q : Str} (x : CR h c q) (k : KX X h h') (s : Sft h X) : CR h' c q := by
  obtain ⟨⟨c₀, o, vs, t, e, ho, hd, hv⟩, hc⟩ := x
  cases e
  refine ⟨⟨c, o, vs, t, rfl, k c o (fun hx => ?_) ho, hd, hv⟩, hc⟩
  rcases s c hx with q | ⟨o', e', n'⟩
  · exact absurd (Nat.lt_of_lt_of_le q hc) (Nat.lt_irrefl _)
  · rw [ho] at e'; cases e'; exact n' vs hd
theorem CR.keeps {h' : Heap} {c : Addr} {q : Str} (x : CR h c q) (k : Ext h h') : CR h' c q := x.kx (X := []) (KX.ofExt k) Sft.nil
noncomputable def TabAt (h : Heap) (P : Addr) (K : List (Pos × Str)) : Prop :=
  ∃ ps, h.get? P = some (tabObj ps) ∧ TriplesOk ps.toList ∧ ∀ q ∈ K, codeAmong q.1 ps.toList = none ∨ ∃ c, codeAmong q.1 ps.toList = some (.ref c) ∧ CR h c q.2
theorem TabAt.kx {h' : Heap} {X : List Addr} {P : Addr} {K : List (Pos × Str)} (x : TabAt h P K) (k : KX X h h') (s : Sft h X) (hP : P ∉ X) : TabAt h' P K := by
  obtain ⟨ps, e, t, a⟩ := x
  refine ⟨ps, k _ _ hP e, t, fun q hq => ?_⟩
  rcases a q hq with b | ⟨c, b, d⟩
  · exact .inl b
  · exact .inr ⟨c, b, d.kx k s⟩
theorem TabAt.keeps {h' : Heap} {P : Addr} {K : List (Pos × Str)} (x : TabAt h P K) (k : Ext h h') : TabAt h' P K := x.kx (X := []) (KX.ofExt k) Sft.nil (fun q => nomatch q)
theorem TabAt.empty {P : Addr} (e : h.get? P = some (tabObj #[])) (K : List (Pos × Str)) : TabAt h P K := ⟨#[], e, trivial, fun _ _ => .inl rfl⟩
theorem codeAmong_app {pos' : Pos} {a b : Int} {c : Value} (l : List Value) (ht : TriplesOk l) :
    codeAmong pos' (l ++ [rawInt a, rawInt b, c]) = match codeAmong pos' l with | some x => some x | none => if a == pos'.line && b == pos'.col then some c else none := by
  fun_induction TriplesOk l with
  | case1 => simp [codeAmong, rawInt]
  | case2 a t b u x rest ih =>
    simp only [List.cons_append, codeAmong]
    split
    · rfl
    · exact ih ht
  | case3 l h1 h2 => exact ht.elim
theorem fill7 : PySem.Challenge.rw_mr0175_01.row.prog = PySem.Challenge.rw_mr0175_01.row.prog ∧ Mine.hd.heap_39 = Mine.hd.heap_39 := by k_fill; exact ⟨rfl, rfl⟩
theorem Gd.lt (g : Gd w h) : @LT.lt Nat _ 162 h.objs.size := by
  have := g.X 162 _ (by k_is)
  exact lt_of_get this
end
end Mine
namespace Mine
section
variable {w : World} {G : Shared} {A : Around} {h : Heap} {env : Env}
/-! ## making functions -/
theorem W.makeTail {name qual : Str} {params : Arguments} {body : FuncBody} {scope : Scope} {dV : Value} {pos : Pos} {fl : Nat} {c P : Addr} {K : List (Pos × Str)} {clos : List (Str × Addr)} {Q : Value → Heap → Prop}
    (g : Gd w h) (hcl : closureFor scope env = Pure.pure clos) (hge0 : env.globals = mainGlobals) (hcode : env.code = .ref c) (C : CodeHd h c P) (T : TabAt h P K) (hK : (pos, qual) ∈ K) (hdet : ∀ q ∈ K, q.1.line = pos.line → q.1.col = pos.col → q.2 = qual)
    (k : ∀ f c' ctv doc pm h', KX [P] h h' → TabAt h' P K → @LE.le Nat _ h.objs.size f → CR h' c' qual → h'.get? f = some (kdv_obj name qual params body scope clos dV doc pm c' ctv) → Q (.ref f) h') :
    W w G A (PySem.makeTail name qual params body scope env dV .none none pos fl) h Q := fun tk => by
  obtain ⟨ps, hP, ht, ha⟩ := T
  obtain ⟨loose, mg, mb, TR, bm, ob, b1, b2, b3, b4, b5, b6⟩ := g.T
  have hgs := TR.g
  have hgP : mainGlobals ≠ P := fun q => by
    obtain ⟨o, es, ep, e, hd, _⟩ := hgs
    rw [q, hP] at e; cases e; cases hd
  have hbP : bm ≠ P := fun q => by rw [q, hP] at b3; cases b3; cases b4
  have hbG : bm ≠ mainGlobals := fun q => by
    obtain ⟨o, es, ep, e, hd, _⟩ := hgs
    rw [q, e] at b3; cases b3; rw [hd] at b6; cases b6
  have B : h.BuiltinsAt mg P := ⟨bm, ob, b1, b2, hbG, hbP, b3, b4, b5, b6⟩
  have h141 : @LE.le Nat _ 141 h.objs.size := Nat.le_of_lt (Nat.lt_trans (by decide) g.lt)
  have same : ∀ q ∈ K, ∀ (ps' : Array Value), codeAmong q.1 ps'.toList = codeAmong q.1 ps'.toList := fun _ _ _ => rfl
  rcases ha _ hK with hnf | ⟨c', hf, cr⟩
  · refine kdv_makeTail (s := St G h tk) (mg := mg) hcl hge0 hgs hcode C hP ht hnf hgP B fun c' ctv doc h' tk' hx hge hlt hrec htb => ?_
    have hk : KX [P] h h' := fun b o n e => hx b o (fun q => n (List.mem_singleton.mpr q)) e
    have cr : CR (h'.push (kdv_obj name qual params body scope clos dV doc ((mg "__name__").getD .none) c' ctv)) c' qual :=
      CR.keeps (h := h') ⟨hrec, Nat.le_trans h141 hge⟩ (Ext.push _)
    have sz : @LE.le Nat _ h.objs.size h'.objs.size := Nat.le_of_lt (Nat.lt_of_le_of_lt hge hlt)
    refine ⟨_, tk', rfl, k h'.objs.size c' ctv doc _ _ (hk.trans (KX.ofExt (Ext.push _))) ⟨_, Heap.get?_push_of_some _ htb, ?_, fun q hq => ?_⟩ sz cr (Heap.get?_push_size _ rfl)⟩
    · simpa using TriplesOk_snoc _ _ _ _ ht
    · have app : codeAmong q.1 (ps ++ #[rawInt pos.line, rawInt pos.col, .ref c']).toList = match codeAmong q.1 ps.toList with | some x => some x | none => if (pos.line : Int) == q.1.line && (pos.col : Int) == q.1.col then some (.ref c') else none := by
        rw [Array.toList_append]; exact codeAmong_app _ ht
      rw [app]
      rcases ha q hq with b | ⟨d, b, cr'⟩
      · rw [b]
        by_cases hm : ((pos.line : Int) == q.1.line && (pos.col : Int) == q.1.col) = true
        · dsimp only
          rw [if_pos hm]
          simp at hm
          rw [hdet q hq (by have := hm.1; omega) (by have := hm.2; omega)]
          exact .inr ⟨c', rfl, cr⟩
        · dsimp only; rw [if_neg hm]; exact .inl rfl
      · rw [b]
        refine .inr ⟨d, rfl, CR.keeps ?_ (Ext.push _)⟩
        obtain ⟨⟨d₀, o, vs, t, e, ho, hd, hv⟩, hc⟩ := cr'
        cases e
        refine ⟨⟨d, o, vs, t, rfl, hx d o ?_ ho, hd, hv⟩, hc⟩
        intro qq; rw [qq, hP] at ho; cases ho
        have hv : ps[1]? = some (.str q.2 t) := by cases hd; exact hv
        revert hv
        have hl : ps.toList[1]? = ps[1]? := by simp
        rw [← hl]
        intro hv
        match hpl : ps.toList, ht with
        | [], _ => rw [hpl] at hv; cases hv
        | .int _ _ :: .int _ _ :: _ :: rest, _ => rw [hpl] at hv; cases hv
  · refine kdv_makeTailHit (s := St G h tk) (mg := mg) hcl hge0 hgs hcode C hP ht hf B fun ctv doc h' tk' hk hsz => ?_
    have e' : Ext h (h'.push { cls := .type "function", data := .func (kdv_fn name qual params body scope clos dV doc ((mg "__name__").getD .none) (.ref c') ctv) }) := Ext.trans hk (Ext.push _)
    exact ⟨_, tk', rfl, k h'.objs.size c' ctv doc _ _ (KX.ofExt e') (TabAt.keeps ⟨ps, hP, ht, ha⟩ e') hsz (cr.keeps e') (Heap.get?_push_size _ rfl)⟩
theorem W.makeFn {name qual : Str} {params : Arguments} {body : FuncBody} {scope : Scope} {pos : Pos} {fl : Nat} {c P : Addr} {K : List (Pos × Str)} {clos : List (Str × Addr)} {Q : Value → Heap → Prop}
    (g : Gd w h) (hcl : closureFor scope env = Pure.pure clos) (hge0 : env.globals = mainGlobals) (hcode : env.code = .ref c) (C : CodeHd h c P) (T : TabAt h P K) (hK : (pos, qual) ∈ K) (hdet : ∀ q ∈ K, q.1.line = pos.line → q.1.col = pos.col → q.2 = qual)
    (k : ∀ f c' ctv doc pm h', KX [P] h h' → TabAt h' P K → @LE.le Nat _ h.objs.size f → CR h' c' qual → h'.get? f = some (kdv_obj name qual params body scope clos .none doc pm c' ctv) → Q (.ref f) h') :
    W w G A (makeFunction name qual params body scope env [] [] [] pos fl) h Q := fun tk => by
  rw [makeFunction_eq]
  simp only [List.zip_nil_right, List.filterMap_nil, List.isEmpty_nil, if_true, pure_bind]
  exact W.makeTail g hcl hge0 hcode C T hK hdet k tk
/-- with defaults -/
theorem W.makeFnD {name qual : Str} {params : Arguments} {body : FuncBody} {scope : Scope} {pos : Pos} {fl : Nat} {c P : Addr} {K : List (Pos × Str)} {clos : List (Str × Addr)} {Q : Value → Heap → Prop} {dv : List Value} (hne : dv.isEmpty = false)
    (g : Gd w h) (hcl : closureFor scope env = Pure.pure clos) (hge0 : env.globals = mainGlobals) (hcode : env.code = .ref c) (C : CodeHd h c P) (T : TabAt h P K) (hK : (pos, qual) ∈ K) (hdet : ∀ q ∈ K, q.1.line = pos.line → q.1.col = pos.col → q.2 = qual) (hPlt : @LT.lt Nat _ P h.objs.size)
    (k : ∀ f c' ctv doc pm D h', KX [P] h h' → TabAt h' P K → @LE.le Nat _ h.objs.size f → CR h' c' qual → @LE.le Nat _ h.objs.size D → h'.get? D = some (kdv_tup dv) → h'.get? f = some (kdv_obj name qual params body scope clos (.ref D) doc pm c' ctv) → Q (.ref f) h') :
    W w G A (makeFunction name qual params body scope env dv [] [] pos fl) h Q := fun tk => by
  rw [makeFunction_eq]
  simp only [List.zip_nil_right, List.filterMap_nil, List.isEmpty_nil, if_true, pure_bind, hne, Bool.false_eq_true, if_false]
  refine wpAny_bind (wpAny_newTextTuple ?_)
  have e : Ext h (h.push (kdv_tup dv)) := Ext.push _
  refine W.makeTail (h := h.push (kdv_tup dv)) (g.keeps e) hcl hge0 hcode (C.keeps e) (T.keeps e) hK hdet (fun f c' ctv doc pm h' kx T' hf cr of => k f c' ctv doc pm h.objs.size h' ((KX.ofExt e).trans kx) T' ?_ cr (Nat.le_refl _) (kx _ _ (not_mem1 (Nat.ne_of_gt hPlt)) (Heap.get?_push_size _ rfl)) of) tk
  exact Nat.le_trans (by rw [Heap.size_push]; exact Nat.le_succ _) hf
/-- a lambda -/
theorem W.lam {params : Arguments} {body : Expr} {scope : Scope} {pos : Pos} {Q : Value → Heap → Prop} (H : W w G A (makeFunction "<lambda>" (env.qual ++ "<lambda>") params (.expr body) scope env [] [] [] pos pos.line) h Q)
    (hdef : defaultsOf params env = ([], []) := by rfl) : W w G A (eval (.Lambda params body scope pos) env) h Q := fun tk => kla_eval hdef (H tk)
/-- a def inside a def, without defaults -/
theorem W.def0 {name : Str} {params : Arguments} {body : List Stmt} {scope : Scope} {pos : Pos} {Q : Flow → Heap → Prop}
    (H : W w G A (makeFunction name (qualnameIn env name name) params (.stmts body) scope env [] [] [] pos pos.line) h fun v h₁ => W w G A (storeName env name v) h₁ fun _ h₂ => Q .next h₂)
    (hd : params.defaults = [] := by rfl) (hk0 : params.kw_defaults = [] := by rfl) (ha : annTrees params none env = [] := by rfl) : W w G A (exec (.FunctionDef name params body [] none [] scope none name pos) env) h Q := fun tk => by
  rw [exec_def]
  refine wpAny_bind (wpAny_standAt (wpAny_bind (wpAny_holding ?_)))
  rw [defaultsOf_eq, hk0, ha, hd]
  refine wpAny_bind (kdv_all0 (env := env) ?_)
  refine wpAny_bind (wpAny_holding (wpAny_pure ?_))
  refine wpAny_holding (wpAny_bind (wpAny_pure ?_))
  exact W.nest (H.mono fun v h₁ k => fun tk' => wpAny_bind (wpAny_standAt (wpAny_bind (wpAny_bindName (W.nest (k.mono fun _ h₂ q => fun tk'' => wpAny_pure ⟨h₂, tk'', rfl, q⟩))))))
/-- a def inside a def, one default -/
theorem W.def1 {name : Str} {params : Arguments} {body : List Stmt} {scope : Scope} {pos : Pos} {d : Expr} {P : Value → Prop} {Q : Flow → Heap → Prop} (hd : EV w A env h d P)
    (H : ∀ v, P v → W w G A (makeFunction name (qualnameIn env name name) params (.stmts body) scope env [v] [] [] pos pos.line) h fun v h₁ => W w G A (storeName env name v) h₁ fun _ h₂ => Q .next h₂)
    (hdf : params.defaults = [d] := by rfl) (hk0 : params.kw_defaults = [] := by rfl) (ha : annTrees params none env = [] := by rfl) : W w G A (exec (.FunctionDef name params body [] none [] scope none name pos) env) h Q := fun tk => by
  refine kdv_def (by rw [hdf]; rfl) hk0 ha ?_
  rw [hdf]
  refine kdv_all1 (W.nest (hd.use fun v p => fun tk => kdv_all0 ?_))
  exact W.nest ((H v p).mono fun v h₁ k => fun tk' => W.nest (k.mono fun _ h₂ q => fun tk'' => ⟨h₂, tk'', rfl, q⟩))
/-- a store into a name in a cell -/
theorem W.storeC {x : Str} {c : Addr} {v₀ : Option Value} {v : Value} {Q : Unit → Heap → Prop} (hc : env.cells.lookup x = some c) (hv : h.IsCell c v₀) (k : ∀ h', h'.IsCell c (some v) → Heap.SameBut c h h' → Q () h')
    (hl : env.kindOf x = some .cell := by rfl) (hk : env.scope.kind = .function := by rfl) : W w G A (storeName env x v) h Q := fun tk =>
  wpAny_storeName_cell hk hl hc hv fun h' a b => ⟨h', tk, rfl, k h' a b⟩
/-- x.attr = value, on a function object without members -/
theorem W.setA {o : Expr} {attr : Str} {pos' pos : Pos} {value : Expr} {Q : Flow → Heap → Prop}
    (H : W w G A (eval value env) h fun v h₁ => ∃ f fd, EV w A env h₁ o (IsV (.ref f)) ∧ h₁.get? f = some ⟨.type "function", none, .func fd, #[]⟩ ∧
      ∀ h' dd hsh t, dd = h₁.objs.size → h'.get? f = some ⟨.type "function", some dd, .func fd, #[]⟩ → h'.get? dd = some (dictOf [⟨hsh, .str attr t, v⟩] 1) → KX [f] h₁ h' → Q .next h')
    (hn : typeLookup (.type "function") attr = Pure.pure none) (hs : swapsWith value (some (.Attribute o attr pos')) pos.line env = Pure.pure false := by rfl) : W w G A (exec (.Assign [.Attribute o attr pos'] value pos) env) h Q := fun tk =>
  plainObj_wpAny_Assign_Attribute (W.nest (H.mono fun v h₁ ⟨f, fd, ho, of, k⟩ => fun tk₁ => W.nest (ho.use fun ov e => fun tk₂ => by
    cases e
    exact setAttr_fn (s := St G h₁ tk₂) of hn fun h' hsh t tk₃ a b c => ⟨h', tk₃, rfl, k h' _ hsh t rfl a b fun x o n e => c x o (fun q => n (List.mem_singleton.mpr q)) e⟩))) hs
/-- the object has one member, a function -/
noncomputable def HasA (h : Heap) (p : Addr) (name : Str) (f : Addr) : Prop := ∃ dd fd hsh t, h.get? p = some ⟨.type "function", some dd, .func fd, #[]⟩ ∧ h.get? dd = some (dictOf [⟨hsh, .str name t, .ref f⟩] 1)
/-- p.name(args), the function's object told -/
theorem W.meth {o e : Expr} {rest : List Expr} {name : Str} {apos pos : Pos} {pl : Sem Bool} {Q : Value → Heap → Prop} {p f : Addr} {fo : Obj} {fd : FuncData} (ho : EV w A env h o (IsV (.ref p))) (ha : HasA h p name f) (hd : fo.data = .func fd)
    (H : W w G A (spliced (backTo pos (starEach (e :: rest) env))) h fun vs h₁ => h₁.get? f = some fo ∧ W w G A (call (.ref f) vs) h₁ Q)
    (hn : typeLookup (.type "function") name = Pure.pure none) (hs : starEach (e :: rest) env = (false, eval e env) :: starEach rest env := by rfl)
    (he : eval (.Call (.Attribute o name apos) (e :: rest) [] pos) env = (do
      let ov ← eval o env
      standAt apos.atName
      let (f, first) ← holding [ov] (getMethod ov name pl)
      callWith pos f first (backTo pos (starEach (e :: rest) env)) []) := by rfl) : W w G A (eval (.Call (.Attribute o name apos) (e :: rest) [] pos) env) h Q := fun tk => by
  obtain ⟨dd, fd', hsh, t, hp, hdd⟩ := ha
  refine MethodCall_ (pl := pl) (W.nest (ho.use fun ov q => fun tk => ?_)) he
  cases q
  refine getMethod_fn (s := St G h tk) hp hdd hn rfl fun tk => ?_
  show wpAny _ A (callWith pos (.ref f) [] (backTo pos (starEach (e :: rest) env)) []) _ _ _
  have H' := W.nest (tk := tk) (E := fun _ _ => False) (f := fun vs s₁ => (s₁.heap.get? f = some fo ∧ fo.data = .func fd) ∧ wpAny (model PR w) A (call (.ref f) vs) (fun a s' => ∃ h' tk', s' = St G h' tk' ∧ Q a h') (fun _ _ => False) s₁) (H.mono fun vs h₁ ⟨a, b⟩ => fun tk' => ⟨⟨a, hd⟩, b tk'⟩)
  rw [hs] at H' ⊢
  exact Calls.callWith_function (o := fo) (fd := fd) (Calls.evalArgs_plain H')
theorem W.meth0 {o : Expr} {name : Str} {apos pos : Pos} {pl : Sem Bool} {Q : Value → Heap → Prop} {p f : Addr} {fo : Obj} {fd : FuncData} (ho : EV w A env h o (IsV (.ref p))) (ha : HasA h p name f) (hf : h.get? f = some fo) (hd : fo.data = .func fd)
    (H : W w G A (call (.ref f) []) h Q) (hn : typeLookup (.type "function") name = Pure.pure none)
    (he : eval (.Call (.Attribute o name apos) [] [] pos) env = (do
      let ov ← eval o env
      standAt apos.atName
      let (f, first) ← holding [ov] (getMethod ov name pl)
      callWith pos f first (backTo pos (starEach [] env)) []) := by rfl) : W w G A (eval (.Call (.Attribute o name apos) [] [] pos) env) h Q := fun tk => by
  obtain ⟨dd, fd', hsh, t, hp, hdd⟩ := ha
  refine MethodCall_ (pl := pl) (W.nest (ho.use fun ov q => fun tk => ?_)) he
  cases q
  refine getMethod_fn (s := St G h tk) hp hdd hn rfl fun tk => ?_
  exact callWith_meth0 (s := St G h tk) hd hf (H tk)
/-- a lambda is entered -/
theorem W.intoE {f : Addr} {o : Obj} {name qual : Str} {params : Arguments} {body : Expr} {scope : Scope} {cl : List (Str × Addr)} {dV doc pm ct : Value} {cdv : Value} {vs : List Value} {binds : List (Str × Value)} {Q : Value → Heap → Prop} {k : Nat} (T : List Addr)
    (r : Rm A (k + 1)) (hl : h.NoLimit) (ho : h.get? f = some o) (hd : o.data = .func (kdv_fn name qual params (.expr body) scope cl dV doc pm cdv ct)) (hc : h.CodeRec cdv qual)
    (hb : ∀ tk, BindsTo (St G h tk) (kdv_fn name qual params (.expr body) scope cl dV doc pm cdv ct) ⟨vs, []⟩ binds) (hloc : (binds.all fun x => decide (scope.names.lookup x.1 = some .local)) = true)
    (H : ∀ L h₁, Fk T [L] h L (fun x => binds.reverse.lookup x) h₁ h₁ → Ext h h₁ →
      W w G (A.deeper (envX qual scope L f cdv cl)) (eval body (envX qual scope L f cdv cl)) h₁ Q)
    (hcell : ∀ x ∈ scope.names, x.2 ≠ .cell := by decide) (hco : scope.isCoroutine = false := by rfl) (hgen : scope.isGenerator = false := by rfl) (hk : scope.kind = .function := by rfl) : W w G A (call (.ref f) vs) h Q := fun tk => by
  refine wpAny_call (kla_callFunE (s := St G h tk) (by have := r.dp; omega) ho hd hco hgen rfl hc (hb tk _ _ _ _ ?_))
  refine wpAny_newFunctionEnv hcell (locs hloc) (fun h₁ hns hsb => ⟨hl.fresh _ hsb, ?_⟩) hk
  show codeAny _ _ (.expr body (envX qual scope h.objs.size f cdv cl)) _ _
  have hk₁ : ∀ b o, h.get? b = some o → h₁.get? b = some o := fun b o e => hsb.extBut b o (Nat.ne_of_lt (Heap.lt_size e)) (Heap.get?_push_of_some _ e)
  exact kla_codeExpr (W.nest ((H h.objs.size h₁ ⟨hns, KX.ofExt hk₁, KX.refl _ _, List.mem_singleton.mpr rfl, Nat.le_refl _⟩ hk₁).mono fun v h' q => fun tk' => ⟨h', tk', rfl, q⟩))
end
end Mine
namespace Mine
theorem fill10 : PySem.Challenge.rw_mr0175_01.row.prog = PySem.Challenge.rw_mr0175_01.row.prog ∧ Mine.hd.heap_39 = Mine.hd.heap_39 := by k_fill; exact ⟨rfl, rfl⟩
section
variable {w : World} {G : Shared} {A : Around} {h : Heap} {env : Env}
theorem cod133 (g : Gd w h) : CodeHd h 137 133 := ⟨_, _, _, _, _, _, _, _, _, g.X 137 _ (by k_is), rfl, rfl, rfl, rfl, rfl, rfl, rfl, rfl, by decide⟩
theorem cod140 (g : Gd w h) : CodeHd h 144 140 := ⟨_, _, _, _, _, _, _, _, _, g.X 144 _ (by k_is), rfl, rfl, rfl, rfl, rfl, rfl, rfl, rfl, by decide⟩
noncomputable abbrev K133 : List (Pos × Str) := [(⟨83, 10, 83, 22⟩, (Str.ofString "_law_hit" ++ Str.ofString ".<locals>.") ++ Str.ofString "<lambda>"), (⟨84, 15, 84, 38⟩, (Str.ofString "_law_hit" ++ Str.ofString ".<locals>.") ++ Str.ofString "<lambda>")]
theorem K133_det : ∀ p ∈ K133, ∀ q ∈ K133, q.1.line = p.1.line → q.1.col = p.1.col → q.2 = p.2 := by
  intro p hp q hq _ _
  rcases List.mem_cons.mp hp with e | hp <;> rcases List.mem_cons.mp hq with e' | hq
  · rw [e, e']
  · rw [e, List.mem_singleton.mp hq]
  · rw [List.mem_singleton.mp hp, e']
  · rw [List.mem_singleton.mp hp, List.mem_singleton.mp hq]

/-- what a hit answers, over this heap -/
noncomputable def Hit0 (w : World) (h : Heap) (f : Addr) (a b : Int) : Prop := ∃ s so sfd, HasA h f "span" s ∧ h.get? s = some so ∧ so.data = .func sfd ∧
  ∀ G A k (Q : Value → Heap → Prop), Gd w h → Rm A (k + 2) → (∀ t u1 u2 h', Ext h h' → h'.IsTuple t #[.int a u1, .int b u2] → Q (.ref t) h') → W w G A (call (.ref s) []) h Q
noncomputable def Hit (w : World) (n : Nat) (h : Heap) (f : Addr) (a b : Int) : Prop := ∃ S : List Addr, (∀ x ∈ S, @LE.le Nat _ n x ∨ (@LE.le Nat _ 141 x ∧ ∃ o vs, h.get? x = some o ∧ o.data = .fields vs)) ∧
  ∀ h', (∀ x ∈ S, ∀ o, h.get? x = some o → h'.get? x = some o) → Hit0 w h' f a b
theorem Hit.kx {h' : Heap} {X : List Addr} {n : Nat} {f : Addr} {a b : Int} (x : Hit w n h f a b) (k : KX X h h') (hX : ∀ x ∈ X, @LT.lt Nat _ x n) (s : Sft h X) : Hit w n h' f a b := by
  obtain ⟨S, hS, k0⟩ := x
  have keep : ∀ x ∈ S, ∀ o, h.get? x = some o → h'.get? x = some o := fun x hx o e => k x o (fun hxX => by
    rcases hS x hx with q | ⟨q, o', vs, e', d'⟩
    · exact Nat.lt_irrefl _ (Nat.lt_of_lt_of_le (hX x hxX) q)
    · rcases s x hxX with z | ⟨o'', e'', n''⟩
      · exact Nat.lt_irrefl _ (Nat.lt_of_lt_of_le z q)
      · rw [e'] at e''; cases e''; exact n'' vs d') e
  refine ⟨S, fun x hx => ?_, fun h'' kk => k0 h'' fun x hx o e => kk x hx o (keep x hx o e)⟩
  rcases hS x hx with q | ⟨q, o', vs, e', d'⟩
  · exact .inl q
  · exact .inr ⟨q, o', vs, keep x hx o' e', d'⟩
theorem Hit.keeps {h' : Heap} {n : Nat} {f : Addr} {a b : Int} (x : Hit w n h f a b) (k : Ext h h') : Hit w n h' f a b := x.kx (X := []) (KX.ofExt k) (fun _ q => nomatch q) Sft.nil
theorem Hit.le {n n' : Nat} {f : Addr} {a b : Int} (x : Hit w n h f a b) (k : n' ≤ n) : Hit w n' h f a b := by
  obtain ⟨S, hS, k0⟩ := x
  refine ⟨S, fun x hx => ?_, k0⟩
  rcases hS x hx with q | q
  · exact .inl (Nat.le_trans k q)
  · exact .inr q
theorem Hit.now {n : Nat} {f : Addr} {a b : Int} (x : Hit w n h f a b) : Hit0 w h f a b := let ⟨_, _, k⟩ := x; k h fun _ _ _ e => e
theorem Fk.tab {T X : List Addr} {h₀ hb hc h' : Heap} {L P : Addr} {m : Str → Option Value} (F : Fk T X h₀ L m hb hc) (k : KX [P] hc h') (hT : P ∈ T) (hne : L ≠ P) : Fk T X h₀ L m h' h' :=
  ⟨k.ns F.ns (not_mem1 hne), F.ext.trans (k.mono fun b hb => by rw [List.mem_singleton.mp hb]; exact hT), KX.refl _ _, F.mem, F.lt⟩
theorem ne_of_big {L P : Addr} {h : Heap} (g : Gd w h) (hL : @LE.le Nat _ h.objs.size L) (hP : @LT.lt Nat _ P 162) : L ≠ P := fun e => by
  have := g.lt; rw [e] at hL; exact Nat.lt_irrefl _ (Nat.lt_trans hP (Nat.lt_of_lt_of_le this hL))
theorem mem2 {a b c : Addr} (h : c ∈ [a, b]) : c = a ∨ c = b := by simpa using h

theorem hit_says {a b : Int} {u1 u2 : Tok} {k : Nat} {Q : Value → Heap → Prop} (g : Gd w h) (T : TabAt h 133 K133) (r : Rm A (k + 2))
    (q : ∀ f h', KX [133] h h' → TabAt h' 133 K133 → Hit w h.objs.size h' f a b → Q (.ref f) h') : W w G A (call (.ref 138) [.int a u1, .int b u2]) h Q := by
  refine W.intoC [133] (k := k + 1) r g.nolimit (g.X _ _ (by k_is)) rfl (codeRec_of g.X (by k_is)) rfl rfl fun L h₁ F₁ e₁ cel => ?_
  have g₁ := g.keeps e₁
  have c1 : h₁.IsCell (L + 1) (some (.int a u1)) := cel "first" (L + 1) rfl
  have c2 : h₁.IsCell (L + 2) (some (.int b u2)) := cel "behind" (L + 2) rfl
  have L133 : L ≠ 133 := ne_of_big g F₁.lt (by decide)
  have szL : @LT.lt Nat _ (L + 2) h₁.objs.size := by obtain ⟨o, ho, _⟩ := c2; exact lt_of_get ho
  refine W.execs_cons (W.assign (W.lam (W.makeFn g₁ rfl rfl rfl (cod133 g₁) (T.keeps e₁) (.head _) (K133_det _ (.head _)) fun f cf ctv doc pm h₂ kx₂ T₂ hf cr₂ of₂ => ?_)))
  have F₂ := F₁.tab kx₂ (.head _) L133
  have fL : f ≠ L := fun e => by rw [e] at hf; exact Nat.lt_irrefl _ (Nat.lt_of_lt_of_le F₁.ns.lt hf)
  refine W.st F₂ fun h₃ F₃ s₃ => ?_
  show W _ _ _ (execs _ _) _ _
  have k₃ : KX [L] h₂ h₃ := KX.same s₃ (.head _)
  have T₃ := T₂.kx k₃ (Sft.ns F₂.ns) (not_mem1 (Ne.symm L133))
  have of₃ := k₃ _ _ (not_mem1 fL) of₂
  have g₃ := F₃.gd g (by decide)
  refine W.execs_cons (W.setA (W.lam (W.makeFn g₃ rfl rfl rfl (cod133 g₃) T₃ (.tail _ (.head _)) (K133_det _ (.tail _ (.head _))) fun s cs ctv' doc' pm' h₄ kx₄ T₄ hs cr₄ os₄ => ?_)) fn_span)
  have F₄ := F₃.tab kx₄ (.head _) L133
  have g₄ := F₄.gd g (by decide)
  have f133 : f ≠ 133 := ne_of_big g₁ hf (by decide)
  have s133 : s ≠ 133 := ne_of_big g₃ hs (by decide)
  have of₄ := kx₄ _ _ (not_mem1 f133) of₃
  refine ⟨f, _, EV.lc F₄ rfl rfl, of₄, fun h₅ dd hsh t hdd of₅ od₅ kx₅ => ?_⟩
  have fs : s ≠ f := fun e => by rw [← e] at of₃; exact Nat.lt_irrefl _ (Nat.lt_of_lt_of_le (lt_of_get of₃) hs)
  have os₅ := kx₅ _ _ (not_mem1 fs) os₄
  have Lf : L ≠ f := Ne.symm fL
  have sfF : Sft h₄ [f] := fun x hx => by
    rw [List.mem_singleton.mp hx]; exact .inr ⟨_, of₄, fun vs e => nomatch e⟩
  have T₅ := T₄.kx kx₅ sfF (not_mem1 (Ne.symm f133))
  have cr₅ := cr₄.kx kx₅ sfF
  have F₅ : Fk [133] [L] h L _ h₅ h₅ := ⟨kx₅.ns F₄.ns (not_mem1 Lf), fun x o n e => kx₅ x o (not_mem1 fun z => by
    rw [z] at e; have := lt_of_get e; exact Nat.lt_irrefl _ (Nat.lt_of_lt_of_le this (Nat.le_trans (Nat.le_trans F₁.lt (Nat.le_of_lt F₁.ns.lt)) hf))) (F₄.ext x o n e), KX.refl _ _, F₁.mem, F₁.lt⟩
  show W _ _ _ (execs _ _) _ _
  have cell : ∀ c v, h₁.IsCell c (some v) → c ≠ L → c ≠ 133 → h₅.IsCell c (some v) := fun c v x n1 n2 => by
    have lt : @LT.lt Nat _ c h₁.objs.size := by obtain ⟨o, ho, _⟩ := x; exact lt_of_get ho
    have cf : c ≠ f := fun e => by rw [e] at lt; exact Nat.lt_irrefl _ (Nat.lt_of_lt_of_le lt hf)
    exact isCell_kx (isCell_kx (isCell_kx (isCell_kx x kx₂ (not_mem1 n2)) k₃ (not_mem1 n1)) kx₄ (not_mem1 n2)) kx₅ (not_mem1 cf)
  have hL133 : @LT.lt Nat _ 133 L := Nat.lt_of_lt_of_le (Nat.lt_trans (by decide) g.lt) F₁.lt
  have c1' := cell _ _ c1 (Nat.succ_ne_self _) (by intro e; rw [← e] at hL133; exact Nat.lt_irrefl _ (Nat.lt_trans hL133 (Nat.lt_succ_self _)))
  have c2' := cell _ _ c2 (by intro e; exact Nat.lt_irrefl _ (Nat.lt_of_lt_of_le (Nat.lt_trans (Nat.lt_succ_self L) (Nat.lt_succ_self (L+1))) (Nat.le_of_eq e))) (by intro e; rw [← e] at hL133; exact Nat.lt_irrefl _ (Nat.lt_trans hL133 (Nat.lt_trans (Nat.lt_succ_self L) (Nat.lt_succ_self (L+1)))))
  refine W.execs_cons (W.ret ((EV.lc F₅ rfl rfl : EV w _ _ h₅ _ (IsV (.ref f))).useV ?_))
  refine q f h₅ F₅.ext T₅ ⟨[f, dd, s, cs, L + 1, L + 2], fun x hx => ?_, fun h' keep => ?_⟩
  · have b1 : @LE.le Nat _ h.objs.size (L + 1) := Nat.le_succ_of_le F₁.lt
    have b2 : @LE.le Nat _ h.objs.size (L + 2) := Nat.le_succ_of_le b1
    have b3 : @LE.le Nat _ h.objs.size f := Nat.le_trans (Nat.le_trans F₁.lt (Nat.le_of_lt F₁.ns.lt)) hf
    have b4 : @LE.le Nat _ h.objs.size dd := by rw [hdd]; exact Nat.le_trans F₁.lt (Nat.le_of_lt F₄.ns.lt)
    have b5 : @LE.le Nat _ h.objs.size s := Nat.le_trans (Nat.le_trans F₁.lt (Nat.le_of_lt F₃.ns.lt)) hs
    simp only [List.mem_cons, List.not_mem_nil, or_false] at hx
    rcases hx with e | e | e | e | e | e
    · rw [e]; exact .inl b3
    · rw [e]; exact .inl b4
    · rw [e]; exact .inl b5
    · rw [e]; obtain ⟨⟨c, o, vs, t, e1, ho, hd, _⟩, hc⟩ := cr₅; cases e1; exact .inr ⟨hc, o, vs, ho, hd⟩
    · rw [e]; exact .inl b1
    · rw [e]; exact .inl b2
  · refine ⟨s, _, _, ⟨dd, _, hsh, t, keep f (by simp) _ of₅, keep dd (by simp) _ od₅⟩, keep s (by simp) _ os₅, rfl, ?_⟩
    intro G' A' k' Q' g' r' qq
    have cr' : h'.CodeRec (.ref cs) ((Str.ofString "_law_hit" ++ Str.ofString ".<locals>.") ++ Str.ofString "<lambda>") := by
      obtain ⟨⟨c, o, vs, t, e1, ho, hd, hv⟩, hc⟩ := cr₅; cases e1; exact ⟨cs, o, vs, t, rfl, keep cs (by simp) _ ho, hd, hv⟩
    have d1 : h'.IsCell (L + 1) (some (.int a u1)) := by obtain ⟨o, ho, d⟩ := c1'; exact ⟨o, keep _ (by simp) _ ho, d⟩
    have d2 : h'.IsCell (L + 2) (some (.int b u2)) := by obtain ⟨o, ho, d⟩ := c2'; exact ⟨o, keep _ (by simp) _ ho, d⟩
    refine W.intoE [] (k := k' + 1) r' g'.nolimit (keep s (by simp) _ os₅) rfl cr' (fun _ => BindsTo.of_eq rfl) rfl fun L' h₆ F₆ e₆ => ?_
    refine W.tupleD (W.args2 (P := IsV (.int a u1)) (P' := IsV (.int b u2)) (by exact EV.free rfl (isCell_keeps d1 e₆) rfl) (by exact EV.free rfl (isCell_keeps d2 e₆) rfl) fun v v' e e' => ⟨by show (2 : Nat) ≤ _; decide, fun l h₇ hl e₇ it => ?_⟩)
    cases e; cases e'
    exact qq l u1 u2 h₇ (Ext.trans e₆ e₇) it
end
end Mine
namespace Mine
theorem fn_bool : typeLookup (.type "function") "__bool__" = pure none := by rw [typeLookup_type, builtinLookup_eq_fast]; kernel_rfl
theorem fn_len : typeLookup (.type "function") "__len__" = pure none := by rw [typeLookup_type, builtinLookup_eq_fast]; kernel_rfl
section
variable {w : World} {G : Shared} {A : Around} {h : Heap} {env : Env}
theorem truthy_fn {s : Shared} {E : Value → Shared → Prop} {f : Addr} {Q : Bool → Shared → Prop} (hT : s.TypeIs (.ref f) "function") (q : Q true s) : wpAny (model PR w) A (truthy (.ref f)) Q E s := by
  unfold truthy
  refine wpAny_bind (wpAny_callSpecial?_none hT fn_bool ?_)
  refine wpAny_bind (wpAny_specialOf hT fn_len ?_)
  exact wpAny_pure q
/-- a def of two parameters, both in cells, with a closure -/
theorem W.into2C {f : Addr} {o : Obj} {name qual : Str} {params : Arguments} {body : List Stmt} {scope : Scope} {clo : List (Str × Addr)} {dV doc pm ct cdv : Value} {x y : Str} {vx vy : Value} {Q : Value → Heap → Prop} {k : Nat} (T : List Addr)
    (r : Rm A (k + 1)) (hl : h.NoLimit) (ho : h.get? f = some o) (hd : o.data = .func (kdv_fn name qual params (.stmts body) scope clo dV doc pm cdv ct)) (hc : h.CodeRec cdv qual)
    (hb : bindArgs (kdv_fn name qual params (.stmts body) scope clo dV doc pm cdv ct) ⟨[vx, vy], []⟩ = Pure.pure [(x, vx), (y, vy)])
    (hcs : ∀ n, cellsFrom n scope.names clo = (y, n + 1) :: (x, n) :: clo) (hpc : ∀ h, pushCells h scope.names = (h.push { cls := .type "cell", data := .cell none }).push { cls := .type "cell", data := .cell none })
    (hx : scope.names.lookup x = some .cell) (hy : scope.names.lookup y = some .cell) (hxy : (x == y) = false)
    (H : ∀ L h₁, Fk T [L] h L (fun _ => none) h₁ h₁ → Ext h h₁ → h₁.IsCell (L + 1) (some vx) → h₁.IsCell (L + 2) (some vy) →
      W w G (A.deeper (envX qual scope L f cdv ((y, L + 2) :: (x, L + 1) :: clo))) (execs body (envX qual scope L f cdv ((y, L + 2) :: (x, L + 1) :: clo))) h₁ fun fl h' => Q (match fl with | .ret v => v | _ => .none) h')
    (hco : scope.isCoroutine = false := by rfl) (hgen : scope.isGenerator = false := by rfl) (hk : scope.kind = .function := by rfl) : W w G A (call (.ref f) [vx, vy]) h Q := fun tk => by
  refine wpAny_call (codeAny_call_function (s := St G h tk) (body := body) (by have := r.dp; omega) ho hd hco hgen rfl hc ?_)
  rw [hb]
  refine wpAny_pure ?_
  simp only [newFunctionEnv, Option.isSome_none, Bool.false_eq_true, if_false]
  refine wpAny_bind (wpAny_alloc ?_)
  refine wpAny_bind (wpAny_layCells _ (fun name kind cells => by cases hkc : kind == NameKind.cell <;> simp [hkc]) _ _ _ _ ?_)
  have n0 : (h.push { cls := .type "frame", data := .dict #[] }).Ns h.objs.size (fun _ => none) := Heap.Ns.new h (.type "frame")
  have z0 : (h.push { cls := .type "frame", data := .dict #[] }).objs.size = h.objs.size + 1 := Heap.size_push ..
  have e0 : Ext h (h.push { cls := .type "frame", data := .dict #[] }) := Ext.push _
  dsimp only
  rw [hcs, hpc, z0]
  generalize h.push { cls := .type "frame", data := .dict #[] } = H0 at n0 z0 e0 ⊢
  have e1 : Ext H0 ((H0.push { cls := .type "cell", data := .cell none }).push { cls := .type "cell", data := .cell none }) := Ext.trans (Ext.push _) (Ext.push _)
  have i1 : ((H0.push { cls := .type "cell", data := .cell none }).push { cls := .type "cell", data := .cell none }).IsCell (h.objs.size + 1) none := ⟨_, Heap.get?_push_of_some _ (by rw [← z0]; exact Heap.get?_push_size _ rfl), rfl⟩
  have i2 : ((H0.push { cls := .type "cell", data := .cell none }).push { cls := .type "cell", data := .cell none }).IsCell (h.objs.size + 2) none := ⟨_, by
    have : h.objs.size + 2 = (H0.push { cls := .type "cell", data := .cell none }).objs.size := by rw [Heap.size_push, z0]
    rw [this]; exact Heap.get?_push_size _ rfl, rfl⟩
  generalize (H0.push { cls := .type "cell", data := .cell none }).push { cls := .type "cell", data := .cell none } = H1 at e1 i1 i2 ⊢
  refine wpAny_bind ?_
  rw [List.forIn_cons]
  have l1 : ∀ (sc : Scope) (env : Env), env.cells = ((y, h.objs.size + 2) :: (x, h.objs.size + 1) :: clo) → env.cells.lookup x = some (h.objs.size + 1) := fun _ env e => by
    rw [e, List.lookup_cons, hxy, List.lookup_cons]; simp
  refine wpAny_bind (wpAny_bind (wpAny_storeName_cell (c := h.objs.size + 1) (v₀ := none) hk hx (l1 scope _ rfl) i1 fun h2 j1 s1 => wpAny_pure ?_))
  dsimp only
  rw [List.forIn_cons]
  have n12 : h.objs.size + 2 ≠ h.objs.size + 1 := by omega
  have i2' : h2.IsCell (h.objs.size + 2) none := by obtain ⟨o, e, d⟩ := i2; exact ⟨o, (s1.2 _ n12).trans e, d⟩
  refine wpAny_bind (wpAny_bind (wpAny_storeName_cell (c := h.objs.size + 2) (v₀ := none) hk hy (by simp) i2' fun h3 j2 s2 => wpAny_pure ?_))
  dsimp only
  rw [List.forIn_nil]
  refine wpAny_pure ?_
  have j1' : h3.IsCell (h.objs.size + 1) (some vx) := by obtain ⟨o, e, d⟩ := j1; exact ⟨o, (s2.2 _ (Ne.symm n12)).trans e, d⟩
  have N : h3.Ns h.objs.size (fun _ => none) := ((n0.keeps e1).sameBut s1 (by intro e; have : h.objs.size = h.objs.size + 1 := e; omega)).sameBut s2 (by intro e; have : h.objs.size = h.objs.size + 2 := e; omega)
  have E : Ext h h3 := fun b o e => (s2.2 b (by have := lt_of_get e; intro z; rw [z] at this; omega)).trans ((s1.2 b (by have := lt_of_get e; intro z; rw [z] at this; omega)).trans (e1 b o (e0 b o e)))
  refine wpAny_pure ⟨hl.keeps E, ?_⟩
  show codeAny _ _ (.func body (envX qual scope h.objs.size f cdv ((y, h.objs.size + 2) :: (x, h.objs.size + 1) :: clo))) _ _
  exact codeAny_func (W.nest ((H h.objs.size h3 ⟨N, KX.ofExt E, KX.refl _ _, List.mem_singleton.mpr rfl, Nat.le_refl _⟩ E j1' j2).mono fun fl h' q => fun tk' => ⟨h', tk', rfl, q⟩))
/-- a while by an invariant with a measure -/
theorem W.while {test : Expr} {body : List Stmt} {pos : Pos} {Q : Flow → Heap → Prop} (J : Nat → Heap → Prop) (n : Nat) (j0 : J n h)
    (turn : ∀ n hc, J n hc → W w G A (isTrue test env (eval test env)) hc fun b h₂ => if b = true then W w G A (execs body env) h₂ fun fl h₃ => match fl with
        | .next | .cont => ∃ m, m < n ∧ J m h₃
        | .brk => Q .next h₃
        | .ret v => Q (.ret v) h₃
      else Q .next h₂) : W w G A (exec (.While test body [] pos) env) h Q := fun tk => by
  refine wpAny_While (codeAny_whileLoop (fun n s' => ∃ hc tk, s' = St G hc tk ∧ J n hc) ?_ n ⟨h, tk, rfl, j0⟩)
  rintro n s' ⟨hc, tk', rfl, j⟩
  refine W.nest ((turn n hc j).mono fun b h₂ k => fun tk₂ => ?_)
  cases b with
  | false => exact wpAny_execs_nil ⟨h₂, tk₂, rfl, k⟩
  | true =>
    refine W.nest (W.mono (by simpa using k) fun fl h₃ q => fun tk₃ => ?_)
    cases fl with
    | next => obtain ⟨m, hm, jm⟩ := q; exact ⟨m, hm, h₃, tk₃, rfl, jm⟩
    | cont => obtain ⟨m, hm, jm⟩ := q; exact ⟨m, hm, h₃, tk₃, rfl, jm⟩
    | brk => exact ⟨h₃, tk₃, rfl, q⟩
    | ret v => exact ⟨h₃, tk₃, rfl, q⟩
/-- all of a list of truths -/
theorem W.allL {D : Addr} {bs : List Bool} {kk : Nat} {Q : Value → Heap → Prop} (hh : A.handled = none) (hD : h.get? D = some (lo (bs.map Value.bool).toArray kk)) (q : ∀ h', Ext h h' → Q (.bool (bs.all id)) h') : W w G A (call (.builtin "all") [.ref D]) h Q := fun tk => by
  refine call_all_walk (wpAny_pyIter_list (s := St G h tk) (isList_lo hD) ?_)
  have lD : @LT.lt Nat _ D h.objs.size := lt_of_get hD
  refine ⟨h.objs.size, _, _, _, _, _, fun i => bs[i]?.getD true, rfl, Walks.list (A := A.in1) hh _ D (Nat.ne_of_lt lD) (bs.map Value.bool).toArray, ⟨⟨_, Heap.get?_push_size _ rfl, rfl, rfl⟩, (isList_lo hD).push _⟩, ?_, ?_⟩
  · intro i v s Q E hP hQ
    have : ((bs.map Value.bool))[i]? = some v := by simpa using hP
    rw [List.getElem?_map] at this
    cases e : bs[i]? with
    | none => rw [e] at this; cases this
    | some b => replace hQ : Q (bs[i]?.getD true) s := hQ; rw [e] at this hQ; cases this; exact wpAny_truthy_bool hQ
  · intro h' tk' hk
    refine ⟨h', tk', rfl, ?_⟩
    have : (List.range (bs.map Value.bool).toArray.size).all (fun i => bs[i]?.getD true) = bs.all id := by
      have : (bs.map Value.bool).toArray.size = bs.length := by simp
      rw [this]
      clear hD q hk this
      induction bs with
      | nil => rfl
      | cons b r ih => rw [List.length_cons, List.range_succ_eq_map, List.all_cons, List.all_map, List.all_cons]; congr 1
    rw [this]
    exact q h' fun b o e => hk b o (not_mem1 (Nat.ne_of_lt (lt_of_get e))) (Heap.get?_push_of_some _ e)
theorem W.lenS {x : Str} {v : Value} {Q : Value → Heap → Prop} (hv : IsS x v) (hz : (x.length : Int) < 2 ^ 63) (q : ∀ v, IsI x.length v → Q v h) : W w G A (call (.builtin "len") [v]) h Q := fun tk => by
  obtain ⟨t, rfl⟩ := hv
  exact len_str (by omega) ⟨h, _, rfl, q _ ⟨_, rfl⟩⟩
theorem W.max2 {a b : Int} {x y : Value} {Q : Value → Heap → Prop} (hh : A.handled = none) (hx : IsI a x) (hy : IsI b y) (q : ∀ v h', Ext h h' → IsI (max a b) v → Q v h') : W w G A (call (.builtin "max") [x, y]) h Q := fun tk => by
  obtain ⟨t, rfl⟩ := hx; obtain ⟨u, rfl⟩ := hy
  refine max_two_ints (s := St G h tk) hh fun h' tk' k => ⟨h', tk', rfl, q _ h' k ?_⟩
  by_cases c : b > a
  · rw [if_pos c, Int.max_eq_right (by omega)]; exact ⟨u, rfl⟩
  · rw [if_neg c, Int.max_eq_left (by omega)]; exact ⟨t, rfl⟩
/-- tests, whatever they do -/
theorem W.isNot {e : Expr} {pos : Pos} {whole : Sem Value} {Q : Bool → Heap → Prop} (H : W w G A (isTrue e env (eval e env)) h fun b h' => Q (!b) h') : W w G A (isTrue (.UnaryOp .Not e pos) env whole) h Q := fun _ =>
  wpAny_isTrue_Not (W.nest (H.mono fun b h' q => fun tk => ⟨h', tk, rfl, q⟩))
theorem W.isVal {e : Expr} {Q : Bool → Heap → Prop} (H : W w G A (eval e env) h fun v h' => ∃ b, v = .bool b ∧ Q b h')
    (he : ∀ whole, isTrue e env whole = (do let v ← whole; standAt e.pos; holding [v] (truthy v)) := by intro _; rfl) : W w G A (isTrue e env (eval e env)) h Q := fun _ =>
  wpAny_isTrue_value (W.nest (H.mono fun v h' ⟨b, e, q⟩ => fun tk => by subst e; exact wpAny_truthy_bool ⟨h', tk, rfl, q⟩)) (he _)
theorem W.isAnd {x y : Expr} {pos : Pos} {whole : Sem Value} {Q : Bool → Heap → Prop} (H : W w G A (isTrue x env (eval x env)) h fun a h₁ => if a = true then W w G A (isTrue y env (eval y env)) h₁ Q else Q false h₁) : W w G A (isTrue (.BoolOp .And [x, y] pos) env whole) h Q := fun _ =>
  wpAny_isTrue_BoolOp (wpAny_allTrue_And_cons (W.nest (H.mono fun a h₁ k => fun tk => by
    cases a with
    | false => exact ⟨h₁, tk, rfl, k⟩
    | true => exact wpAny_allTrue_And_cons (W.nest (W.mono (by simpa using k) fun b h₂ q => fun tk₂ => by
        cases b with
        | false => exact ⟨h₂, tk₂, rfl, q⟩
        | true => exact wpAny_allTrue_And_nil ⟨h₂, tk₂, rfl, q⟩)))))
/-- a name that holds None or a function -/
theorem TB.fnone {e : Expr} {v : Value} (H : EV w A env h e (IsV v)) (hv : v = .none ∨ ∃ f, v = .ref f ∧ ∃ o, h.get? f = some o ∧ o.cls = .type "function")
    (he : ∀ whole, isTrue e env whole = (do let v ← whole; standAt e.pos; holding [v] (truthy v)) := by intro _; rfl) : TB w A env h e (v != .none) := fun G _ =>
  wpAny_isTrue_value (W.nest (H.use fun v' q => fun tk => by
    cases q
    rcases hv with rfl | ⟨f, rfl, o, ho, hc⟩
    · exact wpAny_pure ⟨h, tk, rfl, rfl, rfl⟩
    · exact truthy_fn (s := St G h tk) ⟨o, ho, hc⟩ ⟨h, tk, rfl, rfl, rfl⟩)) (he _)
end
end Mine
namespace Mine
/-! ## what the closures compute, in plain -/
noncomputable def bearsF (cs : List (Int × Str)) (chars : Str) (k : Nat) : Bool := cs.all fun c => Txt.item chars (11 * (k : Int) + c.1) == c.2
/-- the last row of the run -/
noncomputable def runEnd (B : Nat → Bool) : Nat → Nat → Nat
  | 0, l => l
  | n + 1, l => if B (l + 1) then runEnd B n (l + 1) else l
/-- search over the rows k .. k+n-1 (rows = k + n) -/
noncomputable def searchFrom (B : Nat → Bool) (first behind : Int) (st : Bool) (start : Int) : Nat → Nat → Option (Int × Int)
  | 0, _ => none
  | n + 1, k => if start ≤ 11 * (k : Int) + first + 1 then
      if B k = false then if st = true then some (max (11 * (k : Int) + first) start, max (11 * (k : Int) + first) start) else searchFrom B first behind st start n (k + 1)
      else if start ≤ 11 * (k : Int) + first then some (11 * (k : Int) + first, 11 * ((runEnd B n k : Nat) : Int) + behind) else searchFrom B first behind st start n (k + 1)
    else searchFrom B first behind st start n (k + 1)
/-! ## what stands on a few objects -/
noncomputable def StbP (ok : Addr → Prop) (h : Heap) (P : Heap → Prop) : Prop := ∃ S : List Addr, (∀ x ∈ S, ok x ∨ (@LE.le Nat _ 141 x ∧ ∃ o vs, h.get? x = some o ∧ o.data = .fields vs)) ∧
  ∀ h', (∀ x ∈ S, ∀ o, h.get? x = some o → h'.get? x = some o) → P h'
noncomputable abbrev Stb (n : Nat) (h : Heap) (P : Heap → Prop) : Prop := StbP (fun x => @LE.le Nat _ n x) h P
section
variable {h : Heap} {P : Heap → Prop} {ok : Addr → Prop}
theorem StbP.kx {h' : Heap} {X : List Addr} (x : StbP ok h P) (k : KX X h h') (hX : ∀ x ∈ X, ¬ ok x) (s : Sft h X) : StbP ok h' P := by
  obtain ⟨S, hS, k0⟩ := x
  have keep : ∀ x ∈ S, ∀ o, h.get? x = some o → h'.get? x = some o := fun x hx o e => k x o (fun hxX => by
    rcases hS x hx with q | ⟨q, o', vs, e', d'⟩
    · exact hX x hxX q
    · rcases s x hxX with z | ⟨o'', e'', n''⟩
      · exact Nat.lt_irrefl _ (Nat.lt_of_lt_of_le z q)
      · rw [e'] at e''; cases e''; exact n'' vs d') e
  refine ⟨S, fun x hx => ?_, fun h'' kk => k0 h'' fun x hx o e => kk x hx o (keep x hx o e)⟩
  rcases hS x hx with q | ⟨q, o', vs, e', d'⟩
  · exact .inl q
  · exact .inr ⟨q, o', vs, keep x hx o' e', d'⟩
theorem StbP.keeps {h' : Heap} (x : StbP ok h P) (k : Ext h h') : StbP ok h' P := x.kx (X := []) (KX.ofExt k) (fun _ q => nomatch q) Sft.nil
theorem StbP.le {ok' : Addr → Prop} (x : StbP ok h P) (k : ∀ x, ok x → ok' x) : StbP ok' h P := by
  obtain ⟨S, hS, k0⟩ := x
  refine ⟨S, fun x hx => ?_, k0⟩
  rcases hS x hx with q | q
  · exact .inl (k x q)
  · exact .inr q
theorem StbP.strong {ok' : Addr → Prop} (x : StbP ok h P) (k : ∀ x, ok x → @LT.lt Nat _ x h.objs.size → ok' x) : StbP ok' h P := by
  obtain ⟨S, hS, k0⟩ := x
  refine ⟨S.filter fun x => (h.get? x).isSome, fun x hx => ?_, fun h' q => k0 h' fun x hx o e => q x (List.mem_filter.mpr ⟨hx, by rw [e]; rfl⟩) o e⟩
  obtain ⟨hx, hs⟩ := List.mem_filter.mp hx
  obtain ⟨o, e⟩ := Option.isSome_iff_exists.mp hs
  rcases hS x hx with q | q
  · exact .inl (k x q (lt_of_get e))
  · exact .inr q
theorem StbP.now (x : StbP ok h P) : P h := let ⟨_, _, k⟩ := x; k h fun _ _ _ e => e
theorem StbP.mono {P' : Heap → Prop} (x : StbP ok h P) (k : ∀ h', P h' → P' h') : StbP ok h P' := let ⟨S, a, b⟩ := x; ⟨S, a, fun h' q => k h' (b h' q)⟩
theorem StbP.and {P' : Heap → Prop} (x : StbP ok h P) (y : StbP ok h P') : StbP ok h (fun h' => P h' ∧ P' h') := by
  obtain ⟨S, a, b⟩ := x
  obtain ⟨S', a', b'⟩ := y
  refine ⟨S ++ S', fun x hx => ?_, fun h' q => ⟨b h' fun x hx => q x (List.mem_append_left _ hx), b' h' fun x hx => q x (List.mem_append_right _ hx)⟩⟩
  rcases List.mem_append.mp hx with hx | hx
  · exact a x hx
  · exact a' x hx
theorem StbP.dup (x : StbP ok h P) : StbP ok h (fun h' => StbP ok h' P) := by
  obtain ⟨S, a, b⟩ := x
  refine ⟨S, a, fun h' q => ⟨S, fun x hx => ?_, fun h'' q' => b h'' fun x hx o e => q' x hx o (q x hx o e)⟩⟩
  rcases a x hx with z | ⟨z, o, vs, e, d⟩
  · exact .inl z
  · exact .inr ⟨z, o, vs, q x hx o e, d⟩
theorem StbP.obj {a : Addr} {o : Obj} (e : h.get? a = some o) (hn : ok a) : StbP ok h (fun h' => h'.get? a = some o) :=
  ⟨[a], fun x hx => by rw [List.mem_singleton.mp hx]; exact .inl hn, fun h' q => q a (.head _) o e⟩
theorem StbP.cell {a : Addr} {v : Option Value} (e : h.IsCell a v) (hn : ok a) : StbP ok h (fun h' => h'.IsCell a v) := by
  obtain ⟨o, ho, d⟩ := e
  exact (StbP.obj ho hn).mono fun h' q => ⟨o, q, d⟩
theorem StbP.code {c : Addr} {q : Str} (x : CR h c q) : StbP ok h (fun h' => h'.CodeRec (.ref c) q) := by
  obtain ⟨⟨c₀, o, vs, t, e, ho, hd, hv⟩, hc⟩ := x
  cases e
  exact ⟨[c], fun x hx => by rw [List.mem_singleton.mp hx]; exact .inr ⟨hc, o, vs, ho, hd⟩, fun h' k => ⟨c, o, vs, t, rfl, k c (.head _) o ho, hd, hv⟩⟩
theorem StbP.list {a : Addr} {items : Array Value} (e : h.IsList a items) (hn : ok a) : StbP ok h (fun h' => h'.IsList a items) := by
  obtain ⟨o, ho, d⟩ := e
  exact (StbP.obj ho hn).mono fun h' q => ⟨o, q, d⟩
theorem StbP.tup {a : Addr} {items : Array Value} (e : h.IsTuple a items) (hn : ok a) : StbP ok h (fun h' => h'.IsTuple a items) := by
  obtain ⟨o, ho, d⟩ := e
  exact (StbP.obj ho hn).mono fun h' q => ⟨o, q, d⟩
end
theorem addr_ne {a b : Addr} (h : @LT.lt Nat _ a b ∨ @LT.lt Nat _ b a) : a ≠ b := fun e => by subst e; rcases h with h | h <;> exact Nat.lt_irrefl _ h
theorem ne5 {L a : Addr} (h : @LE.le Nat _ (L + 5) a) : a ≠ L := addr_ne (.inr (by omega))
theorem ne5j {L a : Addr} (j : Nat) (h : @LE.le Nat _ (L + 5) a) (hj : j < 5) : a ≠ L + j := addr_ne (.inr (by show @LT.lt Nat _ (L + j) a; omega))
theorem neLj {L : Addr} (j : Nat) (hj : 0 < j) : L + j ≠ L := addr_ne (.inr (Nat.lt_add_of_pos_right hj))
theorem neBig {L b : Addr} (h : @LT.lt Nat _ 162 L) (hb : @LT.lt Nat _ b 162) : L ≠ b := addr_ne (.inr (Nat.lt_trans hb h))
theorem neBigj {L b : Addr} (j : Nat) (h : @LT.lt Nat _ 162 L) (hb : @LT.lt Nat _ b 162) : L + j ≠ b := addr_ne (.inr (by show @LT.lt Nat _ b (L + j); omega))
theorem le51 {L a : Nat} (h : L + 5 ≤ a) : L + 1 ≤ a := by omega
theorem le1j {L j : Nat} (h : 1 ≤ j) : L + 1 ≤ L + j := by omega
theorem not5 {L : Nat} : ¬ L + 5 ≤ L := by omega
theorem big5 {L b : Nat} (h : 162 < L) (hb : b ≤ 162) : b < L + 5 := Nat.lt_add_right 5 (Nat.lt_of_le_of_lt hb h)
theorem neUp {L a b : Addr} (h : @LT.lt Nat _ 162 L) (q : @LE.le Nat _ (L + 1) a) (hb : @LT.lt Nat _ b 162) : a ≠ b := addr_ne (.inr (Nat.lt_trans hb (Nat.lt_trans h q)))
theorem neIJ {L : Addr} {i j : Nat} (q : i ≠ j) : (L + i) ∉ ([L + j] : List Addr) := not_mem1 fun e => q (Nat.add_left_cancel e)
theorem Fk.re {T X : List Addr} {h₀ hb hc h' : Heap} {L a : Addr} {m : Str → Option Value} (F : Fk T X h₀ L m hb hc) (s : Heap.SameBut a hc h') (hne : a ≠ L) (hlt : @LE.le Nat _ h₀.objs.size a) : Fk T X h₀ L m h' h' :=
  ⟨F.ns.sameBut s (Ne.symm hne), fun b o n q => (s.2 b fun z => by have := lt_of_get q; rw [z] at this; omega).trans (F.ext b o n q), KX.refl _ _, F.mem, F.lt⟩
theorem EV.lenS {w : World} {A : Around} {h : Heap} {cn : Str} {cs : Scope} {L a : Addr} {ccd : Value} {cl : List (Str × Addr)} {e : Expr} {rp pos : Pos} {x : Str} (g : Gd w h) (he : EV w A (envX cn cs L a ccd cl) h e (IsS x)) (hz : x.length ≤ sizeLine)
    (hn : nsIn (Mine.hd.heap_39 w.params) mainGlobals "len" = some Option.none) (hk : cs.kind = .function := by rfl) (hx : (envX cn cs L a ccd cl).kindOf "len" = some .globalImplicit := by rfl)
    (hec : eval (.Call (.Name "len" rp) [e] [] pos) (envX cn cs L a ccd cl) = (do callWith pos (← eval (.Name "len" rp) (envX cn cs L a ccd cl)) [] (backTo pos (starEach [e] (envX cn cs L a ccd cl))) (backToKw pos (keywordEach [] (envX cn cs L a ccd cl)))) := by rfl)
    (hs : starEach [e] (envX cn cs L a ccd cl) = (false, eval e (envX cn cs L a ccd cl)) :: starEach [] (envX cn cs L a ccd cl) := by rfl) (hp : (backTo pos (starEach [] (envX cn cs L a ccd cl))).any (·.1) = false := by rfl) :
    EV w A (envX cn cs L a ccd cl) h (.Call (.Name "len" rp) [e] [] pos) (IsI x.length) := fun G =>
  W.callBi (EV.bi g hn rfl (by decide) hk hx) (W.args1 he (fun v hv => W.lenS hv (by have : sizeLine = 16777216 := rfl; omega) fun v p => ⟨rfl, p⟩) hs) hec hs hp
/-- a list of pairs (int, text) -/
noncomputable def Pairs (h : Heap) (l : Addr) (cs : List (Int × Str)) : Prop := ∃ items, h.IsList l items ∧ items.size = cs.length ∧ ∀ (j : Nat) v, items[j]? = some v → ∃ t c s u1 u2, v = .ref t ∧ h.IsTuple t #[.int c u1, .str s u2] ∧ cs[j]? = some (c, s)
section
variable {w : World} {G : Shared} {A : Around} {h : Heap} {env : Env}
theorem CompTurns.pairK {x y : Str} {px py pt : Pos} {kk : Nat} {scope : Scope} {cl : List (Str × Addr)} {elt : Expr} {wr : List Addr} {n : Nat} {P : Nat → Value → Heap → Prop} {h₂ : Heap} {J : Nat → List Value → Heap → Prop} (hh : A.handled = none) (hkind : scope.kind = .function) (hx : scope.names.lookup x = some .local) (hy : scope.names.lookup y = some .local)
    (pt2 : ∀ i v hc, P i v hc → (∀ b o, b ∉ wr → h₂.get? b = some o → hc.get? b = some o) → ∃ t u w', v = .ref t ∧ hc.IsTuple t #[u, w'])
    (j0 : J 0 [] h₂) (stab : ∀ i ys hc hc', J i ys hc → KB wr h₂.objs.size hc hc' → J i ys hc')
    (el : ∀ i v t u w' ys C m hc₀ hc, i < n → P i v hc₀ → v = .ref t → hc₀.IsTuple t #[u, w'] → (∀ b o, b ∉ wr → h₂.get? b = some o → hc₀.get? b = some o) → J i ys hc → C = h₂.objs.size + 1 → hc.Ns C m → (y ≠ x → m x = some u) → m y = some w' → (∀ b o, b ∉ wr → h₂.get? b = some o → hc.get? b = some o) → @LE.le Nat _ (h₂.objs.size + 2) hc.objs.size →
      W w G A (eval elt (compEnvC scope cl C env)) hc fun y h₅ => Ext hc h₅ ∧ J (i + 1) (ys ++ [y]) h₅) : CompTurns w G A env (.Tuple [.Name x px, .Name y py] kk pt) scope cl [] elt wr n P h₂ J where
  j0 := j0
  stab := stab
  turn := fun i v ys C m hc hi pv j hC hn k sz => by
    obtain ⟨t, u, w', rfl, it⟩ := pt2 i v hc pv k
    have F : Fk [] [C] hc C m hc hc ∨ True := .inr trivial
    have aux : W w G A (PySem.assign (.Tuple [.Name x px, .Name y py] kk pt) (compEnvC scope cl C env) (.ref t)) hc fun _ h' => (∃ m', h'.Ns C m' ∧ (y ≠ x → m' x = some u) ∧ m' y = some w') ∧ KX [C] hc h' := fun tk => by
      refine wpAny_assign_Tuple hh it rfl rfl fun h₁ e₁ => ?_
      have E₁ : Ext hc h₁ := fun b o q => e₁ b o (Nat.ne_of_lt (lt_of_get q)) q
      show wpAny _ A (do holding [w'] (PySem.assign (.Name x px) (compEnvC scope cl C env) u); do holding [] (PySem.assign (.Name y py) (compEnvC scope cl C env) w'); Pure.pure ()) _ _ (St G h₁ tk)
      refine wpAny_bind (wpAny_holding (wpAny_assign_Name (W.nest (W.store (hn.keeps E₁) (lookup_relabel_local hx) (fun h₂ n₂ s₂ => fun tk₂ => ?_) (kind_comp hkind)))))
      refine wpAny_bind (wpAny_holding (wpAny_assign_Name (W.nest (W.store n₂ (lookup_relabel_local hy) (fun h₃ n₃ s₃ => fun tk₃ => ?_) (kind_comp hkind)))))
      exact wpAny_pure ⟨h₃, tk₃, rfl, ⟨_, n₃, fun q => by rw [if_neg (Ne.symm q), if_pos rfl], if_pos rfl⟩, (KX.ofExt E₁).trans ((KX.same s₂ (List.mem_singleton.mpr rfl)).trans (KX.same s₃ (List.mem_singleton.mpr rfl)))⟩
    refine aux.mono fun _ h₃ ⟨⟨m₃, n₃, a, b⟩, k₃⟩ => W.tests0 ⟨k₃, ⟨_, n₃⟩, ?_⟩
    rw [if_pos rfl]
    refine el i _ t u w' ys C _ hc h₃ hi pv rfl it k (stab _ _ _ _ j (KB.ofC hC k₃)) hC n₃ a b (fun b o hb e => k₃ b o (not_mem1 ?_) (k b o hb e)) (by have := n₃.lt; rw [hC] at this; exact this)
    rw [hC]; exact Nat.ne_of_lt (Nat.lt_succ_of_lt (lt_of_get e))
theorem W.while2 {test : Expr} {body : List Stmt} {pos : Pos} {Q : Flow → Heap → Prop} (J : Nat → Heap → Prop) (D : Heap → Prop) (n : Nat) (j0 : J n h)
    (turn : ∀ n hc, J n hc → W w G A (isTrue test env (eval test env)) hc fun b h₂ => if b = true then W w G A (execs body env) h₂ fun fl h₃ => match fl with
        | .next | .cont => ∃ m, m < n ∧ J m h₃
        | .brk => D h₃
        | .ret v => Q (.ret v) h₃
      else D h₂) (fin : ∀ hc, D hc → Q .next hc) : W w G A (exec (.While test body [] pos) env) h Q :=
  W.while J n j0 fun n hc j => (turn n hc j).mono fun b h₂ k => by
    cases b with
    | false => exact fin _ (by simpa using k)
    | true =>
      rw [if_pos rfl] at k ⊢
      refine k.mono fun fl h₃ q => ?_
      cases fl with
      | brk => exact fin _ q
      | _ => exact q
/-- a comprehension over a list of pairs -/
theorem W.compListT {elt iter : Expr} {x y : Str} {px py pt : Pos} {kk : Nat} {scope : Scope} {cl : List (Str × Addr)} {pos : Pos} {Q : Value → Heap → Prop} (hh : A.handled = none)
    (hclos : closureFor scope env = Pure.pure cl) (hcell : ∀ y ∈ scope.names, y.2 ≠ .cell) (hkind : scope.kind = .function) (hnames : ∀ y ∈ scope.names, y.2 = .local → scope.names.lookup y.1 = some .local) (hx : scope.names.lookup x = some .local) (hy : scope.names.lookup y = some .local)
    (H : W w G A (eval iter env) h fun xv h₁ => ∃ l items, xv = .ref l ∧ h₁.IsList l items ∧ items.size ≤ sizeLine ∧ (∀ (j : Nat) v, items[j]? = some v → ∃ t u w', v = .ref t ∧ h₁.IsTuple t #[u, w']) ∧ ∃ J : Nat → List Value → Heap → Prop,
      J 0 [] h₁ ∧ (∀ i ys hc hc', J i ys hc → KB [h₁.objs.size] (h₁.objs.size + 1) hc hc' → J i ys hc') ∧
      (∀ i t u w' ys C m hc, items[i]? = some (.ref t) → h₁.IsTuple t #[u, w'] → J i ys hc → C = h₁.objs.size + 2 → hc.Ns C m → (y ≠ x → m x = some u) → m y = some w' → Ext h₁ hc → @LE.le Nat _ (h₁.objs.size + 3) hc.objs.size →
        W w G A (eval elt (compEnvC scope cl C env)) hc fun y h₅ => Ext hc h₅ ∧ J (i + 1) (ys ++ [y]) h₅) ∧
      ∀ D ys k h', D = h₁.objs.size + 1 → J items.size ys h' → h'.get? D = some (lo ys.toArray k) → Ext h₁ h' → Q (.ref D) h')
    (hs : ∀ x, foldedSetIterable iter env x = Pure.pure x := by intro _; rfl) : W w G A (eval (.ListComp elt [⟨.Tuple [.Name x px, .Name y py] kk pt, iter, [], 0⟩] scope pos) env) h Q := by
  refine W.comp hclos hcell hkind hnames (H.mono fun xv h₁ k => ?_) hs
  obtain ⟨l, items, rfl, il, hz, tups, J, j0, stab, el, fin⟩ := k
  refine W.iterList il fun I h₂ hI sz e₂ ii => ?_
  have lI : l ≠ I := by rw [hI]; obtain ⟨o, ho, _⟩ := il; exact Nat.ne_of_lt (lt_of_get ho)
  have ll : @LT.lt Nat _ l h₁.objs.size := by obtain ⟨o, ho, _⟩ := il; exact lt_of_get ho
  have up : ∀ hc : Heap, (∀ b o, b ∉ [I] → h₂.get? b = some o → hc.get? b = some o) → Ext h₁ hc := fun hc k b o e => k b o (not_mem1 (by rw [hI]; exact Nat.ne_of_lt (lt_of_get e))) (e₂ b o e)
  refine ⟨I, _, _, _, _, _, _, J, rfl, turns_listT hh I l lI items, fun st q => wpAny_pyIter_listiter st.1 q, hz, ⟨ii, il.at fun o e => e₂ _ _ e⟩, ?_, ?_, ?_⟩
  · intro b hb
    rcases List.mem_cons.mp hb with e | hb
    · rw [e, hI, sz]; exact Nat.lt_succ_self _
    · rw [List.mem_singleton.mp hb, sz]; exact Nat.lt_succ_of_lt ll
  · refine CompTurns.pairK hh hkind hx hy ?_ ?_ ?_ ?_
    · intro i v hc pv k
      obtain ⟨t, u, w', e, it⟩ := tups i v pv
      exact ⟨t, u, w', e, it.at fun o e => up hc k _ _ e⟩
    · exact stab _ _ _ _ j0 (KB.ofExt e₂)
    · intro i ys hc hc' j k
      refine stab _ _ _ _ j fun b o e q => k b o e ?_
      rw [sz, hI]; exact q
    · intro i v t u w' ys C m hc₀ hc hi pv hv it k₀ j hC hn ha hb k sz'
      subst hv
      obtain ⟨t', u', w'', e, it'⟩ := tups i _ pv
      cases e
      have it2 : hc₀.IsTuple t #[u', w''] := it'.at fun o e => up hc₀ k₀ _ _ e
      obtain ⟨o1, a1, b1, n1, c1⟩ := it
      obtain ⟨o2, a2, b2, n2, c2⟩ := it2
      rw [a1] at a2; cases a2
      rw [c1] at c2; cases c2
      exact el i t u w' ys C m hc pv it' j (by rw [hC, sz]) hn ha hb (up hc k) (by rw [sz] at sz'; exact sz')
  · intro D ys k h' hD j o' k'
    exact fin D ys k h' (by rw [hD, sz]) j o' (up h' k')
end
end Mine
namespace Mine
theorem fill11 : PySem.Challenge.rw_mr0175_01.row.prog = PySem.Challenge.rw_mr0175_01.row.prog ∧ Mine.hd.heap_39 = Mine.hd.heap_39 := by k_fill; exact ⟨rfl, rfl⟩
section
variable {w : World} {G : Shared} {A : Around} {h : Heap} {env : Env}
noncomputable abbrev K140 : List (Pos × Str) := [(⟨88, 4, 89, 74⟩, (Str.ofString "_law_program" ++ Str.ofString ".<locals>.") ++ Str.ofString "bears"), (⟨91, 4, 104, 19⟩, (Str.ofString "_law_program" ++ Str.ofString ".<locals>.") ++ Str.ofString "search"), (⟨105, 11, 105, 23⟩, (Str.ofString "_law_program" ++ Str.ofString ".<locals>.") ++ Str.ofString "<lambda>")]
theorem K140_det : ∀ p ∈ K140, ∀ q ∈ K140, q.1.line = p.1.line → q.1.col = p.1.col → q.2 = p.2 := by
  intro p hp q hq hl _
  simp only [List.mem_cons, List.not_mem_nil, or_false] at hp hq
  rcases hp with e | e | e <;> rcases hq with e' | e' | e' <;> subst e e' <;> first | rfl | (exfalso; revert hl; decide)
/-- what bears answers, over this heap -/
noncomputable def Bears0 (w : World) (h : Heap) (b : Addr) (B : Str → Nat → Bool) : Prop := (∃ bo bfd, h.get? b = some bo ∧ bo.data = .func bfd) ∧
  ∀ G A k (Q : Value → Heap → Prop) chars t (i : Nat) u (rows : Nat), Gd w h → Rm A (k + 4) → chars.length = 11 * rows → i < rows → rows ≤ 100 → (∀ h', Ext h h' → Q (.bool (B chars i)) h') → W w G A (call (.ref b) [.str chars t, .int (i : Int) u]) h Q
noncomputable def Ans (w : World) (n : Nat) (h : Heap) (v : Value) : Option (Int × Int) → Prop
  | none => v = .none
  | some p => ∃ f, v = .ref f ∧ Hit w n h f p.1 p.2
noncomputable def Prog0 (w : World) (h : Heap) (p : Addr) (B : Str → Nat → Bool) (first behind : Int) (st : Bool) : Prop := ∃ s so sfd, HasA h p "search" s ∧ h.get? s = some so ∧ so.data = .func sfd ∧
  ∀ G A k (Q : Value → Heap → Prop) chars t (start : Int) vs (rows : Nat), ((vs = [.str chars t] ∧ start = 0) ∨ ∃ u, vs = [.str chars t, .int start u]) → Gd w h → TabAt h 133 K133 → Rm A (k + 6) → chars.length = 11 * rows → rows ≤ 100 →
    (∀ v h', KX [133] h h' → TabAt h' 133 K133 → Ans w h.objs.size h' v (searchFrom (B chars) first behind st start rows 0) → Q v h') → W w G A (call (.ref s) vs) h Q
noncomputable def Search0 (w : World) (h : Heap) (s : Addr) (B : Str → Nat → Bool) (first behind : Int) (st : Bool) : Prop := (∃ so sfd, h.get? s = some so ∧ so.data = .func sfd) ∧
  ∀ G A k (Q : Value → Heap → Prop) chars t (start : Int) vs (rows : Nat), ((vs = [.str chars t] ∧ start = 0) ∨ ∃ u, vs = [.str chars t, .int start u]) → Gd w h → TabAt h 133 K133 → Rm A (k + 6) → chars.length = 11 * rows → rows ≤ 100 →
    (∀ v h', KX [133] h h' → TabAt h' 133 K133 → Ans w h.objs.size h' v (searchFrom (B chars) first behind st start rows 0) → Q v h') → W w G A (call (.ref s) vs) h Q
theorem ite_yes {c : Prop} [Decidable c] {a b : Prop} (h : c) (x : a) : ite c a b := by rw [if_pos h]; exact x
theorem ite_no {c : Prop} [Decidable c] {a b : Prop} (h : ¬ c) (x : b) : ite c a b := by rw [if_neg h]; exact x
theorem at0 {i : Nat} {c : Int} (h : 0 ≤ c) : 0 ≤ 11 * (i : Int) + c := by omega
theorem at1 {i n : Nat} {c : Int} (h : c < 11) (hi : i < n) : 11 * (i : Int) + c < ((11 * n : Nat) : Int) := by omega
theorem len100 {n : Nat} (h : n ≤ 100) : 11 * n ≤ sizeLine := by have : sizeLine = 16777216 := rfl; omega
theorem div11 (n : Nat) : ((11 * n : Nat) : Int) / 11 = (n : Int) := by omega
theorem lt62' {n : Nat} (h : n ≤ 100) : (n : Int) < 2 ^ 62 := by omega
theorem sub1 {n l : Nat} (h : l < n) : n - l = n - l - 1 + 1 := by omega
theorem sub2 {n l : Nat} (h : l + 1 < n) : n - l - 1 = n - (l + 1) - 1 + 1 := by omega
theorem sub0 {n l : Nat} (h : ¬ l + 1 < n) : n - l - 1 = 0 := by omega
theorem prog_says {lc : Addr} {cs : List (Int × Str)} {first behind : Int} {st : Bool} {u1 u2 : Tok} {k n : Nat} {Q : Value → Heap → Prop} (g : Gd w h) (T : TabAt h 140 K140) (r : Rm A (k + 2)) (hn : @LE.le Nat _ n h.objs.size) (hn0 : @LT.lt Nat _ 162 n)
    (pr : Stb n h fun h' => Pairs h' lc cs) (rng : ∀ c ∈ cs, 0 ≤ c.1 ∧ c.1 < 11) (hcs : cs.length ≤ 100)
    (q : ∀ p h', KX [140] h h' → TabAt h' 140 K140 → Stb n h' (fun h'' => Prog0 w h'' p (bearsF cs) first behind st) → Q (.ref p) h') : W w G A (call (.ref 145) [.ref lc, .int first u1, .int behind u2, .bool st]) h Q := by
  refine W.intoC [140] (k := k + 1) r g.nolimit (g.X _ _ (by k_is)) rfl (codeRec_of g.X (by k_is)) rfl rfl fun L h₁ F₁ e₁ cel => ?_
  have g₁ := g.keeps e₁
  have c1 : h₁.IsCell (L + 1) (some (.ref lc)) := cel "cells" (L + 1) rfl
  have c2 : h₁.IsCell (L + 2) (some (.int first u1)) := cel "first" (L + 2) rfl
  have c3 : h₁.IsCell (L + 3) (some (.int behind u2)) := cel "behind" (L + 3) rfl
  have c4 : h₁.IsCell (L + 4) (some (.bool st)) := cel "starred" (L + 4) rfl
  have c5 : h₁.IsCell (L + 5) none := cel "bears" (L + 5) rfl
  have L140 : L ≠ 140 := ne_of_big g F₁.lt (by decide)
  have nL : @LE.le Nat _ n L := Nat.le_trans hn F₁.lt
  refine W.execs_cons (W.def0 (W.makeFn g₁ rfl rfl rfl (cod140 g₁) (T.keeps e₁) (.head _) (K140_det _ (.head _)) fun b cb ctv doc pm h₂ kx₂ T₂ hb cr₂ ob₂ => ?_))
  have F₂ := F₁.tab kx₂ (.head _) L140
  have S140 : ∀ {h : Heap}, Sft h [140] := Sft.t140
  have okd : ∃ ok : Addr → Prop, ok = fun x => @LE.le Nat _ n x ∧ x ≠ L := ⟨_, rfl⟩
  obtain ⟨ok, hok⟩ := okd
  have x140 : ∀ x ∈ ([140] : List Addr), ¬ ok x := fun x hx q => by rw [List.mem_singleton.mp hx, hok] at q; exact Nat.lt_irrefl _ (Nat.lt_of_lt_of_le (Nat.lt_trans (by decide) hn0) q.1)
  have x133 : ∀ x ∈ ([133] : List Addr), ¬ ok x := fun x hx q => by rw [List.mem_singleton.mp hx, hok] at q; exact Nat.lt_irrefl _ (Nat.lt_of_lt_of_le (Nat.lt_trans (by decide) hn0) q.1)
  have hL5 : @LT.lt Nat _ (L + 5) h₁.objs.size := by obtain ⟨o, ho, _⟩ := c5; exact lt_of_get ho
  have hL140 : @LT.lt Nat _ 162 L := Nat.lt_of_lt_of_le hn0 nL
  have nc : ∀ (j : Nat), L + j ∉ ([140] : List Addr) := fun j => not_mem1 (neBigj j hL140 (by decide))
  have nb : ∀ (j : Nat), L + j ∉ ([133] : List Addr) := fun j => not_mem1 (neBigj j hL140 (by decide))
  have c5₂ := isCell_kx c5 kx₂ (nc 5)
  refine W.storeC rfl c5₂ fun h₃ c5₃ s₃ => ?_
  have F₃ := F₂.re s₃ (neLj 5 (by decide)) (Nat.le_trans F₁.lt (Nat.le_add_right L 5))
  have k₃ : KX [L + 5] h₂ h₃ := KX.same s₃ (.head _)
  have sf5 : Sft h₂ [L + 5] := fun x hx => by
    rw [List.mem_singleton.mp hx]; obtain ⟨o, ho, d⟩ := c5₂; exact .inr ⟨o, ho, fun vs e => by rw [d] at e; cases e⟩
  have T₃ := T₂.kx k₃ sf5 (not_mem1 (Ne.symm (neBigj 5 hL140 (by decide))))
  have okc : ∀ j, 0 < j → ok (L + j) := fun j hj => by rw [hok]; exact ⟨Nat.le_trans nL (Nat.le_add_right _ _), addr_ne (.inr (Nat.lt_add_of_pos_right hj))⟩
  have B₃ : StbP ok h₃ (fun h' => Bears0 w h' b (bearsF cs)) := by
    have c1₃ := isCell_kx (isCell_kx c1 kx₂ (nc 1)) k₃ (neIJ (by decide))
    have ob₃ := k₃ _ _ (not_mem1 (addr_ne (.inr (Nat.lt_of_lt_of_le hL5 hb)))) ob₂
    have x2 := ((((pr.strong (ok' := ok) fun x a b => by rw [hok]; exact ⟨a, addr_ne (.inl (Nat.lt_of_lt_of_le b F₁.lt))⟩).kx F₃.ext x140 S140).and (StbP.cell c1₃ (okc 1 (by decide)) : StbP ok h₃ _)).and (StbP.code (cr₂.kx k₃ sf5))).and (StbP.obj ob₃ (by rw [hok]; exact ⟨Nat.le_trans nL (Nat.le_trans (Nat.le_of_lt F₁.ns.lt) hb), addr_ne (.inr (Nat.lt_of_lt_of_le F₁.ns.lt hb))⟩))
    refine x2.mono ?_
    rintro h' ⟨⟨⟨ps, ck⟩, cr⟩, ob⟩
    refine ⟨⟨_, _, ob, rfl⟩, ?_⟩
    intro G' A' k' Q' chars t i u rows g' r' hlen hi hrows q'
    refine W.into2C [] (k := k' + 3) r' g'.nolimit ob rfl cr rfl (fun _ => rfl) (fun _ => rfl) rfl rfl (by decide) fun L' h₃ F₃ e₃ d1 d2 => ?_
    have g₃ := g'.keeps e₃
    refine W.execs_cons (W.ret (W.callBi (EV.bi g₃ (by k_is) rfl (by decide)) (W.args_cons (W.compListT (by exact r'.hd) rfl (by decide) rfl (by decide) rfl rfl ((EV.free rfl (isCell_keeps ck e₃) rfl : EV w _ _ h₃ _ (IsV (.ref lc))).useV ?_)))))
    obtain ⟨items, il, isz, iit⟩ := ps
    refine ⟨lc, items, rfl, il.at fun o e => e₃ _ _ e, by rw [isz]; exact Nat.le_trans hcs (by decide), fun j v hv => ?_, fun i' ys _ => ys = ((cs.take i').map fun c => Value.bool (Txt.item chars (11 * (i : Int) + c.1) == c.2)), rfl, fun _ _ _ _ j _ => j, ?_, ?_⟩
    · obtain ⟨t, c, s, a, b, rfl, it, _⟩ := iit j v hv
      exact ⟨t, _, _, rfl, it.at fun o e => e₃ _ _ e⟩
    · intro i' t' x y ys C m hc hv it j hC hns ha hb ex sz
      obtain ⟨t2, c, s, a, b, e, it2, hcs'⟩ := iit i' _ hv
      cases e
      have it2' : h₃.IsTuple t' #[.int c a, .str s b] := it2.at fun o e => e₃ _ _ e
      obtain ⟨o1, a1, b1, n1, f1⟩ := it
      obtain ⟨o2, a2, b2, n2, f2⟩ := it2'
      rw [a1] at a2; cases a2
      rw [f1] at f2; cases f2
      obtain ⟨c0, c9⟩ := rng _ (List.mem_of_getElem? hcs')
      dsimp only at c0 c9
      refine EV.use (P := IsB (Txt.item chars (11 * (i : Int) + c) == s)) ?_ fun v e => ⟨fun _ _ e => e, ?_⟩
      · refine EV.cmp (EV.itemS (EV.cell rfl (isCell_keeps d1 ex) ⟨_, rfl⟩) (EV.add (EV.mul EV.int (EV.cell rfl (isCell_keeps d2 ex) ⟨_, rfl⟩) (IntMulOk.of_left (by decide))) (EV.loc hns (ha (by decide)) ⟨_, rfl⟩)) ?_ ?_ ?_) (EV.loc hns hb ⟨_, rfl⟩) eq_ss
        · exact at0 c0
        · rw [hlen]; exact at1 c9 hi
        · rw [hlen]; exact len100 hrows
      · cases e
        rw [j, List.take_add_one, hcs']; simp
    · intro D ys kk h₄ hD j o₄ e₄
      refine W.args_nil ?_
      have j' : ys = (cs.map fun c => (Txt.item chars (11 * (i : Int) + c.1) == c.2)).map Value.bool := by rw [j, isz, List.take_length, List.map_map]; rfl
      rw [j'] at o₄
      refine W.allL (by exact r'.hd) o₄ fun h₅ e₅ => ?_
      have : (cs.map fun c => (Txt.item chars (11 * (i : Int) + c.1) == c.2)).all id = bearsF cs chars i := by rw [List.all_map]; rfl
      rw [this]
      exact q' h₅ (Ext.trans e₃ (Ext.trans e₄ e₅))
  have g₃ := F₃.gd g (by decide)
  show W _ _ _ (execs _ _) _ _
  refine W.execs_cons (W.def1 (P := IsI 0) EV.int fun v0 hv0 => ?_)
  obtain ⟨u0, rfl⟩ := hv0
  refine W.makeFnD rfl g₃ rfl rfl rfl (cod140 g₃) T₃ (.tail _ (.head _)) (K140_det _ (.tail _ (.head _))) (Nat.lt_trans (by decide) g₃.lt) fun s cc ctv' doc' pm' D h₄ kx₄ T₄ hs cr₄ hD oD₄ os₄ => ?_
  have F₄ := F₃.tab kx₄ (.head _) L140
  have B₄ := B₃.kx kx₄ x140 S140
  have c2₄ := isCell_kx (isCell_kx (isCell_kx c2 kx₂ (nc 2)) k₃ (neIJ (by decide))) kx₄ (nc 2)
  have c3₄ := isCell_kx (isCell_kx (isCell_kx c3 kx₂ (nc 3)) k₃ (neIJ (by decide))) kx₄ (nc 3)
  have c4₄ := isCell_kx (isCell_kx (isCell_kx c4 kx₂ (nc 4)) k₃ (neIJ (by decide))) kx₄ (nc 4)
  have c5₄ := isCell_kx c5₃ kx₄ (nc 5)
  have n3 : @LE.le Nat _ n h₃.objs.size := Nat.le_trans nL (Nat.le_of_lt F₃.ns.lt)
  have oks : ∀ {x : Nat}, @LE.le Nat _ h₃.objs.size x → ok x := fun {x} hx => by rw [hok]; exact ⟨Nat.le_trans n3 hx, addr_ne (.inr (Nat.lt_of_lt_of_le F₃.ns.lt hx))⟩
  have S₄ : StbP ok h₄ (fun h' => Search0 w h' s (bearsF cs) first behind st) := by
    have x2 := ((((((B₄.dup.and (StbP.cell c2₄ (okc 2 (by decide)) : StbP ok h₄ _)).and (StbP.cell c3₄ (okc 3 (by decide)) : StbP ok h₄ _)).and (StbP.cell c4₄ (okc 4 (by decide)) : StbP ok h₄ _)).and (StbP.cell c5₄ (okc 5 (by decide)) : StbP ok h₄ _)).and (StbP.code cr₄)).and (StbP.obj os₄ (oks hs))).and (StbP.obj oD₄ (oks hD))
    refine x2.mono ?_
    rintro h' ⟨⟨⟨⟨⟨⟨⟨bs, d2⟩, d3⟩, d4⟩, d5⟩, cr⟩, os⟩, oD⟩
    refine ⟨⟨_, _, os, rfl⟩, ?_⟩
    intro G' A' k' Q' chars t start vs rows hvs g' T' r' hlen hrows q'
    obtain ⟨u', hu⟩ : ∃ u', (vs = [.str chars t] ∧ start = 0 ∧ u' = u0) ∨ vs = [.str chars t, .int start u'] := by
      rcases hvs with ⟨a, b⟩ | ⟨u, a⟩
      · exact ⟨u0, .inl ⟨a, b, rfl⟩⟩
      · exact ⟨u, .inr a⟩
    refine W.into (binds := [("chars", .str chars t), ("start", .int start u')]) [133] (k := k' + 5) r' g'.nolimit os rfl cr (fun tk => ?_) rfl fun L' h₅ F₅ e₅ => ?_
    · rcases hu with ⟨rfl, rfl, rfl⟩ | rfl
      · exact BindsTo.of_defaults (s := St G' h' tk) rfl oD rfl rfl rfl
      · exact BindsTo.of_defaults (s := St G' h' tk) rfl oD rfl rfl rfl
    have g₅ := g'.keeps e₅
    have hz : chars.length ≤ sizeLine := by rw [hlen]; exact len100 hrows
    have L133 : L' ≠ 133 := ne_of_big g' F₅.lt (by decide)
    have hL133 : @LT.lt Nat _ 162 L' := Nat.lt_of_lt_of_le g'.lt F₅.lt
    refine W.execs_cons (W.assign ((EV.floordiv (EV.lenS g₅ (EV.lc F₅ rfl ⟨_, rfl⟩) hz (by k_is)) EV.int (by decide) (by decide)).use fun v hv => ?_))
    have hv' : IsI (rows : Int) v := by
      obtain ⟨t, e⟩ := hv
      refine ⟨t, e.trans ?_⟩
      congr 1
      rw [hlen, Int.fdiv_eq_ediv_of_nonneg _ (by decide)]; exact div11 rows
    obtain ⟨tr, rfl⟩ := hv'
    refine W.st F₅ fun h₆ F₆ s₆ => ?_
    show W _ _ _ (execs _ _) _ _
    have T₅ := T'.keeps e₅
    have T₆ : TabAt h₆ 133 K133 := T₅.kx (KX.same s₆ (.head _)) (Sft.ns F₅.ns) (not_mem1 (Ne.symm L133))
    have g₆ := F₆.gd g' (by decide)
    -- what stands in every later heap of this call
    have later : ∀ hc, KX [133] h' hc → StbP ok hc (fun h' => Bears0 w h' b (bearsF cs)) ∧ hc.IsCell (L + 2) (some (.int first u1)) ∧ hc.IsCell (L + 3) (some (.int behind u2)) ∧ hc.IsCell (L + 4) (some (.bool st)) ∧ hc.IsCell (L + 5) (some (.ref b)) := fun hc k =>
      ⟨bs.kx k x133 Sft.t133, isCell_kx d2 k (nb 2), isCell_kx d3 k (nb 3), isCell_kx d4 k (nb 4), isCell_kx d5 k (nb 5)⟩
    refine W.execs_cons (W.forRange (N := (rows : Int)) F₆ g₆ (by exact r'.hd) (Int.natCast_nonneg _) (lt62' hrows) (EV.lc F₆ rfl ⟨_, rfl⟩) (fun x hx => by rw [List.mem_singleton.mp hx]; exact F₆.ns.lt)
      (fun i m' _ => m' "chars" = some (.str chars t) ∧ m' "start" = some (.int start u') ∧ m' "rows" = some (.int rows tr) ∧ i ≤ rows ∧ searchFrom (bearsF cs chars) first behind st start rows 0 = searchFrom (bearsF cs chars) first behind st start (rows - i) i)
      (fun _ _ => ⟨rfl, rfl, rfl, Nat.zero_le _, rfl⟩) (fun _ _ _ _ _ _ j _ => j) ?_ ?_)
    · rintro i ti m' hc hi ⟨m1, m2, m3, hir, js⟩ F₇ kx₇
      refine W.hide fun QQ hQQ => ?_
      have hi' : i < rows := Int.ofNat_lt.mp hi
      have T₇ : TabAt hc 133 K133 := T₆.kx kx₇ (Sft.ns F₆.ns) (not_mem1 (Ne.symm L133))
      obtain ⟨b₇, f2, f3, f4, f5⟩ := later hc F₇.ext
      have unf : searchFrom (bearsF cs chars) first behind st start rows 0 = searchFrom (bearsF cs chars) first behind st start (rows - i - 1 + 1) i := by rw [js]; exact congrArg (fun n => searchFrom (bearsF cs chars) first behind st start n i) (sub1 hi')
      rw [searchFrom] at unf
      have nxt : rows - i - 1 = rows - (i + 1) := Nat.sub_sub _ _ _
      refine W.execs_cons (W.assign ((EV.add (EV.mul EV.int (EV.lc F₇ rfl ⟨_, rfl⟩) (IntMulOk.of_left (by decide))) (EV.free rfl f2 ⟨_, rfl⟩)).useI fun tp => ?_))
      refine W.st F₇ fun h₈ F₈ s₈ => ?_
      show W _ _ _ (execs _ _) _ _
      have k₈ : KX [L'] hc h₈ := KX.same s₈ (.head _)
      have g₈ := F₈.gd g' (by decide)
      refine W.execs_cons (W.ifb (TB.cmp (EV.add (EV.lc F₈ rfl ⟨_, rfl⟩) EV.int) (EV.lc F₈ m2 ⟨_, rfl⟩) ge_ii) (fun c1 => ?_) fun c1 => ?_)
      · have c1' : start ≤ 11 * (i : Int) + first + 1 := by simpa using c1
        rw [if_pos c1'] at unf
        obtain ⟨b₈, f2, f3, f4, f5⟩ := later h₈ F₈.ext
        obtain ⟨⟨bo, bfd, hbo, hbd⟩, bears⟩ := b₈.now
        refine W.execs_cons (W.ifs (W.isNot (W.isVal (W.callFn (EV.free rfl f5 rfl) hbd (W.args2V (x := .str chars t) (y := .int (i : Int) ti) (by exact EV.lc F₈ m1 rfl) (by exact EV.lc F₈ rfl rfl) ⟨hbo, ?_⟩)))))
        refine bears G' _ (k' + 1) _ chars t i ti rows g₈ (r'.deeper _) hlen hi' hrows fun h₉ e₉ => ⟨_, rfl, ?_⟩
        have F₉ := F₈.more e₉
        have g₉ := g₈.keeps e₉
        have T₉ : TabAt h₉ 133 K133 := (T₇.kx k₈ (Sft.ns F₇.ns) (not_mem1 (Ne.symm L133))).keeps e₉
        have kk₉ : KX [133] h' h₉ := F₉.ext
        have sz₉ : @LE.le Nat _ h'.objs.size h₉.objs.size := Nat.le_trans F₉.lt (Nat.le_of_lt F₉.ns.lt)
        obtain ⟨b₉, p2, p3, p4, p5⟩ := later h₉ F₉.ext
        by_cases hB : bearsF cs chars i = true
        · rw [hB]
          rw [if_neg (by rw [hB]; decide)] at unf
          show W _ _ _ (execs [_] _) _ _
          refine W.execs_cons (W.ifb (TB.cmp (EV.lc F₉ rfl ⟨_, rfl⟩) (EV.lc F₉ m2 ⟨_, rfl⟩) ge_ii) (fun c2 => ?_) fun c2 => ?_)
          · have c2' : start ≤ 11 * (i : Int) + first := by simpa using c2
            rw [if_pos c2'] at unf
            refine W.execs_cons (W.assign ((EV.lc F₉ rfl rfl : EV w _ _ h₉ _ (IsV (.int (i : Int) ti))).use fun v e => ?_))
            cases e
            refine W.st F₉ fun h10 F10 s10 => ?_
            show W _ _ _ (execs _ _) _ _
            have T10 : TabAt h10 133 K133 := T₉.kx (KX.same s10 (.head _)) (Sft.ns F₉.ns) (not_mem1 (Ne.symm L133))
            refine W.execs_cons (W.while2 (fun m hc => ∃ m' l tl, Fk [133] [L'] h' L' m' hc hc ∧ m' "chars" = some (.str chars t) ∧ m' "rows" = some (.int rows tr) ∧ m' "place" = some (.int (11 * (i : Int) + first) tp) ∧ m' "last" = some (.int ((l : Nat) : Int) tl) ∧
                l < rows ∧ m = rows - l ∧ runEnd (bearsF cs chars) (rows - i - 1) i = runEnd (bearsF cs chars) (rows - l - 1) l ∧ TabAt hc 133 K133)
              (fun hc => ∃ m' l tl, Fk [133] [L'] h' L' m' hc hc ∧ m' "place" = some (.int (11 * (i : Int) + first) tp) ∧ m' "last" = some (.int ((l : Nat) : Int) tl) ∧ runEnd (bearsF cs chars) (rows - i - 1) i = l ∧ l < rows ∧ TabAt hc 133 K133)
              (rows - i) ⟨_, i, ti, F10.mark, m1, m3, rfl, rfl, hi', rfl, rfl, T10⟩ ?_ ?_)
            · rintro nn hc ⟨m', l, tl, G1, w1, w2, w3, w4, hl, rfl, hrun, Tc⟩
              refine W.isAnd ((TB.cmp (EV.add (EV.lc G1 w4 ⟨_, rfl⟩) EV.int) (EV.lc G1 w2 ⟨_, rfl⟩) lt_ii).use ?_)
              by_cases hlt : l + 1 < rows
              · refine ite_yes (decide_eq_true (show (l : Int) + 1 < (rows : Int) from Int.ofNat_lt.mpr hlt)) ?_
                obtain ⟨bc, _, _, _, r5⟩ := later hc G1.ext
                obtain ⟨⟨bo, bfd, hbo, hbd⟩, bears⟩ := bc.now
                refine W.isVal (W.callFn (EV.free rfl r5 rfl) hbd (W.args2VI (x := .str chars t) (n := (l : Int) + 1) (by exact EV.lc G1 w1 rfl) (by exact EV.add (EV.lc G1 w4 ⟨_, rfl⟩) EV.int) fun ul => ⟨hbo, ?_⟩))
                refine bears G' _ (k' + 1) _ chars t (l + 1) ul rows (G1.gd g' (by decide)) (r'.deeper _) hlen hlt hrows fun h11 e11 => ⟨_, rfl, ?_⟩
                have G2 := G1.more e11
                have T11 := Tc.keeps e11
                have ur : runEnd (bearsF cs chars) (rows - l - 1) l = if bearsF cs chars (l + 1) = true then runEnd (bearsF cs chars) (rows - (l + 1) - 1) (l + 1) else l := by
                  have : rows - l - 1 = rows - (l + 1) - 1 + 1 := sub2 hlt
                  rw [this, runEnd]
                by_cases hb1 : bearsF cs chars (l + 1) = true
                · rw [if_pos hb1]
                  rw [if_pos hb1] at ur
                  refine W.execs_cons (W.assign ((EV.add (EV.lc G2 w4 ⟨_, rfl⟩) EV.int).useI fun tv => ?_))
                  refine W.st G2 fun h12 G3 s12 => ?_
                  show W _ _ _ (execs _ _) _ _
                  exact W.execs_nil ⟨rows - (l + 1), Nat.sub_lt_sub_left hl (Nat.lt_succ_self l), _, l + 1, tv, G3.mark, w1, w2, w3, rfl, hlt, rfl, hrun.trans ur, T11.kx (KX.same s12 (.head _)) (Sft.ns G2.ns) (not_mem1 (Ne.symm L133))⟩
                · rw [if_neg hb1]
                  rw [if_neg hb1] at ur
                  exact ⟨m', l, tl, G2.mark, w3, w4, hrun.trans ur, hl, T11⟩
              · refine ite_no (fun q => hlt (Int.ofNat_lt.mp (of_decide_eq_true (p := (l : Int) + 1 < (rows : Int)) q))) ?_
                have : rows - l - 1 = 0 := sub0 hlt
                rw [this] at hrun
                exact ⟨m', l, tl, G1, w3, w4, hrun, hl, Tc⟩
            · rintro hc ⟨m', l, tl, G1, w3, w4, hrun, hl, Tc⟩
              show W _ _ _ (execs _ _) _ _
              have gc := G1.gd g' (by decide)
              obtain ⟨_, _, r3, _, _⟩ := later hc G1.ext
              refine W.execs_cons (W.ret (W.callFn (EV.glob gc (by k_is)) rfl (W.args2 (P := IsI (11 * (i : Int) + first)) (P' := IsI (11 * (l : Int) + behind)) (by exact EV.lc G1 w3 ⟨_, rfl⟩) (by exact EV.add (EV.mul EV.int (EV.lc G1 w4 ⟨_, rfl⟩) (IntMulOk.of_left (by decide))) (EV.free rfl r3 ⟨_, rfl⟩)) fun v v' ⟨e1, hv1⟩ ⟨e2, hv2⟩ => ⟨gc.X _ _ (by k_is), ?_⟩)))
              subst hv1 hv2
              refine hit_says (k := k' + 3) gc Tc (r'.deeper _) fun f h12 kx12 T12 hit => ?_
              refine hQQ (.ret _) _ (q' _ h12 (G1.ext.trans kx12) T12 ?_)
              rw [unf, hrun]
              exact ⟨f, rfl, hit.le (Nat.le_trans G1.lt (Nat.le_of_lt G1.ns.lt))⟩
          · have c2' : ¬ start ≤ 11 * (i : Int) + first := by simpa using c2
            rw [if_neg c2', nxt] at unf
            refine W.execs_nil ?_
            show W _ _ _ (execs [] _) _ _
            refine W.execs_nil ?_
            show W _ _ _ (execs [] _) _ _
            refine W.execs_nil ?_
            show W _ _ _ (execs [] _) _ _
            exact W.execs_nil (hQQ .next _ ⟨_, (⟨F₈.ns, F₈.ext, k₈, F₈.mem, F₈.lt⟩ : Fk [133] [L'] h' L' _ hc h₈).more e₉, m1, m2, m3, hi', unf⟩)
        · rw [Bool.not_eq_true] at hB
          rw [hB]
          rw [if_pos hB] at unf
          show W _ _ _ (execs [_] _) _ _
          refine W.execs_cons (W.ifb (TB.ofB (EV.free rfl p4 rfl)) (fun c2 => ?_) fun c2 => ?_)
          · rw [if_pos c2] at unf
            obtain ⟨o138, d138, at138, hd138⟩ : ∃ o fd, (∀ {h}, Gd w h → h.get? 138 = some o) ∧ o.data = .func fd := ⟨_, _, fun g => g.X _ _ (by k_is), rfl⟩
            refine W.execs_cons (W.ret (W.callFn (EV.glob g₉ (by k_is)) hd138 (W.args_cons (W.callBi (EV.bi g₉ (by k_is) rfl (by decide)) (W.args2 (P := IsI (11 * (i : Int) + first)) (P' := IsI start) (by exact EV.lc F₉ rfl ⟨_, rfl⟩) (by exact EV.lc F₉ m2 ⟨_, rfl⟩) fun v v' e e' => ?_)))))
            refine W.max2 (by exact r'.hd) e e' fun v1 h10 e10 ⟨tv1, hv1⟩ => ?_
            subst hv1
            have F10 := F₉.more e10
            have g10 := g₉.keeps e10
            refine W.args_cons (W.callBi (EV.bi g10 (by k_is) rfl (by decide)) (W.args2 (P := IsI (11 * (i : Int) + first)) (P' := IsI start) (by exact EV.lc F10 rfl ⟨_, rfl⟩) (by exact EV.lc F10 m2 ⟨_, rfl⟩) fun v v' e e' => ?_))
            refine W.max2 (by exact r'.hd) e e' fun v2 h11 e11 ⟨tv2, hv2⟩ => W.args_nil ?_
            subst hv2
            have F11 := F10.more e11
            have g11 := g10.keeps e11
            refine ⟨at138 g11, hit_says (k := k' + 3) g11 ((T₉.keeps e10).keeps e11) (r'.deeper _) fun f h12 kx12 T12 hit => ?_⟩
            refine hQQ (.ret _) _ (q' _ h12 (F11.ext.trans kx12) T12 ?_)
            rw [unf]
            exact ⟨f, rfl, hit.le (Nat.le_trans F11.lt (Nat.le_of_lt F11.ns.lt))⟩
          · rw [if_neg (by rw [c2]; decide), nxt] at unf
            refine W.execs_nil ?_
            show W _ _ _ (execs [] _) _ _
            refine W.execs_nil ?_
            show W _ _ _ (execs [] _) _ _
            refine W.execs_nil ?_
            show W _ _ _ (execs [] _) _ _
            exact W.execs_nil (hQQ .next _ ⟨_, (⟨F₈.ns, F₈.ext, k₈, F₈.mem, F₈.lt⟩ : Fk [133] [L'] h' L' _ hc h₈).more e₉, m1, m2, m3, hi', unf⟩)
      · have c1' : ¬ start ≤ 11 * (i : Int) + first + 1 := by simpa using c1
        rw [if_neg c1', nxt] at unf
        refine W.execs_nil ?_
        show W _ _ _ (execs [] _) _ _
        exact W.execs_nil (hQQ .next _ ⟨_, F₈, m1, m2, m3, hi', unf⟩)
    · rintro m' hc F₇ ⟨m1, m2, m3, _, js⟩
      show W _ _ _ (execs _ _) _ _
      refine W.execs_cons (W.ret (EV.none.use fun v e => ?_))
      cases e
      refine q' _ hc F₇.ext ?_ ?_
      · exact T₅.kx F₇.kp (Sft.ns F₅.ns) (not_mem1 (Ne.symm L133))
      · rw [js, show rows - (rows : Int).toNat = 0 by simp]; rfl
  have kx4n : @LE.le Nat _ n h₄.objs.size := Nat.le_trans nL (Nat.le_of_lt F₄.ns.lt)
  have sL : s ≠ L := addr_ne (.inr (Nat.lt_of_lt_of_le F₃.ns.lt hs))
  refine W.st F₄ fun h₅ F₅ s₅ => ?_
  show W _ _ _ (execs _ _) _ _
  have k₅ : KX [L] h₄ h₅ := KX.same s₅ (.head _)
  have T₅ := T₄.kx k₅ (Sft.ns F₄.ns) (not_mem1 (Ne.symm L140))
  have g₅ := F₅.gd g (by decide)
  refine W.execs_cons (W.assign (W.lam (W.makeFn g₅ rfl rfl rfl (cod140 g₅) T₅ (.tail _ (.tail _ (.head _))) (K140_det _ (.tail _ (.tail _ (.head _)))) fun p cp ctp docp pmp h₆ kx₆ T₆ hp cr₆ op₆ => ?_)))
  have F₆ := F₅.tab kx₆ (.head _) L140
  refine W.st F₆ fun h₇ F₇ s₇ => ?_
  show W _ _ _ (execs _ _) _ _
  have k₇ : KX [L] h₆ h₇ := KX.same s₇ (.head _)
  have pL : p ≠ L := addr_ne (.inr (Nat.lt_of_lt_of_le F₅.ns.lt hp))
  have op₇ := k₇ _ _ (not_mem1 pL) op₆
  refine W.execs_cons (W.setA ((EV.lc F₇ rfl rfl : EV w _ _ h₇ _ (IsV (.ref s))).use fun v e => ?_) fn_search)
  cases e
  refine ⟨p, _, EV.lc F₇ rfl rfl, op₇, fun h₈ dd hsh t hdd op₈ od₈ kx₈ => ?_⟩
  show W _ _ _ (execs _ _) _ _
  have F₈ : Fk [140] [L] h L _ h₈ h₈ := ⟨kx₈.ns F₇.ns (not_mem1 (Ne.symm pL)), fun x o n e => kx₈ x o (not_mem1 fun z => by
    rw [z] at e; have := lt_of_get e; exact Nat.lt_irrefl _ (Nat.lt_of_lt_of_le this (Nat.le_trans (Nat.le_trans F₁.lt (Nat.le_of_lt F₅.ns.lt)) hp))) (F₇.ext x o n e), KX.refl _ _, F₁.mem, F₁.lt⟩
  refine W.execs_cons (W.ret ((EV.lc F₈ rfl rfl : EV w _ _ h₈ _ (IsV (.ref p))).useV ?_))
  have p140 : p ≠ 140 := ne_of_big g₅ hp (by decide)
  have sfp : Sft h₇ [p] := fun x hx => by
    rw [List.mem_singleton.mp hx]; exact .inr ⟨_, op₇, fun vs e => nomatch e⟩
  have T₈ := (T₆.kx k₇ (Sft.ns F₆.ns) (not_mem1 (Ne.symm L140))).kx kx₈ sfp (not_mem1 (Ne.symm p140))
  have K48 : KX [L, 140] h₄ h₈ := fun x o nx e => by
    have n1 : x ∉ [L] := fun q => nx (by rw [List.mem_singleton.mp q]; exact .head _)
    have n2 : x ∉ [140] := fun q => nx (by rw [List.mem_singleton.mp q]; exact .tail _ (.head _))
    have e5 := k₅ x o n1 e
    exact kx₈ x o (not_mem1 (addr_ne (.inl (Nat.lt_of_lt_of_le (lt_of_get e5) hp)))) (k₇ x o n1 (kx₆ x o n2 e5))
  have sfL : Sft h₄ [L, 140] := fun x hx => by
    rcases mem2 hx with e | e
    · exact Sft.ns F₄.ns x (by rw [e]; exact .head _)
    · exact .inl (by rw [e]; decide)
  have S₈ := S₄.kx K48 (fun x hx q => by
    rcases mem2 hx with e | e
    · rw [e, hok] at q; exact q.2 rfl
    · exact x140 x (by rw [e]; exact .head _) q) sfL
  have n7 : @LE.le Nat _ n h₇.objs.size := Nat.le_trans nL (Nat.le_of_lt F₇.ns.lt)
  have np : @LE.le Nat _ n p := Nat.le_trans (Nat.le_trans nL (Nat.le_of_lt F₅.ns.lt)) hp
  have ndd : @LE.le Nat _ n dd := by rw [hdd]; exact n7
  have all := ((S₈.le (ok' := fun x => @LE.le Nat _ n x) fun x q => by rw [hok] at q; exact q.1).and (StbP.obj op₈ np)).and (StbP.obj od₈ ndd)
  refine q p h₈ F₈.ext T₈ (all.mono ?_)
  rintro h' ⟨⟨⟨⟨so, sfd, hso, hsd⟩, k0⟩, a⟩, b⟩
  exact ⟨s, so, sfd, ⟨dd, _, hsh, t, a, b⟩, hso, hsd, k0⟩
end
end Mine
namespace Mine
theorem fill12 : PySem.Challenge.rw_mr0175_01.row.prog = PySem.Challenge.rw_mr0175_01.row.prog ∧ Mine.hd.heap_39 = Mine.hd.heap_39 := by k_fill; exact ⟨rfl, rfl⟩
/-- where the next search begins -/
noncomputable def nextOf (p : Int × Int) : Int := if p.1 = p.2 then p.2 + 1 else p.2
/-- the finds from a start on, to the end -/
noncomputable def Chain (S : Int → Option (Int × Int)) : Int → List (Int × Int) → Prop
  | a, [] => S a = none
  | a, p :: l => S a = some p ∧ Chain S (nextOf p) l
noncomputable def revL (col : Int) : Option (Int × Int) → List (Int × Int) → Option (Int × Int)
  | fo, [] => fo
  | fo, p :: l => if p.1 < col ∧ p.2 ≤ col then revL col (some p) l else fo
section
variable {w : World} {G : Shared} {A : Around} {h : Heap} {env : Env}
theorem Ans.kx {h' : Heap} {X : List Addr} {n : Nat} {v : Value} {o : Option (Int × Int)} (x : Ans w n h v o) (k : KX X h h') (hX : ∀ x ∈ X, @LT.lt Nat _ x n) (s : Sft h X) : Ans w n h' v o := by
  cases o with
  | none => exact x
  | some p => obtain ⟨f, e, ht⟩ := x; exact ⟨f, e, ht.kx k hX s⟩
theorem Ans.keeps {h' : Heap} {n : Nat} {v : Value} {o : Option (Int × Int)} (x : Ans w n h v o) (k : Ext h h') : Ans w n h' v o := x.kx (X := []) (KX.ofExt k) (fun _ q => nomatch q) Sft.nil
theorem Ans.le {n n' : Nat} {v : Value} {o : Option (Int × Int)} (x : Ans w n h v o) (k : n' ≤ n) : Ans w n' h v o := by
  cases o with
  | none => exact x
  | some p => obtain ⟨f, e, ht⟩ := x; exact ⟨f, e, ht.le k⟩
theorem Hit.fn {n : Nat} {f : Addr} {a b : Int} (x : Hit w n h f a b) : ∃ o, h.get? f = some o ∧ o.cls = .type "function" := by
  obtain ⟨s, so, sfd, ⟨dd, fd, hsh, t, a, b⟩, _⟩ := x.now
  exact ⟨_, a, rfl⟩
theorem Ans.kind {n : Nat} {v : Value} {o : Option (Int × Int)} (x : Ans w n h v o) : v = .none ∨ ∃ f, v = .ref f ∧ ∃ ob, h.get? f = some ob ∧ ob.cls = .type "function" := by
  cases o with
  | none => exact .inl x
  | some p => obtain ⟨f, e, ht⟩ := x; exact .inr ⟨f, e, ht.fn⟩
theorem Ans.test {n : Nat} {v : Value} {o : Option (Int × Int)} (x : Ans w n h v o) : (v != .none) = o.isSome := by
  cases o with
  | none => rw [show v = .none from x]; rfl
  | some p => obtain ⟨f, e, ht⟩ := x; rw [e]; rfl
theorem W.assignT {elts : List Expr} {kk : Nat} {tpos pos : Pos} {value : Expr} {Q : Flow → Heap → Prop} (H : W w G A (eval value env) h fun v h₁ => W w G A (PySem.assign (.Tuple elts kk tpos) env v) h₁ fun _ h₂ => Q .next h₂)
    (hs : swapsWithSole [.Tuple elts kk tpos] value pos.line env = Pure.pure false := by rfl) (hw : swappedStores [.Tuple elts kk tpos] value env = Pure.pure none := by rfl) : W w G A (exec (.Assign [.Tuple elts kk tpos] value pos) env) h Q := fun _ =>
  Assign_Tuple (W.nest (H.mono fun v h₁ k => fun _ => W.nest (k.mono fun _ h₂ q => fun tk => ⟨h₂, tk, rfl, q⟩))) hs hw

theorem rev_says {p : Addr} {chars : Str} {t : Tok} {col : Int} {u : Tok} {B : Str → Nat → Bool} {first behind : Int} {st : Bool} {rows : Nat} {l₀ : List (Int × Int)} {k n : Nat} {Q : Value → Heap → Prop} (g : Gd w h) (T : TabAt h 133 K133) (r : Rm A (k + 8))
    (hn : @LE.le Nat _ n h.objs.size) (hn0 : @LT.lt Nat _ 162 n) (pg : Stb n h fun h' => Prog0 w h' p B first behind st) (hlen : chars.length = 11 * rows) (hrows : rows ≤ 100)
    (ch : Chain (fun s => searchFrom (B chars) first behind st s rows 0) 0 l₀)
    (q : ∀ v h', KX [133] h h' → TabAt h' 133 K133 → Ans w h.objs.size h' v (revL col none l₀) → Q v h') : W w G A (call (.ref 21) [.ref p, .str chars t, .int col u]) h Q := by
  refine W.into [133] (k := k + 7) r g.nolimit (g.X _ _ (by k_is)) rfl (codeRec_of g.X (by k_is)) (fun _ => BindsTo.of_eq rfl) rfl fun L h₁ F₁ e₁ => ?_
  have g₁ := g.keeps e₁
  have L133 : L ≠ 133 := ne_of_big g F₁.lt (by decide)
  have hL : @LT.lt Nat _ 162 L := Nat.lt_of_lt_of_le g.lt F₁.lt
  have later : ∀ hc, KX [133] h hc → Prog0 w hc p B first behind st := fun hc kx => (pg.kx kx (fun x hx q => by rw [List.mem_singleton.mp hx] at q; exact Nat.lt_irrefl _ (Nat.lt_of_lt_of_le (Nat.lt_trans (by decide) hn0) q)) Sft.t133).now
  have x133 : ∀ x ∈ ([133] : List Addr), @LT.lt Nat _ x (L + 1) := fun x hx => by rw [List.mem_singleton.mp hx]; omega
  have xL : ∀ x ∈ ([L] : List Addr), @LT.lt Nat _ x (L + 1) := fun x hx => by rw [List.mem_singleton.mp hx]; exact Nat.lt_succ_self _
  have n133 : ∀ {X : List Addr}, X = [L] → (133 : Addr) ∉ X := fun e => by rw [e]; exact not_mem1 (Ne.symm L133)
  obtain ⟨s, so, sfd, ha, hso, hsd, k0⟩ := later h₁ (KX.ofExt e₁)
  refine W.execs_cons (W.assign (W.meth (EV.lc F₁ rfl rfl) ha hsd (W.args1 (P := IsV (.str chars t)) (by exact EV.lc F₁ rfl rfl) fun v e => ⟨hso, ?_⟩) fn_search))
  cases e
  refine k0 G _ k _ chars t 0 _ rows (.inl ⟨rfl, rfl⟩) g₁ (T.keeps e₁) ((r.deeper _).le (by omega)) hlen hrows fun v h₂ kx₂ T₂ ans₂ => ?_
  have F₂ := F₁.tab kx₂ (.head _) L133
  refine W.st F₂ fun h₃ F₃ s₃ => ?_
  show W _ _ _ (execs _ _) _ _
  have k₃ : KX [L] h₂ h₃ := KX.same s₃ (.head _)
  have T₃ := T₂.kx k₃ (Sft.ns F₂.ns) (not_mem1 (Ne.symm L133))
  have ans₃ : Ans w (L + 1) h₃ v (searchFrom (B chars) first behind st 0 rows 0) := (ans₂.le F₁.ns.lt).kx k₃ xL (Sft.ns F₂.ns)
  have g₃ := F₃.gd g (by decide)
  refine W.execs_cons (W.ifb (TB.not (TB.fnone (EV.lc F₃ rfl rfl) ans₃.kind)) (fun c => ?_) fun c => ?_)
  · rw [ans₃.test] at c
    have hnone : searchFrom (B chars) first behind st 0 rows 0 = none := by simpa using c
    refine W.execs_cons (W.ret (EV.none.use fun v e => ?_))
    cases e
    refine q _ h₃ F₃.ext T₃ ?_
    cases l₀ with
    | nil => exact rfl
    | cons p l => exact nomatch hnone.symm.trans ch.1
  · rw [ans₃.test] at c
    cases l₀ with
    | nil => rw [show searchFrom (B chars) first behind st 0 rows 0 = none from ch] at c; exact nomatch c
    | cons p₀ l₁ =>
    rw [show searchFrom (B chars) first behind st 0 rows 0 = some p₀ from ch.1] at ans₃
    obtain ⟨f, rfl, hit⟩ := ans₃
    refine W.execs_nil ?_
    show W _ _ _ (execs _ _) _ _
    refine W.execs_cons (W.assign (EV.none.use fun v e => ?_))
    cases e
    refine W.st F₃ fun h₄ F₄ s₄ => ?_
    show W _ _ _ (execs _ _) _ _
    have k₄ : KX [L] h₃ h₄ := KX.same s₄ (.head _)
    have T₄ := T₃.kx k₄ (Sft.ns F₃.ns) (not_mem1 (Ne.symm L133))
    have hit₄ := hit.kx k₄ xL (Sft.ns F₃.ns)
    have g₄ := F₄.gd g (by decide)
    obtain ⟨sp, spo, spfd, hasp, hspo, hspd, spk⟩ := hit₄.now
    refine W.execs_cons (W.assignT (W.meth0 (EV.lc F₄ rfl rfl) hasp hspo hspd ?_ fn_span))
    refine spk G _ k _ g₄ ((r.deeper _).le (by omega)) fun tp ui uj h₅ e₅ it₅ => ?_
    refine W.assign2 (F₄.more e₅) (by exact r.hd) it₅ fun h₆ F₆ k₆ => ?_
    show W _ _ _ (execs _ _) _ _
    have hit₆ := (hit₄.keeps e₅).kx k₆ xL (Sft.ns (F₄.more e₅).ns)
    have T₆ := (T₄.keeps e₅).kx k₆ (Sft.ns (F₄.more e₅).ns) (not_mem1 (Ne.symm L133))
    refine W.execs_cons (W.while2 (fun m hc => ∃ m' f fv fo p' l' ui uj, Fk [133] [L] h L m' hc hc ∧ m' "prog" = some (.ref p) ∧ m' "chars" = some (.str chars t) ∧ m' "col" = some (.int col u) ∧ m' "m" = some (.ref f) ∧ Hit w (L + 1) hc f (Prod.fst p') (Prod.snd p') ∧
        m' "i" = some (.int p'.1 ui) ∧ m' "j" = some (.int p'.2 uj) ∧ m' "found" = some fv ∧ Ans w (L + 1) hc fv fo ∧ revL col none (p₀ :: l₁) = revL col fo (p' :: l') ∧ Chain (fun s => searchFrom (B chars) first behind st s rows 0) (nextOf p') l' ∧ TabAt hc 133 K133 ∧ m = l'.length)
      (fun hc => ∃ m' fv, Fk [133] [L] h L m' hc hc ∧ m' "found" = some fv ∧ Ans w (L + 1) hc fv (revL col none (p₀ :: l₁)) ∧ TabAt hc 133 K133)
      l₁.length ⟨_, f, .none, none, p₀, l₁, ui, uj, F₆.mark, rfl, rfl, rfl, rfl, hit₆, rfl, rfl, rfl, rfl, rfl, ch.2, T₆, rfl⟩ ?_ ?_)
    · rintro m hc ⟨m', f, fv, fo, p', l', ui, uj, G1, w1, w2, w3, w4, hitc, w5, w6, w7, ansc, hrev, chc, Tc, rfl⟩
      have gc := G1.gd g (by decide)
      refine W.mono (TB.and (TB.cmp (EV.lc G1 w5 ⟨_, rfl⟩) (EV.lc G1 w3 ⟨_, rfl⟩) lt_ii) (fun _ => TB.cmp (EV.lc G1 w6 ⟨_, rfl⟩) (EV.lc G1 w3 ⟨_, rfl⟩) le_ii) G) fun b h' ⟨e, eb⟩ => ?_
      subst e
      have hr : revL col fo (p' :: l') = if p'.1 < col ∧ p'.2 ≤ col then revL col (some p') l' else fo := rfl
      rw [hr] at hrev
      by_cases hc2 : p'.1 < col ∧ p'.2 ≤ col
      · rw [if_pos hc2] at hrev
        rw [eb, if_pos (by simp [hc2.1, hc2.2])]
        refine W.hide fun QQ hQQ => ?_
        refine W.execs_cons (W.assign ((EV.lc G1 w4 rfl : EV w _ _ h' _ (IsV (.ref f))).useV ?_))
        refine W.st G1 fun h7 G2 s7 => ?_
        show W _ _ _ (execs _ _) _ _
        have k7 : KX [L] h' h7 := KX.same s7 (.head _)
        have hit7 := hitc.kx k7 xL (Sft.ns G1.ns)
        have T7 := Tc.kx k7 (Sft.ns G1.ns) (not_mem1 (Ne.symm L133))
        -- j moves on
        refine W.seq (J := fun h8 => ∃ m8 uj', Fk [133] [L] h L m8 h8 h8 ∧ m8 "prog" = some (.ref p) ∧ m8 "chars" = some (.str chars t) ∧ m8 "col" = some (.int col u) ∧ m8 "j" = some (.int (nextOf p') uj') ∧ m8 "found" = some (.ref f) ∧ Hit w (L + 1) h8 f p'.1 p'.2 ∧ TabAt h8 133 K133)
          (W.ifb (TB.cmp (EV.lc G2 w5 ⟨_, rfl⟩) (EV.lc G2 w6 ⟨_, rfl⟩) eq_ii) (fun c => ?_) fun c => ?_) ?_
        · have c' : p'.1 = p'.2 := by simpa using c
          refine W.execs_cons (W.assign (EV.use (P := IsI (p'.2 + 1)) (by exact EV.add (EV.lc G2 w6 ⟨_, rfl⟩) EV.int) fun v ⟨tv, ev⟩ => ?_))
          subst ev
          refine W.st G2 fun h8 G3 s8 => ?_
          show W _ _ _ (execs _ _) _ _
          have k8 : KX [L] h7 h8 := KX.same s8 (.head _)
          exact W.execs_nil ⟨rfl, _, tv, G3.mark, w1, w2, w3, by rw [nextOf, if_pos c']; rfl, rfl, hit7.kx k8 xL (Sft.ns G2.ns), T7.kx k8 (Sft.ns G2.ns) (not_mem1 (Ne.symm L133))⟩
        · have c' : ¬ p'.1 = p'.2 := by simpa using c
          exact W.execs_nil ⟨rfl, _, uj, G2.mark, w1, w2, w3, by rw [nextOf, if_neg c']; exact w6, rfl, hit7, T7⟩
        · rintro h8 ⟨m8, uj', G3, w1, w2, w3, w6', w7', hit8, T8⟩
          have g8 := G3.gd g (by decide)
          obtain ⟨s, so, sfd, ha, hso, hsd, k0⟩ := later h8 G3.ext
          refine W.execs_cons (W.assign (W.meth (EV.lc G3 w1 rfl) ha hsd (W.args2 (P := IsV (.str chars t)) (P' := IsV (.int (nextOf p') uj')) (by exact EV.lc G3 w2 rfl) (by exact EV.lc G3 w6' rfl) fun v v' e e' => ⟨hso, ?_⟩) fn_search))
          cases e; cases e'
          refine k0 G _ k _ chars t (nextOf p') _ rows (.inr ⟨_, rfl⟩) g8 T8 ((r.deeper _).le (by omega)) hlen hrows fun v h9 kx9 T9 ans9 => ?_
          have G4 := G3.tab kx9 (.head _) L133
          have hit9 := hit8.kx kx9 x133 Sft.t133
          refine W.st G4 fun h10 G5 s10 => ?_
          show W _ _ _ (execs _ _) _ _
          have k10 : KX [L] h9 h10 := KX.same s10 (.head _)
          have T10 := T9.kx k10 (Sft.ns G4.ns) (not_mem1 (Ne.symm L133))
          have hit10 := hit9.kx k10 xL (Sft.ns G4.ns)
          have ans10 : Ans w (L + 1) h10 v (searchFrom (B chars) first behind st (nextOf p') rows 0) := (ans9.le G3.ns.lt).kx k10 xL (Sft.ns G4.ns)
          refine W.execs_cons (W.ifb (TB.not (TB.fnone (EV.lc G5 rfl rfl) ans10.kind)) (fun c => ?_) fun c => ?_)
          · rw [ans10.test] at c
            have hnone : searchFrom (B chars) first behind st (nextOf p') rows 0 = none := by simpa using c
            refine W.execs_cons (W.brk (hQQ .brk _ ?_))
            cases l' with
            | nil => exact ⟨_, _, G5.mark, w7', by rw [hrev]; exact ⟨f, rfl, hit10⟩, T10⟩
            | cons a b => exact nomatch hnone.symm.trans chc.1
          · rw [ans10.test] at c
            cases l' with
            | nil => rw [show searchFrom (B chars) first behind st (nextOf p') rows 0 = none from chc] at c; exact nomatch c
            | cons p2 l2 =>
            rw [show searchFrom (B chars) first behind st (nextOf p') rows 0 = some p2 from chc.1] at ans10
            obtain ⟨f2, rfl, hit2⟩ := ans10
            refine W.execs_nil ?_
            show W _ _ _ (execs _ _) _ _
            have g10 := G5.gd g (by decide)
            obtain ⟨sp, spo, spfd, hasp, hspo, hspd, spk⟩ := hit2.now
            refine W.execs_cons (W.assignT (W.meth0 (EV.lc G5 rfl rfl) hasp hspo hspd ?_ fn_span))
            refine spk G _ k _ g10 ((r.deeper _).le (by omega)) fun tp ui2 uj2 h11 e11 it11 => ?_
            refine W.assign2 (G5.more e11) (by exact r.hd) it11 fun h12 G6 k12 => ?_
            show W _ _ _ (execs _ _) _ _
            have sf := Sft.ns (G5.more e11).ns
            exact W.execs_nil (hQQ .next _ ⟨l2.length, by simp, _, f2, .ref f, some p', p2, l2, ui2, uj2, G6.mark, w1, w2, w3, rfl, (hit2.keeps e11).kx k12 xL sf, rfl, rfl, w7', ⟨f, rfl, (hit10.keeps e11).kx k12 xL sf⟩, hrev, chc.2, (T10.keeps e11).kx k12 sf (not_mem1 (Ne.symm L133)), rfl⟩)
      · rw [if_neg hc2] at hrev
        rw [eb, if_neg (by simp only [Bool.and_eq_true, decide_eq_true_eq]; exact hc2)]
        exact ⟨m', fv, G1, w7, hrev ▸ ansc, Tc⟩
    · rintro hc ⟨m', fv, G1, w7, ansc, Tc⟩
      show W _ _ _ (execs _ _) _ _
      refine W.execs_cons (W.ret ((EV.lc G1 w7 rfl : EV w _ _ hc _ (IsV fv)).useV ?_))
      exact q _ hc G1.ext Tc (ansc.le (Nat.le_succ_of_le G1.lt))
end
end Mine
namespace Mine
section
variable {w : World} {G : Shared} {A : Around} {h : Heap} {env : Env}
theorem EV.itemL {v i : Expr} {pos : Pos} {l : Addr} {items : Array Value} {n : Int} {x : Value} (hv : EV w A env h v (IsV (.ref l))) (il : h.IsList l items) (hi : EV w A env h i (IsI n)) (h0 : 0 ≤ n) (h1 : n < 2 ^ 63) (hx : items[n.toNat]? = some x)
    (hs : ∀ l n u, subscripted i false (.ref l) (.int n u) = operate [.ref l, .int n u] (getItem (.ref l) (.int n u)) := by intro _ _ _; with_unfolding_all rfl) : EV w A env h (.Subscript v i pos) (IsV x) := fun G =>
  W.itemL (hv.use fun a e => ⟨l, items, n, x, e, il, hi, h0, h1, hx, rfl, rfl⟩) hs
theorem EV.itemLneg {v i : Expr} {pos : Pos} {l : Addr} {items : Array Value} {n : Int} {x : Value} (hv : EV w A env h v (IsV (.ref l))) (il : h.IsList l items) (hi : EV w A env h i (IsI n)) (h0 : n < 0) (h1 : -(items.size : Int) ≤ n) (h2 : -(2 ^ 63) ≤ n) (hx : items[(n + items.size).toNat]? = some x)
    (hs : ∀ l n u, subscripted i false (.ref l) (.int n u) = operate [.ref l, .int n u] (getItem (.ref l) (.int n u)) := by intro _ _ _; with_unfolding_all rfl) : EV w A env h (.Subscript v i pos) (IsV x) := fun G =>
  W.itemLneg (hv.use fun a e => ⟨l, items, n, x, e, il, hi, h0, h1, h2, hx, rfl, rfl⟩) hs
theorem EV.itemT {v i : Expr} {pos : Pos} {l : Addr} {items : Array Value} {n : Int} {j : Nat} {x : Value} (hv : EV w A env h v (IsV (.ref l))) (il : IsTup h l items) (hi : EV w A env h i (IsI n)) (h0 : -(2 ^ 63) ≤ n) (h1 : n < 2 ^ 63) (hj : seqIndex? n items.size = some j) (hx : items[j]? = some x)
    (hs : ∀ l n u, subscripted i false (.ref l) (.int n u) = operate [.ref l, .int n u] (getItem (.ref l) (.int n u)) := by intro _ _ _; with_unfolding_all rfl) : EV w A env h (.Subscript v i pos) (IsV x) := fun G =>
  W.itemT (hv.use fun a e => ⟨l, items, n, j, x, e, il, hi, h0, h1, hj, hx, rfl, rfl⟩) hs
theorem EV.neg {e : Expr} {pos : Pos} {a : Int} (h1 : EV w A env h e (IsI a)) : EV w A env h (.UnaryOp .USub e pos) (IsI (-a)) := fun G _ =>
  wpAny_UnaryOp (W.nest (h1.use fun v ⟨t, ev⟩ => fun tk => by subst ev; exact PyProof.Rows.neg_int ⟨h, _, rfl, rfl, _, rfl⟩))
theorem EV.lenL {cn : Str} {cs : Scope} {L a : Addr} {ccd : Value} {cl : List (Str × Addr)} {e : Expr} {rp pos : Pos} {l : Addr} {items : Array Value} (g : Gd w h) (he : EV w A (envX cn cs L a ccd cl) h e (IsV (.ref l))) (il : h.IsList l items) (hz : items.size ≤ sizeLine)
    (hn : nsIn (Mine.hd.heap_39 w.params) mainGlobals "len" = some Option.none) (hk : cs.kind = .function := by rfl) (hx : (envX cn cs L a ccd cl).kindOf "len" = some .globalImplicit := by rfl)
    (hec : eval (.Call (.Name "len" rp) [e] [] pos) (envX cn cs L a ccd cl) = (do callWith pos (← eval (.Name "len" rp) (envX cn cs L a ccd cl)) [] (backTo pos (starEach [e] (envX cn cs L a ccd cl))) (backToKw pos (keywordEach [] (envX cn cs L a ccd cl)))) := by rfl)
    (hs : starEach [e] (envX cn cs L a ccd cl) = (false, eval e (envX cn cs L a ccd cl)) :: starEach [] (envX cn cs L a ccd cl) := by rfl) (hp : (backTo pos (starEach [] (envX cn cs L a ccd cl))).any (·.1) = false := by rfl) :
    EV w A (envX cn cs L a ccd cl) h (.Call (.Name "len" rp) [e] [] pos) (IsI items.size) := fun G =>
  W.callBi (EV.bi g hn rfl (by decide) hk hx) (W.args1 he (fun v hv => by
    cases hv
    exact fun tk => call_len_list (s := St G h tk) il (by have : sizeLine = 16777216 := rfl; omega) ⟨h, _, rfl, rfl, _, rfl⟩) hs) hec hs hp
theorem TB.and3 {x y z : Expr} {pos : Pos} {a b c : Bool} (h1 : TB w A env h x a) (h2 : a = true → TB w A env h y b) (h3 : a = true → b = true → TB w A env h z c) : TB w A env h (.BoolOp .And [x, y, z] pos) (a && b && c) := fun _ _ =>
  wpAny_isTrue_BoolOp (wpAny_allTrue_And_cons (W.nest (h1.use fun tk => by
    cases a with
    | false => exact ⟨h, tk, rfl, rfl, rfl⟩
    | true => exact wpAny_allTrue_And_cons (W.nest ((h2 rfl).use fun tk => by
        cases b with
        | false => exact ⟨h, tk, rfl, rfl, rfl⟩
        | true => exact wpAny_allTrue_And_cons (W.nest ((h3 rfl rfl).use fun tk => by
            cases c with
            | false => exact ⟨h, tk, rfl, rfl, rfl⟩
            | true => exact wpAny_allTrue_And_nil ⟨h, tk, rfl, rfl, rfl⟩)))))))
theorem setItem_neg {s : Shared} {E : Value → Shared → Prop} {l : Addr} {items : Array Value} {n : Nat} {k : Int} {t : Tok} {v : Value} {Q : Unit → Shared → Prop} (hl : s.heap.get? l = some (lo items n))
    (h0 : k < 0) (h1 : -(items.size : Int) ≤ k) (hfit : -(2 ^ 63) ≤ k)
    (hQ : ∀ h' n', h'.get? l = some (lo (items.setIfInBounds (k + items.size).toNat v) n') → Heap.SameBut l s.heap h' → Q () { s with heap := h' }) : wpAny (model PR w) A (setItem (.ref l) (.int k t) v) Q E s := by
  have il : s.heap.IsList l items := isList_lo hl
  unfold setItem
  try with_reducible refine wpAny_holding ?_
  first | refine wpAny_bind (wpAny_pure ?_) | skip
  refine wpAny_bind (wpAny_sequenceKey il.typeIs (by decide) ?_)
  refine wpAny_bind (wpAny_callSpecial?_slot (name := Str.ofString "__setitem__") il.typeIs slot_list_setitem
    (wpAny_call_entry slot_list_setitem il.typeIs entry_list_setitem ?_ (args_list_setitem _ _ _)))
  show wpAny _ _ (Builtin.List.listSubscript? (.int k t) >>= _) _ _ s
  refine wpAny_bind (wpAny_listSubscript_int (fitsIndex_neg h0 hfit) ?_)
  clear hfit
  have hidx := seqIndex_neg h0 h1
  have hlt : (k + items.size).toNat < items.size := by omega
  have hx : items[(k + items.size).toNat]? = some items[(k + items.size).toNat] := Array.getElem?_eq_getElem hlt
  obtain ⟨j, rfl⟩ : ∃ j : Nat, k = Int.negSucc j := by
    cases k with
    | ofNat n => exact absurd h0 (Int.not_lt.mpr (Int.ofNat_nonneg n))
    | negSucc n => exact ⟨n, rfl⟩
  show wpAny _ _ ((Builtin.List.listItems (.ref l) >>= fun xs => pure ((seqIndex? (Int.negSucc j) xs.size).bind fun i => xs[i]?.map (i, ·))) >>= _) _ _ s
  refine wpAny_bind (wpAny_bind ?_)
  show wpAny _ _ (seqItems? (.ref l) >>= _) _ _ s
  refine wpAny_bind (wpAny_seqItems hl rfl (wpAny_pure (wpAny_pure ?_)))
  rw [hidx]
  simp only [Option.bind_some, hx, Option.map_some]
  generalize (Int.negSucc j + ↑items.size).toNat = J at *
  show wpAny _ _ (setSeqItemAt l J v >>= _) _ _ s
  obtain ⟨n', hd'⟩ := Obj.data_mapSeq (o := lo items n) rfl (·.setIfInBounds J v)
  have hfin : ∃ n', (s.heap.update l (Obj.mapSeq (·.setIfInBounds J v))).get? l = some (lo (items.setIfInBounds J v) n') :=
    ⟨_, Heap.get?_update_self _ hl (Obj.isFreed_of_seq hd')⟩
  obtain ⟨n'', hfin⟩ := hfin
  refine wpAny_bind (wpAny_setSeqItemAt hl rfl ?_)
  first
    | exact wpAny_bind (wpAny_pure (wpAny_pure ⟨.none, rfl, wpAny_pure (hQ _ _ hfin (Heap.SameBut.update ..))⟩))
    | exact wpAny_pure ⟨.none, rfl, wpAny_pure (hQ _ _ hfin (Heap.SameBut.update ..))⟩
theorem W.setNeg {o i : Expr} {pos' pos : Pos} {value : Expr} {Q : Flow → Heap → Prop}
    (H : W w G A (eval value env) h fun v h₁ => ∃ D items n k, EV w A env h₁ o (IsV (.ref D)) ∧ EV w A env h₁ i (IsI k) ∧ h₁.get? D = some (lo items n) ∧ k < 0 ∧ -(items.size : Int) ≤ k ∧ -(2 ^ 63) ≤ k ∧
      ∀ h' n', h'.get? D = some (lo (items.setIfInBounds (k + items.size).toNat v) n') → Heap.SameBut D h₁ h' → Q .next h')
    (hs : swapsWith value (some (.Subscript o i pos')) pos.line env = Pure.pure false := by rfl) : W w G A (exec (.Assign [.Subscript o i pos'] value pos) env) h Q := fun _ =>
  wpAny_Assign_Subscript (W.nest (H.mono fun v h₁ ⟨D, items, n, k, ho, hi, hD, k0, k1, k2, kk⟩ => fun _ => W.nest (ho.use fun a e => fun _ => by
    cases e
    exact W.nest (hi.use fun b ⟨u, eb⟩ => fun tk => by
      subst eb
      exact setItem_neg (s := St G h₁ tk) hD k0 k1 k2 fun h' n' a b => ⟨h', tk, rfl, kk h' n' a b⟩)))) hs
/-- l.append(e) whose argument makes objects -/
theorem W.appendW {pl : Sem Bool} {x : Str} {xp ap pos pos' : Pos} {e : Expr} {Q : Flow → Heap → Prop} {D : Addr} (hx : EV w A env h (.Name x xp) (IsV (.ref D))) {o0 : Obj} (h0 : h.get? D = some o0) (hc0 : ∃ items n, o0 = lo items n)
    (he : W w G A (eval e env) h fun v h₁ => ∃ items n, h₁.get? D = some (lo items n) ∧ items.size ≤ sizeLine ∧ ∀ h', Heap.SameBut D h₁ h' → h'.get? D = some (lo (items.push v) (n + 1)) → Q .next h')
    (hi : interactive env = false := by rfl) (hs : swapsWith (.Call (.Attribute (.Name x xp) "append" ap) [e] [] pos) none pos'.line env = Pure.pure false := by rfl)
    (hst : starEach [e] env = (false, eval e env) :: starEach [] env := by rfl)
    (hm : eval (.Call (.Attribute (.Name x xp) "append" ap) [e] [] pos) env = (do
      let ov ← eval (.Name x xp) env
      standAt ap.atName
      let (f, first) ← holding [ov] (getMethod ov "append" pl)
      callWith pos f first (backTo pos (starEach [e] env)) []) := by rfl) : W w G A (exec (.Expr (.Call (.Attribute (.Name x xp) "append" ap) [e] [] pos) pos') env) h Q := by
  refine W.expr (fun tk₀ => ?_) hi hs
  refine MethodCall_ (pl := pl) (W.nest (hx.use fun ov q => fun tk => ?_)) hm
  cases q
  obtain ⟨it0, n0, rfl⟩ := hc0
  refine Calls.getMethod_list_append h0 rfl rfl ?_
  refine callWith_method1 (W.nest (W.args_cons (Q := fun vs h' => ∀ tk, wpAny (model PR w) A (call (.builtin "list.append") ([.ref D] ++ vs)) _ _ (St G h' tk)) (he.mono fun v h₁ ⟨items, n, hD, hz, k⟩ => W.args_nil fun tk => ?_) hst)) hst rfl
  exact append_at (s := St G h₁ tk) hD (fun h' s' e' => ⟨h', tk, rfl, k h' s' e'⟩) hz
/-- for x in range(e), the frame kept -/
theorem W.forRange2 {cn : Str} {cs : Scope} {L a : Addr} {ccd : Value} {cl : List (Str × Addr)} {T X : List Addr} {h₀ hb : Heap} {m : Str → Option Value} {x : Str} {e : Expr} {px rp rpos pos : Pos} {body : List Stmt} {N : Int} {Q : Flow → Heap → Prop}
    (F : Fk T X h₀ L m hb h) (g : Gd w h) (hh : A.handled = none) (hN : 0 ≤ N) (hN' : N < 2 ^ 62) (he : EV w A (envX cn cs L a ccd cl) h e (IsI N)) (hX : ∀ b ∈ X, @LT.lt Nat _ b h.objs.size)
    (J : Addr → Nat → (Str → Option Value) → Heap → Prop) (j0 : ∀ I h', Ext h h' → @LE.le Nat _ h.objs.size I → J I 0 m h') (stab : ∀ I i m' hc hc', @LE.le Nat _ h.objs.size I → J I i m' hc → KX [L, I] hc hc' → J I i m' hc')
    (turn : ∀ I (i : Nat) t m' hc, @LE.le Nat _ h.objs.size I → @LT.lt Nat _ I hc.objs.size → (i : Int) < N → J I i m' hc → Fk T X h₀ L (fun y => if y = x then some (.int (i : Int) t) else m' y) hc hc → KX X h hc →
      W w G A (execs body (envX cn cs L a ccd cl)) hc fun fl h₄ => match fl with
        | .next | .cont => ∃ m₄, Fk T X h₀ L m₄ hc h₄ ∧ J I (i + 1) m₄ h₄
        | .brk => Q .next h₄
        | .ret v => Q (.ret v) h₄)
    (done : ∀ I m' hc, @LE.le Nat _ h.objs.size I → Fk T X h₀ L m' hb hc → J I N.toNat m' hc → Q .next hc)
    (hkx : (envX cn cs L a ccd cl).kindOf x = some .local := by rfl)
    (hk : cs.kind = .function := by rfl) (hx : (envX cn cs L a ccd cl).kindOf "range" = some .globalImplicit := by rfl)
    (hse : backTo rpos (starEach [e] (envX cn cs L a ccd cl)) = [(false, eval e (envX cn cs L a ccd cl))] := by rfl) (hn : nsIn (Mine.hd.heap_39 w.params) mainGlobals "range" = some Option.none := by k_is) :
    W w G A (exec (.For (.Name x px) (.Call (.Name "range" rp) [e] [] rpos) body [] pos) (envX cn cs L a ccd cl)) h Q := by
  refine W.for (W.rangeIt g hh hN hN' he (fun I h₂ e₂ hI Wk s0 => ?_) hk hx hse hn) (by intro _; rfl) (by intro _ _; rfl)
  have hI : @LE.le Nat _ h.objs.size I := hI
  have hLI : @LT.lt Nat _ L I := Nat.lt_of_lt_of_le (hX L F.mem) hI
  refine ⟨I, [I], [I], N.toNat, _, _, X, fun i hc => ∃ m', Fk T X h₀ L m' h hc ∧ J I i m' hc, rfl, Wk, s0, ?_, ⟨m, F.mark.more e₂, j0 I h₂ e₂ hI⟩, ?_, ?_, ?_⟩
  · intro b hb hbX
    rw [List.mem_singleton.mp hb] at hbX
    exact Nat.lt_irrefl _ (Nat.lt_of_lt_of_le (hX I hbX) hI)
  · rintro i hc hc' ⟨m', F', j'⟩ k
    exact ⟨m', F'.kx k (fun b hb => by rw [List.mem_singleton.mp hb]; exact hLI) (fun b hb => by rw [List.mem_singleton.mp hb]; exact hI), stab I i m' hc hc' hI j' (k.mono fun b hb => .tail _ hb)⟩
  · rintro i v hc hi ⟨t, rfl⟩ ⟨m', F', j'⟩ sI
    have ltI : ∀ h₃, Heap.SameBut L hc h₃ → @LT.lt Nat _ I h₃.objs.size := fun h₃ s => lt_of_get ((s.2 I (Nat.ne_of_gt hLI)).trans sI)
    refine W.assignName (W.st F' (fun h₃ F₃ s₃ => ?_) rfl hkx (by show (cs.kind == .class || (cs.kind == .module && _)) = false; rw [hk]; rfl))
    refine (turn I i t m' h₃ hI (ltI h₃ s₃) (by omega) (stab I i m' hc h₃ hI j' (KX.same s₃ (.head _))) F₃.mark F₃.kp).mono fun fl h₄ q => ?_
    have kx : ∀ m₄, Fk T X h₀ L m₄ h₃ h₄ → KX X hc h₄ := fun m₄ F₄ => (KX.same s₃ F.mem).trans F₄.kp
    cases fl with
    | next => obtain ⟨m₄, F₄, j₄⟩ := q; exact ⟨kx m₄ F₄, m₄, F₃.since F₄, j₄⟩
    | cont => obtain ⟨m₄, F₄, j₄⟩ := q; exact ⟨kx m₄ F₄, m₄, F₃.since F₄, j₄⟩
    | brk => exact q
    | ret v => exact q
  · rintro hc ⟨m', F', j'⟩
    exact W.execs_nil (done I m' hc hI (F.since F') j')
end
end Mine
namespace Mine
theorem fill13 : PySem.Challenge.rw_mr0175_01.row.prog = PySem.Challenge.rw_mr0175_01.row.prog ∧ Mine.hd.heap_39 = Mine.hd.heap_39 := by k_fill; exact ⟨rfl, rfl⟩
noncomputable def findsStep (first behind : Int) (st : Bool) (flags : List Bool) (acc : List (Int × Int)) (k : Nat) : List (Int × Int) :=
  if (flags.getD k false && decide (0 < k) && flags.getD (k - 1) false) = true then acc.dropLast ++ [((acc.getLast?.getD (0, 0)).1, 11 * (k : Int) + behind)]
  else if flags.getD k false = true then acc ++ [(11 * (k : Int) + first, 11 * (k : Int) + behind)]
  else if st = true then acc ++ [(11 * (k : Int) + first, 11 * (k : Int) + first), (11 * (k : Int) + first + 1, 11 * (k : Int) + first + 1)]
  else acc
noncomputable def findsTo (first behind : Int) (st : Bool) (flags : List Bool) (i : Nat) : List (Int × Int) := (List.range i).foldl (findsStep first behind st flags) []
theorem findsTo_succ (first behind : Int) (st : Bool) (flags : List Bool) (i : Nat) : findsTo first behind st flags (i + 1) = findsStep first behind st flags (findsTo first behind st flags i) i := by
  unfold findsTo; rw [List.range_succ, List.foldl_append]; rfl
theorem finds_ne {first behind : Int} {st : Bool} {flags : List Bool} {i : Nat} (h : flags.getD i false = true) : findsTo first behind st flags (i + 1) ≠ [] := by
  rw [findsTo_succ]; unfold findsStep
  by_cases c : (flags.getD i false && decide (0 < i) && flags.getD (i - 1) false) = true
  · rw [if_pos c]; simp
  · rw [if_neg c, if_pos h]; simp
/-- values that are pairs of ints, each newer than n -/
noncomputable def PairsI (n : Nat) (h : Heap) (items : Array Value) (l : List (Int × Int)) : Prop := items.size = l.length ∧ ∀ (j : Nat) v, items[j]? = some v → ∃ t a b u1 u2, v = .ref t ∧ @LE.le Nat _ n t ∧ h.IsTuple t #[.int a u1, .int b u2] ∧ l[j]? = some (a, b)
section
variable {w : World} {G : Shared} {A : Around} {h : Heap} {env : Env}
theorem PairsI.kx {h' : Heap} {n : Nat} {X : List Addr} {items : Array Value} {l : List (Int × Int)} (x : PairsI n h items l) (k : KX X h h') (hX : ∀ x ∈ X, @LT.lt Nat _ x n) : PairsI n h' items l :=
  ⟨x.1, fun j v hv => let ⟨t, a, b, u1, u2, e, ht, it, hl⟩ := x.2 j v hv; ⟨t, a, b, u1, u2, e, ht, it.at fun o q => k t o (fun hx => Nat.lt_irrefl _ (Nat.lt_of_lt_of_le (hX t hx) ht)) q, hl⟩⟩
theorem PairsI.keeps {h' : Heap} {n : Nat} {items : Array Value} {l : List (Int × Int)} (x : PairsI n h items l) (k : Ext h h') : PairsI n h' items l := x.kx (X := []) (KX.ofExt k) fun _ q => nomatch q
theorem PairsI.le {n n' : Nat} {items : Array Value} {l : List (Int × Int)} (x : PairsI n h items l) (k : n' ≤ n) : PairsI n' h items l :=
  ⟨x.1, fun j v hv => let ⟨t, a, b, u1, u2, e, ht, it, hl⟩ := x.2 j v hv; ⟨t, a, b, u1, u2, e, Nat.le_trans k ht, it, hl⟩⟩
theorem past {j n : Nat} (h : ¬ j < n) (e : ¬ j = n) : n + 1 ≤ j := by omega
theorem lastI {n m : Nat} (h : n = m) : (-1 + (n : Int)).toNat = m - 1 := by omega
theorem negleI {n m : Nat} (h : n = m) (p : 0 < m) : -(n : Int) ≤ -1 := by omega
theorem fits200 {n m i : Nat} (h : n ≤ 2 * i) (hi : i < m) (hm : m ≤ 100) : n + 1 ≤ sizeLine := by have : sizeLine = 16777216 := rfl; omega
theorem two_up {n i : Nat} (h : n ≤ 2 * i) (j : Nat) (hj : j ≤ 2) : n + j ≤ 2 * (i + 1) := by omega
theorem pos_sub {i : Nat} (h : 0 < i) : ((i : Int) - 1).toNat = i - 1 := by omega
theorem sub_nn {i : Nat} (h : 0 < i) : 0 ≤ (i : Int) - 1 := by omega
theorem in63 {i m : Nat} (hi : i < m) (hm : m ≤ 100) : (i : Int) < 2 ^ 63 := by omega
theorem in63s {i m : Nat} (hi : i < m) (hm : m ≤ 100) : (i : Int) - 1 < 2 ^ 63 := by omega
theorem in62 {m : Nat} (hm : m ≤ 100) : (m : Int) < 2 ^ 62 := by omega
theorem dl1 {n m : Nat} (h : n = m) (p : 0 < m) : n = m - 1 + 1 := by omega
theorem lt_sub1 {j n : Nat} (h : j < n) (e : ¬ j = n - 1) : j < n - 1 := by omega
theorem PairsI.push {n : Nat} {items : Array Value} {l : List (Int × Int)} {t : Addr} {a b : Int} {u1 u2 : Tok} (x : PairsI n h items l) (ht : @LE.le Nat _ n t) (it : h.IsTuple t #[.int a u1, .int b u2]) : PairsI n h (items.push (.ref t)) (l ++ [(a, b)]) := by
  refine ⟨by simp [x.1], fun j v hv => ?_⟩
  by_cases hj : j < items.size
  · rw [Array.getElem?_push_lt hj, ← Array.getElem?_eq_getElem hj] at hv
    obtain ⟨t', a', b', u1', u2', e, ht', it', hl⟩ := x.2 j v hv
    exact ⟨t', a', b', u1', u2', e, ht', it', by rw [List.getElem?_append_left (by rw [← x.1]; exact hj)]; exact hl⟩
  · by_cases hj2 : j = items.size
    · subst hj2
      rw [Array.getElem?_push_size] at hv; cases hv
      exact ⟨t, a, b, u1, u2, rfl, ht, it, by rw [x.1]; simp⟩
    · rw [Array.getElem?_eq_none (by rw [Array.size_push]; exact past hj hj2)] at hv; cases hv
theorem PairsI.setLast {n : Nat} {items : Array Value} {l : List (Int × Int)} {t : Addr} {a b : Int} {u1 u2 : Tok} (x : PairsI n h items l) (hne : l ≠ []) (ht : @LE.le Nat _ n t) (it : h.IsTuple t #[.int a u1, .int b u2]) :
    PairsI n h (items.setIfInBounds (-1 + (items.size : Int)).toNat (.ref t)) (l.dropLast ++ [(a, b)]) := by
  have hlen : 0 < l.length := List.length_pos_iff.mpr hne
  have hs := x.1
  refine ⟨by rw [Array.size_setIfInBounds, List.length_append, List.length_dropLast]; exact dl1 hs hlen, fun j v hv => ?_⟩
  have hJ : (-1 + (items.size : Int)).toNat = l.length - 1 := lastI hs
  rw [hJ] at hv
  by_cases hj : j = l.length - 1
  · subst hj
    rw [Array.getElem?_setIfInBounds_self_of_lt (by rw [hs]; exact Nat.sub_lt hlen (by decide))] at hv; cases hv
    exact ⟨t, a, b, u1, u2, rfl, ht, it, by rw [List.getElem?_append_right (by simp)]; simp⟩
  · rw [Array.getElem?_setIfInBounds_ne (Ne.symm hj)] at hv
    obtain ⟨t', a', b', u1', u2', e, ht', it', hl⟩ := x.2 j v hv
    have hjl : j < l.length := by
      rw [← hs]; obtain ⟨hh, _⟩ := Array.getElem?_eq_some_iff.mp hv; exact hh
    exact ⟨t', a', b', u1', u2', e, ht', it', by rw [List.getElem?_append_left (by rw [List.length_dropLast]; exact lt_sub1 hjl hj), List.getElem?_dropLast, if_pos (lt_sub1 hjl hj)]; exact hl⟩
theorem finds_says {lf : Addr} {flags : List Bool} {first behind : Int} {st : Bool} {u1 u2 : Tok} {k : Nat} {Q : Value → Heap → Prop} (g : Gd w h) (r : Rm A (k + 2)) (il : h.IsList lf (flags.map Value.bool).toArray) (hz : flags.length ≤ 100)
    (q : ∀ D items n h', Ext h h' → @LE.le Nat _ h.objs.size D → h'.get? D = some (lo items n) → PairsI h.objs.size h' items (findsTo first behind st flags flags.length) → Q (.ref D) h') : W w G A (call (.ref 157) [.ref lf, .int first u1, .int behind u2, .bool st]) h Q := by
  refine W.into [] (k := k + 1) r g.nolimit (g.X _ _ (by k_is)) rfl (codeRec_of g.X (by k_is)) (fun _ => BindsTo.of_eq rfl) rfl fun L h₁ F₁ e₁ => ?_
  refine W.execs_cons (W.assign (W.listO (W.args_nil ⟨by decide, fun D h₂ hD e₂ oD => ?_⟩)))
  have DL : D ≠ L := by rw [hD]; exact addr_ne (.inr F₁.ns.lt)
  have DhL : @LT.lt Nat _ L D := by rw [hD]; exact F₁.ns.lt
  refine W.st (F₁.more e₂) fun h₃ F₃ s₃ => ?_
  show W _ _ _ (execs _ _) _ _
  have oD₃ : h₃.get? D = some (lo #[] 0) := (s₃.2 D DL).trans oD
  have il₃ : h₃.IsList lf (flags.map Value.bool).toArray := il.at fun o e => F₃.ext0 _ _ e
  have Fx : Fk [] [L, D] h L _ h₃ h₃ := ⟨F₃.ns, F₃.ext, KX.refl _ _, .head _, F₃.lt⟩
  have g₃ := F₃.gd0 g
  have hsz : ((flags.map Value.bool).toArray).size = flags.length := by simp
  have hD3 : @LT.lt Nat _ D h₃.objs.size := lt_of_get oD₃
  have flag : ∀ j, j < flags.length → ((flags.map Value.bool).toArray)[j]? = some (.bool (flags.getD j false)) := fun j hj => by
    simp [List.getD_eq_getElem?_getD, List.getElem?_eq_getElem hj]
  refine W.execs_cons (W.forRange2 (N := (((flags.map Value.bool).toArray.size : Nat) : Int)) Fx g₃ (by exact r.hd) (Int.natCast_nonneg _) (by rw [hsz]; exact in62 hz) (EV.lenL g₃ (EV.lc F₃ rfl rfl) il₃ (by rw [hsz]; exact Nat.le_trans hz (by decide)) (by k_is))
    (fun x hx => by rcases mem2 hx with e | e <;> rw [e]; exact F₃.ns.lt; exact hD3)
    (fun I i m' hc => m' "flags" = some (.ref lf) ∧ m' "first" = some (.int first u1) ∧ m' "behind" = some (.int behind u2) ∧ m' "starred" = some (.bool st) ∧ m' "spans" = some (.ref D) ∧ i ≤ flags.length ∧
      ∃ items n, hc.get? D = some (lo items n) ∧ items.size ≤ 2 * i ∧ PairsI (I + 1) hc items (findsTo first behind st flags i))
    (fun I h' e hI => ⟨rfl, rfl, rfl, rfl, rfl, Nat.zero_le _, #[], 0, e _ _ oD₃, by simp, by simp [PairsI, findsTo]⟩) ?_ ?_ ?_)
  · rintro I i m' hc hc' hI ⟨m1, m2, m3, m4, m5, hi, items, n, o, hs, pi⟩ kx
    refine ⟨m1, m2, m3, m4, m5, hi, items, n, kx _ _ (fun hx => ?_) o, hs, pi.kx kx fun x hx => ?_⟩
    · rcases mem2 hx with e | e
      · exact DL e
      · rw [← e] at hI; exact Nat.lt_irrefl _ (Nat.lt_of_lt_of_le hD3 hI)
    · rcases mem2 hx with e | e
      · rw [e]; exact Nat.lt_succ_of_lt (Nat.lt_of_lt_of_le F₃.ns.lt hI)
      · rw [e]; exact Nat.lt_succ_self _
  · rintro I i ti m' hc hI ltI hi ⟨m1, m2, m3, m4, m5, hir, items, n, oc, hs, pi⟩ Fc kxc
    refine W.hide fun QQ hQQ => ?_
    have hi' : i < flags.length := by rw [hsz] at hi; exact Int.ofNat_lt.mp hi
    have ilc : hc.IsList lf (flags.map Value.bool).toArray := il.at fun o e => Fc.ext0 _ _ e
    have hzz : items.size ≤ sizeLine := Nat.le_of_succ_le (fits200 hs hi' hz)
    have DI : @LT.lt Nat _ D I := Nat.lt_of_lt_of_le hD3 hI
    have xD : ∀ x ∈ ([D] : List Addr), @LT.lt Nat _ x (I + 1) := fun x hx => by rw [List.mem_singleton.mp hx]; exact Nat.lt_succ_of_lt DI
    have hDle : @LE.le Nat _ h.objs.size D := Nat.le_of_lt (Nat.lt_of_le_of_lt F₁.lt DhL)
    have fl1 : ((flags.map Value.bool).toArray)[((i : Int)).toNat]? = some (.bool (flags.getD i false)) := flag i hi'
    have fl2 : 0 < i → ((flags.map Value.bool).toArray)[((i : Int) - 1).toNat]? = some (.bool (flags.getD (i - 1) false)) := fun h0 => by
      rw [pos_sub h0]; exact flag (i - 1) (Nat.lt_of_le_of_lt (Nat.sub_le _ _) hi')
    have stp := findsTo_succ first behind st flags i
    refine W.execs_cons (W.ifb (TB.and3 (c := flags.getD (i - 1) false) (TB.ofB (EV.itemL (EV.lc Fc m1 rfl) ilc (EV.lc Fc rfl ⟨_, rfl⟩) (Int.natCast_nonneg _) (in63 hi' hz) fl1)) (fun _ => TB.cmp (EV.lc Fc rfl ⟨_, rfl⟩) EV.int gt_ii)
      (fun _ hb => by have h0 : 0 < i := by simpa using hb
                      exact TB.ofB (EV.itemL (EV.lc Fc m1 rfl) ilc (EV.sub (EV.lc Fc rfl ⟨_, rfl⟩) EV.int) (sub_nn h0) (in63s hi' hz) (fl2 h0)))) (fun c => ?_) fun c => ?_)
    · have c' : (flags.getD i false && decide (0 < i) && flags.getD (i - 1) false) = true := by simpa using c
      have h0 : 0 < i := by simp at c'; exact c'.1.2
      have hp : flags.getD (i - 1) false = true := by simp at c' ⊢; exact c'.2
      have hne : findsTo first behind st flags i ≠ [] := by
        have := finds_ne (first := first) (behind := behind) (st := st) hp
        rwa [Nat.sub_add_cancel h0] at this
      unfold findsStep at stp
      rw [if_pos c'] at stp
      generalize findsTo first behind st flags i = l at *
      have hsl := pi.1
      have hl0 : 0 < l.length := List.length_pos_iff.mpr hne
      have hlt : items.size - 1 < items.size := Nat.sub_lt (by rw [hsl]; exact hl0) (by decide)
      obtain ⟨tl, a0, b0, ua, ub, ev, htl, itl, hlast⟩ := pi.2 (items.size - 1) _ (Array.getElem?_eq_getElem hlt)
      have glast : l.getLast? = some (a0, b0) := by rw [List.getLast?_eq_getElem?, ← hsl]; exact hlast
      have hx : items[(-1 + (items.size : Int)).toNat]? = some (.ref tl) := by
        rw [lastI rfl, Array.getElem?_eq_getElem hlt, ev]
      rw [glast] at stp
      have stp' : findsTo first behind st flags (i + 1) = l.dropLast ++ [(a0, 11 * (i : Int) + behind)] := stp
      refine W.execs_cons (W.setNeg (W.tupleD (W.args2VI (x := .int a0 ua) (n := 11 * (i : Int) + behind) (by exact EV.itemT (EV.itemLneg (EV.lc Fc m5 rfl) (isList_lo oc) (EV.neg EV.int) (by decide) (negleI hsl hl0) (by decide) hx) itl EV.int (by decide) (by decide) rfl rfl)
        (by exact EV.add (EV.mul EV.int (EV.lc Fc rfl ⟨_, rfl⟩) (IntMulOk.of_left (by decide))) (EV.lc Fc m3 ⟨_, rfl⟩)) fun ub' => ⟨by show (2 : Nat) ≤ _; decide, fun T h₄ hT e₄ it4 => ?_⟩)))
      have F4 := Fc.more e₄
      refine ⟨D, items, n, -1, EV.lc F4 m5 rfl, EV.neg EV.int, e₄ _ _ oc, by decide, negleI hsl hl0, by decide, fun h₅ n' o₅ s₅ => ?_⟩
      show W _ _ _ (execs _ _) _ _
      refine W.execs_nil ?_
      show W _ _ _ (execs _ _) _ _
      refine W.execs_nil (hQQ .next _ ⟨_, F4.upd s₅ (.tail _ (.head _)) DL hDle, m1, m2, m3, m4, m5, hi', _, n', o₅, by rw [Array.size_setIfInBounds]; exact two_up hs 0 (by decide), ?_⟩)
      rw [stp']
      exact ((pi.keeps e₄).setLast hne (by rw [hT]; exact ltI) it4).kx (KX.same s₅ (.head _)) xD
    · have c' : ¬ (flags.getD i false && decide (0 < i) && flags.getD (i - 1) false) = true := by simpa using c
      unfold findsStep at stp
      rw [if_neg c'] at stp
      refine W.execs_cons (W.ifb (TB.ofB (EV.itemL (EV.lc Fc m1 rfl) ilc (EV.lc Fc rfl ⟨_, rfl⟩) (Int.natCast_nonneg _) (in63 hi' hz) fl1)) (fun c2 => ?_) fun c2 => ?_)
      · rw [if_pos c2] at stp
        refine W.execs_cons (W.appendW (EV.lc Fc m5 rfl) oc ⟨_, _, rfl⟩ (W.tupleD (W.args2I (m := 11 * (i : Int) + first) (n := 11 * (i : Int) + behind) (by exact EV.add (EV.mul EV.int (EV.lc Fc rfl ⟨_, rfl⟩) (IntMulOk.of_left (by decide))) (EV.lc Fc m2 ⟨_, rfl⟩))
          (by exact EV.add (EV.mul EV.int (EV.lc Fc rfl ⟨_, rfl⟩) (IntMulOk.of_left (by decide))) (EV.lc Fc m3 ⟨_, rfl⟩)) fun ua ub => ⟨by show (2 : Nat) ≤ _; decide, fun T h₄ hT e₄ it4 => ?_⟩)))
        refine ⟨items, n, e₄ _ _ oc, hzz, fun h₅ s₅ o₅ => ?_⟩
        show W _ _ _ (execs _ _) _ _
        refine W.execs_nil ?_
        show W _ _ _ (execs _ _) _ _
        refine W.execs_nil ?_
        show W _ _ _ (execs _ _) _ _
        refine W.execs_nil (hQQ .next _ ⟨_, (Fc.more e₄).upd s₅ (.tail _ (.head _)) DL hDle, m1, m2, m3, m4, m5, hi', _, _, o₅, by rw [Array.size_push]; exact two_up hs 1 (by decide), ?_⟩)
        rw [stp]
        exact ((pi.keeps e₄).push (by rw [hT]; exact ltI) it4).kx (KX.same s₅ (.head _)) xD
      · rw [if_neg (by rw [c2]; decide)] at stp
        refine W.execs_cons (W.ifb (TB.ofB (EV.lc Fc m4 rfl)) (fun c3 => ?_) fun c3 => ?_)
        · rw [if_pos c3] at stp
          refine W.execs_cons (W.appendW (EV.lc Fc m5 rfl) oc ⟨_, _, rfl⟩ (W.tupleD (W.args2I (m := 11 * (i : Int) + first) (n := 11 * (i : Int) + first) (by exact EV.add (EV.mul EV.int (EV.lc Fc rfl ⟨_, rfl⟩) (IntMulOk.of_left (by decide))) (EV.lc Fc m2 ⟨_, rfl⟩))
            (by exact EV.add (EV.mul EV.int (EV.lc Fc rfl ⟨_, rfl⟩) (IntMulOk.of_left (by decide))) (EV.lc Fc m2 ⟨_, rfl⟩)) fun ua ub => ⟨by show (2 : Nat) ≤ _; decide, fun T h₄ hT e₄ it4 => ?_⟩)))
          refine ⟨items, n, e₄ _ _ oc, hzz, fun h₅ s₅ o₅ => ?_⟩
          show W _ _ _ (execs _ _) _ _
          have F5 := (Fc.more e₄).upd s₅ (.tail _ (.head _)) DL hDle
          have pi5 := ((pi.keeps e₄).push (by rw [hT]; exact ltI) it4).kx (KX.same s₅ (.head _)) xD
          have lt5 : @LT.lt Nat _ I h₅.objs.size := by
            have eT : h₅.get? T = _ := (s₅.2 T (by rw [hT]; exact addr_ne (.inr (Nat.lt_trans DI ltI)))).trans (Classical.choose_spec it4).1
            exact Nat.lt_trans ltI (by have := lt_of_get eT; rw [hT] at this; exact this)
          refine W.execs_cons (W.appendW (EV.lc F5 m5 rfl) o₅ ⟨_, _, rfl⟩ (W.tupleD (W.args2I (m := 11 * (i : Int) + first + 1) (n := 11 * (i : Int) + first + 1) (by exact EV.add (EV.add (EV.mul EV.int (EV.lc F5 rfl ⟨_, rfl⟩) (IntMulOk.of_left (by decide))) (EV.lc F5 m2 ⟨_, rfl⟩)) EV.int)
            (by exact EV.add (EV.add (EV.mul EV.int (EV.lc F5 rfl ⟨_, rfl⟩) (IntMulOk.of_left (by decide))) (EV.lc F5 m2 ⟨_, rfl⟩)) EV.int) fun ua' ub' => ⟨by show (2 : Nat) ≤ _; decide, fun T' h₆ hT' e₆ it6 => ?_⟩)))
          refine ⟨_, _, e₆ _ _ o₅, by rw [Array.size_push]; exact fits200 hs hi' hz, fun h₇ s₇ o₇ => ?_⟩
          show W _ _ _ (execs _ _) _ _
          refine W.execs_nil ?_
          show W _ _ _ (execs _ _) _ _
          refine W.execs_nil ?_
          show W _ _ _ (execs _ _) _ _
          refine W.execs_nil ?_
          show W _ _ _ (execs _ _) _ _
          refine W.execs_nil (hQQ .next _ ⟨_, (F5.more e₆).upd s₇ (.tail _ (.head _)) DL hDle, m1, m2, m3, m4, m5, hi', _, _, o₇, by rw [Array.size_push, Array.size_push]; exact two_up hs 2 (by decide), ?_⟩)
          rw [stp]
          have := ((pi5.keeps e₆).push (by rw [hT']; exact lt5) it6).kx (KX.same s₇ (.head _)) xD
          rw [List.append_assoc] at this
          exact this
        · rw [if_neg (by rw [c3]; decide)] at stp
          refine W.execs_nil ?_
          show W _ _ _ (execs _ _) _ _
          refine W.execs_nil ?_
          show W _ _ _ (execs _ _) _ _
          refine W.execs_nil ?_
          show W _ _ _ (execs _ _) _ _
          exact W.execs_nil (hQQ .next _ ⟨_, Fc, m1, m2, m3, m4, m5, hi', _, _, oc, two_up hs 0 (by decide), stp ▸ pi⟩)
  · rintro I m' hc hI F' ⟨m1, m2, m3, m4, m5, hir, items, n, oc, hs, pi⟩
    show W _ _ _ (execs _ _) _ _
    refine W.execs_cons (W.ret ((EV.lc F' m5 rfl : EV w _ _ hc _ (IsV (.ref D))).useV ?_))
    refine q D items n hc F'.ext0 (by rw [hD]; exact Nat.le_trans F₁.lt (Nat.le_of_lt F₁.ns.lt)) oc ?_
    have : (((flags.map Value.bool).toArray.size : Nat) : Int).toNat = flags.length := by simp
    rw [this] at pi
    exact pi.le (Nat.le_trans (Nat.le_trans F₁.lt (Nat.le_trans (Nat.le_of_lt F₃.ns.lt) hI)) (Nat.le_succ _))
end
end Mine
namespace Mine
theorem ints_at : ∀ {vs : List Value} {ns : List Int}, IntsAre vs ns → vs.length = ns.length ∧ ∀ (j : Nat) v, vs[j]? = some v → ∃ c, ns[j]? = some c ∧ IsI c v
  | _, _, .nil => ⟨rfl, fun j v h => by simp at h⟩
  | _, _, .cons n t r => by
    obtain ⟨a, b⟩ := ints_at r
    refine ⟨by simp [a], fun j v h => ?_⟩
    cases j with
    | zero => simp at h; exact ⟨n, rfl, t, h.symm⟩
    | succ j => exact b j v (by simpa using h)
theorem ints_arr {vs : List Value} {ns : List Int} (x : IntsAre vs ns) : vs.toArray.size = ns.length ∧ ∀ (j : Nat) v, vs.toArray[j]? = some v → ∃ c, ns[j]? = some c ∧ IsI c v :=
  ⟨by simpa using (ints_at x).1, fun j v h => (ints_at x).2 j v (by simpa using h)⟩
theorem ints_snoc {vs : List Value} {ns : List Int} {v : Value} {c : Int} (x : IntsAre vs ns) (h : IsI c v) : IntsAre (vs ++ [v]) (ns ++ [c]) := by
  obtain ⟨t, rfl⟩ := h; exact x.append (.cons c t .nil)
theorem ints_take : ∀ {vs : List Value} {ns : List Int} (k : Nat), IntsAre vs ns → IntsAre (vs.take k) (ns.take k)
  | _, _, 0, _ => by simp; exact .nil
  | _, _, k + 1, .nil => by simp; exact .nil
  | _, _, k + 1, .cons n t r => by simp; exact .cons n t (ints_take k r)
section
variable {w : World} {G : Shared} {A : Around} {h : Heap} {env : Env}
/-- a or b -/
theorem W.orL {a b : Expr} {pos : Pos} {Q : Value → Heap → Prop} (H : W w G A (eval a env) h fun v h₁ => ∃ l items, v = .ref l ∧ h₁.IsList l items ∧ items.size ≤ sizeLine ∧ (items.size = 0 → W w G A (eval b env) h₁ Q) ∧ (items.size ≠ 0 → Q (.ref l) h₁)) :
    W w G A (eval (.BoolOp .Or [a, b] pos) env) h Q := fun _ =>
  BoolOp_or (W.nest (H.mono fun v h₁ ⟨l, items, e, il, hz, k1, k2⟩ => fun tk => by
    subst e
    refine wpAny_truthy_list (s := St G h₁ tk) il (by have : sizeLine = 16777216 := rfl; omega) ?_
    by_cases hs : items.size = 0
    · rw [show (!items.isEmpty) = false by simp [Array.isEmpty, hs]]
      exact BoolOp_one (k1 hs _)
    · rw [show (!items.isEmpty) = true by simp [Array.isEmpty, hs]]
      exact ⟨h₁, _, rfl, k2 hs⟩))
/-- l[:k] -/
theorem W.sliceTo {v e : Expr} {p pos : Pos} {Q : Value → Heap → Prop} (H : W w G A (eval v env) h fun o h₁ => ∃ l vs k, o = .ref l ∧ h₁.IsList l (List.toArray vs) ∧ vs.length ≤ sizeLine ∧ EV w A env h₁ e (IsI ((k : Nat) : Int)) ∧
      ∀ D h₂, @LE.le Nat _ h₁.objs.size D → Ext h₁ h₂ → h₂.get? D = some (lo (vs.take k).toArray 0) → Q (.ref D) h₂)
    (ht : ∀ o r, letTemporaryGo v o r = Pure.pure () := by intro _ _; rfl) : W w G A (eval (.Subscript v (.Slice none (some e) none p) pos) env) h Q := fun _ =>
  wpAny_Subscript_list_slice (W.nest (H.mono fun o h₁ ⟨l, vs, k, eo, il, hz, he, q⟩ => fun tk => wpAny_evalPart_none (wpAny_evalPart_some (W.nest (he.use fun u ⟨t, eu⟩ => fun tk₂ => by
    subst eo eu
    refine ⟨l, _, _, _, rfl, il, by simpa using hz, .none, .int _ _, _, _, rfl, q _ _ ?_ (Ext.trans (Ext.push _) (Ext.push _)) ?_⟩
    · exact Nat.le_succ _
    · rw [slicePick_upto']
      have := Heap.get?_push_size (h₁.push { cls := .type "slice", data := .fields #[.none, .int (k : Int) t, .none] }) (o := { cls := .type "list", data := .seq (vs.toArray.toList.take k).toArray }) rfl
      rw [Heap.size_push] at this
      exact this))))) ht
/-- list + list -/
theorem W.addLL {l b : Addr} {vs ws : List Value} {n k : Nat} {Q : Value → Heap → Prop} (hl : h.get? l = some (lo vs.toArray n)) (hb : h.get? b = some (lo ws.toArray k)) (hz : vs.length + ws.length ≤ sizeLine)
    (q : ∀ D h', @LE.le Nat _ h.objs.size D → Ext h h' → h'.get? D = some (lo (vs ++ ws).toArray 0) → Q (.ref D) h') : W w G A (binaryOp .Add (.ref l) (.ref b)) h Q := fun tk =>
  PySem.P.add_list (s := St G h tk) hl hb ⟨_, tk, rfl, q _ _ (Nat.le_refl _) (Ext.push _) (by
    have := Heap.get?_push_size h (o := { cls := .type "list", data := .seq (vs.toArray ++ ws.toArray) }) rfl
    rw [this]; simp)⟩ (by simpa using hz)
/-- enumerate(e) over a list -/
theorem W.enumL {cn : Str} {cs : Scope} {L a : Addr} {ccd : Value} {cl : List (Str × Addr)} {e : Expr} {rp rpos : Pos} {t : Addr} {items : Array Value} {K : Value → Heap → Prop} (g : Gd w h) (hh : A.handled = none)
    (he : EV w A (envX cn cs L a ccd cl) h e (IsV (.ref t))) (ht : h.IsList t items)
    (k : ∀ (I it : Addr) h₂, I = h.objs.size + 1 → it = h.objs.size → h₂.objs.size = h.objs.size + 2 → Ext h h₂ → ∀ Md S, (∀ elts kk tpos, KTurns PR w A (.Tuple elts kk tpos) I [I, it, t] [I, it] items.size (fun i v hc => ∃ T vals, v = .ref T ∧ (∃ t x, items[i]? = some x ∧ vals = #[.int (i : Int) t, x]) ∧ hc.IsTuple T vals) Md S) → S 0 h₂ →
      (∀ {tk}, ∀ {Q : Value → Shared → Prop} {E : Value → Shared → Prop} {hc : Heap}, S 0 hc → Q (.ref I) (St G hc tk) → wpAny (model PR w) A (pyIter (.ref I)) Q E (St G hc tk)) → K (.ref I) h₂)
    (hk : cs.kind = .function := by rfl) (hx : (envX cn cs L a ccd cl).kindOf "enumerate" = some .globalImplicit := by rfl)
    (hse : backTo rpos (starEach [e] (envX cn cs L a ccd cl)) = [(false, eval e (envX cn cs L a ccd cl))] := by rfl) (hn : nsIn (Mine.hd.heap_39 w.params) mainGlobals "enumerate" = some Option.none) :
    W w G A (eval (.Call (.Name "enumerate" rp) [e] [] rpos) (envX cn cs L a ccd cl)) h fun xv h₁ => W w G A (pyIter xv) h₁ K := fun _ => by
  refine wpAny_Call_NameR (W.nest ((EV.bi g hn rfl (by decide) hk hx).use fun f q => fun _ => ?_))
  cases q
  rw [hse]
  refine PyProof.Rows.callWith_type rfl (Calls.evalArgs_plain (Calls.spliced_cons (W.nest (he.use fun v ev => fun tk => ?_))))
  cases ev
  refine Calls.spliced_nil (call_enumerate_list (s := St G h tk) ht fun h' ie ii sz ex => ⟨h', tk, rfl, fun tk' => wpAny_pyIter_enum ie ⟨h', tk', rfl, ?_⟩⟩)
  have hlt : @LT.lt Nat _ t h.objs.size := by obtain ⟨o, ho, _⟩ := ht; exact lt_of_get ho
  have tn : t ≠ h.objs.size := Nat.ne_of_lt hlt
  have tn1 : t ≠ h.objs.size + 1 := Nat.ne_of_lt (Nat.lt_succ_of_lt hlt)
  have D := WalksT.enumerate (prog := PR) (w := w) (A := A) hh (h.objs.size + 1) h.objs.size t (Nat.succ_ne_self _) tn1 tn items
  exact k (h.objs.size + 1) h.objs.size h' rfl rfl sz ex _ _ (fun _ _ _ => KTurns.ofWalksU D.toU) ⟨⟨_, ie⟩, ii, ht.at fun o q => ex _ _ q⟩ (fun st q => by obtain ⟨⟨_, e⟩, _⟩ := st; exact wpAny_pyIter_enum e q)
/-- the sum of a list of ints -/
theorem W.sumL {D : Addr} {vs : List Value} {ns : List Int} {kk : Nat} {Q : Value → Heap → Prop} (hh : A.handled = none) (hD : h.get? D = some (lo vs.toArray kk)) (hi : IntsAre vs ns) (hfit : ∀ j, j < ns.length → InLong (ns.getD j 0) ∧ InLong (preSum (fun j => ns.getD j 0) (j + 1)))
    (q : ∀ v h', Ext h h' → IsI (preSum (fun j => ns.getD j 0) ns.length) v → Q v h') : W w G A (call (.builtin "sum") [.ref D]) h Q := fun tk => by
  have lD : @LT.lt Nat _ D h.objs.size := lt_of_get hD
  obtain ⟨sz, at'⟩ := ints_arr hi
  refine call_sum_walk (wpAny_pyIter_list (s := St G h tk) (isList_lo hD) ?_)
  refine ⟨h.objs.size, _, _, _, _, _, fun j => ns.getD j 0, rfl, Walks.list (A := A.in1) hh _ D (Nat.ne_of_lt lD) vs.toArray, ⟨⟨_, Heap.get?_push_size _ rfl, rfl, rfl⟩, (isList_lo hD).push _⟩, ?_, ?_, ?_, ?_⟩
  · intro b hb
    show @LT.lt Nat _ b (h.push _).objs.size
    rw [Heap.size_push]
    rcases mem2 hb with e | e
    · rw [e]; exact Nat.lt_succ_self _
    · rw [e]; exact Nat.lt_succ_of_lt lD
  · intro i v hv
    obtain ⟨c, hc, t, e⟩ := at' i v hv
    exact ⟨t, by rw [e]; show _ = Value.int (ns.getD i 0) t; rw [List.getD_eq_getElem?_getD, hc]; rfl⟩
  · intro j hj; exact hfit j (by omega)
  · intro h' tk' t' hk
    refine ⟨h', tk', rfl, q _ h' (fun b o e => hk b o (not_mem1 (Nat.ne_of_lt (lt_of_get e))) (Heap.get?_push_of_some _ e)) ⟨t', ?_⟩⟩
    rw [sz]
theorem isNone {a b : Value} (hp : plainIs a b = true) (G : Shared) : W w G A (compareOp .Is a b) h fun v h' => h' = h ∧ IsB (a == b) v := fun tk => wpAny_is_plain hp ⟨h, tk, rfl, rfl, rfl⟩
theorem isNotNone {a b : Value} (hp : plainIs a b = true) (G : Shared) : W w G A (compareOp .IsNot a b) h fun v h' => h' = h ∧ IsB (!(a == b)) v := fun tk => wpAny_isNot_plain hp ⟨h, tk, rfl, rfl, rfl⟩
theorem W.isOr {x y : Expr} {pos : Pos} {whole : Sem Value} {Q : Bool → Heap → Prop} (H : W w G A (isTrue x env (eval x env)) h fun a h₁ => if a = true then Q true h₁ else W w G A (isTrue y env (eval y env)) h₁ Q) : W w G A (isTrue (.BoolOp .Or [x, y] pos) env whole) h Q := fun _ =>
  wpAny_isTrue_BoolOp (wpAny_allTrue_Or_cons (W.nest (H.mono fun a h₁ k => fun tk => by
    cases a with
    | true => exact ⟨h₁, tk, rfl, k⟩
    | false => exact wpAny_allTrue_Or_cons (W.nest (W.mono (by simpa using k) fun b h₂ q => fun tk₂ => by
        cases b with
        | true => exact ⟨h₂, tk₂, rfl, q⟩
        | false => exact wpAny_allTrue_Or_nil ⟨h₂, tk₂, rfl, q⟩)))))
theorem Fk.kx2 {T X : List Addr} {h₀ hb hc h' : Heap} {L P : Addr} {m : Str → Option Value} (F : Fk T X h₀ L m hb hc) (k : KX [P] hc h') (hT : P ∈ T) (hX : P ∈ X) (hne : L ≠ P) : Fk T X h₀ L m hb h' :=
  ⟨k.ns F.ns (not_mem1 hne), F.ext.trans (k.mono fun b hb => by rw [List.mem_singleton.mp hb]; exact hT), F.kp.trans (k.mono fun b hb => by rw [List.mem_singleton.mp hb]; exact hX), F.mem, F.lt⟩
theorem TabAt.kxI {hc hc' : Heap} {I P : Addr} {K : List (Pos × Str)} {x l s : Int} (T : TabAt hc P K) (k : KX [I] hc hc') (r : IsRangeIter hc I x l s) (hP : P ≠ I) : TabAt hc' P K := by
  obtain ⟨ps, e, t, a⟩ := T
  refine ⟨ps, k _ _ (not_mem1 hP) e, t, fun q hq => ?_⟩
  rcases a q hq with b | ⟨c, b, ⟨c₀, o, vs, t, e1, ho, hd, hv⟩, hcc⟩
  · exact .inl b
  · cases e1
    refine .inr ⟨c, b, ⟨c, o, vs, t, rfl, k c o (not_mem1 fun ec => ?_) ho, hd, hv⟩, hcc⟩
    subst ec
    rw [show hc.get? c = _ from r] at ho
    cases ho; cases hd; cases hv
/-- a for over range(a, b), the target's own store told -/
theorem W.forR2 {cn : Str} {cs : Scope} {L a : Addr} {ccd : Value} {cl : List (Str × Addr)} {e1 e2 : Expr} {target : Expr} {rp rpos pos : Pos} {body : List Stmt} {lo' hi' : Int} {Q : Flow → Heap → Prop} (g : Gd w h) (hh : A.handled = none) (h1 : -(2 ^ 62) ≤ lo') (h2 : lo' ≤ hi') (h3 : hi' < 2 ^ 62)
    (he1 : EV w A (envX cn cs L a ccd cl) h e1 (IsI lo')) (he2 : EV w A (envX cn cs L a ccd cl) h e2 (IsI hi'))
    (k : ∀ I h₂, Ext h h₂ → @LE.le Nat _ h.objs.size I → ∃ (X : List Addr) (J : Nat → Heap → Prop), I ∉ X ∧ J 0 h₂ ∧
      (∀ i hc hc', J i hc → (∃ x l s, IsRangeIter hc I x l s) → KX [I] hc hc' → J i hc') ∧
      (∀ (i : Nat) t hc, lo' + (i : Int) < hi' → J i hc → W w G A (PySem.assign target (envX cn cs L a ccd cl) (.int (lo' + (i : Int)) t)) hc fun _ h₃ => W w G A (execs body (envX cn cs L a ccd cl)) h₃ fun fl h₄ => match fl with
        | .next | .cont => KX X hc h₄ ∧ J (i + 1) h₄
        | .brk => Q .next h₄
        | .ret v => Q (.ret v) h₄) ∧
      (∀ hc, J (hi' - lo').toNat hc → Q .next hc))
    (hk : cs.kind = .function := by rfl) (hx : (envX cn cs L a ccd cl).kindOf "range" = some .globalImplicit := by rfl)
    (hse : backTo rpos (starEach [e1, e2] (envX cn cs L a ccd cl)) = [(false, eval e1 (envX cn cs L a ccd cl)), (false, eval e2 (envX cn cs L a ccd cl))] := by rfl) (hn : nsIn (Mine.hd.heap_39 w.params) mainGlobals "range" = some Option.none)
    (ht : ∀ it v, letOwnedTupleGo target it v = Pure.pure () := by intro _ _; rfl) :
    W w G A (exec (.For target (.Call (.Name "range" rp) [e1, e2] [] rpos) body [] pos) (envX cn cs L a ccd cl)) h Q := fun _ => by
  refine wpAny_For (wpAny_Call_NameR (W.nest ((EV.bi g hn rfl (by decide) hk hx).use fun f q => fun _ => ?_))) (by intro _; rfl)
  cases q
  rw [hse]
  refine PyProof.Rows.callWith_type rfl (Calls.evalArgs_plain (Calls.spliced_cons (W.nest (he1.use fun v ⟨t, ev⟩ => fun tk => Calls.spliced_cons (W.nest (he2.use fun v2 ⟨t2, ev2⟩ => fun tk2 => ?_))))))
  subst ev ev2
  refine Calls.spliced_nil (call_range_2 ?_)
  refine wpAny_pyIter_range (IsRange.new ..) (small_one (by omega) (by omega) (by omega) h3) ?_
  have hsz : Builtin.Range.rangeSize lo' hi' 1 = ((hi' - lo').toNat : Int) := by rw [rangeSize_one]; split <;> omega
  have ex : Ext h ((h.push { cls := .type "range", data := .fields #[.int lo' t, .int hi' t2, .int 1 tk2] }).push { cls := .type "range_iterator", data := .fields #[rawInt lo', rawInt (Builtin.Range.rangeSize lo' hi' 1), rawInt 1] }) := fun _ _ e => Heap.get?_push_of_some _ (Heap.get?_push_of_some _ e)
  have W₀ := Walks.range (prog := PR) (w := w) hh ((h.push { cls := .type "range", data := .fields #[.int lo' t, .int hi' t2, .int 1 tk2] }).objs.size) lo' 1 (hi' - lo').toNat
  have s0 : IsRangeIter ((h.push { cls := .type "range", data := .fields #[.int lo' t, .int hi' t2, .int 1 tk2] }).push { cls := .type "range_iterator", data := .fields #[rawInt lo', rawInt (Builtin.Range.rangeSize lo' hi' 1), rawInt 1] }) (h.push { cls := .type "range", data := .fields #[.int lo' t, .int hi' t2, .int 1 tk2] }).objs.size (lo' + ((0 : Nat) : Int) * 1) (((hi' - lo').toNat : Int) - ((0 : Nat) : Int)) 1 := by
    have e1 : (lo' + ((0 : Nat) : Int) * 1) = lo' := by simp
    have e2 : (((hi' - lo').toNat : Int) - ((0 : Nat) : Int)) = Builtin.Range.rangeSize lo' hi' 1 := by rw [hsz]; simp
    rw [e1, e2]
    exact Heap.get?_push_size _ rfl
  obtain ⟨X, J, hIX, j0, stab, turn, done⟩ := k (h.push { cls := .type "range", data := .fields #[.int lo' t, .int hi' t2, .int 1 tk2] }).objs.size _ ex (by rw [Heap.size_push]; exact Nat.le_succ _)
  generalize (h.push { cls := .type "range", data := .fields #[.int lo' t, .int hi' t2, .int 1 tk2] }).objs.size = I at *
  refine codeAny_forLoop (fun k s' => ∃ hc tk i, s' = St G hc tk ∧ IsRangeIter hc I (lo' + (i : Nat) * 1) (((hi' - lo').toNat : Int) - (i : Nat)) 1 ∧ J i hc ∧ i ≤ (hi' - lo').toNat ∧ k = (hi' - lo').toNat + 1 - i) ?_ ((hi' - lo').toNat + 1) ⟨_, _, 0, rfl, s0, j0, Nat.zero_le _, rfl⟩ (ht _)
  rintro k s' ⟨hc, tk, i, rfl, si, ji, hi, rfl⟩
  by_cases hlt : i < (hi' - lo').toNat
  · refine W₀.item i _ _ _ hlt si fun v h₁ tk₁ pv s₁ k₁ => ?_
    obtain ⟨tv, rfl⟩ := pv
    have j₁ := stab i hc h₁ ji ⟨_, _, _, si⟩ fun b o hb e => k₁ b o hb e
    have ev : lo' + (i : Int) * 1 = lo' + (i : Int) := by omega
    rw [ev]
    refine W.nest ((turn i tv h₁ (by omega) j₁).mono fun _ h₃ k₃ => fun _ => W.nest (k₃.mono fun fl h₄ k₄ => fun tk₄ => ?_))
    have fr : ∀ h₄, KX X h₁ h₄ → IsRangeIter h₄ I (lo' + ((i + 1 : Nat) : Int) * 1) (((hi' - lo').toNat : Int) - ((i + 1 : Nat) : Int)) 1 := fun h₄ kx => kx I _ hIX s₁
    cases fl with
    | ret v => exact ⟨h₄, tk₄, rfl, k₄⟩
    | brk => exact ⟨h₄, tk₄, rfl, k₄⟩
    | next => exact ⟨(hi' - lo').toNat + 1 - (i + 1), by omega, h₄, tk₄, i + 1, rfl, fr h₄ k₄.1, k₄.2, hlt, rfl⟩
    | cont => exact ⟨(hi' - lo').toNat + 1 - (i + 1), by omega, h₄, tk₄, i + 1, rfl, fr h₄ k₄.1, k₄.2, hlt, rfl⟩
  · have : i = (hi' - lo').toNat := by omega
    subst this
    refine W₀.done _ _ _ si fun h₁ tk₁ k₁ => ?_
    exact wpAny_execs_nil ⟨h₁, tk₁, rfl, done h₁ (stab _ hc h₁ ji ⟨_, _, _, si⟩ fun b o hb e => k₁ b o hb e)⟩
end
end Mine
namespace Mine
theorem EV.imp {w : World} {A : Around} {h : Heap} {env : Env} {e : Expr} {P P' : Value → Prop} (H : EV w A env h e P) (k : ∀ v, P v → P' v) : EV w A env h e P' := fun G => (H G).mono fun v _ ⟨e, p⟩ => ⟨e, k v p⟩
noncomputable abbrev pd (p : Int × Int) : PyData := .tuple [.int p.1, .int p.2]
theorem reads_pair {h : Heap} {t : Addr} {a b : Int} {u1 u2 : Tok} (it : h.IsTuple t #[.int a u1, .int b u2]) : Reads h (.ref t) (pd (a, b)) [] := by
  obtain ⟨o, ho, hc, n, hd⟩ := it
  exact .tuple ho hc hd (.cons (.int a u1) (.cons (.int b u2) .nil))
theorem reads_pairs {n : Nat} {h : Heap} : ∀ {ys : List Value} {l : List (Int × Int)}, PairsI n h ys.toArray l → ∃ as, ReadsAll h ys (l.map pd) as
  | [], [], _ => ⟨[], .nil⟩
  | [], _ :: _, x => by have := x.1; simp at this
  | _ :: _, [], x => by have := x.1; simp at this
  | v :: ys, p :: l, x => by
    obtain ⟨t, a, b, u1, u2, e, ht, it, hl⟩ := x.2 0 v (by simp)
    have hp : p = (a, b) := by simpa using hl
    subst hp e
    obtain ⟨as, ra⟩ := reads_pairs (ys := ys) (l := l) ⟨by have := x.1; simp at this ⊢; exact this, fun j v hv => by
      obtain ⟨t, a, b, u1, u2, e, ht, it, hl⟩ := x.2 (j + 1) v (by simpa using hv)
      exact ⟨t, a, b, u1, u2, e, ht, it, by simpa using hl⟩⟩
    exact ⟨_, .cons (reads_pair it) ra⟩
theorem reads_due {n : Nat} {h : Heap} {D : Addr} {ys : List Value} {k : Nat} {l : List (Int × Int)} (x : PairsI n h ys.toArray l) (o : h.get? D = some (lo ys.toArray k)) : ∃ as, Reads h (.ref D) (.list (l.map pd)) as := by
  obtain ⟨as, ra⟩ := reads_pairs x
  exact ⟨_, .list o rfl rfl ra⟩
theorem lay_pairs : ∀ l : List (Int × Int), PyData.canLayAll0 (l.map pd) = true ∧ PyData.depthAll (l.map pd) ≤ 1
  | [] => ⟨rfl, by decide⟩
  | p :: l => by
    obtain ⟨a, b⟩ := lay_pairs l
    refine ⟨by simp [PyData.canLayAll0, PyData.canLay0, a], ?_⟩
    simp [PyData.depthAll, PyData.depth]
    exact Nat.max_le.mpr ⟨by decide, b⟩
theorem shaped_pairs (l : List (Int × Int)) : SeqAt.shaped (.list (l.map pd)) = true := by
  obtain ⟨a, b⟩ := lay_pairs l
  unfold SeqAt.shaped
  simp only [PyData.canLay0, PyData.depth, a, Bool.true_and]
  exact decide_eq_true (by omega)
theorem shaped_pair (p : Int × Int) : SeqAt.shaped (pd p) = true := by
  unfold SeqAt.shaped; simp [PyData.canLay0, PyData.canLayAll0, PyData.depth, PyData.depthAll]
theorem eqv_nil (l : List (Int × Int)) : PyData.eqv (.list (l.map pd)) (.list []) = l.isEmpty := by
  cases l <;> simp [PyData.eqv, PyData.eqvAll]
theorem eqv_pair (p : Int × Int) : PyData.eqv (pd p) (pd p) = true := by simp [PyData.eqv, PyData.eqvAll]
theorem PairsI.snocF {n : Nat} {h : Heap} {ys : List Value} {l : List (Int × Int)} {t : Addr} {a b : Int} {u1 u2 : Tok} (x : PairsI n h ys.toArray l) (ht : @LE.le Nat _ n t) (it : h.IsTuple t #[.int a u1, .int b u2]) : PairsI n h (ys ++ [Value.ref t]).toArray (l ++ [(a, b)]) := by
  have := x.push ht it
  simpa using this
end Mine
namespace Mine
theorem runEnd_congr {B B' : Nat → Bool} {N : Nat} (h : ∀ k, k < N → B k = B' k) : ∀ n l, l + n < N → runEnd B n l = runEnd B' n l
  | 0, _, _ => rfl
  | n + 1, l, hl => by
    unfold runEnd
    rw [h (l + 1) (by omega), runEnd_congr h n (l + 1) (by omega)]
theorem search_congr {B B' : Nat → Bool} {N : Nat} {first behind : Int} {st : Bool} {start : Int} (h : ∀ k, k < N → B k = B' k) : ∀ n k, k + n = N → searchFrom B first behind st start n k = searchFrom B' first behind st start n k
  | 0, _, _ => rfl
  | n + 1, k, hk => by
    unfold searchFrom
    rw [h k (by omega), runEnd_congr h n k (by omega), search_congr h n (k + 1) (by omega)]
noncomputable def chainB (S : Int → Option (Int × Int)) : Int → List (Int × Int) → Bool
  | a, [] => S a == none
  | a, p :: l => S a == some p && chainB S (nextOf p) l
theorem chain_of {S : Int → Option (Int × Int)} : ∀ {l : List (Int × Int)} {a : Int}, chainB S a l = true → Chain S a l
  | [], a, h => by have : S a = none := by simpa [chainB] using h
                   exact this
  | p :: l, a, h => by
    unfold chainB at h
    rw [Bool.and_eq_true] at h
    exact ⟨by simpa using h.1, chain_of h.2⟩
theorem chain_congr {S S' : Int → Option (Int × Int)} (h : ∀ a, S a = S' a) : ∀ {l : List (Int × Int)} {a : Int}, Chain S a l → Chain S' a l
  | [], a, x => (h a).symm.trans x
  | p :: l, a, x => ⟨(h a).symm.trans x.1, chain_congr h x.2⟩
noncomputable def monoB : List (Int × Int) → Bool
  | [] => true
  | p :: l => l.all (fun q => decide (p.1 ≤ q.1) && decide (p.2 ≤ q.2)) && monoB l
noncomputable def okB (first behind : Int) (st : Bool) (flags : List Bool) : Bool :=
  chainB (fun s => searchFrom (fun k => flags.getD k false) first behind st s flags.length 0) 0 (findsTo first behind st flags flags.length) && monoB (findsTo first behind st flags flags.length) && decide ((findsTo first behind st flags flags.length).length ≤ 100)
noncomputable def allF : List (List Bool) := [[false, false], [false, true], [true, false], [true, true], [false, false, false], [false, false, true], [false, true, false], [false, true, true], [true, false, false], [true, false, true], [true, true, false], [true, true, true]]
noncomputable def allOk : Bool := (List.range 9).all fun f => (List.range 12).all fun b => if f < b then allF.all fun flags => okB (f : Int) (b : Int) true flags && okB (f : Int) (b : Int) false flags else true
theorem allOk_true : allOk = true := by decide +kernel
theorem mem_allF {flags : List Bool} (h1 : 2 ≤ flags.length) (h2 : flags.length ≤ 3) : flags ∈ allF := by
  match flags, h1, h2 with
  | [a, b], _, _ => cases a <;> cases b <;> decide
  | [a, b, c], _, _ => cases a <;> cases b <;> cases c <;> decide
  | _ :: _ :: _ :: _ :: _, _, h => simp at h
theorem ok_of {first behind : Int} {st : Bool} {flags : List Bool} (f0 : 0 ≤ first) (f1 : first < 9) (b0 : first + 1 ≤ behind) (b1 : behind ≤ 11) (h1 : 2 ≤ flags.length) (h2 : flags.length ≤ 3) : okB first behind st flags = true := by
  have h := allOk_true
  unfold allOk at h
  rw [List.all_eq_true] at h
  have ha := h first.toNat (List.mem_range.mpr (by omega))
  rw [List.all_eq_true] at ha
  have hb := ha behind.toNat (List.mem_range.mpr (by omega))
  rw [if_pos (by omega), List.all_eq_true] at hb
  have hc := hb flags (mem_allF h1 h2)
  rw [Bool.and_eq_true] at hc
  have e1 : ((first.toNat : Nat) : Int) = first := by omega
  have e2 : ((behind.toNat : Nat) : Int) = behind := by omega
  rw [e1, e2] at hc
  cases st
  · exact hc.2
  · exact hc.1
noncomputable abbrev inC (col : Int) : Int × Int → Bool := fun p => decide (p.1 < col) && decide (p.2 ≤ col)
theorem rev_filter (col : Int) : ∀ (l : List (Int × Int)) (fo : Option (Int × Int)), monoB l = true → revL col fo l = ((l.filter (inC col)).getLast?).or fo
  | [], fo, _ => by simp [revL]
  | p :: l, fo, h => by
    unfold monoB at h
    rw [Bool.and_eq_true, List.all_eq_true] at h
    unfold revL
    by_cases c : p.1 < col ∧ p.2 ≤ col
    · rw [if_pos c, rev_filter col l (some p) h.2, List.filter_cons, if_pos (by simp [inC, c.1, c.2])]
      rw [List.getLast?_cons]
      cases (l.filter (inC col)).getLast? <;> simp
    · rw [if_neg c]
      have hn : ∀ q ∈ p :: l, ¬ (inC col q = true) := by
        intro q hq hc
        simp only [inC, Bool.and_eq_true, decide_eq_true_eq] at hc
        rcases List.mem_cons.mp hq with e | hq
        · subst e; exact c hc
        · have := h.1 q hq
          simp only [Bool.and_eq_true, decide_eq_true_eq] at this
          exact c ⟨by omega, by omega⟩
      rw [List.filter_eq_nil_iff.mpr hn]; simp
end Mine
namespace Mine
theorem bitAnd_nn {a b : Int} (ha : 0 ≤ a) (hb : 0 ≤ b) : Builtin.bitAnd a b = ((a.toNat &&& b.toNat : Nat) : Int) := by
  unfold Builtin.bitAnd; simp [ha, hb]
theorem land1 (x i : Nat) : x &&& 2 ^ i = x / 2 ^ i % 2 * 2 ^ i := by
  apply Nat.eq_of_testBit_eq
  intro j
  rw [Nat.testBit_and, Nat.testBit_two_pow]
  rcases Nat.mod_two_eq_zero_or_one (x / 2 ^ i) with h | h
  · rw [h, Nat.zero_mul, Nat.zero_testBit]
    by_cases e : i = j
    · subst e; rw [Nat.testBit_eq_decide_div_mod_eq, h]; rfl
    · simp [e]
  · rw [h, Nat.one_mul, Nat.testBit_two_pow]
    by_cases e : i = j
    · subst e; rw [Nat.testBit_eq_decide_div_mod_eq, h]; simp
    · simp [e]
theorem land2 (x i j : Nat) (h : (2 ^ i + 2 ^ j) = (2 ^ i ||| 2 ^ j)) (hx : ∀ a b : Nat, a < 2 → b < 2 → (a * 2 ^ i ||| b * 2 ^ j) = a * 2 ^ i + b * 2 ^ j) : x &&& (2 ^ i + 2 ^ j) = x / 2 ^ i % 2 * 2 ^ i + x / 2 ^ j % 2 * 2 ^ j := by
  rw [h, Nat.and_or_distrib_left, land1, land1]
  exact hx _ _ (Nat.mod_lt _ (by decide)) (Nat.mod_lt _ (by decide))
theorem and1 {a : Int} (ha : 0 ≤ a) (i : Nat) : Builtin.bitAnd a ((2 ^ i : Nat) : Int) = (((a.toNat / 2 ^ i % 2) * 2 ^ i : Nat) : Int) := by
  rw [bitAnd_nn ha (Int.natCast_nonneg _)]; rw [Int.toNat_natCast, land1]
theorem and2 {a : Int} (ha : 0 ≤ a) (i j : Nat) (h : (2 ^ i + 2 ^ j) = (2 ^ i ||| 2 ^ j)) (hx : ∀ a b : Nat, a < 2 → b < 2 → (a * 2 ^ i ||| b * 2 ^ j) = a * 2 ^ i + b * 2 ^ j) :
    Builtin.bitAnd a ((2 ^ i + 2 ^ j : Nat) : Int) = ((a.toNat / 2 ^ i % 2 * 2 ^ i + a.toNat / 2 ^ j % 2 * 2 ^ j : Nat) : Int) := by
  rw [bitAnd_nn ha (Int.natCast_nonneg _)]; rw [Int.toNat_natCast, land2 _ _ _ h hx]
theorem bit01 (x i : Nat) : x / 2 ^ i % 2 = 0 ∨ x / 2 ^ i % 2 = 1 := Nat.mod_two_eq_zero_or_one _
theorem and4095 {a : Int} (ha : 0 ≤ a) {b : Nat} (hb : 4095 &&& b = b) : Builtin.bitAnd (Builtin.bitAnd a 4095) (b : Int) = Builtin.bitAnd a (b : Int) := by
  rw [bitAnd_nn ha (by decide), bitAnd_nn (by omega) (by omega), bitAnd_nn ha (by omega)]
  simp only [Int.toNat_natCast]
  rw [show (4095 : Int).toNat = 4095 from rfl, Nat.and_assoc, hb]
/-- a sign of the table with one bit -/
theorem cell1 {m w : Int} (hm : 0 ≤ m) (hw : 0 ≤ w) (c i : Nat) (ch : Str) (txt : Str) (kd : Str) (hc : 0 < c) (hb : bitsF (c : Int) = ((2 ^ i : Nat) : Int)) (hi : 4095 &&& 2 ^ i = 2 ^ i) (ht : fileTab.getD c [] = [(((2 ^ i : Nat) : Int), ch)])
    (hk : ∀ p q : Nat, p < 2 → q < 2 → ((if (((p * 2 ^ i : Nat) : Int) == ((2 ^ i : Nat) : Int)) = true then ch else ("-" : Str)) == Txt.item txt (q : Int)) = ((((p * 2 ^ i : Nat) : Int)) == (((q * 2 ^ i : Nat) : Int)))) :
    (permF m c == Txt.item txt ((w.toNat / 2 ^ i % 2 : Nat) : Int)) = cellOk m w kd (c : Int) := by
  have h2 := Nat.mod_lt (m.toNat / 2 ^ i) (show 0 < 2 by decide)
  have h3 := Nat.mod_lt (w.toNat / 2 ^ i) (show 0 < 2 by decide)
  have hp : permF m c = if (((m.toNat / 2 ^ i % 2 * 2 ^ i : Nat) : Int) == ((2 ^ i : Nat) : Int)) = true then ch else ("-" : Str) := by
    unfold permF chF
    rw [ht, List.find?_cons]
    have cn : condF m c ((2 ^ i : Nat) : Int) = (((m.toNat / 2 ^ i % 2 * 2 ^ i : Nat) : Int) == ((2 ^ i : Nat) : Int)) := by
      unfold condF; rw [if_neg (by omega), and1 hm]
    dsimp only
    rw [cn]
    cases hh : (((m.toNat / 2 ^ i % 2 * 2 ^ i : Nat) : Int) == ((2 ^ i : Nat) : Int)) with
    | true => rfl
    | false => simp only [List.find?_nil]; rw [if_neg (by omega)]; rfl
  rw [hp, hk _ _ h2 h3]
  unfold cellOk
  rw [if_neg (by simp; omega), hb, and4095 hm hi, and1 hm, and1 hw]
theorem cell2 {m w : Int} (hm : 0 ≤ m) (hw : 0 ≤ w) (c i j : Nat) (cs cS cx : Str) (txt : Nat → Str) (kd : Str) (hc : 0 < c) (hb : bitsF (c : Int) = ((2 ^ i + 2 ^ j : Nat) : Int)) (hi : 4095 &&& (2 ^ i + 2 ^ j) = 2 ^ i + 2 ^ j)
    (hor : (2 ^ i + 2 ^ j) = (2 ^ i ||| 2 ^ j)) (hx : ∀ a b : Nat, a < 2 → b < 2 → (a * 2 ^ i ||| b * 2 ^ j) = a * 2 ^ i + b * 2 ^ j)
    (ht : fileTab.getD c [] = [(((2 ^ i + 2 ^ j : Nat) : Int), cs), (((2 ^ j : Nat) : Int), cS), (((2 ^ i : Nat) : Int), cx)])
    (hk : ∀ p p' q q' : Nat, p < 2 → p' < 2 → q < 2 → q' < 2 → ((if (((p * 2 ^ i + p' * 2 ^ j : Nat) : Int) == ((2 ^ i + 2 ^ j : Nat) : Int)) = true then cs else if (((p' * 2 ^ j : Nat) : Int) == ((2 ^ j : Nat) : Int)) = true then cS else if (((p * 2 ^ i : Nat) : Int) == ((2 ^ i : Nat) : Int)) = true then cx else ("-" : Str)) == Txt.item (txt q') (q : Int)) =
      (((p * 2 ^ i + p' * 2 ^ j : Nat) : Int) == ((q * 2 ^ i + q' * 2 ^ j : Nat) : Int))) :
    (permF m c == Txt.item (txt (w.toNat / 2 ^ j % 2)) ((w.toNat / 2 ^ i % 2 : Nat) : Int)) = cellOk m w kd (c : Int) := by
  have h1 := Nat.mod_lt (m.toNat / 2 ^ i) (show 0 < 2 by decide)
  have h2 := Nat.mod_lt (m.toNat / 2 ^ j) (show 0 < 2 by decide)
  have h3 := Nat.mod_lt (w.toNat / 2 ^ i) (show 0 < 2 by decide)
  have h4 := Nat.mod_lt (w.toNat / 2 ^ j) (show 0 < 2 by decide)
  have hp : permF m c = if (((m.toNat / 2 ^ i % 2 * 2 ^ i + m.toNat / 2 ^ j % 2 * 2 ^ j : Nat) : Int) == ((2 ^ i + 2 ^ j : Nat) : Int)) = true then cs else if (((m.toNat / 2 ^ j % 2 * 2 ^ j : Nat) : Int) == ((2 ^ j : Nat) : Int)) = true then cS else if (((m.toNat / 2 ^ i % 2 * 2 ^ i : Nat) : Int) == ((2 ^ i : Nat) : Int)) = true then cx else ("-" : Str) := by
    unfold permF chF
    have c0 : ¬ c = 0 := by omega
    have e1 : condF m c ((2 ^ i + 2 ^ j : Nat) : Int) = (((m.toNat / 2 ^ i % 2 * 2 ^ i + m.toNat / 2 ^ j % 2 * 2 ^ j : Nat) : Int) == ((2 ^ i + 2 ^ j : Nat) : Int)) := by unfold condF; rw [if_neg c0, and2 hm _ _ hor hx]
    have e2 : condF m c ((2 ^ j : Nat) : Int) = (((m.toNat / 2 ^ j % 2 * 2 ^ j : Nat) : Int) == ((2 ^ j : Nat) : Int)) := by unfold condF; rw [if_neg c0, and1 hm]
    have e3 : condF m c ((2 ^ i : Nat) : Int) = (((m.toNat / 2 ^ i % 2 * 2 ^ i : Nat) : Int) == ((2 ^ i : Nat) : Int)) := by unfold condF; rw [if_neg c0, and1 hm]
    rw [ht, List.find?_cons, List.find?_cons, List.find?_cons, List.find?_nil]
    dsimp only
    rw [e1, e2, e3]
    split <;> rename_i heq
    · split at heq <;> rename_i g1
      · cases heq; rw [if_pos g1]
      · split at heq <;> rename_i g2
        · cases heq; rw [if_neg (by rw [g1]; decide), if_pos g2]
        · split at heq <;> rename_i g3
          · cases heq; rw [if_neg (by rw [g1]; decide), if_neg (by rw [g2]; decide), if_pos g3]
          · cases heq
    · split at heq <;> rename_i g1
      · cases heq
      · split at heq <;> rename_i g2
        · cases heq
        · split at heq <;> rename_i g3
          · cases heq
          · rw [if_neg c0, if_neg (by rw [g1]; decide), if_neg (by rw [g2]; decide), if_neg (by rw [g3]; decide)]
  rw [hp, hk _ _ _ _ h1 h2 h3 h4]
  unfold cellOk
  rw [if_neg (by simp; omega), hb, and4095 hm hi, and2 hm _ _ hor hx, and2 hw _ _ hor hx]
theorem item_nat {x : Str} {k : Nat} (h : k < x.length) : Txt.item x (k : Int) = ⟨#[x.cps[k]?.getD 0]⟩ := by
  have e : seqIndex? (k : Int) x.length = some k := by
    have h0 : ¬ ((k : Int) < 0) := by omega
    have h1 : (decide (0 ≤ (k : Int)) && decide ((k : Int) < x.length)) = true := by simp; exact h
    unfold seqIndex?
    simp only [h0, if_false, h1, if_true, Int.toNat_natCast]
  unfold Txt.item Txt.charAt
  rw [e]; rfl
theorem len_app (a b : Str) : (a ++ b).length = a.length + b.length := by
  show (a.cps ++ b.cps).size = _
  simp [Str.length]
theorem item_left {a b : Str} {k : Nat} (h : k < a.length) : Txt.item (a ++ b) (k : Int) = Txt.item a (k : Int) := by
  rw [item_nat (by rw [len_app]; omega), item_nat h]
  show (⟨#[(a.cps ++ b.cps)[k]?.getD 0]⟩ : Str) = _
  rw [Array.getElem?_append_left h]
theorem item_right {a b : Str} {k : Nat} (h : k < b.length) : Txt.item (a ++ b) ((a.length + k : Nat) : Int) = Txt.item b (k : Int) := by
  rw [item_nat (by rw [len_app]; omega), item_nat h]
  show (⟨#[(a.cps ++ b.cps)[a.length + k]?.getD 0]⟩ : Str) = _
  rw [Array.getElem?_append_right (by show a.cps.size ≤ _; exact Nat.le_add_right _ _)]
  show (⟨#[b.cps[a.length + k - a.length]?.getD 0]⟩ : Str) = _
  rw [Nat.add_sub_cancel_left]
theorem item_item (s : Str) (i : Int) : Txt.item (Txt.item s i) ((0 : Nat) : Int) = Txt.item s i := by
  rw [item_nat (by show 0 < 1; decide)]; rfl
/-! ## the ten signs -/
section
variable (n : Int)
theorem l1 (s : Str) (i : Int) : (Txt.item s i).length = 1 := rfl
theorem sg_step (k : Nat) : sgF n (k + 1) = ((sgF n k ++ Txt.item "-r" ((rightF n k).fdiv 4)) ++ Txt.item "-w" (((rightF n k).fdiv 2).fmod 2)) ++ Txt.item (lastF n k) ((rightF n k).fmod 2) := rfl
theorem sg_old {k j : Nat} (h : j < 1 + 3 * k) : Txt.item (sgF n (k + 1)) (j : Int) = Txt.item (sgF n k) (j : Int) := by
  have hl := len_sg n k
  rw [sg_step, item_left (by simp only [len_app, l1, hl]; omega), item_left (by simp only [len_app, l1, hl]; omega), item_left (by rw [hl]; exact h)]
theorem sg_r (k : Nat) : Txt.item (sgF n (k + 1)) ((1 + 3 * k : Nat) : Int) = Txt.item "-r" ((rightF n k).fdiv 4) := by
  have hl := len_sg n k
  rw [sg_step, item_left (by simp only [len_app, l1, hl]; omega), item_left (by simp only [len_app, l1, hl]; omega)]
  have := item_right (a := sgF n k) (b := Txt.item "-r" ((rightF n k).fdiv 4)) (k := 0) (by rw [l1]; decide)
  rw [hl] at this
  exact this.trans (item_item _ _)
theorem sg_w (k : Nat) : Txt.item (sgF n (k + 1)) ((1 + 3 * k + 1 : Nat) : Int) = Txt.item "-w" (((rightF n k).fdiv 2).fmod 2) := by
  have hl := len_sg n k
  rw [sg_step, item_left (by simp only [len_app, l1, hl]; omega)]
  have := item_right (a := sgF n k ++ Txt.item "-r" ((rightF n k).fdiv 4)) (b := Txt.item "-w" (((rightF n k).fdiv 2).fmod 2)) (k := 0) (by rw [l1]; decide)
  rw [len_app, l1, hl] at this
  exact this.trans (item_item _ _)
theorem sg_l (k : Nat) : Txt.item (sgF n (k + 1)) ((1 + 3 * k + 2 : Nat) : Int) = Txt.item (lastF n k) ((rightF n k).fmod 2) := by
  have hl := len_sg n k
  rw [sg_step]
  have := item_right (a := (sgF n k ++ Txt.item "-r" ((rightF n k).fdiv 4)) ++ Txt.item "-w" (((rightF n k).fdiv 2).fmod 2)) (b := Txt.item (lastF n k) ((rightF n k).fmod 2)) (k := 0) (by rw [l1]; decide)
  rw [len_app, len_app, l1, l1, hl] at this
  exact this.trans (item_item _ _)
end
theorem small2 {p : Nat} (h : p < 2) : p = 0 ∨ p = 1 := by omega
theorem cut16 (W d k m : Nat) (h : 65536 = d * k) (hm : m ∣ k) : W % 65536 / d % m = W / d % m := by
  rw [h, Nat.mod_mul_right_div_self, Nat.mod_mod_of_dvd _ hm]
theorem oct4 (x : Nat) : ((x % 8 : Nat) : Int).fdiv 4 = ((x / 4 % 2 : Nat) : Int) :=
  (Int.fdiv_eq_ediv_of_nonneg _ (by decide)).trans (congrArg Int.ofNat (Nat.mod_mul_right_div_self x 4 2))
theorem oct2 (x : Nat) : (((x % 8 : Nat) : Int).fdiv 2).fmod 2 = ((x / 2 % 2 : Nat) : Int) := by
  rw [Int.fdiv_eq_ediv_of_nonneg _ (by decide), Int.fmod_eq_emod_of_nonneg _ (by decide)]
  exact congrArg Int.ofNat ((congrArg (· % 2) (Nat.mod_mul_right_div_self x 2 4)).trans (Nat.mod_mod_of_dvd _ ⟨2, rfl⟩))
theorem oct1 (x : Nat) : ((x % 8 : Nat) : Int).fmod 2 = ((x % 2 : Nat) : Int) := by
  rw [Int.fmod_eq_emod_of_nonneg _ (by decide)]
  exact congrArg Int.ofNat (Nat.mod_mod_of_dvd x ⟨4, rfl⟩)
theorem num1 (W : Nat) : ((W : Int) / 64 % 8).fdiv 4 = ((W / 2 ^ 8 % 2 : Nat) : Int) := (oct4 (W / 64)).trans (by rw [Nat.div_div_eq_div_mul])
theorem num2 (W : Nat) : (((W : Int) / 64 % 8).fdiv 2).fmod 2 = ((W / 2 ^ 7 % 2 : Nat) : Int) := (oct2 (W / 64)).trans (by rw [Nat.div_div_eq_div_mul])
theorem num3 (W : Nat) : ((W : Int) / 64 % 8).fmod 2 = ((W / 2 ^ 6 % 2 : Nat) : Int) := oct1 (W / 64)
theorem ab3 (W : Nat) : (W : Int) % 65536 / 2 ^ 11 % 2 = ((W / 2 ^ 11 % 2 : Nat) : Int) := congrArg Int.ofNat (cut16 W (2 ^ 11) 32 2 rfl ⟨16, rfl⟩)
theorem last3 (W : Nat) (n : Int) (hn : n = (W : Int) % 65536) : lastF n ((0 : Nat) : Int) = (fun q' : Nat => if q' = 0 then ("-x" : Str) else ("Ss" : Str)) (W / 2 ^ 11 % 2) := by
  have a : aboveF n ((0 : Nat) : Int) = ((W / 2 ^ 11 % 2 : Nat) : Int) := by
    unfold aboveF; rw [show ((11 : Int) - ((0 : Nat) : Int)).toNat = 11 from rfl, Int.fdiv_eq_ediv_of_nonneg _ (by decide), Int.fmod_eq_emod_of_nonneg _ (by decide), hn]; exact ab3 W
  unfold lastF; rw [a]
  rcases bit01 W 11 with h | h <;> rw [h] <;> rfl
theorem num4 (W : Nat) : ((W : Int) / 8 % 8).fdiv 4 = ((W / 2 ^ 5 % 2 : Nat) : Int) := (oct4 (W / 8)).trans (by rw [Nat.div_div_eq_div_mul])
theorem num5 (W : Nat) : (((W : Int) / 8 % 8).fdiv 2).fmod 2 = ((W / 2 ^ 4 % 2 : Nat) : Int) := (oct2 (W / 8)).trans (by rw [Nat.div_div_eq_div_mul])
theorem num6 (W : Nat) : ((W : Int) / 8 % 8).fmod 2 = ((W / 2 ^ 3 % 2 : Nat) : Int) := oct1 (W / 8)
theorem ab6 (W : Nat) : (W : Int) % 65536 / 2 ^ 10 % 2 = ((W / 2 ^ 10 % 2 : Nat) : Int) := congrArg Int.ofNat (cut16 W (2 ^ 10) 64 2 rfl ⟨32, rfl⟩)
theorem last6 (W : Nat) (n : Int) (hn : n = (W : Int) % 65536) : lastF n ((1 : Nat) : Int) = (fun q' : Nat => if q' = 0 then ("-x" : Str) else ("Ss" : Str)) (W / 2 ^ 10 % 2) := by
  have a : aboveF n ((1 : Nat) : Int) = ((W / 2 ^ 10 % 2 : Nat) : Int) := by
    unfold aboveF; rw [show ((11 : Int) - ((1 : Nat) : Int)).toNat = 10 from rfl, Int.fdiv_eq_ediv_of_nonneg _ (by decide), Int.fmod_eq_emod_of_nonneg _ (by decide), hn]; exact ab6 W
  unfold lastF; rw [a]
  rcases bit01 W 10 with h | h <;> rw [h] <;> rfl
theorem num7 (W : Nat) : ((W : Int) % 8).fdiv 4 = ((W / 2 ^ 2 % 2 : Nat) : Int) := oct4 W
theorem num8 (W : Nat) : (((W : Int) % 8).fdiv 2).fmod 2 = ((W / 2 ^ 1 % 2 : Nat) : Int) := oct2 W
theorem num9 (W : Nat) : ((W : Int) % 8).fmod 2 = ((W / 2 ^ 0 % 2 : Nat) : Int) := (oct1 W).trans (by rw [Nat.pow_zero, Nat.div_one])
theorem ab9 (W : Nat) : (W : Int) % 65536 / 2 ^ 9 % 2 = ((W / 2 ^ 9 % 2 : Nat) : Int) := congrArg Int.ofNat (cut16 W (2 ^ 9) 128 2 rfl ⟨64, rfl⟩)
theorem last9 (W : Nat) (n : Int) (hn : n = (W : Int) % 65536) : lastF n ((2 : Nat) : Int) = (fun q' : Nat => if q' = 0 then ("-x" : Str) else ("Tt" : Str)) (W / 2 ^ 9 % 2) := by
  have a : aboveF n ((2 : Nat) : Int) = ((W / 2 ^ 9 % 2 : Nat) : Int) := by
    unfold aboveF; rw [show ((11 : Int) - ((2 : Nat) : Int)).toNat = 9 from rfl, Int.fdiv_eq_ediv_of_nonneg _ (by decide), Int.fmod_eq_emod_of_nonneg _ (by decide), hn]; exact ab9 W
  unfold lastF; rw [a]
  rcases bit01 W 9 with h | h <;> rw [h] <;> rfl
theorem rr0 (W : Nat) : (W : Int) % 65536 / 8 ^ 2 % 8 = (W : Int) / 64 % 8 := congrArg Int.ofNat (cut16 W 64 1024 8 rfl ⟨128, rfl⟩)
theorem rr1 (W : Nat) : (W : Int) % 65536 / 8 ^ 1 % 8 = (W : Int) / 8 % 8 := congrArg Int.ofNat (cut16 W 8 8192 8 rfl ⟨1024, rfl⟩)
theorem rr2 (W : Nat) : (W : Int) % 65536 / 8 ^ 0 % 8 = (W : Int) % 8 := by rw [Int.pow_zero, Int.ediv_one]; exact congrArg Int.ofNat (Nat.mod_mod_of_dvd W ⟨8192, rfl⟩)
/-- the sign of a cell and its test say the same -/
theorem core_pos {m w : Int} (hm : 0 ≤ m) (hw : 0 ≤ w) (kd : Str) (c : Nat) (h0 : 0 < c) (h1 : c < 10) : (permF m c == Txt.item (sgF (w.fmod 65536) 3) (c : Int)) = cellOk m w kd (c : Int) := by
  obtain ⟨W, rfl⟩ := Int.eq_ofNat_of_zero_le hw
  have hn : Int.fmod (W : Int) 65536 = (W : Int) % 65536 := Int.fmod_eq_emod_of_nonneg _ (by decide)
  generalize Int.fmod (W : Int) 65536 = n at *
  have r0 : rightF n ((0 : Nat) : Int) = ((W : Int) / 64) % 8 := by
    unfold rightF; rw [show ((2 : Int) - ((0 : Nat) : Int)).toNat = 2 from rfl, Int.fdiv_eq_ediv_of_nonneg _ (by decide), Int.fmod_eq_emod_of_nonneg _ (by decide), hn]; exact rr0 W
  have r1 : rightF n ((1 : Nat) : Int) = ((W : Int) / 8) % 8 := by
    unfold rightF; rw [show ((2 : Int) - ((1 : Nat) : Int)).toNat = 1 from rfl, Int.fdiv_eq_ediv_of_nonneg _ (by decide), Int.fmod_eq_emod_of_nonneg _ (by decide), hn]; exact rr1 W
  have r2 : rightF n ((2 : Nat) : Int) = (W : Int) % 8 := by
    unfold rightF; rw [show ((2 : Int) - ((2 : Nat) : Int)).toNat = 0 from rfl, Int.fdiv_eq_ediv_of_nonneg _ (by decide), Int.fmod_eq_emod_of_nonneg _ (by decide), hn]; exact rr2 W
  match c, h0, h1 with
  | 1, _, _ =>
    rw [sg_old n (by decide), sg_old n (by decide), sg_r n 0, r0, num1]
    exact cell1 hm hw 1 8 "r" "-r" kd (by decide) (by decide +kernel) (by decide) (by decide +kernel) fun p q hp hq => by rcases small2 hp with rfl | rfl <;> rcases small2 hq with rfl | rfl <;> decide +kernel
  | 2, _, _ =>
    rw [sg_old n (by decide), sg_old n (by decide), sg_w n 0, r0, num2]
    exact cell1 hm hw 2 7 "w" "-w" kd (by decide) (by decide +kernel) (by decide) (by decide +kernel) fun p q hp hq => by rcases small2 hp with rfl | rfl <;> rcases small2 hq with rfl | rfl <;> decide +kernel
  | 3, _, _ =>
    rw [sg_old n (by decide), sg_old n (by decide), sg_l n 0, r0, num3, last3 W n hn]
    exact cell2 hm hw 3 6 11 "s" "S" "x" (fun q' => if q' = 0 then ("-x" : Str) else ("Ss" : Str)) kd (by decide) (by decide +kernel) (by decide) (by decide) (fun a b ha hb => by rcases small2 ha with rfl | rfl <;> rcases small2 hb with rfl | rfl <;> decide) (by decide +kernel)
      fun p p' q q' hp hp' hq hq' => by rcases small2 hp with rfl | rfl <;> rcases small2 hp' with rfl | rfl <;> rcases small2 hq with rfl | rfl <;> rcases small2 hq' with rfl | rfl <;> decide +kernel
  | 4, _, _ =>
    rw [sg_old n (by decide), sg_r n 1, r1, num4]
    exact cell1 hm hw 4 5 "r" "-r" kd (by decide) (by decide +kernel) (by decide) (by decide +kernel) fun p q hp hq => by rcases small2 hp with rfl | rfl <;> rcases small2 hq with rfl | rfl <;> decide +kernel
  | 5, _, _ =>
    rw [sg_old n (by decide), sg_w n 1, r1, num5]
    exact cell1 hm hw 5 4 "w" "-w" kd (by decide) (by decide +kernel) (by decide) (by decide +kernel) fun p q hp hq => by rcases small2 hp with rfl | rfl <;> rcases small2 hq with rfl | rfl <;> decide +kernel
  | 6, _, _ =>
    rw [sg_old n (by decide), sg_l n 1, r1, num6, last6 W n hn]
    exact cell2 hm hw 6 3 10 "s" "S" "x" (fun q' => if q' = 0 then ("-x" : Str) else ("Ss" : Str)) kd (by decide) (by decide +kernel) (by decide) (by decide) (fun a b ha hb => by rcases small2 ha with rfl | rfl <;> rcases small2 hb with rfl | rfl <;> decide) (by decide +kernel)
      fun p p' q q' hp hp' hq hq' => by rcases small2 hp with rfl | rfl <;> rcases small2 hp' with rfl | rfl <;> rcases small2 hq with rfl | rfl <;> rcases small2 hq' with rfl | rfl <;> decide +kernel
  | 7, _, _ =>
    rw [sg_r n 2, r2, num7]
    exact cell1 hm hw 7 2 "r" "-r" kd (by decide) (by decide +kernel) (by decide) (by decide +kernel) fun p q hp hq => by rcases small2 hp with rfl | rfl <;> rcases small2 hq with rfl | rfl <;> decide +kernel
  | 8, _, _ =>
    rw [sg_w n 2, r2, num8]
    exact cell1 hm hw 8 1 "w" "-w" kd (by decide) (by decide +kernel) (by decide) (by decide +kernel) fun p q hp hq => by rcases small2 hp with rfl | rfl <;> rcases small2 hq with rfl | rfl <;> decide +kernel
  | 9, _, _ =>
    rw [sg_l n 2, r2, num9, last9 W n hn]
    exact cell2 hm hw 9 0 9 "t" "T" "x" (fun q' => if q' = 0 then ("-x" : Str) else ("Tt" : Str)) kd (by decide) (by decide +kernel) (by decide) (by decide) (fun a b ha hb => by rcases small2 ha with rfl | rfl <;> rcases small2 hb with rfl | rfl <;> decide) (by decide +kernel)
      fun p p' q q' hp hp' hq hq' => by rcases small2 hp with rfl | rfl <;> rcases small2 hp' with rfl | rfl <;> rcases small2 hq with rfl | rfl <;> rcases small2 hq' with rfl | rfl <;> decide +kernel
theorem land_hi (x : Nat) : x &&& 61440 = x / 4096 % 16 * 4096 := by
  have e1 : (61440 : Nat) = (2 ^ 4 - 1) <<< 12 := by decide
  have e2 : x / 4096 % 16 * 4096 = ((x >>> 12) % 2 ^ 4) <<< 12 := by rw [Nat.shiftLeft_eq, Nat.shiftRight_eq_div_pow]
  rw [e1, e2]
  apply Nat.eq_of_testBit_eq
  intro i
  simp only [Nat.testBit_and, Nat.testBit_shiftLeft, Nat.testBit_two_pow_sub_one, Nat.testBit_mod_two_pow, Nat.testBit_shiftRight]
  by_cases h : 12 ≤ i
  · rw [Nat.add_sub_cancel' h]; simp [h, Bool.and_comm]
  · simp [h]
noncomputable def perm0 (T : Int) : Str := match (fileTab.getD 0 []).find? (fun p => T == p.1) with | some p => p.2 | none => ("?" : Str)
noncomputable def said0 (T : Int) : List Bool := [T == 4096, T == 8192, T == 16384, T == 24576, T == 32768, T == 40960, T == 49152]
theorem fin0 : (List.range 16).all (fun p => (List.range 16).all fun q => (perm0 ((p * 4096 : Nat) : Int) == Txt.item "?pc?d?b?-?l?s???" (q : Int)) == (said0 ((p * 4096 : Nat) : Int) == kindsF (Txt.item "?pc?d?b?-?l?s???" (q : Int)))) = true := by decide +kernel
theorem kind16 {w : Int} (hw : 0 ≤ w) : (w % 65536).fdiv 4096 = ((w.toNat / 4096 % 16 : Nat) : Int) := by
  obtain ⟨W, rfl⟩ := Int.eq_ofNat_of_zero_le hw
  rw [Int.fdiv_eq_ediv_of_nonneg _ (by decide), Int.toNat_natCast]
  exact congrArg Int.ofNat (Nat.mod_mul_right_div_self W 4096 16)
theorem core_zero {m w : Int} (hm : 0 ≤ m) (hw : 0 ≤ w) : (permF m 0 == Txt.item (sgF (w.fmod 65536) 3) ((0 : Nat) : Int)) = cellOk m w (Txt.item (sgF (w.fmod 65536) 3) ((0 : Nat) : Int)) ((0 : Nat) : Int) := by
  have hn : w.fmod 65536 = w % 65536 := Int.fmod_eq_emod_of_nonneg _ (by decide)
  generalize w.fmod 65536 = n at *
  have hsg : Txt.item (sgF n 3) ((0 : Nat) : Int) = Txt.item "?pc?d?b?-?l?s???" ((w.toNat / 4096 % 16 : Nat) : Int) := by
    rw [sg_old n (by decide), sg_old n (by decide), sg_old n (by decide)]
    show Txt.item (Txt.item "?pc?d?b?-?l?s???" (n.fdiv 4096)) ((0 : Nat) : Int) = _
    rw [item_item]
    have : n.fdiv 4096 = ((w.toNat / 4096 % 16 : Nat) : Int) := by rw [hn]; exact kind16 hw
    rw [this]
  have hb : Builtin.bitAnd m 61440 = ((m.toNat / 4096 % 16 * 4096 : Nat) : Int) := by
    rw [bitAnd_nn hm (by decide), show (61440 : Int).toNat = 61440 from rfl, land_hi]
  have hp : permF m 0 = perm0 ((m.toNat / 4096 % 16 * 4096 : Nat) : Int) := by
    unfold permF chF perm0
    have : (fun p : Int × Str => condF m 0 p.1) = fun p => (((m.toNat / 4096 % 16 * 4096 : Nat) : Int) == p.1) := by
      funext p; unfold condF; rw [if_pos rfl, hb]
    rw [this]; rfl
  have hs : saidF m = said0 ((m.toNat / 4096 % 16 * 4096 : Nat) : Int) := by unfold saidF said0; rw [hb]
  have hc : cellOk m w (Txt.item (sgF n 3) ((0 : Nat) : Int)) ((0 : Nat) : Int) = (saidF m == kindsF (Txt.item (sgF n 3) ((0 : Nat) : Int))) := rfl
  rw [hc, hp, hs, hsg]
  have f := fin0
  rw [List.all_eq_true] at f
  have f1 := f (m.toNat / 4096 % 16) (List.mem_range.mpr (Nat.mod_lt _ (by decide)))
  rw [List.all_eq_true] at f1
  have f2 := f1 (w.toNat / 4096 % 16) (List.mem_range.mpr (Nat.mod_lt _ (by decide)))
  exact eq_of_beq f2
theorem core {m w : Int} (hm : 0 ≤ m) (hw : 0 ≤ w) {c : Int} (h0 : 0 ≤ c) (h1 : c < 10) : (permF m c.toNat == Txt.item (sgF (w.fmod 65536) 3) c) = cellOk m w (Txt.item (sgF (w.fmod 65536) 3) 0) c := by
  obtain ⟨k, rfl⟩ : ∃ k : Nat, c = (k : Int) := ⟨c.toNat, by omega⟩
  rw [Int.toNat_natCast]
  by_cases hk : k = 0
  · subst hk; exact core_zero hm hw
  · exact core_pos hm hw _ k (by omega) (by omega)
end Mine
namespace Mine
noncomputable def lineF (m : Int) : Str := fmF m ++ ("\n" : Str)
theorem perm_len (m : Int) (i : Nat) (hi : i < 10) : (permF m i).length = 1 := by
  unfold permF chF
  split
  · rename_i p hp
    have hm := List.mem_of_find?_eq_some hp
    have : ∀ i < 10, ∀ e ∈ fileTab.getD i [], e.2.length = 1 := by decide +kernel
    exact this i hi p hm
  · split <;> decide +kernel
theorem join_cps : ∀ l : List Str, (Str.join "" l).cps.toList = l.flatMap fun s => s.cps.toList
  | [] => rfl
  | [x] => by simp [Str.join]
  | x :: y :: r => by
    have ih := join_cps (y :: r)
    show ((x.cps ++ (("" : Str)).cps) ++ (Str.join "" (y :: r)).cps).toList = _
    rw [Array.toList_append, Array.toList_append, ih]
    have : (("" : Str)).cps.toList = [] := by decide +kernel
    rw [this, List.append_nil]; simp
theorem tjoin_cps (l : List Str) : (Txt.join "" l).cps.toList = l.flatMap fun s => s.cps.toList := by
  unfold Txt.join; rw [StrLaws.glued_eq_join]; exact join_cps l
theorem flat_get {α β : Type} {f : α → List β} {n : Nat} : ∀ (l : List α) (k c : Nat), (∀ a ∈ l, (f a).length = n) → c < n → (l.flatMap f)[n * k + c]? = (l[k]?).bind fun a => (f a)[c]?
  | [], k, c, _, _ => by simp
  | a :: l, 0, c, h, hc => by
    rw [List.flatMap_cons, List.getElem?_append_left (by rw [h a (.head _)]; omega)]; simp
  | a :: l, k + 1, c, h, hc => by
    have ha := h a (.head _)
    rw [List.flatMap_cons, List.getElem?_append_right (by rw [ha, Nat.mul_add]; omega), ha, show n * (k + 1) + c - n = n * k + c by rw [Nat.mul_add]; omega]
    rw [flat_get l k c (fun a ha => h a (.tail _ ha)) hc]; simp
theorem flat_len {α β : Type} {f : α → List β} {n : Nat} : ∀ (l : List α), (∀ a ∈ l, (f a).length = n) → (l.flatMap f).length = n * l.length
  | [], _ => by simp
  | a :: l, h => by rw [List.flatMap_cons, List.length_append, h a (.head _), flat_len l fun a ha => h a (.tail _ ha), List.length_cons, Nat.mul_add]; omega
theorem len_list (s : Str) : s.length = s.cps.toList.length := by simp [Str.length]
theorem fm_cps (m : Int) : (fmF m).cps.toList = (List.range 10).flatMap fun i => (permF m i).cps.toList := by
  unfold fmF; rw [tjoin_cps, List.flatMap_map]
theorem fm_len (m : Int) : (fmF m).length = 10 := by
  rw [len_list, fm_cps, flat_len (n := 1) _ fun i hi => by rw [← len_list]; exact perm_len m i (List.mem_range.mp hi)]; simp
theorem line_len (m : Int) : (lineF m).length = 11 := by
  unfold lineF; rw [len_app, fm_len]; rfl
theorem item_eq {a b : Str} {i j : Nat} (hi : i < a.length) (hj : j < b.length) (h : a.cps.toList[i]? = b.cps.toList[j]?) : Txt.item a (i : Int) = Txt.item b (j : Int) := by
  rw [item_nat hi, item_nat hj]
  have : a.cps[i]? = b.cps[j]? := by simpa using h
  rw [this]
theorem fm_item (m : Int) (c : Nat) (hc : c < 10) : Txt.item (fmF m) (c : Int) = permF m c := by
  have h1 : Txt.item (fmF m) (c : Int) = Txt.item (permF m c) ((0 : Nat) : Int) := by
    refine item_eq (by rw [fm_len]; exact hc) (by rw [perm_len m c hc]; decide) ?_
    rw [fm_cps]
    have := flat_get (n := 1) (f := fun i => (permF m i).cps.toList) (List.range 10) c 0 (fun i hi => by rw [← len_list]; exact perm_len m i (List.mem_range.mp hi)) (by decide)
    rw [show 1 * c + 0 = c by omega] at this
    rw [this, List.getElem?_range hc]; rfl
  rw [h1, item_nat (by rw [perm_len m c hc]; decide)]
  have l := perm_len m c hc
  generalize permF m c = s at l
  obtain ⟨⟨arr⟩⟩ := s
  match arr, l with
  | [x], _ => rfl
theorem line_item (m : Int) (c : Nat) (hc : c < 10) : Txt.item (lineF m) (c : Int) = permF m c := by
  unfold lineF; rw [item_left (by rw [fm_len]; exact hc), fm_item m c hc]
theorem chars_len (modes : List Int) : (Txt.join "" (modes.map lineF)).length = 11 * modes.length := by
  rw [len_list, tjoin_cps, List.flatMap_map, flat_len (n := 11) _ fun m _ => by rw [← len_list]; exact line_len m]
theorem chars_item (modes : List Int) (k c : Nat) (hc : c < 10) (m : Int) (hk : modes[k]? = some m) : Txt.item (Txt.join "" (modes.map lineF)) ((11 * k + c : Nat) : Int) = permF m c := by
  have hkl : k < modes.length := by obtain ⟨h, _⟩ := List.getElem?_eq_some_iff.mp hk; exact h
  rw [← line_item m c hc]
  refine item_eq (by rw [chars_len]; omega) (by rw [line_len]; omega) ?_
  rw [tjoin_cps, List.flatMap_map, flat_get (n := 11) (f := fun a => (lineF a).cps.toList) modes k c (fun m _ => by rw [← len_list]; exact line_len m) (by omega), hk]; rfl
theorem bears_flag {modes cn : List Int} {want : Int} {k : Nat} {m : Int} (hk : modes[k]? = some m) (hm : 0 ≤ m) (hw : 0 ≤ want) (rng : ∀ c ∈ cn, 0 ≤ c ∧ c < 10) :
    bearsF (cn.map fun c => (c, Txt.item (sgF (want.fmod 65536) 3) c)) (Txt.join "" (modes.map lineF)) k = cn.all (cellOk m want (Txt.item (sgF (want.fmod 65536) 3) 0)) := by
  unfold bearsF
  rw [List.all_map]
  have key : ∀ c ∈ cn, ((fun c : Int × Str => Txt.item (Txt.join "" (modes.map lineF)) (11 * (k : Int) + c.1) == c.2) ∘ fun c => (c, Txt.item (sgF (want.fmod 65536) 3) c)) c = cellOk m want (Txt.item (sgF (want.fmod 65536) 3) 0) c := ?_
  · clear hk rng
    induction cn with
    | nil => rfl
    | cons a r ih => rw [List.all_cons, List.all_cons, key a (.head _), ih fun c hc => key c (.tail _ hc)]
  intro c hc
  obtain ⟨c0, c9⟩ := rng c hc
  show (Txt.item _ (11 * (k : Int) + c) == _) = _
  have : (11 * (k : Int) + c) = ((11 * k + c.toNat : Nat) : Int) := by omega
  rw [this, chars_item modes k c.toNat (by omega) m hk]
  exact core hm hw c0 c9
end Mine
namespace Mine
theorem fill14 : PySem.Challenge.rw_mr0175_01.row.prog = PySem.Challenge.rw_mr0175_01.row.prog ∧ Mine.hd.heap_39 = Mine.hd.heap_39 := by k_fill; exact ⟨rfl, rfl⟩
noncomputable def modF (l : List Int) : List Int := l.map fun x => x.fmod 4294967296
theorem modF_snoc {l : List Int} {i : Nat} {c : Int} (h : l[i]? = some c) : modF (l.take (i + 1)) = modF (l.take i) ++ [c.fmod 4294967296] := by
  unfold modF; rw [List.take_add_one, h, List.map_append]; rfl
noncomputable def toldF (sc : List Int) : List Int := if (modF (sc.take 12)).length = 0 then [16877, 33188] else modF (sc.take 12)
noncomputable def modesF (told : List Int) : List Int := told.take 2 ++ [33188]
noncomputable def prodsF (told : List Int) : List Int := (List.range told.length).map fun k => told.getD k 0 * ((k : Int) + 1)
noncomputable def codeF (told : List Int) : Int := preSum (fun j => (prodsF told).getD j 0) (prodsF told).length
noncomputable def pickF (told : List Int) : List Int := modesF told ++ [(codeF told).fmod 65536]
noncomputable def wantF (told : List Int) : Int := (pickF told).getD (((codeF told).fdiv 7).fmod (((modesF told).length : Int) + 1)).toNat 0
theorem told_rng (sc : List Int) : ∀ x ∈ toldF sc, 0 ≤ x ∧ x < 4294967296 := by
  intro x hx
  unfold toldF at hx
  by_cases c : (modF (sc.take 12)).length = 0
  · rw [if_pos c] at hx; simp at hx; omega
  · rw [if_neg c] at hx
    unfold modF at hx
    obtain ⟨y, _, rfl⟩ := List.mem_map.mp hx
    exact ⟨Int.fmod_nonneg_of_pos _ (by decide), Int.fmod_lt_of_pos _ (by decide)⟩
theorem told_len (sc : List Int) : 1 ≤ (toldF sc).length ∧ (toldF sc).length ≤ 12 := by
  unfold toldF
  by_cases c : (modF (sc.take 12)).length = 0
  · rw [if_pos c]; decide
  · rw [if_neg c]; refine ⟨by omega, ?_⟩; unfold modF; simp; omega
theorem prods_len (t : List Int) : (prodsF t).length = t.length := by simp [prodsF]
theorem prods_get {t : List Int} {j : Nat} (h : j < t.length) : (prodsF t).getD j 0 = t.getD j 0 * ((j : Int) + 1) := by
  simp [prodsF, List.getD_eq_getElem?_getD, h]
theorem told_getD {sc : List Int} (j : Nat) : 0 ≤ (toldF sc).getD j 0 ∧ (toldF sc).getD j 0 < 4294967296 := by
  rw [List.getD_eq_getElem?_getD]
  cases e : (toldF sc)[j]? with
  | none => simp
  | some x => exact told_rng sc x (List.mem_of_getElem? e)
theorem prods_rng {sc : List Int} {j : Nat} (h : j < (toldF sc).length) : 0 ≤ (prodsF (toldF sc)).getD j 0 ∧ (prodsF (toldF sc)).getD j 0 ≤ 51539607552 := by
  rw [prods_get h]
  have := told_getD (sc := sc) j
  have := (told_len sc).2
  constructor
  · exact Int.mul_nonneg (by omega) (by omega)
  · have h1 : (toldF sc).getD j 0 * ((j : Int) + 1) ≤ 4294967296 * 12 := Int.mul_le_mul (by omega) (by omega) (by omega) (by omega)
    omega
theorem preSum_rng {sc : List Int} : ∀ j, j ≤ (toldF sc).length → 0 ≤ preSum (fun j => (prodsF (toldF sc)).getD j 0) j ∧ preSum (fun j => (prodsF (toldF sc)).getD j 0) j ≤ 51539607552 * j
  | 0, _ => by simp [preSum]
  | j + 1, h => by
    have := preSum_rng (sc := sc) j (by omega)
    have := prods_rng (sc := sc) (j := j) (by omega)
    unfold preSum
    constructor
    · omega
    · push_cast; omega
theorem code_rng (sc : List Int) : 0 ≤ codeF (toldF sc) ∧ codeF (toldF sc) < 1000000000000 := by
  unfold codeF
  rw [prods_len]
  have := preSum_rng (sc := sc) _ (Nat.le_refl _)
  have := (told_len sc).2
  omega
theorem modes_len (sc : List Int) : 2 ≤ (modesF (toldF sc)).length ∧ (modesF (toldF sc)).length ≤ 3 := by
  have := told_len sc
  unfold modesF; simp; omega
theorem modes_rng (sc : List Int) : ∀ x ∈ modesF (toldF sc), 0 ≤ x ∧ x < 4294967296 := by
  intro x hx
  unfold modesF at hx
  rcases List.mem_append.mp hx with hx | hx
  · exact told_rng sc x (List.mem_of_mem_take hx)
  · simp at hx; omega
theorem pick_idx (sc : List Int) : 0 ≤ ((codeF (toldF sc)).fdiv 7).fmod (((modesF (toldF sc)).length : Int) + 1) ∧ (((codeF (toldF sc)).fdiv 7).fmod (((modesF (toldF sc)).length : Int) + 1)).toNat < (pickF (toldF sc)).length := by
  have h0 : (0 : Int) < ((modesF (toldF sc)).length : Int) + 1 := by omega
  have a := Int.fmod_nonneg_of_pos ((codeF (toldF sc)).fdiv 7) h0
  have b := Int.fmod_lt_of_pos ((codeF (toldF sc)).fdiv 7) h0
  refine ⟨a, ?_⟩
  unfold pickF; simp; omega
theorem want_get (sc : List Int) : (pickF (toldF sc))[(((codeF (toldF sc)).fdiv 7).fmod (((modesF (toldF sc)).length : Int) + 1)).toNat]? = some (wantF (toldF sc)) := by
  unfold wantF
  rw [List.getD_eq_getElem?_getD, List.getElem?_eq_getElem (pick_idx sc).2]; rfl
theorem want_rng (sc : List Int) : 0 ≤ wantF (toldF sc) ∧ wantF (toldF sc) < 4294967296 := by
  have m := List.mem_of_getElem? (want_get sc)
  unfold pickF at m
  rcases List.mem_append.mp m with m | m
  · exact modes_rng sc _ m
  · rw [List.mem_singleton.mp m]
    have a := Int.fmod_nonneg_of_pos (codeF (toldF sc)) (b := 65536) (by decide)
    have b := Int.fmod_lt_of_pos (codeF (toldF sc)) (b := 65536) (by decide)
    omega
noncomputable def Ch (L : Addr) (h h' : Heap) : Prop := KX [L, L + 1, L + 2, L + 3, L + 4, 133, 140] h h'
noncomputable def At (L : Addr) (h : Heap) (a : Addr) (o : Obj) : Prop := h.get? a = some o ∧ @LE.le Nat _ (L + 5) a
noncomputable def flagF (cn : List Int) (want : Int) (sg : Str) (m : Int) : Bool := cn.all (cellOk m want (Txt.item sg 0))
/-- values that are pairs (int, text), each at b or newer -/
noncomputable def PS (b : Nat) (h : Heap) (ys : List Value) (l : List (Int × Str)) : Prop := ys.length = l.length ∧ ∀ (j : Nat) v, ys[j]? = some v → ∃ t c s u1 u2, v = .ref t ∧ @LE.le Nat _ b t ∧ h.IsTuple t #[.int c u1, .str s u2] ∧ l[j]? = some (c, s)
theorem PS.mv {b : Nat} {h h' : Heap} {ys : List Value} {l : List (Int × Str)} (x : PS b h ys l) (k : ∀ t o, @LE.le Nat _ b t → h.get? t = some o → h'.get? t = some o) : PS b h' ys l :=
  ⟨x.1, fun j v hv => let ⟨t, c, s, u1, u2, e, ht, it, hl⟩ := x.2 j v hv; ⟨t, c, s, u1, u2, e, ht, it.at fun o q => k t o ht q, hl⟩⟩
theorem PS.snoc {b : Nat} {h : Heap} {ys : List Value} {l : List (Int × Str)} {t : Addr} {c : Int} {s : Str} {u1 u2 : Tok} (x : PS b h ys l) (ht : @LE.le Nat _ b t) (it : h.IsTuple t #[.int c u1, .str s u2]) : PS b h (ys ++ [.ref t]) (l ++ [(c, s)]) := by
  refine ⟨by simp [x.1], fun j v hv => ?_⟩
  by_cases hj : j < ys.length
  · rw [List.getElem?_append_left hj] at hv
    obtain ⟨t', c', s', u1', u2', e, ht', it', hl⟩ := x.2 j v hv
    exact ⟨t', c', s', u1', u2', e, ht', it', by rw [List.getElem?_append_left (by rw [← x.1]; exact hj)]; exact hl⟩
  · rw [List.getElem?_append_right (by omega)] at hv
    have : j - ys.length = 0 := by
      cases hd : j - ys.length with
      | zero => rfl
      | succ n => rw [hd] at hv; simp at hv
    rw [this] at hv; simp at hv; subst hv
    exact ⟨t, c, s, u1, u2, rfl, ht, it, by rw [List.getElem?_append_right (by rw [← x.1]; omega), ← x.1, this]; rfl⟩
theorem PS.stb {b n : Nat} {h : Heap} {D : Addr} {kk : Nat} {ys : List Value} {l : List (Int × Str)} (x : PS b h ys l) (hD : h.get? D = some (lo ys.toArray kk)) (hn : n ≤ b) (hDn : @LE.le Nat _ n D) : Stb n h fun h' => Pairs h' D l := by
  refine ⟨D :: ys.filterMap (fun v => match v with | .ref t => some t | _ => none), fun a ha => .inl ?_, fun h' keep => ⟨ys.toArray, isList_lo (keep D (.head _) _ hD), by simpa using x.1, fun j v hv => ?_⟩⟩
  · rcases List.mem_cons.mp ha with e | ha
    · rw [e]; exact hDn
    · obtain ⟨v, hv, e⟩ := List.mem_filterMap.mp ha
      obtain ⟨j, hj, rfl⟩ := List.mem_iff_getElem.mp hv
      obtain ⟨t, c, s, u1, u2, ev, ht, _⟩ := x.2 j _ (List.getElem?_eq_getElem hj)
      rw [ev] at e; cases e
      exact Nat.le_trans hn ht
  · have hv' : ys[j]? = some v := by simpa using hv
    obtain ⟨t, c, s, u1, u2, rfl, ht, it, hl⟩ := x.2 j v hv'
    refine ⟨t, c, s, u1, u2, rfl, it.at fun o q => keep t (.tail _ ?_) o q, hl⟩
    exact List.mem_filterMap.mpr ⟨.ref t, List.mem_of_getElem? hv', rfl⟩
section
variable {w : World} {G : Shared} {A : Around} {h : Heap} {env : Env}
theorem take12 {α : Type} (l : List α) : (l.take 12).length ≤ 12 := by rw [List.length_take]; exact Nat.min_le_left _ _
theorem two1 {α : Type} (l : List α) : (l.take 2).length + 1 ≤ sizeLine := by rw [List.length_take]; exact Nat.le_trans (Nat.add_le_add_right (Nat.min_le_left _ _) 1) (by decide)
theorem pos11 {f : Int} (h : f < 9) : 0 < 11 - f := by omega
theorem ne11 {f : Int} (h : f < 9) : 11 - f ≠ 0 := by omega
theorem posn (n : Nat) : (0 : Int) < (n : Int) + 1 := by omega
theorem nen (n : Nat) : ((n : Int) + 1) ≠ 0 := by omega
theorem lt63n {x : Int} {n : Nat} (h : x < (n : Int) + 1) (hn : n ≤ 3) : x < 2 ^ 63 := by omega
theorem behR {f m : Int} (a : 0 ≤ m) (b : m < 11 - f) : f + 1 ≤ f + 1 + m ∧ f + 1 + m ≤ 11 := by omega
theorem longR {p s : Int} {n j : Nat} (a : 0 ≤ p ∧ p ≤ 51539607552) (b : 0 ≤ s ∧ s ≤ 51539607552 * ((j + 1 : Nat) : Int)) (hj : j < n) (hn : n ≤ 12) : (-2 ^ 63 ≤ p ∧ p < 2 ^ 63) ∧ -2 ^ 63 ≤ s ∧ s < 2 ^ 63 := by omega
theorem abs64 {c : Int} (h : 0 ≤ c ∧ c < 4294967296) : c.natAbs < 2 ^ 64 := by omega
theorem join33 {n : Nat} (h : n ≤ 3) : n * 11 + n * 0 ≤ 16777216 := by omega
theorem neg1n (n : Nat) : (-1 : Int) ≤ (n : Int) + 2 := by omega
theorem lt62 {n : Nat} (h : n ≤ sizeLine) : (n : Int) + 2 < 2 ^ 62 := by have : sizeLine = 16777216 := rfl; omega
theorem negle {n : Nat} (h : 0 < n) : -(n : Int) ≤ -1 := by omega
theorem lastN {n : Nat} : (-1 + (n : Int)).toNat = n - 1 := by omega
theorem units8 {u k : Nat} {c : Nat} (h : u + 3 + 8 * (k + 29) < c) : u + 3 + 64 < c := by omega
theorem len33 {n : Nat} (h : n ≤ 3) : 11 * n ≤ sizeLine := by have : sizeLine = 16777216 := rfl; omega
theorem At.ch {L a : Addr} {h h' : Heap} {o : Obj} (x : At L h a o) (c : Ch L h h') (hL : @LT.lt Nat _ 162 L) : At L h' a o := by
  refine ⟨c a o (fun hx => ?_) x.1, x.2⟩
  have := x.2
  simp only [List.mem_cons, List.not_mem_nil, or_false] at hx
  have key : ∀ b : Nat, a = b → b < L + 5 → False := fun b e hb => by rw [e] at this; exact Nat.lt_irrefl _ (Nat.lt_of_lt_of_le hb this)
  rcases hx with e | e | e | e | e | e | e
  · exact key L e (by omega)
  · exact key (L + 1) e (by omega)
  · exact key (L + 2) e (by omega)
  · exact key (L + 3) e (by omega)
  · exact key (L + 4) e (by omega)
  · exact key 133 e (by omega)
  · exact key 140 e (by omega)
theorem Ch.trans {L : Addr} {h h' h'' : Heap} (a : Ch L h h') (b : Ch L h' h'') : Ch L h h'' := KX.trans a b
theorem Ch.ext {L : Addr} {h h' : Heap} (a : Ext h h') : Ch L h h' := KX.ofExt a
theorem Ch.kx {L : Addr} {h h' : Heap} {X : List Addr} (a : KX X h h') (s : ∀ b ∈ X, b ∈ ([L, L + 1, L + 2, L + 3, L + 4, 133, 140] : List Addr)) : Ch L h h' := a.mono s
theorem Ch.L {L : Addr} {h h' : Heap} (a : KX [L] h h') : Ch L h h' := a.mono fun b hb => by rw [List.mem_singleton.mp hb]; exact .head _
noncomputable def CW (w : World) (G : Shared) (A : Around) (c : Code) (h : Heap) (Q : Value → Heap → Prop) : Prop := ∀ tk, codeAny (model PR w) A c (fun r s' => ∃ v h' tk', r = .ok (.ret v) ∧ s' = St G h' tk' ∧ Q v h') (St G h tk)
theorem CW.intoC {f : Addr} {o : Obj} {name qual : Str} {params : Arguments} {body : List Stmt} {scope : Scope} {dV kV doc pm cdv ct : Value} {an : Option Addr} {vs : List Value} {binds : List (Str × Value)} {Q : Value → Heap → Prop} {k : Nat} (T : List Addr)
    (r : Rm A (k + 1)) (hl : h.NoLimit) (ho : h.get? f = some o) (hd : o.data = .func (fnX name qual params body scope [] dV kV doc pm an cdv ct)) (hc : h.CodeRec cdv qual)
    (hb : bindArgs (fnX name qual params body scope [] dV kV doc pm an cdv ct) ⟨vs, []⟩ = Pure.pure binds) (hkind : (binds.all fun y => scope.names.lookup y.1 == some .local || scope.names.lookup y.1 == some .cell) = true)
    (H : ∀ L h₁, Fk T [L] h L (bindL (envX qual scope L f cdv (cellsFrom (L + 1) scope.names [])).kindOf binds fun _ => none) h₁ h₁ → Ext h h₁ →
      (∀ n c, (cellsFrom (L + 1) scope.names []).lookup n = some c → h₁.IsCell c (bindC (envX qual scope L f cdv (cellsFrom (L + 1) scope.names [])).kindOf binds (fun _ => none) n)) →
      W w G (A.deeper (envX qual scope L f cdv (cellsFrom (L + 1) scope.names []))) (execs body (envX qual scope L f cdv (cellsFrom (L + 1) scope.names []))) h₁ fun fl h' => Q (match fl with | .ret v => v | _ => .none) h')
    (hco : scope.isCoroutine = false := by rfl) (hgen : scope.isGenerator = false := by rfl) (hk : scope.kind = .function := by rfl) : CW w G A (.call (.ref f) ⟨vs, []⟩) h Q := fun tk =>
  codeAny_call_cells (s := St G h tk) (fd := fnX name qual params body scope [] dV kV doc pm an cdv ct) (body := body) (by have := r.dp; omega) ho hd hl hc rfl hb rfl (kindsX hkind _)
    (fun s₁ x => by
      obtain ⟨h₁, tk₁, rfl⟩ := x.toInCall.same
      exact W.nest ((H h.objs.size h₁ ⟨x.toInCall.ns, KX.ofExt x.toInCall.keep, KX.refl _ _, List.mem_singleton.mpr rfl, Nat.le_refl _⟩ x.toInCall.keep x.cell).mono fun fl h' q => fun tk' => ⟨_, h', tk', rfl, rfl, q⟩)) hco hgen hk

theorem law_says {sc : Addr} {vs : List Value} {scI : List Int} {k : Nat} (g : Gd w h) (t1 : h.get? 133 = some (tabObj #[])) (t2 : h.get? 140 = some (tabObj #[])) (r : Rm A (k + 30)) (il : h.IsList sc vs.toArray) (hi : IntsAre vs scI) (hlen : scI.length ≤ 63) :
    CW w G A (.call (.ref 162) ⟨[.ref sc], []⟩) h fun v h' => v = .bool true ∧ KX [133, 140] h h' ∧ (∃ ps, h'.get? 133 = some (tabObj ps)) ∧ (∃ ps, h'.get? 140 = some (tabObj ps)) := by
  refine CW.intoC [] (k := k + 29) r g.nolimit (g.X _ _ (by k_is)) rfl (codeRec_of g.X (by k_is)) rfl rfl fun L h₁ F₁ e₁ cel => ?_
  refine W.hide fun Q₀ hQ₀ => ?_
  have g₁ := g.keeps e₁
  have hL : @LT.lt Nat _ 162 L := Nat.lt_of_lt_of_le g.lt F₁.lt
  have c1 : h₁.IsCell (L + 1) none := cel "wanted" (L + 1) rfl
  have c2 : h₁.IsCell (L + 2) none := cel "signs" (L + 2) rfl
  have c3 : h₁.IsCell (L + 3) none := cel "counted" (L + 3) rfl
  have c4 : h₁.IsCell (L + 4) none := cel "col" (L + 4) rfl
  have hL5 : @LE.le Nat _ (L + 5) h₁.objs.size := by obtain ⟨o, ho, _⟩ := c4; exact lt_of_get ho
  have hT : ∀ b ∈ ([] : List Addr), b ∈ ([133, 140] : List Addr) := fun _ q => nomatch q
  have szv : vs.length = scI.length := (ints_at hi).1
  -- told
  refine W.seq (J := fun hc => ∃ D ys kk m', Fk [] [L] h L m' h₁ hc ∧ m' "told" = some (.ref D) ∧ At L hc D (lo (List.toArray ys) kk) ∧ IntsAre ys (toldF scI)) (W.assign (W.orL (W.compList (by exact r.hd) rfl (by decide) rfl (by decide) rfl (W.sliceTo ((EV.lc F₁ rfl rfl : EV w _ _ h₁ _ (IsV (.ref sc))).use fun v e => ⟨sc, vs, 12, e, il.at fun o e => e₁ _ _ e, ?_, EV.int, fun D h₂ hD e₂ oD => ?_⟩))))) ?_
  · rw [szv]; exact Nat.le_trans hlen (by decide)
  · have it := ints_take 12 hi
    obtain ⟨sz, iat⟩ := ints_arr it
    have hz12 : (vs.take 12).toArray.size ≤ 12 := take12 vs
    refine ⟨D, _, rfl, isList_lo oD, Nat.le_trans hz12 (by decide), fun i ys _ => IntsAre ys (modF ((scI.take 12).take i)), .nil, fun _ _ _ _ j _ => j, ?_, ?_⟩
    · intro i v ys C m hc hv j hC hn hm ex sz'
      obtain ⟨c, hcc, tv, rfl⟩ := iat i v hv
      refine (EV.mod (EV.loc hn hm ⟨_, rfl⟩) EV.int (by decide)).use fun y hy => ⟨fun _ _ e => e, ?_⟩
      show IntsAre (ys ++ [y]) (modF ((scI.take 12).take (i + 1)))
      rw [modF_snoc hcc]
      exact ints_snoc j hy
    · intro D2 ys kk h₃ hD2 j o₃ e₃
      have D2n : @LE.le Nat _ (L + 5) D2 := by rw [hD2]; exact Nat.le_trans hL5 (Nat.le_trans (Nat.le_trans hD (Nat.le_of_lt (lt_of_get oD))) (Nat.le_succ _))
      have F₃ := (F₁.more e₂).more e₃
      have jj : IntsAre ys (modF (scI.take 12)) := by rw [sz, List.take_length] at j; exact j
      obtain ⟨sy, _⟩ := ints_arr jj
      have lm : (modF (scI.take 12)).length ≤ 12 := by unfold modF; rw [List.length_map]; exact take12 scI
      refine ⟨D2, ys.toArray, rfl, isList_lo o₃, by rw [sy]; exact Nat.le_trans lm (by decide), fun hz => ?_, fun hz => ?_⟩
      · rw [sy] at hz
        refine W.listO (W.args2 (P := IsI 16877) (P' := IsI 33188) (by exact EV.int) (by exact EV.int) fun v v' e e' => ⟨by show (2 : Nat) ≤ _; decide, fun D3 h₄ hD3 e₄ o₄ => ?_⟩)
        refine W.st (F₃.more e₄) fun h₅ F₅ s₅ => ⟨rfl, D3, _, _, _, F₅, rfl, ⟨(s₅.2 D3 ?_).trans o₄, ?_⟩, ?_⟩
        · rw [hD3]; exact addr_ne (.inr F₃.ns.lt)
        · rw [hD3]; exact Nat.le_trans D2n (Nat.le_of_lt (lt_of_get o₃))
        · obtain ⟨_, rfl⟩ := e; obtain ⟨_, rfl⟩ := e'
          unfold toldF; rw [if_pos hz]; exact .cons _ _ (.cons _ _ .nil)
      · rw [sy] at hz
        refine W.st F₃ fun h₅ F₅ s₅ => ⟨rfl, D2, _, _, _, F₅, rfl, ⟨(s₅.2 D2 (ne5 D2n)).trans o₃, D2n⟩, ?_⟩
        unfold toldF; rw [if_neg hz]; exact jj
  rintro ha ⟨D, ys, kk, ma, Fa, ma1, aD, iD⟩
  obtain ⟨szD, atD⟩ := ints_arr iD
  have tl := told_len scI
  have ga := Fa.gd g hT
  -- modes
  refine W.execs_cons (W.assign (W.binop (W.sliceTo ((EV.lc Fa ma1 rfl : EV w _ _ ha _ (IsV (.ref D))).use fun v e => ⟨D, ys, 2, e, isList_lo aD.1, ?_, EV.int, fun D2 h₂ hD2 e₂ o₂ => W.listO (W.args1 (P := IsI 33188) (by exact EV.int) fun v e => ⟨by show (1 : Nat) ≤ _; decide, fun D3 h₃ hD3 e₃ o₃ => ?_⟩)⟩))))
  · have : ys.length = (toldF scI).length := by simpa using szD
    rw [this]; exact Nat.le_trans tl.2 (by decide)
  refine W.addLL (e₃ _ _ o₂) o₃ ?_ fun M h₄ hM e₄ oM => ?_
  · exact two1 ys
  obtain ⟨t33, rfl⟩ := e
  have iM : IntsAre (ys.take 2 ++ [.int 33188 t33]) (modesF (toldF scI)) := (ints_take 2 iD).append (.cons _ _ .nil)
  generalize hvm : ys.take 2 ++ [Value.int 33188 t33] = vm at *
  have hMn : @LE.le Nat _ (L + 5) M := Nat.le_trans (Nat.le_trans aD.2 (Nat.le_of_lt (lt_of_get (e₃ _ _ (e₂ _ _ aD.1))))) hM
  have Fb := ((Fa.more e₂).more e₃).more e₄
  refine W.st Fb fun hb Fb s₅ => ?_
  show W _ _ _ (execs _ _) _ _
  have aM : At L hb M (lo vm.toArray 0) := ⟨(s₅.2 M (ne5 hMn)).trans oM, hMn⟩
  have aDb : At L hb D (lo ys.toArray kk) := ⟨(s₅.2 D (ne5 aD.2)).trans (e₄ _ _ (e₃ _ _ (e₂ _ _ aD.1))), aD.2⟩
  have gb := Fb.gd g hT
  -- code
  obtain ⟨szM, atM⟩ := ints_arr iM
  refine W.execs_cons (W.assign (W.callBi (EV.bi gb (by k_is) rfl (by decide)) (W.args_cons (W.comp rfl (by decide) rfl (by decide) (W.enumL gb (by exact r.hd) (EV.lc Fb ma1 rfl) (isList_lo aDb.1) (fun I it h₂ hI hit sz₂ e₂ Md S Wk s0 selfI => ?_) (hn := by k_is))))))
  have DltB : @LT.lt Nat _ D hb.objs.size := lt_of_get aDb.1
  have upB : ∀ hc : Heap, (∀ b o, b ∉ [I, it] → h₂.get? b = some o → hc.get? b = some o) → Ext hb hc := fun hc k b o e => k b o (fun hx => by
    have := lt_of_get e
    rcases mem2 hx with q | q
    · rw [q, hI] at this; exact Nat.lt_asymm (Nat.lt_succ_self _) this
    · rw [q, hit] at this; exact Nat.lt_irrefl _ this) (e₂ b o e)
  refine ⟨I, _, _, _, _, _, _, fun i zs _ => IntsAre zs ((prodsF (toldF scI)).take i), rfl, Wk _ _ _, selfI, by rw [szD]; exact Nat.le_trans tl.2 (by decide), s0, ?_, CompTurns.pairK (by exact r.hd) rfl rfl rfl ?_ .nil (fun _ _ _ _ j _ => j) ?_, ?_⟩
  · intro b hb'
    rw [sz₂]
    rcases List.mem_cons.mp hb' with e | hb'
    · rw [e, hI]; exact Nat.lt_succ_self _
    · rcases mem2 hb' with e | e
      · rw [e, hit]; exact Nat.lt_add_of_pos_right (by decide)
      · rw [e]; exact Nat.lt_add_right 2 DltB
  · rintro i v hc ⟨T, vals, rfl, ⟨t, x, hx, rfl⟩, it⟩ _
    exact ⟨T, _, _, rfl, it⟩
  · rintro i v T u w' zs C m hc₀ hc hi ⟨T', vals, e1, ⟨t, x, hx, rfl⟩, it'⟩ e2 itT k₀ j hC hn hka hkb k sz'
    rw [e2] at e1; cases e1
    obtain ⟨o1, a1, b1, n1, f1⟩ := itT
    obtain ⟨o2, a2, b2, n2, f2⟩ := it'
    rw [a1] at a2; cases a2
    rw [f1] at f2; cases f2
    obtain ⟨c, hcc, tc, ex⟩ := atD i _ hx
    subst ex
    have cr := told_rng scI c (List.mem_of_getElem? hcc)
    have il' : i < (toldF scI).length := by rw [szD] at hi; exact hi
    refine (EV.mul (EV.loc hn hkb ⟨_, rfl⟩) (EV.add (EV.loc hn (hka (by decide)) ⟨_, rfl⟩) EV.int) (IntMulOk.of_left (intBits_le_iff.mpr (abs64 cr)))).use fun y hy => ⟨fun _ _ e => e, ?_⟩
    show IntsAre (zs ++ [y]) ((prodsF (toldF scI)).take (i + 1))
    have pg : (prodsF (toldF scI))[i]? = some (c * ((i : Int) + 1)) := by
      unfold prodsF
      rw [List.getElem?_map, List.getElem?_range il']
      simp [List.getD_eq_getElem?_getD, hcc]
    rw [List.take_add_one, pg]
    exact ints_snoc j hy
  · intro D4 zs k4 h₃ hD4 j o₄ k'
    have e₃ := upB h₃ k'
    refine W.args_nil (W.sumL (by exact r.hd) o₄ (ns := prodsF (toldF scI)) ?_ ?_ fun v h₄ e₄ hv => ?_)
    · have : (prodsF (toldF scI)).take ys.toArray.size = prodsF (toldF scI) := by rw [szD, ← prods_len, List.take_length]
      rw [this] at j; exact j
    · intro jx hj
      rw [prods_len] at hj
      have p1 := prods_rng (sc := scI) hj
      have p2 := preSum_rng (sc := scI) (jx + 1) hj
      unfold InLong
      exact longR p1 p2 hj tl.2
    have hv : IsI (codeF (toldF scI)) v := hv
    obtain ⟨tc, rfl⟩ := hv
    have cr := code_rng scI
    generalize hcode : codeF (toldF scI) = code at *
    refine W.st ((Fb.more e₃).more e₄) fun hc Fc s₆ => ?_
    show W _ _ _ (execs _ _) _ _
    have aMc : At L hc M (lo vm.toArray 0) := ⟨(s₆.2 M (ne5 hMn)).trans (e₄ _ _ (e₃ _ _ aM.1)), hMn⟩
    have gc := Fc.gd g hT
    have cc : ∀ {j : Nat}, 0 < j → j < 5 → ∀ {v}, h₁.IsCell (L + j) v → hc.IsCell (L + j) v := fun {j} j0 j5 {v} x => isCell_kx x Fc.kp (not_mem1 (neLj j (by assumption)))
    have d1 := cc (j := 1) (by decide) (by decide) c1
    have d2 := cc (j := 2) (by decide) (by decide) c2
    have d3 := cc (j := 3) (by decide) (by decide) c3
    have d4 := cc (j := 4) (by decide) (by decide) c4
    have ml := modes_len scI
    -- wanted
    refine W.execs_cons (W.assign (W.itemL (W.binop ((EV.lc Fc rfl rfl : EV w _ _ hc _ (IsV (.ref M))).useV ?_))))
    refine W.listO (W.args1 (P := IsI (code.fmod 65536)) (by exact EV.mod (EV.lc Fc rfl ⟨_, rfl⟩) EV.int (by decide)) fun v e => ⟨by show (1 : Nat) ≤ _; decide, fun D5 h₅ hD5 e₅ o₅ => ?_⟩)
    have lvm : vm.length = (modesF (toldF scI)).length := by simpa using szM
    refine W.addLL (e₅ _ _ aMc.1) o₅ (by rw [lvm]; exact Nat.le_trans (Nat.add_le_add_right ml.2 1) (by decide)) fun D6 h₆ hD6 e₆ o₆ => ?_
    have iP : IntsAre (vm ++ [v]) (pickF (toldF scI)) := by unfold pickF; rw [hcode]; exact ints_snoc iM e
    obtain ⟨szP, atP⟩ := ints_arr iP
    have pidx := pick_idx scI
    have wget := want_get scI
    rw [hcode, ← szM] at pidx wget
    obtain ⟨xv, hxv⟩ : ∃ xv, (vm ++ [v]).toArray[((code.fdiv 7).fmod (((vm.toArray.size : Nat) : Int) + 1)).toNat]? = some xv := ⟨_, Array.getElem?_eq_getElem (by rw [szP]; exact pidx.2)⟩
    obtain ⟨cw, hcw, tw, ew⟩ := atP _ _ hxv
    subst ew
    rw [wget] at hcw
    injection hcw with hcw
    subst hcw
    have F6 := (Fc.more e₅).more e₆
    have g6 := F6.gd g hT
    have lt63 : (code.fdiv 7).fmod (((vm.toArray.size : Nat) : Int) + 1) < 2 ^ 63 := by
      exact lt63n (Int.fmod_lt_of_pos (code.fdiv 7) (posn _)) (by rw [szM]; exact ml.2)
    refine ⟨D6, _, _, _, rfl, isList_lo o₆, EV.mod (EV.floordiv (EV.lc F6 rfl ⟨_, rfl⟩) EV.int (by decide) (by decide)) (EV.add (EV.lenL g6 (EV.lc F6 rfl rfl) (isList_lo (e₆ _ _ (e₅ _ _ aMc.1))) (by rw [szM]; exact Nat.le_trans ml.2 (by decide)) (by k_is)) EV.int) (nen _), pidx.1, lt63, hxv, ?_⟩
    have wr := want_rng scI
    generalize hwant : wantF (toldF scI) = want at *
    refine W.storeC rfl (isCell_keeps (isCell_keeps d1 e₅) e₆) fun hd x1 s₇ => ?_
    show W _ _ _ (execs _ _) _ _
    have kd : KX [L + 1] h₆ hd := KX.same s₇ (.head _)
    have ne : ∀ {i j : Nat}, i ≠ j → (L + i) ∉ ([L + j] : List Addr) := fun {i j} q => neIJ q
    have F7 := F6.re s₇ (neLj 1 (by decide)) (Nat.le_trans F₁.lt (Nat.le_add_right L 1))
    have g7 := F7.gd g hT
    have x2 := isCell_kx (isCell_keeps (isCell_keeps d2 e₅) e₆) kd (ne (by decide))
    have x3 := isCell_kx (isCell_keeps (isCell_keeps d3 e₅) e₆) kd (ne (by decide))
    have x4 := isCell_kx (isCell_keeps (isCell_keeps d4 e₅) e₆) kd (ne (by decide))
    have aM7 : At L hd M (lo vm.toArray 0) := ⟨kd _ _ (not_mem1 (ne5j 1 hMn (by decide))) (e₆ _ _ (e₅ _ _ aMc.1)), hMn⟩
    -- signs
    refine W.execs_cons (W.assign (W.callFn (EV.glob g7 (by k_is)) rfl (W.args1I (n := want.fmod 65536) (by exact EV.mod (EV.cell rfl x1 ⟨_, rfl⟩) EV.int (by decide)) fun tm => ⟨g7.X _ _ (by k_is), ?_⟩)))
    refine signs_says (k := k + 28) g7 (r.deeper _) (Int.fmod_nonneg_of_pos _ (by decide)) (Int.fmod_lt_of_pos _ (by decide)) fun v h₈ e₈ hv => ?_
    obtain ⟨ts, rfl⟩ := hv
    have lsg : (sgF (want.fmod 65536) 3).length = 10 := len_sg _ 3
    generalize hsg : sgF (want.fmod 65536) 3 = sg at *
    have F8 := F7.more e₈
    refine W.storeC rfl (isCell_keeps x2 e₈) fun he y2 s₈ => ?_
    show W _ _ _ (execs _ _) _ _
    have ke : KX [L + 2] h₈ he := KX.same s₈ (.head _)
    have F9 := F8.re s₈ (neLj 2 (by decide)) (Nat.le_trans F₁.lt (Nat.le_add_right L 2))
    have y1 := isCell_kx (isCell_keeps x1 e₈) ke (ne (i := 1) (by decide))
    have y3 := isCell_kx (isCell_keeps x3 e₈) ke (ne (by decide))
    have y4 := isCell_kx (isCell_keeps x4 e₈) ke (ne (by decide))
    have aM9 : At L he M (lo vm.toArray 0) := ⟨ke _ _ (not_mem1 (ne5j 2 hMn (by decide))) (e₈ _ _ aM7.1), hMn⟩
    -- counted
    refine W.execs_cons (W.assign (W.listO (W.args_cons (EV.useI (n := code.fmod 10) (by exact EV.mod (EV.lc F9 rfl ⟨_, rfl⟩) EV.int (by decide)) fun q1 => W.args2I (m := (code.fdiv 10).fmod 10) (n := (code.fdiv 100).fmod 10) (by exact EV.mod (EV.floordiv (EV.lc F9 rfl ⟨_, rfl⟩) EV.int (by decide) (by decide)) EV.int (by decide))
      (by exact EV.mod (EV.floordiv (EV.lc F9 rfl ⟨_, rfl⟩) EV.int (by decide) (by decide)) EV.int (by decide)) fun q2 q3 => ⟨by show (3 : Nat) ≤ _; decide, fun C hf hC ef oC => ?_⟩))))
    have hCn : @LE.le Nat _ (L + 5) C := by rw [hC]; exact Nat.le_trans hMn (Nat.le_of_lt (lt_of_get aM9.1))
    have F10 := F9.more ef
    refine W.storeC rfl (isCell_keeps y3 ef) fun hg z3 s₉ => ?_
    show W _ _ _ (execs _ _) _ _
    have kg : KX [L + 3] hf hg := KX.same s₉ (.head _)
    have F11 := F10.re s₉ (neLj 3 (by decide)) (Nat.le_trans F₁.lt (Nat.le_add_right L 3))
    have z1 := isCell_kx (isCell_keeps y1 ef) kg (ne (i := 1) (by decide))
    have z2 := isCell_kx (isCell_keeps y2 ef) kg (ne (i := 2) (by decide))
    have z4 := isCell_kx (isCell_keeps y4 ef) kg (ne (by decide))
    have aMg : At L hg M (lo vm.toArray 0) := ⟨kg _ _ (not_mem1 (ne5j 3 hMn (by decide))) (ef _ _ aM9.1), hMn⟩
    have iC : IntsAre [Value.int (code.fmod 10) q1, .int ((code.fdiv 10).fmod 10) q2, .int ((code.fdiv 100).fmod 10) q3] [code.fmod 10, (code.fdiv 10).fmod 10, (code.fdiv 100).fmod 10] := .cons _ _ (.cons _ _ (.cons _ _ .nil))
    have aCg : At L hg C (lo ([Value.int (code.fmod 10) q1, .int ((code.fdiv 10).fmod 10) q2, .int ((code.fdiv 100).fmod 10) q3] : List Value).toArray 0) := ⟨kg _ _ (not_mem1 (ne5j 3 hCn (by decide))) oC, hCn⟩
    have rngC : ∀ c ∈ [code.fmod 10, (code.fdiv 10).fmod 10, (code.fdiv 100).fmod 10], 0 ≤ c ∧ c < 10 := by
      intro c hc
      simp only [List.mem_cons, List.not_mem_nil, or_false] at hc
      rcases hc with e | e | e <;> rw [e] <;> exact ⟨Int.fmod_nonneg_of_pos _ (by decide), Int.fmod_lt_of_pos _ (by decide)⟩
    generalize hcv : [Value.int (code.fmod 10) q1, .int ((code.fdiv 10).fmod 10) q2, .int ((code.fdiv 100).fmod 10) q3] = cv at *
    generalize hcn : [code.fmod 10, (code.fdiv 10).fmod 10, (code.fdiv 100).fmod 10] = cn at *
    -- first, behind, starred
    refine W.execs_cons (W.assign ((EV.mod (EV.lc F11 rfl ⟨_, rfl⟩) EV.int (by decide)).useI fun tf => ?_))
    have fr : 0 ≤ code.fmod 9 ∧ code.fmod 9 < 9 := ⟨Int.fmod_nonneg_of_pos _ (by decide), Int.fmod_lt_of_pos _ (by decide)⟩
    generalize hfirst : code.fmod 9 = first at *
    refine W.st F11 fun h12 F12 s12 => ?_
    show W _ _ _ (execs _ _) _ _
    refine W.execs_cons (W.assign ((EV.add (EV.add (EV.lc F12 rfl ⟨_, rfl⟩) EV.int) (EV.mod (EV.floordiv (EV.lc F12 rfl ⟨_, rfl⟩) EV.int (by decide) (by decide)) (EV.sub EV.int (EV.lc F12 rfl ⟨_, rfl⟩)) (ne11 fr.2))).useI fun tb => ?_))
    have br : first + 1 ≤ first + 1 + (code.fdiv 9).fmod (11 - first) ∧ first + 1 + (code.fdiv 9).fmod (11 - first) ≤ 11 := by
      exact behR (Int.fmod_nonneg_of_pos (code.fdiv 9) (pos11 fr.2)) (Int.fmod_lt_of_pos (code.fdiv 9) (pos11 fr.2))
    generalize hbehind : first + 1 + (code.fdiv 9).fmod (11 - first) = behind at *
    refine W.st F12 fun h13 F13 s13 => ?_
    show W _ _ _ (execs _ _) _ _
    refine W.execs_cons (W.assign ((EV.cmp (EV.mod (EV.lc F13 rfl ⟨_, rfl⟩) EV.int (by decide)) EV.int gt_ii).useB ?_))
    generalize hst : decide (1 < code.fmod 4) = st at *
    refine W.st F13 fun h14 F14 s14 => ?_
    show W _ _ _ (execs _ _) _ _
    have k14 : KX [L] hg h14 := F14.kp
    have nL : ∀ {j : Nat}, 0 < j → (L + j) ∉ ([L] : List Addr) := fun {j} q => not_mem1 (neLj j (by assumption))
    have p1 := isCell_kx z1 k14 (nL (j := 1) (by decide))
    have p2 := isCell_kx z2 k14 (nL (j := 2) (by decide))
    have p3 := isCell_kx z3 k14 (nL (j := 3) (by decide))
    have p4 := isCell_kx z4 k14 (nL (j := 4) (by decide))
    have aM14 : At L h14 M (lo vm.toArray 0) := ⟨k14 _ _ (not_mem1 (ne5 hMn)) aMg.1, hMn⟩
    have aC14 : At L h14 C (lo cv.toArray 0) := ⟨k14 _ _ (not_mem1 (ne5 hCn)) aCg.1, hCn⟩
    have F14m := F14.mark
    have g14 := F14.gd g hT
    have Mlt : @LT.lt Nat _ M h14.objs.size := lt_of_get aM14.1
    obtain ⟨szC, atC⟩ := ints_arr iC
    have ml3 : (modesF (toldF scI)).length ≤ 3 := ml.2
    generalize hmodes : modesF (toldF scI) = modes at *
    -- flags
    refine W.execs_cons (W.assignComp F14m (fun b hb => by rw [List.mem_singleton.mp hb]; exact F14.ns.lt) rfl (by decide) rfl (by decide) ((EV.lc F14m rfl rfl : EV w _ _ h14 _ (IsV (.ref M))).useV ?_))
    refine W.iterList (isList_lo aM14.1) fun I h₂ hI sz₂ e₂ ii => ?_
    have MI : M ≠ I := by rw [hI]; exact Nat.ne_of_lt Mlt
    have upA : ∀ hc : Heap, (∀ b o, b ∉ [I] → h₂.get? b = some o → hc.get? b = some o) → Ext h14 hc := fun hc k b o e => k b o (not_mem1 (by rw [hI]; exact Nat.ne_of_lt (lt_of_get e))) (e₂ b o e)
    refine ⟨e₂, by rw [sz₂]; exact Nat.le_succ _, I, _, _, _, _, _, _, fun i ys _ => ys = ((modes.take i).map (flagF cn want sg)).map Value.bool, rfl, turns_list (by exact r.hd) I M MI vm.toArray, fun st q => wpAny_pyIter_listiter st.1 q, by rw [szM]; exact Nat.le_trans ml3 (by decide), ⟨ii, (isList_lo aM14.1).at fun o e => e₂ _ _ e⟩, ?_, ?_, ?_, fun _ _ _ _ j _ => j, ?_⟩
    · intro b hb
      rw [sz₂]
      rcases mem2 hb with e | e
      · rw [e, hI]; exact Nat.lt_succ_self _
      · rw [e]; exact Nat.lt_succ_of_lt Mlt
    · intro b hb; rw [List.mem_singleton.mp hb, hI]; exact Nat.le_refl _
    · refine CompTurns.name rfl rfl rfl (fun _ _ _ _ j _ => j) ?_
      intro i v ys C' m hc₀ hc hi pv _ j hC' hn hm kq sz'
      have ex := upA hc kq
      have gx := g14.keeps ex
      obtain ⟨c, hcc, tc, ec⟩ := atM i v pv
      subst ec
      refine W.callFn (EV.globE gx (by k_is) rfl rfl rfl) rfl (W.args_cons ((EV.loc hn hm rfl : EV w _ _ hc _ (IsV (.int c tc))).useV (W.args_cons ((EV.cell rfl (isCell_keeps p1 ex) rfl : EV w _ _ hc _ (IsV (.int want tw))).useV (
        W.args2 (P := IsS (Txt.item sg 0)) (P' := IsV (.ref C)) (by exact EV.itemS (EV.cell rfl (isCell_keeps p2 ex) ⟨_, rfl⟩) EV.int (by decide) (by rw [lsg]; decide) (by rw [lsg]; decide)) (by exact EV.cell rfl (isCell_keeps p3 ex) rfl) fun v3 v4 e3 e4 => ⟨gx.X _ _ (by k_is), ?_⟩)))))
      cases e4; obtain ⟨t3, rfl⟩ := e3
      refine agrees_says (k := k + 17) gx (r.deeper _) (isList_lo (ex _ _ aC14.1)) szC atC rngC fun v h' e' hv => ⟨e', ?_⟩
      cases hv
      show ys ++ _ = _
      rw [j, List.take_add_one, hcc]
      simp [flagF]
    · intro D ys kk h15 hD j oD F15
      have j' : ys = (modes.map (flagF cn want sg)).map Value.bool := by rw [j, szM, List.take_length]
      rw [j'] at oD
      generalize hflags : modes.map (flagF cn want sg) = flags at *
      have lfl : flags.length = modes.length := by rw [← hflags]; simp
      have g15 := F15.gd g hT
      have k15 : KX [L] h14 h15 := F15.kp
      have hDn : @LE.le Nat _ (L + 5) D := Nat.le_trans (Nat.le_trans hMn (Nat.le_of_lt Mlt)) hD
      have p1 := isCell_kx p1 k15 (nL (j := 1) (by decide))
      have p2 := isCell_kx p2 k15 (nL (j := 2) (by decide))
      have p3 := isCell_kx p3 k15 (nL (j := 3) (by decide))
      have p4 := isCell_kx p4 k15 (nL (j := 4) (by decide))
      have aM15 : At L h15 M (lo vm.toArray 0) := ⟨k15 _ _ (not_mem1 (ne5 hMn)) aM14.1, hMn⟩
      have aC15 : At L h15 C (lo cv.toArray 0) := ⟨k15 _ _ (not_mem1 (ne5 hCn)) aC14.1, hCn⟩
      show W _ _ _ (execs _ _) _ _
      -- spans
      refine W.execs_cons (W.assign (W.callFn (EV.glob g15 (by k_is)) rfl (W.args_cons ((EV.lc F15 rfl rfl : EV w _ _ h15 _ (IsV (.ref D))).useV (W.args_cons ((EV.lc F15 rfl rfl : EV w _ _ h15 _ (IsV (.int first tf))).useV (
        W.args2V (x := .int behind tb) (y := .bool st) (by exact EV.lc F15 rfl rfl) (by exact EV.lc F15 rfl rfl) ⟨g15.X _ _ (by k_is), ?_⟩)))))))
      refine finds_says (k := k + 27) g15 (r.deeper _) (isList_lo oD) (by rw [lfl]; exact Nat.le_trans ml3 (by decide)) fun SP sitems sn h16 e16 hSP oSP piSP => ?_
      rw [lfl] at piSP
      generalize hspans : findsTo first behind st flags modes.length = spans at *
      have F16 := F15.more e16
      refine W.st F16 fun h17 F17 s17 => ?_
      show W _ _ _ (execs _ _) _ _
      have k17 : KX [L] h16 h17 := KX.same s17 (.head _)
      have sz15 : @LE.le Nat _ (L + 5) h15.objs.size := Nat.le_trans hMn (Nat.le_of_lt (lt_of_get aM15.1))
      have SPn : @LE.le Nat _ (L + 5) SP := Nat.le_trans sz15 hSP
      have oSP17 := k17 _ _ (not_mem1 (ne5 SPn)) oSP
      have pi17 : PairsI (L + 5) h17 sitems spans := (piSP.le sz15).kx k17 fun x hx => by rw [List.mem_singleton.mp hx]; exact Nat.lt_add_of_pos_right (by decide)
      have p1 := isCell_kx (isCell_keeps p1 e16) k17 (nL (j := 1) (by decide))
      have p2 := isCell_kx (isCell_keeps p2 e16) k17 (nL (j := 2) (by decide))
      have p3 := isCell_kx (isCell_keeps p3 e16) k17 (nL (j := 3) (by decide))
      have p4 := isCell_kx (isCell_keeps p4 e16) k17 (nL (j := 4) (by decide))
      have aM17 : At L h17 M (lo vm.toArray 0) := ⟨k17 _ _ (not_mem1 (ne5 hMn)) (e16 _ _ aM15.1), hMn⟩
      have aC17 : At L h17 C (lo cv.toArray 0) := ⟨k17 _ _ (not_mem1 (ne5 hCn)) (e16 _ _ aC15.1), hCn⟩
      have g17 := F17.gd g hT
      have sz17 : @LE.le Nat _ (L + 5) h17.objs.size := Nat.le_trans hMn (Nat.le_of_lt (lt_of_get aM17.1))
      -- prog
      obtain ⟨o145, d145, at145, hd145⟩ : ∃ o fd, (∀ {h}, Gd w h → h.get? 145 = some o) ∧ o.data = .func fd := ⟨_, _, fun g => g.X _ _ (by k_is), rfl⟩
      refine W.execs_cons (W.assign (W.callFn (EV.glob g17 (by k_is)) hd145 (W.args_cons (W.compList (by exact r.hd) rfl (by decide) rfl (by decide) rfl ((EV.cell rfl p3 rfl : EV w _ _ h17 _ (IsV (.ref C))).useV ?_)))))
      refine ⟨C, _, rfl, isList_lo aC17.1, by rw [szC, ← hcn]; show (3 : Nat) ≤ _; decide, fun i ys hc => PS (h17.objs.size + 3) hc ys ((cn.map fun c => (c, Txt.item sg c)).take i), ⟨rfl, fun j v hv => by simp at hv⟩, ?_, ?_, ?_⟩
      · intro i ys hc hc' j kb
        exact j.mv fun t o ht e => kb t o e (.inl ht)
      · intro i v ys C' m hc hv j hC' hn hm ex sz'
        obtain ⟨c, hcc, tc, ec⟩ := atC i v hv
        subst ec
        have cr := rngC c (List.mem_of_getElem? hcc)
        refine W.tupleD (W.args2 (P := IsI c) (P' := IsS (Txt.item sg c)) (by exact EV.loc hn hm ⟨_, rfl⟩) (by exact EV.itemS (EV.cell rfl (isCell_keeps p2 ex) ⟨_, rfl⟩) (EV.loc hn hm ⟨_, rfl⟩) cr.1 (by rw [lsg]; exact cr.2) (by rw [lsg]; decide)) fun v1 v2 e1 e2 => ⟨by show (2 : Nat) ≤ _; decide, fun T h₄ hT' e₄ it4 => ⟨e₄, ?_⟩⟩)
        obtain ⟨a1, rfl⟩ := e1; obtain ⟨a2, rfl⟩ := e2
        have tk' : (cn.map fun c => (c, Txt.item sg c)).take (i + 1) = (cn.map fun c => (c, Txt.item sg c)).take i ++ [(c, Txt.item sg c)] := by
          rw [List.take_add_one, List.getElem?_map, hcc]; rfl
        rw [tk']
        exact (j.mv fun t o _ e => e₄ _ _ e).snoc (by rw [hT']; exact sz') it4
      · intro D7 ys k7 h18 hD7 j o7 e18
        have lcn : cn.length = 3 := by rw [← hcn]; rfl
        have jj : PS (h17.objs.size + 3) h18 ys (cn.map fun c => (c, Txt.item sg c)) := by
          have : (cn.map fun c => (c, Txt.item sg c)).take cv.toArray.size = cn.map fun c => (c, Txt.item sg c) := by rw [szC]; exact List.take_of_length_le (by simp)
          rw [this] at j; exact j
        generalize hcs : (cn.map fun c => (c, Txt.item sg c)) = cs at *
        have lcs : cs.length = 3 := by rw [← hcs]; simp [lcn]
        have F18 := F17.more e18
        refine W.args_cons ((EV.lc F18 rfl rfl : EV w _ _ h18 _ (IsV (.int first tf))).useV (
          W.args2V (x := .int behind tb) (y := .bool st) (by exact EV.lc F18 rfl rfl) (by exact EV.lc F18 rfl rfl) ⟨at145 (F18.gd g hT), ?_⟩))
        have g18 := F18.gd g hT
        have sz18 : @LE.le Nat _ (L + 5) h18.objs.size := Nat.le_trans hMn (Nat.le_of_lt (lt_of_get (e18 _ _ aM17.1)))
        have stb : Stb (L + 5) h18 fun h' => Pairs h' D7 cs := jj.stb o7 (Nat.le_trans sz17 (Nat.le_add_right _ _)) (by rw [hD7]; exact Nat.le_trans sz17 (Nat.le_succ _))
        have t2' : h18.get? 140 = some (tabObj #[]) := F18.ext0 _ _ t2
        have t1' : h18.get? 133 = some (tabObj #[]) := F18.ext0 _ _ t1
        refine prog_says (k := k + 27) (n := L + 5) g18 (TabAt.empty t2' _) (r.deeper _) sz18 (big5 hL (Nat.le_refl _)) stb (fun c hc => ?_) (by rw [lcs]; decide) fun pa h19 kx19 T19 pg19 => ?_
        · rw [← hcs] at hc
          obtain ⟨x, hx, rfl⟩ := List.mem_map.mp hc
          have := rngC x hx
          exact ⟨this.1, Int.lt_trans this.2 (by decide)⟩
        have L140 : L ≠ 140 := neBig hL (by decide)
        have L133 : L ≠ 133 := neBig hL (by decide)
        have hT2 : ∀ b ∈ ([133, 140] : List Addr), b ∈ ([133, 140] : List Addr) := fun _ q => q
        have G18 : Fk [133, 140] [L] h L _ h18 h18 := ⟨F18.ns, F18.ext.mono (fun _ q => nomatch q), KX.refl _ _, F18.mem, F18.lt⟩
        have G19 := G18.tab kx19 (.tail _ (.head _)) L140
        have n140 : ∀ {a : Nat}, @LE.le Nat _ (L + 1) a → a ∉ ([140] : List Addr) := fun {a} q => not_mem1 (neUp hL q (by decide))
        have t119 := kx19 _ _ (not_mem1 (by decide)) t1'
        refine W.st G19 fun h20 G20 s20 => ?_
        show W _ _ _ (execs _ _) _ _
        have k20 : KX [L] h19 h20 := KX.same s20 (.head _)
        have xLn : ∀ x ∈ ([L] : List Addr), ¬ @LE.le Nat _ (L + 5) x := fun x hx => by rw [List.mem_singleton.mp hx]; exact not5
        have T20 := T19.kx k20 (Sft.ns G19.ns) (not_mem1 (Ne.symm L140))
        have t120 : h20.get? 133 = some (tabObj #[]) := k20 _ _ (not_mem1 (Ne.symm L133)) t119
        have pg20 := pg19.kx k20 xLn (Sft.ns G19.ns)
        have K : ∀ {a o}, h17.get? a = some o → @LE.le Nat _ (L + 1) a → h20.get? a = some o := fun {a o} e q => k20 _ _ (not_mem1 (addr_ne (.inr q))) (kx19 _ _ (n140 q) (e18 _ _ e))
        have p1 : h20.IsCell (L + 1) (some (.int want tw)) := let ⟨o, e, d⟩ := p1; ⟨o, K e (le1j (by decide)), d⟩
        have p2 : h20.IsCell (L + 2) (some (.str sg ts)) := let ⟨o, e, d⟩ := p2; ⟨o, K e (le1j (by decide)), d⟩
        have p4 : h20.IsCell (L + 4) none := let ⟨o, e, d⟩ := p4; ⟨o, K e (le1j (by decide)), d⟩
        have aM20 : At L h20 M (lo vm.toArray 0) := ⟨K aM17.1 (le51 hMn), hMn⟩
        have oSP20 := K oSP17 (le51 SPn)
        have pi20 : PairsI (L + 5) h20 sitems spans := ⟨pi17.1, fun j v hv => let ⟨t, a, b, u1, u2, e, ht, it, hl⟩ := pi17.2 j v hv; ⟨t, a, b, u1, u2, e, ht, it.at fun o q => K q (le51 ht), hl⟩⟩
        have g20 := G20.gd g hT2
        -- chars
        refine W.execs_cons (W.assign (W.joinL (W.compList (by exact r.hd) rfl (by decide) rfl (by decide) rfl ((EV.lc G20 rfl rfl : EV w _ _ h20 _ (IsV (.ref M))).useV ?_))))
        refine ⟨M, _, rfl, isList_lo aM20.1, by rw [szM]; exact Nat.le_trans ml3 (by decide), fun i ys _ => ∃ l, ys = strValues l ∧ l.map (·.1) = (modes.take i).map lineF, ⟨[], rfl, rfl⟩, fun _ _ _ _ j _ => j, ?_, ?_⟩
        · intro i v ys C' m hc hv j hC' hn hm ex sz'
          obtain ⟨c, hcc, tc, ec⟩ := atM i v hv
          subst ec
          have gx := g20.keeps ex
          refine W.binop (W.callFn (EV.globE gx (by k_is) rfl rfl rfl) rfl (W.args1V (x := .int c tc) (by exact EV.loc hn hm rfl) ⟨gx.X _ _ (by k_is), ?_⟩))
          refine filemode_says (k := k + 27) gx (r.deeper _) fun v1 h' e' hv1 => EV.str.use fun v2 hv2 => W.addSS hv1 hv2 ?_ fun v3 hv3 => ⟨e', ?_⟩
          · rw [fm_len]; decide
          · obtain ⟨l, rfl, hl⟩ := j
            obtain ⟨t3, rfl⟩ := hv3
            refine ⟨l ++ [(lineF c, t3)], by simp [strValues, lineF], ?_⟩
            rw [List.map_append, hl, List.take_add_one, hcc]; simp
        · rintro D8 ys k8 h21 hD8 ⟨l, rfl, hl⟩ o8 e21
          have hl' : l.map (·.1) = modes.map lineF := by rw [hl, szM, List.take_length]
          have jok : JoinOk "" (modes.map lineF) = true := by
            unfold JoinOk
            rw [Bool.not_eq_true']
            refine StrLaws.joinFits (B := 11) (fun y hy => ?_) (by rw [List.length_map]; have : (Str.ofString "").length = 0 := by decide +kernel
                                                                   rw [this]; exact join33 ml3)
            obtain ⟨m, _, rfl⟩ := List.mem_map.mp hy
            rw [line_len]; exact Nat.le_refl _
          refine ⟨D8, l, modes.map lineF, rfl, isList_lo o8, hl', jok, fun tch => ?_⟩
          generalize hchars : Txt.join "" (modes.map lineF) = chars at *
          have G21 := G20.more e21
          refine W.st G21 fun h22 G22 s22 => ?_
          show W _ _ _ (execs _ _) _ _
          have k22 : KX [L] h21 h22 := KX.same s22 (.head _)
          have hlen : chars.length = 11 * modes.length := by rw [← hchars]; exact chars_len modes
          have okb := ok_of (st := st) (flags := flags) fr.1 fr.2 br.1 br.2 (by rw [lfl]; exact ml.1) (by rw [lfl]; exact ml.2)
          unfold okB at okb
          rw [lfl, hspans, Bool.and_eq_true, Bool.and_eq_true] at okb
          have same : ∀ k, k < modes.length → flags.getD k false = bearsF cs chars k := fun k hk => by
            have hg : modes[k]? = some modes[k] := List.getElem?_eq_getElem hk
            have hmr := modes_rng scI modes[k] (by rw [hmodes]; exact List.getElem_mem hk)
            have b := bears_flag (cn := cn) (want := want) hg hmr.1 wr.1 rngC
            rw [hsg, hcs, hchars] at b
            rw [b, ← hflags, List.getD_eq_getElem?_getD, List.getElem?_map, hg]; rfl
          have hch : Chain (fun s => searchFrom (bearsF cs chars) first behind st s modes.length 0) 0 spans := chain_congr (fun a => search_congr (N := modes.length) same _ _ (Nat.zero_add _)) (chain_of okb.1.1)
          have hrev : ∀ col, revL col none spans = (spans.filter fun p => decide (p.1 < col) && decide (p.2 ≤ col)).getLast? := fun col => by rw [rev_filter col spans none okb.1.2, Option.or_none]
          have hz : chars.length ≤ sizeLine := by rw [hlen]; exact len33 ml3
          have xLn : ∀ x ∈ ([L] : List Addr), ¬ @LE.le Nat _ (L + 5) x := fun x hx => by rw [List.mem_singleton.mp hx]; exact not5
          have pg22 := (pg20.keeps e21).kx k22 xLn (Sft.ns G21.ns)
          have T22 := (T20.keeps e21).kx k22 (Sft.ns G21.ns) (not_mem1 (Ne.symm L140))
          have t122 : h22.get? 133 = some (tabObj #[]) := k22 _ _ (not_mem1 (Ne.symm L133)) (e21 _ _ t120)
          have p422 := isCell_kx (isCell_keeps p4 e21) k22 (nL (j := 4) (by decide))
          have oSP22 : h22.get? SP = some (lo sitems sn) := k22 _ _ (not_mem1 (ne5 SPn)) (e21 _ _ oSP20)
          have pi22 : PairsI (L + 5) h22 sitems spans := (pi20.keeps e21).kx k22 fun x hx => by rw [List.mem_singleton.mp hx]; exact Nat.lt_add_of_pos_right (by decide)
          have g22 := G22.gd g hT2
          have G22' : Fk [133, 140] [L, L + 4, 133] h L _ h22 h22 := ⟨G22.ns, G22.ext, KX.refl _ _, .head _, G22.lt⟩
          have L4 : L + 4 ≠ L := neLj 4 (by decide)
          have sz22 : @LT.lt Nat _ (L + 5) h22.objs.size := Nat.lt_of_le_of_lt SPn (lt_of_get oSP22)
          have mem3 : ∀ {x : Addr}, x ∈ ([L, L + 4, 133] : List Addr) → x = L ∨ x = L + 4 ∨ x = 133 := fun {x} hx => by simpa using hx
          have X5 : ∀ x ∈ ([L, L + 4, 133] : List Addr), @LT.lt Nat _ x (L + 5) := fun x hx => by
            rcases mem3 hx with e | e | e <;> rw [e]
            · exact Nat.lt_add_of_pos_right (by decide)
            · exact Nat.lt_succ_self _
            · exact big5 hL (by decide)
          have nX : ∀ {a : Nat}, @LE.le Nat _ (L + 5) a → a ∉ ([L, L + 4, 133] : List Addr) := fun {a} q hx => Nat.lt_irrefl _ (Nat.lt_of_lt_of_le (X5 a hx) q)
          have sf22 : Sft h22 [L, L + 4, 133] := fun x hx => by
            rcases mem3 hx with e | e | e
            · exact Sft.ns G22.ns x (by rw [e]; exact .head _)
            · obtain ⟨o, eo, d⟩ := p422; exact .inr ⟨o, by rw [e]; exact eo, fun vs q => by rw [d] at q; cases q⟩
            · exact .inl (by rw [e]; decide)
          refine W.execs_cons (W.forR2 (lo' := -1) (hi' := (chars.length : Int) + 2) g22 (by exact r.hd) (by decide) (neg1n _) (lt62 hz) (EV.neg EV.int) (EV.add (EV.lenS g22 (EV.lc G22 rfl ⟨_, rfl⟩) hz (by k_is)) EV.int) (fun I hI0 eI hI => ⟨[L, L + 4, 133], fun i hc => ∃ m', Fk [133, 140] [L, L + 4, 133] h L m' h22 hc ∧ m' "prog" = some (.ref pa) ∧ m' "chars" = some (.str chars tch) ∧ m' "spans" = some (.ref SP) ∧ (∃ v, hc.IsCell (L + 4) v) ∧ TabAt hc 133 K133, ?_, ⟨_, G22'.more eI, rfl, rfl, rfl, ⟨_, isCell_keeps p422 eI⟩, TabAt.empty (eI _ _ t122) _⟩, ?_, ?_, ?_⟩) (hn := by k_is))
          · exact nX (Nat.le_trans (Nat.le_of_lt sz22) hI)
          · rintro i hc hc' ⟨m', F', m1, m2, m3, ⟨v, cv'⟩, Tc⟩ ⟨x, l, s, ri⟩ kx
            have h5I : @LT.lt Nat _ (L + 5) I := Nat.lt_of_lt_of_le sz22 hI
            refine ⟨m', F'.kx kx (fun b hb => by rw [List.mem_singleton.mp hb]; exact Nat.lt_trans (Nat.lt_add_of_pos_right (by decide)) h5I) (fun b hb => by rw [List.mem_singleton.mp hb]; exact hI), m1, m2, m3, ⟨v, isCell_kx cv' kx (not_mem1 (addr_ne (.inl (Nat.lt_trans (Nat.lt_succ_self (L + 4)) h5I))))⟩, Tc.kxI kx ri (addr_ne (.inl (Nat.lt_trans (big5 hL (by decide)) h5I)))⟩
          · rintro i t hc hlt ⟨m', F', m1, m2, m3, ⟨v0, cv'⟩, Tc⟩
            have n133 : (133 : Addr) ∉ ([L + 4] : List Addr) := not_mem1 (Ne.symm (neBigj 4 hL (by decide)))
            refine W.assignName (W.storeC rfl cv' fun h₃ c₃ s₃ => ?_)
            refine W.hide fun Q' hQ' => ?_
            have k₃ : KX [L + 4] hc h₃ := KX.same s₃ (.head _)
            have F₃ := F'.upd s₃ (.tail _ (.head _)) L4 (Nat.le_trans F₁.lt (Nat.le_add_right L 4))
            have sf4 : Sft hc [L + 4] := fun x hx => by
              rw [List.mem_singleton.mp hx]; obtain ⟨o, eo, d⟩ := cv'; exact .inr ⟨o, eo, fun vs q => by rw [d] at q; cases q⟩
            have T₃ := Tc.kx k₃ sf4 n133
            have g₃ := F₃.gd g hT2
            have pg₃ := pg22.kx F₃.kp (fun x hx q => Nat.lt_irrefl _ (Nat.lt_of_lt_of_le (X5 x hx) q)) sf22
            have h₃5 : @LE.le Nat _ (L + 5) h₃.objs.size := by
              have e : h₃.get? SP = some _ := F₃.kp _ _ (nX SPn) oSP22
              exact Nat.le_of_lt (Nat.lt_of_le_of_lt SPn (lt_of_get e))
            refine W.execs_cons (W.assign (W.callFn (EV.glob g₃ (by k_is)) rfl (W.args_cons ((EV.lc F₃ m1 rfl : EV w _ _ h₃ _ (IsV (.ref pa))).useV (
              W.args2V (x := .str chars tch) (y := .int (-1 + (i : Int)) t) (by exact EV.lc F₃ m2 rfl) (by exact EV.cell rfl c₃ rfl) ⟨g₃.X _ _ (by k_is), ?_⟩)))))
            refine rev_says (k := k + 21) (n := L + 5) g₃ T₃ (r.deeper _) h₃5 (big5 hL (Nat.le_refl _)) pg₃ hlen (Nat.le_trans ml3 (by decide)) hch fun v h₄ kx₄ T₄ ans₄ => ?_
            rw [hrev] at ans₄
            generalize hcol : -1 + (i : Int) = col at *
            have F₄ := F₃.kx2 kx₄ (.head _) (.tail _ (.tail _ (.head _))) L133
            have c₄ := isCell_kx c₃ kx₄ (not_mem1 (neBigj 4 hL (by decide)))
            refine W.st F₄ fun h₅ F₅ s₅ => ?_
            show W _ _ _ (execs _ _) _ _
            have k₅ : KX [L] h₄ h₅ := KX.same s₅ (.head _)
            have T₅ := T₄.kx k₅ (Sft.ns F₄.ns) (not_mem1 (Ne.symm L133))
            have ans₅ : Ans w (L + 5) h₅ v _ := (ans₄.le h₃5).kx k₅ (fun x hx => by rw [List.mem_singleton.mp hx]; exact Nat.lt_add_of_pos_right (by decide)) (Sft.ns F₄.ns)
            have c₅ := isCell_kx c₄ k₅ (nL (j := 4) (by decide))
            have oSP₅ : h₅.get? SP = some (lo sitems sn) := F₅.kp _ _ (nX SPn) oSP22
            have SPlt : @LT.lt Nat _ SP h₅.objs.size := lt_of_get oSP₅
            have X5lt : ∀ b ∈ ([L, L + 4, 133] : List Addr), @LT.lt Nat _ b h₅.objs.size := fun b hb => Nat.lt_trans (X5 b hb) (Nat.lt_of_le_of_lt SPn SPlt)
            have tupAt : ∀ {hx : Heap}, KX [L, L + 4, 133] h22 hx → PairsI (L + 5) hx sitems spans := fun kx => pi22.kx kx X5
            -- due
            have F₅s : Fk [133, 140] [L] h L _ h₅ h₅ := ⟨F₅.ns, F₅.ext, KX.refl _ _, .head _, F₅.lt⟩
            refine W.execs_cons (W.assignComp F₅s (fun b hb => by rw [List.mem_singleton.mp hb]; exact F₅.ns.lt) rfl (by decide) rfl (by decide) (EV.useV (x := (.ref SP)) (by exact EV.lc F₅ m3 rfl) ?_))
            refine W.iterList (isList_lo oSP₅) fun I' h₆ hI' sz₆ e₆ ii => ?_
            have SI : SP ≠ I' := by rw [hI']; exact Nat.ne_of_lt SPlt
            have upC : ∀ hx : Heap, (∀ b o, b ∉ [I'] → h₆.get? b = some o → hx.get? b = some o) → Ext h₅ hx := fun hx k b o e => k b o (not_mem1 (by rw [hI']; exact Nat.ne_of_lt (lt_of_get e))) (e₆ b o e)
            have slen : spans.length ≤ 100 := by simpa using okb.2
            refine ⟨e₆, by rw [sz₆]; exact Nat.le_succ _, I', _, _, _, _, _, _, fun j ys _ => PairsI (L + 5) h22 (List.toArray ys) ((spans.take j).filter fun p => decide (p.1 < col) && decide (p.2 ≤ col)), rfl, turns_list (by exact r.hd) I' SP SI sitems, fun st q => wpAny_pyIter_listiter st.1 q, by rw [pi22.1]; exact Nat.le_trans slen (by decide), ⟨ii, (isList_lo oSP₅).at fun o e => e₆ _ _ e⟩, ?_, ?_, ?_, fun _ _ _ _ j _ => j, ?_⟩
            · intro b hb
              rw [sz₆]
              rcases mem2 hb with e | e
              · rw [e, hI']; exact Nat.lt_succ_self _
              · rw [e]; exact Nat.lt_succ_of_lt SPlt
            · intro b hb; rw [List.mem_singleton.mp hb, hI']; exact Nat.le_refl _
            · refine CompTurns.name1 rfl rfl ⟨rfl, fun j v hv => by simp at hv⟩ (fun _ _ _ _ j _ => j) ?_
              intro j v ys C' m hc₀ hx hj pv _ jj hC' hn hm kq sz'
              have ex := upC hx kq
              obtain ⟨tt, a, b, u1, u2, ev, htt, itt, hl⟩ := pi22.2 j v pv
              subst ev
              have itx : hx.IsTuple tt #[.int a u1, .int b u2] := itt.at fun o q => ex _ _ (F₅.kp _ _ (nX htt) q)
              have tk : (spans.take (j + 1)).filter (fun p => decide (p.1 < col) && decide (p.2 ≤ col)) = (spans.take j).filter (fun p => decide (p.1 < col) && decide (p.2 ≤ col)) ++ (if (decide (a < col) && decide (b ≤ col)) = true then [(a, b)] else []) := by
                rw [List.take_add_one, hl, List.filter_append]
                by_cases cc : (decide (a < col) && decide (b ≤ col)) = true
                · rw [if_pos cc]; simp only [Option.toList_some, List.filter_cons, List.filter_nil]; rw [if_pos cc]
                · rw [if_neg cc]; simp only [Option.toList_some, List.filter_cons, List.filter_nil]; rw [if_neg cc]
              refine ⟨decide (a < col) && decide (b ≤ col), TB.and (TB.cmp (P := IsI a) (P' := IsI col) (by exact EV.imp (EV.itemT (EV.loc hn hm rfl) itx EV.int (by decide) (by decide) rfl rfl) fun v e => ⟨u1, e⟩) (by exact EV.cell rfl (isCell_keeps c₅ ex) ⟨_, rfl⟩) lt_ii) (fun _ => TB.cmp (P := IsI b) (P' := IsI col) (by exact EV.imp (EV.itemT (EV.loc hn hm rfl) itx EV.int (by decide) (by decide) rfl rfl) fun v e => ⟨u2, e⟩) (by exact EV.cell rfl (isCell_keeps c₅ ex) ⟨_, rfl⟩) le_ii), fun cc => ?_, fun cc => ?_⟩
              · refine EV.use (P := IsV (.ref tt)) (by exact EV.loc hn hm rfl) fun y ey => ⟨fun _ _ e => e, ?_⟩
                cases ey
                rw [tk, if_pos cc]
                exact jj.snocF htt itt
              · rw [tk, if_neg (by rw [cc]; decide), List.append_nil]; exact jj
            · intro DD ys kk' h₇ hDD jj oDD F₇
              show W _ _ _ (execs _ _) _ _
              have toX : ∀ {hx : Heap} {m₀}, Fk [133, 140] [L] h L m₀ h₅ hx → Fk [133, 140] [L, L + 4, 133] h L m₀ h22 hx := fun F => ⟨F.ns, F.ext, F₅.kp.trans (F.kp.mono fun b hb => by rw [List.mem_singleton.mp hb]; exact .head _), .head _, F.lt⟩
              have xL5 : ∀ x ∈ ([L] : List Addr), @LT.lt Nat _ x (L + 5) := fun x hx => by rw [List.mem_singleton.mp hx]; exact Nat.lt_add_of_pos_right (by decide)
              have ans₇ := ans₅.kx F₇.kp xL5 (Sft.ns F₅.ns)
              have T₇ := T₅.kx F₇.kp (Sft.ns F₅.ns) (not_mem1 (Ne.symm L133))
              have c₇ := isCell_kx c₅ F₇.kp (nL (j := 4) (by decide))
              have tks : spans.take sitems.size = spans := by rw [pi22.1, List.take_length]
              rw [tks] at jj
              generalize hdue : (spans.filter fun p => decide (p.1 < col) && decide (p.2 ≤ col)) = due at *
              have due₇ : PairsI (L + 5) h₇ ys.toArray due := jj.kx (toX F₇).kp X5
              have g₇ := F₇.gd g hT2
              have endw : ∀ {hx : Heap}, Ext h₇ hx → KX [L, L + 4, 133] hc hx := fun ex b o n q => ex _ _ (F₇.kp _ _ (fun z => n (by rw [List.mem_singleton.mp z]; exact .head _)) (k₅ _ _ (fun z => n (by rw [List.mem_singleton.mp z]; exact .head _)) (kx₄ _ _ (fun z => n (by rw [List.mem_singleton.mp z]; exact .tail _ (.tail _ (.head _)))) (k₃ _ _ (fun z => n (by rw [List.mem_singleton.mp z]; exact .tail _ (.head _))) q))))
              have hun : (A.deeper (envX default default 0 0 default default)).units + 64 < cLine := by have := (r.deeper (envX default default 0 0 default default)).un; have : A.units + 3 + 8 * (k + 29) < cLine := this; exact units8 this
              refine W.execs_cons (W.ifs (W.testCmp (EV.useV (x := (.ref DD)) (by exact EV.lc F₇ rfl rfl) ?_)))
              refine W.listO (W.args_nil ⟨by decide, fun EE h₈ hE e₈ oE => ?_⟩)
              obtain ⟨as, rd⟩ := reads_due (due₇.keeps e₈) (e₈ _ _ oDD)
              refine W.eqData rd (Reads.list oE rfl rfl .nil : Reads h₈ (.ref EE) (.list []) _) (shaped_pairs _) (by decide) hun ⟨_, rfl, ?_⟩
              rw [eqv_nil]
              have F₈ := F₇.more e₈
              have g₈ := g₇.keeps e₈
              cases hlast : due.getLast? with
              | none =>
                have dn : due = [] := List.getLast?_eq_none_iff.mp hlast
                rw [hlast] at ans₇
                have vn : v = .none := ans₇
                subst vn
                rw [dn]
                show W _ _ _ (execs [_] _) _ _
                refine W.execs_cons (W.ifb (b := false) (TB.cmp (P := IsV .none) (P' := IsV .none) (by exact EV.lc F₈ rfl rfl) EV.none (fun a b ha hb G => by cases ha; cases hb; exact isNotNone (a := .none) (b := .none) rfl G)) (fun c => absurd c (by decide)) fun c => ?_)
                refine W.execs_nil ?_
                show W _ _ _ (execs _ _) _ _
                refine W.execs_nil ?_
                show W _ _ _ (execs _ _) _ _
                exact W.execs_nil (hQ' .next _ ⟨endw e₈, _, toX F₈, m1, m2, m3, ⟨_, isCell_keeps c₇ e₈⟩, T₇.keeps e₈⟩)
              | some p =>
                rw [hlast] at ans₇
                obtain ⟨f, vf, hit₇⟩ := ans₇
                subst vf
                have dne : due.isEmpty = false := by cases due with | nil => cases hlast | cons _ _ => rfl
                rw [dne]
                show W _ _ _ (execs [_] _) _ _
                refine W.execs_cons (W.ifs (W.isOr ((TB.cmp (b := false) (P := IsV (.ref f)) (P' := IsV .none) (by exact EV.lc F₈ rfl rfl) EV.none (fun a b ha hb G => by cases ha; cases hb; exact isNone (a := .ref f) (b := .none) rfl G)).use ?_)))
                rw [if_neg (by decide)]
                obtain ⟨sp, spo, spfd, hasp, hspo, hspd, spk⟩ := (hit₇.keeps e₈).now
                refine W.testCmp (W.meth0 (by exact EV.lc F₈ rfl rfl) hasp hspo hspd ?_ fn_span)
                refine spk G _ (k + 27) _ g₈ (r.deeper _) fun tp ui uj h₉ e₉ it₉ => ?_
                have F₉ := F₈.more e₉
                have due₉ := (due₇.keeps e₈).keeps e₉
                have hsl := due₉.1
                have dpos : 0 < due.length := List.length_pos_iff.mpr (by intro q; rw [q] at hlast; cases hlast)
                have hlt' : ys.toArray.size - 1 < ys.toArray.size := Nat.sub_lt (by rw [hsl]; exact dpos) (by decide)
                obtain ⟨tl, a0, b0, ua, ub, ev, htl, itl, hll⟩ := due₉.2 (ys.toArray.size - 1) _ (Array.getElem?_eq_getElem hlt')
                have glast : due.getLast? = some (a0, b0) := by rw [List.getLast?_eq_getElem?, ← hsl]; exact hll
                rw [hlast] at glast; cases glast
                have hx : ys.toArray[(-1 + (ys.toArray.size : Int)).toNat]? = some (.ref tl) := by
                  rw [show (-1 + (ys.toArray.size : Int)).toNat = ys.toArray.size - 1 from lastN, Array.getElem?_eq_getElem hlt', ev]
                refine EV.useV (x := (.ref tl)) (by exact EV.itemLneg (EV.lc F₉ rfl rfl) (isList_lo (e₉ _ _ (e₈ _ _ oDD))) (EV.neg EV.int) (by decide) (negle (by rw [hsl]; exact dpos)) (by decide) hx) ?_
                refine W.neData (reads_pair it₉) (reads_pair itl) (shaped_pair _) (shaped_pair _) hun ⟨_, rfl, ?_⟩
                rw [eqv_pair]
                show W _ _ _ (execs [] _) _ _
                refine W.execs_nil ?_
                show W _ _ _ (execs _ _) _ _
                refine W.execs_nil ?_
                show W _ _ _ (execs _ _) _ _
                exact W.execs_nil (hQ' .next _ ⟨endw (Ext.trans e₈ e₉), _, toX F₉, m1, m2, m3, ⟨_, isCell_keeps (isCell_keeps c₇ e₈) e₉⟩, (T₇.keeps e₈).keeps e₉⟩)
          · rintro hc ⟨m', F', m1, m2, m3, _, ps, eps, _, _⟩
            show W _ _ _ (execs _ _) _ _
            refine W.execs_cons (W.ret (EV.boolc.useB ?_))
            obtain ⟨ps2, e2, _, _⟩ := T22
            exact hQ₀ (.ret _) _ ⟨rfl, F'.ext, ⟨ps, eps⟩, ⟨ps2, F'.kp _ _ (by intro hx; rcases mem3 hx with e | e | e; exact L140 e.symm; exact absurd e (Ne.symm (neBigj 4 hL (by decide))); exact absurd e (by decide)) e2⟩⟩
end
end Mine
theorem Mine.not_hidden {h : Heap} {b : Addr} {o : Obj} (e : (ghostOf h [(137, 133), (144, 140)]).get? b = some o) : b ∉ ([133, 140] : List Addr) := fun hb => by
  have := hideAll_none [133, 140] (h := h) hb
  rw [show (ghostOf h [(137, 133), (144, 140)]) = hideAll h [133, 140] from rfl, this] at e
  cases e
theorem Mine.gd_of {w : World} {h : Heap} {loose : List Str} {mean : ExcName → Option Value} {mg mb : Str → Option Value} (X' : (Mine.hd.heap_39 w.params).In (ghostOf h [(137, 133), (144, 140)])) (T' : Top topProg loose mean mg mb (ghostOf h [(137, 133), (144, 140)])) : Mine.Gd w h :=
  ⟨_, ⟨X', _, _, _, topRead_of T', T'.bmain⟩, fun b o e => Mine.not_hidden e, fun b o e => of_hideAll _ e⟩
theorem PySem.Challenge.cw_mr0175_01_holds : PySem.Challenge.rw_mr0175_01.Holds :=
  Mine.hd (by
  w_strict (
  k_fill
  intro w s₀ s₁ mg mb G Y fa o pm cd doc dV kV ho hd hcd hD hmg hg args vals as hpre hlay hrd hwl hlo
  have KX := km_in_of Y
  km_tabs Y
  have X := (Ground.X G).1
  have V := (Ground.X G).2
  refine Ground.open G ?_
  intro T B D TE TW
  try (refine guard_noD D (by decide +kernel) ?_; clear D)
  km_lay T hmg ho hd cd
  wrow_args hpre hlay hrd hwl hlo
  all_goals (
    first | refine callC_kw (enter_call ?_) | refine enter_call ?_)
  all_goals w_top on
  all_goals kn_posts
  have X' := ghost_K hT9 KX (by kernel_rfl)
  have T' := ghost_top hT9 T
  have gd := Mine.gd_of X' T'
  have e162 : fa = 162 := by
    have a := mg_of KX T.g (n := "law") (v := .ref 162) (by k_is)
    have b := Option.some.inj (hmg.symm.trans a)
    cases b; rfl
  subst e162
  rename IntsAre _ _ => iA
  rename Heap.IsList _ _ _ => iL
  rename (¬ _ < _) => iC
  have r : Mine.Rm callerA (10 + 30) := ⟨rfl, by decide, by decide⟩
  have key := Mine.law_says (w := w) (G := s₁) (A := callerA) (k := 10) gd (hT8 133 (by decide)) (hT8 140 (by decide)) r iL iA (by omega) s₁.toks
  refine codeAny_mono key ?_
  rintro rr s' ⟨v, h', tk', er, es, ev, kx, ⟨ps, g1⟩, ⟨ps2, g2⟩⟩
  subst er es ev
  refine ⟨⟨.inl ⟨_, .bool true, [], rfl, ?_, ?_, ?_, ?_⟩, ?_, rfl, hg⟩, ⟨ps, g1⟩, ⟨ps2, g2⟩, trivial⟩
  · exact raisesW_false (by wrow_none_raised)
  · exact .bool true
  · kc_post
  · exact unshared_nil
  · exact fun b o e => kx b o (Mine.not_hidden e) (of_hideAll _ e)))
