import PyProof.Rows.All
import Wide.All
import OpenK.AllK
import Wide.FinOn
import PySem.Challenge.RW_nq0090_01
set_option Elab.async false
set_option maxRecDepth 100000
set_option maxHeartbeats 8000000
set_option linter.unusedVariables false
set_option linter.unusedSimpArgs false
namespace Mine
open PySem PySem.W PyProof.Rows
open_top hd for PySem.Challenge.rw_nq0090_01
abbrev prg : Program := PySem.Challenge.rw_nq0090_01.row.prog
noncomputable abbrev KF (w : World) : Frag := hd.heap_39 w.params
end Mine
namespace Mine
open PySem PySem.W PySem.Calls PySem.Spec PyProof.Rows
structure Cx where
  w : World
  gens : Array GenState
  drawn : Drawn
  os : OsState
noncomputable def Cx.S (C : Cx) (h : Heap) (k : Nat) : Shared := ⟨h, C.gens, C.drawn, k, C.os⟩
noncomputable def Cx.up {α : Type} (C : Cx) (Q : α → Heap → Prop) : α → Shared → Prop := fun a s => ∃ h k, s = C.S h k ∧ Q a h
noncomputable def WP (C : Cx) (A : Around) {α : Type} (t : Sem α) (Q : α → Heap → Prop) (E : Value → Heap → Prop) (h : Heap) : Prop :=
  ∀ k, wpAny (model prg C.w) A t (C.up Q) (C.up E) (C.S h k)
noncomputable def CP (C : Cx) (A : Around) (c : Code) (R : Result → Heap → Prop) (h : Heap) : Prop :=
  ∀ k, codeAny (model prg C.w) A c (C.up R) (C.S h k)
/-- a store into a map of names -/
noncomputable def upd (m : Str → Option Value) (x : Str) (v : Value) : Str → Option Value := fun y => if y = x then some v else m y
theorem upd_eq {m : Str → Option Value} {x : Str} {v : Value} : upd m x v x = some v := if_pos rfl
theorem upd_ne {m : Str → Option Value} {x y : Str} {v : Value} {r : Option Value} (h : m y = r) (hn : y ≠ x := by decide) : upd m x v y = r := (if_neg hn).trans h
section
variable {C : Cx} {A : Around} {α β : Type} {h : Heap} {E : Value → Heap → Prop}
theorem up1 {Q : α → Heap → Prop} {a : α} {k : Nat} (q : Q a h) : C.up Q a (C.S h k) := ⟨h, k, rfl, q⟩
theorem go {f : α → Sem β} {Q : β → Heap → Prop} {a : α} {s : Shared} (x : C.up (fun a h' => WP C A (f a) Q E h') a s) : wpAny (model prg C.w) A (f a) (C.up Q) (C.up E) s := by
  obtain ⟨h, k, rfl, q⟩ := x
  exact q k
theorem goc {c : α → Code} {R : Result → Heap → Prop} {a : α} {s : Shared} (x : C.up (fun a h' => CP C A (c a) R h') a s) : codeAny (model prg C.w) A (c a) (C.up R) s := by
  obtain ⟨h, k, rfl, q⟩ := x
  exact q k
theorem WP.mono {t : Sem α} {Q Q' : α → Heap → Prop} {E' : Value → Heap → Prop} (x : WP C A t Q E h) (hq : ∀ a h', Q a h' → Q' a h') (he : ∀ a h', E a h' → E' a h') : WP C A t Q' E' h :=
  fun k => wpAny_mono (x k) (fun _ _ ⟨h, k, e, q⟩ => ⟨h, k, e, hq _ _ q⟩) fun _ _ ⟨h, k, e, q⟩ => ⟨h, k, e, he _ _ q⟩
theorem WP.post {t : Sem α} {Q Q' : α → Heap → Prop} (x : WP C A t Q E h) (hq : ∀ a h', Q a h' → Q' a h') : WP C A t Q' E h := x.mono hq fun _ _ e => e
theorem CP.mono {c : Code} {R R' : Result → Heap → Prop} (x : CP C A c R h) (hq : ∀ a h', R a h' → R' a h') : CP C A c R' h :=
  fun k => codeAny_mono (x k) (fun _ _ ⟨h, k, e, q⟩ => ⟨h, k, e, hq _ _ q⟩)
theorem WP.bind {m : Sem α} {f : α → Sem β} {Q : β → Heap → Prop} (x : WP C A m (fun a h' => WP C A (f a) Q E h') E h) : WP C A (m >>= f) Q E h :=
  fun k => wpAny_bind (wpAny_mono (x k) (fun _ _ q => go q) fun _ _ e => e)
theorem WP.pure {a : α} {Q : α → Heap → Prop} (q : Q a h) : WP C A (Pure.pure a) Q E h := fun _ => wpAny_pure (up1 q)
/-- the end named once -/
theorem WP.gen {t : Sem α} {Q : α → Heap → Prop} (x : ∀ Q' : α → Heap → Prop, (∀ a h', Q a h' → Q' a h') → WP C A t Q' E h) : WP C A t Q E h := x Q fun _ _ q => q
theorem WP.of {t : Sem α} {Q : α → Heap → Prop} (x : ∀ k, wpAny (model prg C.w) A t (C.up Q) (C.up E) (C.S h k)) : WP C A t Q E h := x
end
section
variable {C : Cx} {A : Around} {h : Heap} {E : Value → Heap → Prop} {env : Env}
theorem W_nil {Q : Flow → Heap → Prop} (q : Q .next h) : WP C A (execs [] env) Q E h := fun _ => wpAny_execs_nil (up1 q)
theorem W_cons {st rest} {Q : Flow → Heap → Prop} (x : WP C A (exec st env) (fun f h' => match f with | .next => WP C A (execs rest env) Q E h' | f => Q f h') E h) : WP C A (execs (st :: rest) env) Q E h :=
  fun k => wpAny_execs_cons (wpAny_mono (x k) (fun f s q => by
    obtain ⟨h, k, rfl, q⟩ := q
    cases f <;> first | exact q k | exact up1 q) fun _ _ e => e)
theorem W_int {i : Int} {n pos} {Q : Value → Heap → Prop} (q : ∀ t, Q (.int i t) h) : WP C A (eval (.Constant (.int i) n pos) env) Q E h := fun k => wpAny_Constant_int ⟨h, k + 1, rfl, q _⟩
theorem W_str {x : Str} {n pos} {Q : Value → Heap → Prop} (q : ∀ t, Q (.str x t) h) : WP C A (eval (.Constant (.str x) n pos) env) Q E h := fun k => wpAny_Constant_str ⟨h, k + 1, rfl, q _⟩
theorem W_bool {b : Bool} {n pos} {Q : Value → Heap → Prop} (q : Q (.bool b) h) : WP C A (eval (.Constant (.bool b) n pos) env) Q E h := fun _ => wpAny_Constant_bool (up1 q)
theorem W_none {n pos} {Q : Value → Heap → Prop} (q : Q .none h) : WP C A (eval (.Constant .none n pos) env) Q E h := fun _ => wpAny_Constant_none (up1 q)
theorem W_local {x : Str} {pos : Pos} {m : Str → Option Value} {v : Value} {Q : Value → Heap → Prop} (hn : h.Ns env.locals m) (hv : m x = some v) (q : Q v h)
    (hk : env.scope.kind = .function := by rfl) (hl : env.kindOf x = some .local := by rfl) (hd : (x == ("__debug__" : Str)) = false := by decide) : WP C A (eval (.Name x pos) env) Q E h :=
  fun _ => wpAny_Name (wpAny_loadName_local hk hl hn hv (up1 q)) hd
theorem W_cell {x : Str} {pos : Pos} {c : Addr} {v : Value} {Q : Value → Heap → Prop} (hc : env.cells.lookup x = some c) (hv : h.IsCell c (some v)) (q : Q v h)
    (hk : env.scope.kind = .function := by rfl) (hl : env.kindOf x = some .cell := by rfl) (hd : (x == ("__debug__" : Str)) = false := by decide) : WP C A (eval (.Name x pos) env) Q E h :=
  fun _ => wpAny_Name (wpAny_loadName_cell hk hl hc hv (up1 q)) hd
theorem W_free {x : Str} {pos : Pos} {c : Addr} {v : Value} {Q : Value → Heap → Prop} (hc : env.cells.lookup x = some c) (hv : h.IsCell c (some v)) (q : Q v h)
    (hk : env.scope.kind = .function := by rfl) (hl : env.kindOf x = some .free := by rfl) (hd : (x == ("__debug__" : Str)) = false := by decide) (hn : (x == ("__classdict__" : Str)) = false := by decide) : WP C A (eval (.Name x pos) env) Q E h :=
  fun _ => wpAny_Name (wpAny_loadName_free hk hl hc hv (up1 q) hn) hd
theorem W_store {x : Str} {m : Str → Option Value} {v : Value} {Q : Unit → Heap → Prop} (hn : h.Ns env.locals m) (q : ∀ h', h'.Ns env.locals (upd m x v) → Heap.SameBut env.locals h h' → Q () h')
    (hl : env.kindOf x = some .local := by rfl) (hp : (env.scope.kind == .class || (env.scope.kind == .module && env.locals != env.globals)) = false := by rfl) : WP C A (storeName env x v) Q E h :=
  fun k => wpAny_storeName_local hl hn (fun h' n s => ⟨h', k + 1, rfl, q h' n s⟩) hp
theorem W_storeC {x : Str} {c : Addr} {v₀ : Option Value} {v : Value} {Q : Unit → Heap → Prop} (hc : env.cells.lookup x = some c) (hv : h.IsCell c v₀) (q : ∀ h', h'.IsCell c (some v) → Heap.SameBut c h h' → Q () h')
    (hk : env.scope.kind = .function := by rfl) (hl : env.kindOf x = some .cell := by rfl) : WP C A (storeName env x v) Q E h :=
  fun k => wpAny_storeName_cell hk hl hc hv (fun h' n s => ⟨h', k, rfl, q h' n s⟩)
theorem W_Assign {x pos' value pos} {Q : Flow → Heap → Prop} (y : WP C A (eval value env) (fun v h₁ => WP C A (storeName env x v) (fun _ => Q .next) E h₁) E h)
    (hs : swapsWith value (some (.Name x pos')) pos.line env = pure false := by rfl) : WP C A (exec (.Assign [.Name x pos'] value pos) env) Q E h :=
  fun k => wpAny_Assign_Name (wpAny_mono (y k) (fun v s q => by obtain ⟨h, k, rfl, q⟩ := q; exact q k) fun _ _ e => e) hs
theorem W_Return {e pos} {Q : Flow → Heap → Prop} (y : WP C A (eval e env) (fun v => Q (.ret v)) E h) : WP C A (exec (.Return (some e) pos) env) Q E h :=
  fun k => wpAny_Return_some (wpAny_mono (y k) (fun _ _ q => q) fun _ _ e => e)
theorem W_If {test body orelse pos} {Q : Flow → Heap → Prop} (y : WP C A (isTrue test env (eval test env)) (fun b h₁ => if b then WP C A (execs body env) Q E h₁ else WP C A (execs orelse env) Q E h₁) E h) :
    WP C A (exec (.If test body orelse pos) env) Q E h :=
  fun k => wpAny_If (wpAny_mono (y k) (fun b s q => by obtain ⟨h, k, rfl, q⟩ := q; cases b <;> exact q k) fun _ _ e => e)
theorem W_BinOp {l op r pos} {Q : Value → Heap → Prop} (y : WP C A (eval l env) (fun a h₁ => WP C A (eval r env) (fun b h₂ => WP C A (binaryOp op a b) Q E h₂) E h₁) E h) : WP C A (eval (.BinOp l op r pos) env) Q E h :=
  fun k => wpAny_BinOp (wpAny_mono (y k) (fun _ _ q => wpAny_mono (go q) (fun _ _ q => go q) fun _ _ e => e) fun _ _ e => e)
theorem W_Compare {l op r pos} {Q : Value → Heap → Prop} (y : WP C A (eval l env) (fun a h₁ => WP C A (eval r env) (fun b h₂ => WP C A (compareOp op a b) Q E h₂) E h₁) E h)
    (hm : behindInMarks op r = false := by with_unfolding_all rfl) : WP C A (eval (.Compare l [op] [r] pos) env) Q E h :=
  fun k => wpAny_Compare1 (wpAny_mono (y k) (fun _ _ q => wpAny_mono (go q) (fun _ _ q => go q) fun _ _ e => e) fun _ _ e => e) hm
theorem W_tCompare {l op r pos whole} {Q : Bool → Heap → Prop} (y : WP C A (eval l env) (fun a h₁ => WP C A (eval r env) (fun b h₂ => WP C A (compareOp op a b) (fun c h₃ => WP C A (truthy c) Q E h₃) E h₂) E h₁) E h)
    (hm : behindInMarks op r = false := by with_unfolding_all rfl) : WP C A (isTrue (.Compare l [op] [r] pos) env whole) Q E h :=
  fun k => wpAny_isTrue_Compare1 (wpAny_mono (y k) (fun _ _ q => wpAny_mono (go q) (fun _ _ q => wpAny_mono (go q) (fun _ _ q => go q) fun _ _ e => e) fun _ _ e => e) fun _ _ e => e) hm
theorem W_UnaryOp {op x pos} {Q : Value → Heap → Prop} (y : WP C A (eval x env) (fun v h₁ => WP C A (unaryOp op v) Q E h₁) E h) : WP C A (eval (.UnaryOp op x pos) env) Q E h :=
  fun k => wpAny_UnaryOp (wpAny_mono (y k) (fun _ _ q => go q) fun _ _ e => e)
theorem W_IfExp {test body orelse pos} {Q : Value → Heap → Prop} (y : WP C A (isTrue test env (eval test env)) (fun b h₁ => if b then WP C A (eval body env) Q E h₁ else WP C A (eval orelse env) Q E h₁) E h) :
    WP C A (eval (.IfExp test body orelse pos) env) Q E h :=
  fun k => IfExp_ (wpAny_mono (y k) (fun b s q => by obtain ⟨h, k, rfl, q⟩ := q; cases b <;> exact q k) fun _ _ e => e)
theorem W_tbool {b : Bool} {Q : Bool → Heap → Prop} (q : Q b h) : WP C A (truthy (.bool b)) Q E h := fun _ => wpAny_truthy_bool (up1 q)
end
end Mine
namespace Mine
open PySem PySem.W PySem.Calls PySem.Spec PyProof.Rows
/-- all of h stands in h' -/
noncomputable def Kp (h h' : Heap) : Prop := ∀ b o, h.get? b = some o → h'.get? b = some o
theorem Kp.refl (h : Heap) : Kp h h := fun _ _ e => e
theorem Kp.trans {a b c : Heap} (x : Kp a b) (y : Kp b c) : Kp a c := fun q o e => y q o (x q o e)
theorem Kp.push {a b : Heap} (x : Kp a b) (o : Obj) : Kp a (b.push o) := fun q p e => Heap.get?_push_of_some o (x q p e)
theorem Kp.same {a b c : Heap} {L : Addr} (x : Kp a b) (s : Heap.SameBut L b c) (n : a.get? L = none) : Kp a c := fun q o e => (s.2 q (fun z => by rw [z, n] at e; cases e)).trans (x q o e)
theorem Kp.size {a b : Heap} (x : Kp a b) {q : Addr} {o : Obj} (e : a.get? q = some o) : q < b.objs.size := Heap.lt_size (x q o e)
theorem none_of_size {a : Heap} {L : Addr} (n : a.objs.size ≤ L) : a.get? L = none := Heap.get?_none_of_le n
/-- what is known of the text's top -/
structure Gd (C : Cx) (h : Heap) : Prop where
  X : (KF C.w).In h
  T : ∃ loose mean mg mb, Top topProg loose mean mg mb h
theorem Gd.keeps {C : Cx} {h h' : Heap} (g : Gd C h) (k : Kp h h') : Gd C h' :=
  ⟨g.X.keeps k, let ⟨a, b, c, d, t⟩ := g.T; ⟨a, b, c, d, t.keeps k⟩⟩
theorem Gd.nolimit {C : Cx} {h : Heap} (g : Gd C h) : h.NoLimit := let ⟨_, _, _, _, t⟩ := g.T; t.nolimit
section
variable {C : Cx} {A : Around} {h : Heap} {E : Value → Heap → Prop} {env : Env}
theorem W_global {x : Str} {pos : Pos} {v : Value} {Q : Value → Heap → Prop} (g : Gd C h) (e : nsIn (KF C.w) mainGlobals x = some (some v)) (q : Q v h)
    (hk : env.scope.kind = .function := by rfl) (hx : env.kindOf x = some .globalImplicit := by rfl) (he : env.globals = mainGlobals := by rfl) (hd : (x == ("__debug__" : Str)) = false := by decide) : WP C A (eval (.Name x pos) env) Q E h := fun k => by
  obtain ⟨_, _, mg, mb, T⟩ := g.T
  exact Name_function_global hk hx (loadGlobal_global (mg := mg) (he.symm ▸ T.g) (mg_of g.X T.g e) (up1 q)) hd
theorem W_builtin {x : Str} {pos : Pos} {v : Value} {Q : Value → Heap → Prop} (g : Gd C h) (e : nsIn (KF C.w) mainGlobals x = some none) (hv : bootBuiltins x = some v) (q : Q v h)
    (hk : env.scope.kind = .function := by rfl) (hx : env.kindOf x = some .globalImplicit := by rfl) (he : env.globals = mainGlobals := by rfl) (hb : env.builtins = builtinsNs := by rfl) (hn : x ≠ "__name__" := by decide) (hd : (x == ("__debug__" : Str)) = false := by decide) : WP C A (eval (.Name x pos) env) Q E h := fun k => by
  obtain ⟨_, _, mg, mb, T⟩ := g.T
  exact Name_function_global hk hx (loadGlobal_builtin (mg := mg) (mb := mb) (he.symm ▸ T.g) (mg_none_of g.X T.g e) (hb.symm ▸ T.b) ((T.builtins x hn).trans hv) (up1 q)) hd
/-- a call of a def of the text, without cells -/
theorem W_callFn {f : Addr} {o : Obj} {fd : FuncData} {body : List Stmt} {args : List Value} {binds : List (Str × Value)} {Q : Value → Heap → Prop}
    (hl : h.NoLimit) (ho : h.get? f = some o) (hd : o.data = .func fd) (hbody : fd.body = .stmts body) (hcd : h.CodeRec fd.code fd.qualname) (hroom : A.depth < recursionLimit)
    (hbind : bindArgs fd ⟨args, []⟩ = pure binds) (hloc : ∀ x ∈ binds, fd.scope.names.lookup x.1 = some .local)
    (y : ∀ h₁, h₁.Ns h.objs.size (fun x => binds.reverse.lookup x) → Kp h h₁ → h₁.objs.size = h.objs.size + 1 →
      WP C (A.deeper (newEnv fd.scope h.objs.size fd.globals fd.closure (fd.qualname ++ ".<locals>.") (some f) fd.code none fd.builtins)) (execs body (newEnv fd.scope h.objs.size fd.globals fd.closure (fd.qualname ++ ".<locals>.") (some f) fd.code none fd.builtins))
        (fun fl h' => Q (match fl with | .ret v => v | _ => .none) h') (fun _ _ => False) h₁)
    (hco : fd.scope.isCoroutine = false := by rfl) (hgen : fd.scope.isGenerator = false := by rfl) (hk : fd.scope.kind = .function := by rfl) (hcell : ∀ x ∈ fd.scope.names, x.2 ≠ .cell := by decide) :
    WP C A (call (.ref f) args) Q E h := fun k => by
  refine wpAny_call (codeAny_call_function (fd := fd) hroom ho hd hco hgen hbody hcd ?_)
  rw [hbind]
  refine wpAny_pure (wpAny_newFunctionEnv hcell hloc (fun h₁ hns hsb => ⟨?_, ?_⟩) hk)
  · exact hl.fresh _ hsb
  · have kp : Kp h h₁ := fun b o e => hsb.extBut b o (Nat.ne_of_lt (Heap.lt_size e)) (Heap.get?_push_of_some _ e)
    have sz : h₁.objs.size = h.objs.size + 1 := by rw [hsb.1]; exact Heap.size_push _ _
    refine codeAny_func (wpAny_mono (y h₁ hns kp sz (k + binds.length)) (fun fl s q => ?_) fun _ _ ⟨_, _, _, q⟩ => q.elim)
    cases fl <;> exact q
theorem W_addInt {a b : Int} {t u : Tok} {Q : Value → Heap → Prop} (q : ∀ t, Q (.int (a + b) t) h) : WP C A (binaryOp .Add (.int a t) (.int b u)) Q E h := fun k => wpAny_add_int ⟨h, k + 1, rfl, q _⟩
theorem W_subInt {a b : Int} {t u : Tok} {Q : Value → Heap → Prop} (q : ∀ t, Q (.int (a - b) t) h) : WP C A (binaryOp .Sub (.int a t) (.int b u)) Q E h := fun k => PyProof.Rows.sub_int ⟨h, k + 1, rfl, q _⟩
theorem W_mod {a b : Int} {t u : Tok} {Q : Value → Heap → Prop} (hb : b ≠ 0) (q : ∀ t, Q (.int (a.fmod b) t) h) : WP C A (binaryOp .Mod (.int a t) (.int b u)) Q E h := fun k => mod_int' hb ⟨h, k + 1, rfl, q _⟩
theorem W_div {a b : Int} {t u : Tok} {Q : Value → Heap → Prop} (hb : b ≠ 0) (hs : b.natAbs < 1073741824) (q : ∀ t, Q (.int (a.fdiv b) t) h) : WP C A (binaryOp .FloorDiv (.int a t) (.int b u)) Q E h := fun k => floordiv_int hb ⟨h, k + 1, rfl, q _⟩ (Or.inl (PyProof.noPylong_small hs))
theorem W_and {a b : Int} {t u : Tok} {Q : Value → Heap → Prop} (q : ∀ t, Q (.int (Builtin.bitAnd a b) t) h) : WP C A (binaryOp .BitAnd (.int a t) (.int b u)) Q E h := fun k => and_int ⟨h, k + 1, rfl, q _⟩
theorem W_neg {a : Int} {t : Tok} {Q : Value → Heap → Prop} (q : ∀ t, Q (.int (-a) t) h) : WP C A (unaryOp .USub (.int a t)) Q E h := fun k => PyProof.Rows.neg_int ⟨h, k + 1, rfl, q _⟩
theorem W_eqInt {a b : Int} {t u : Tok} {Q : Value → Heap → Prop} (q : Q (.bool (a == b)) h) : WP C A (compareOp .Eq (.int a t) (.int b u)) Q E h := fun k => PyProof.Rows.eq_int (up1 q)
theorem W_ltInt {a b : Int} {t u : Tok} {Q : Value → Heap → Prop} (q : Q (.bool (decide (a < b))) h) : WP C A (compareOp .Lt (.int a t) (.int b u)) Q E h := fun k => PyProof.Rows.lt_int (up1 q)
theorem W_gtInt {a b : Int} {t u : Tok} {Q : Value → Heap → Prop} (q : Q (.bool (decide (b < a))) h) : WP C A (compareOp .Gt (.int a t) (.int b u)) Q E h := fun k => PyProof.Rows.gt_int (up1 q)
theorem W_tInt {a : Int} {t : Tok} {Q : Bool → Heap → Prop} (q : Q (a != 0) h) : WP C A (truthy (.int a t)) Q E h := fun k => PyProof.Rows.truthy_int (up1 q)
theorem W_eqStr {x y : Str} {t u : Tok} {Q : Value → Heap → Prop} (q : Q (.bool (x == y)) h) : WP C A (compareOp .Eq (.str x t) (.str y u)) Q E h := fun k => PyProof.Rows.eq_str (up1 q)
theorem W_neStr {x y : Str} {t u : Tok} {Q : Value → Heap → Prop} (q : Q (.bool (x != y)) h) : WP C A (compareOp .NotEq (.str x t) (.str y u)) Q E h := fun k => PyProof.Rows.ne_str (up1 q)
theorem W_addStr {x y : Str} {t u : Tok} {Q : Value → Heap → Prop} (hsz : x.length + y.length ≤ sizeLine) (q : ∀ t, Q (.str (x ++ y) t) h) : WP C A (binaryOp .Add (.str x t) (.str y u)) Q E h := fun k => PyProof.Rows.add_str (fun t' tk => ⟨h, tk, rfl, q _⟩) hsz
theorem W_not {v : Value} {Q : Value → Heap → Prop} (y : WP C A (truthy v) (fun c h' => Q (.bool (!c)) h') E h) : WP C A (unaryOp .Not v) Q E h := fun k => not_of (y k)
theorem W_tplain {e : Expr} {whole : Sem Value} {Q : Bool → Heap → Prop} (y : WP C A whole (fun v h₁ => WP C A (truthy v) Q E h₁) E h) (he : isTrue e env whole = (do let v ← whole; standAt e.pos; holding [v] (truthy v)) := by rfl) : WP C A (isTrue e env whole) Q E h :=
  fun k => isTrue_plain (wpAny_mono (y k) (fun _ _ q => go q) fun _ _ e => e) he
end
end Mine
namespace Mine
open PySem PySem.W PySem.Calls PySem.Spec PyProof.Rows
noncomputable def listO (vs : List Value) (n : Nat := 0) : Obj := { cls := .type "list", data := .seq vs.toArray n }
noncomputable def tupO (vs : List Value) : Obj := { cls := .type "tuple", data := .seq vs.toArray }
theorem isTup_of {h : Heap} {a : Addr} {vs : List Value} (e : h.get? a = some (tupO vs)) : IsTup h a vs.toArray := ⟨_, e, rfl, _, rfl⟩
theorem isList_of {h : Heap} {a : Addr} {vs : List Value} {n : Nat} (e : h.get? a = some (listO vs n)) : h.IsList a vs.toArray := ⟨_, e, rfl, _, rfl⟩
section
variable {C : Cx} {A : Around} {h : Heap} {E : Value → Heap → Prop} {env : Env}
theorem W_tNot {x pos whole} {Q : Bool → Heap → Prop} (y : WP C A (isTrue x env (eval x env)) (fun c h' => Q (!c) h') E h) : WP C A (isTrue (.UnaryOp .Not x pos) env whole) Q E h := fun k => isTrue_not (y k)
theorem W_tAnd0 {pos whole} {Q : Bool → Heap → Prop} (q : Q true h) : WP C A (isTrue (.BoolOp .And [] pos) env whole) Q E h := fun k => isTrue_and_nil (up1 q)
theorem W_tAnd {x rest pos whole} {Q : Bool → Heap → Prop} (y : WP C A (isTrue x env (eval x env)) (fun c h' => if c then WP C A (isTrue (.BoolOp .And rest pos) env whole) Q E h' else Q false h') E h) :
    WP C A (isTrue (.BoolOp .And (x :: rest) pos) env whole) Q E h :=
  fun k => isTrue_and (wpAny_mono (y k) (fun c s q => by obtain ⟨h, k, rfl, q⟩ := q; cases c <;> first | exact q k | exact up1 q) fun _ _ e => e)
theorem W_Sub {value slice pos} {Q : Value → Heap → Prop} (y : WP C A (eval value env) (fun o h₁ => WP C A (eval slice env) (fun i h₂ => WP C A (subscriptTail value slice o i) Q E h₂) E h₁) E h) :
    WP C A (eval (.Subscript value slice pos) env) Q E h :=
  fun k => Subscript_ (wpAny_mono (y k) (fun _ _ q => wpAny_mono (go q) (fun _ _ q => go q) fun _ _ e => e) fun _ _ e => e)
theorem W_subStr {value slice : Expr} {x : Str} {t u : Tok} {i : Int} {c : Nat} {Q : Value → Heap → Prop} (h0 : 0 ≤ i) (hi : i < 2 ^ 63) (hc : x.cps[i.toNat]? = some c) (q : ∀ t, Q (.str ⟨#[c]⟩ t) h)
    (hs : subscripted slice false (.str x t) (.int i u) = operate [.str x t, .int i u] (getItem (.str x t) (.int i u)) := by with_unfolding_all rfl) :
    WP C A (subscriptTail value slice (.str x t) (.int i u)) Q E h := fun k =>
  tail_any (typeIs_str _ x t) slot_str_getitem.lookup (PyProof.Rows.getItem_str (by simp; omega) (by
    have hl : i.toNat < x.cps.size := by
      have := hc; rw [Array.getElem?_eq_some_iff] at this; exact this.1
    unfold seqIndex?
    have e1 : ¬ i < 0 := by omega
    have hlen : x.length = x.cps.size := rfl
    simp only [e1, if_false]
    have e2 : i < (x.length : Int) := by rw [hlen]; omega
    simp [h0, e2, hc]) ⟨h, k + 1, rfl, q _⟩) hs
theorem W_subList {value slice : Expr} {l : Addr} {vs : List Value} {u : Tok} {i : Int} {v : Value} {Q : Value → Heap → Prop} (hl : h.IsList l vs.toArray) (h0 : 0 ≤ i) (hi : i < 2 ^ 63) (hc : vs[i.toNat]? = some v) (q : Q v h)
    (hs : subscripted slice false (.ref l) (.int i u) = operate [.ref l, .int i u] (getItem (.ref l) (.int i u)) := by with_unfolding_all rfl) :
    WP C A (subscriptTail value slice (.ref l) (.int i u)) Q E h := fun k =>
  tail_any (s := C.S h k) (Heap.IsList.typeIs (s := C.S h k) hl) slot_list_getitem.lookup (wpAny_getItem_list (s := C.S h k) hl h0 hi (by simpa using hc) (up1 q)) hs
theorem W_subTup {value slice : Expr} {l : Addr} {vs : List Value} {u : Tok} {i : Nat} {v : Value} {Q : Value → Heap → Prop} (hl : IsTup h l vs.toArray) (hi : (i : Int) < 2 ^ 63) (hc : vs[i]? = some v) (q : Q v h)
    (hs : subscripted slice false (.ref l) (.int i u) = operate [.ref l, .int i u] (getItem (.ref l) (.int i u)) := by with_unfolding_all rfl) :
    WP C A (subscriptTail value slice (.ref l) (.int i u)) Q E h := fun k =>
  tail_any (s := C.S h k) (IsTup.typeIs (s := C.S h k) hl) slot_tuple_getitem.lookup (PyProof.Rows.getItem_tuple (s := C.S h k) (j := i) hl (by omega) hi (by
    have hlt : i < vs.length := by rw [List.getElem?_eq_some_iff] at hc; exact hc.1
    unfold seqIndex?
    simp only [List.size_toArray]
    have e1 : ¬ (i : Int) < 0 := by omega
    have e2 : (i : Int) < (vs.length : Int) := by omega
    simp [e1, e2]) (by simpa using hc) (up1 q)) hs
theorem W_items0 {pos : Pos} {Q : List Value → Heap → Prop} (q : Q [] h) : WP C A (spliced (backTo pos (starEach [] env))) Q E h := fun k => wpAny_items_nil (up1 q)
theorem W_items {pos : Pos} {e : Expr} {rest : List Expr} {Q : List Value → Heap → Prop} (y : WP C A (eval e env) (fun v h₁ => WP C A (spliced (backTo pos (starEach rest env))) (fun vs h₂ => Q (v :: vs) h₂) E h₁) E h)
    (he : starEach (e :: rest) env = (false, eval e env) :: starEach rest env := by rfl) : WP C A (spliced (backTo pos (starEach (e :: rest) env))) Q E h :=
  fun k => PyProof.Rows.args_cons (wpAny_mono (y k) (fun _ _ q => wpAny_mono (go q) (fun _ _ q => q) fun _ _ e => e) fun _ _ e => e) he
theorem W_Tuple {elts : List Expr} {n : Nat} {pos : Pos} {Q : Value → Heap → Prop} (y : WP C A (spliced (backTo pos (starEach elts env))) (fun vs h₁ => WP C A (newTuple vs) Q E h₁) E h) : WP C A (eval (.Tuple elts n pos) env) Q E h :=
  fun k => PyProof.Rows.Tuple_ (wpAny_mono (y k) (fun _ _ q => go q) fun _ _ e => e)
theorem W_List {elts : List Expr} {pos : Pos} {Q : Value → Heap → Prop} (y : WP C A (spliced (backTo pos (starEach elts env))) (fun vs h₁ => WP C A (newList vs) Q E h₁) E h) : WP C A (eval (.List elts pos) env) Q E h :=
  fun k => PyProof.Rows.List_ (wpAny_mono (y k) (fun _ _ q => go q) fun _ _ e => e)
theorem W_newTuple {vs : List Value} {Q : Value → Heap → Prop} (hsz : vs.length ≤ 1000) (q : Q (.ref h.objs.size) (h.push (tupO vs))) : WP C A (newTuple vs) Q E h :=
  fun k => wpAny_newObj_type (s := C.S h k) (up1 q) (by show vs.toArray.size ≤ sizeLine; rw [List.size_toArray]; exact Nat.le_trans hsz (by decide))
theorem W_newList {vs : List Value} {Q : Value → Heap → Prop} (hsz : vs.length ≤ 1000) (q : Q (.ref h.objs.size) (h.push (listO vs))) : WP C A (newList vs) Q E h :=
  fun k => wpAny_newObj_type (s := C.S h k) (up1 q) (by show vs.toArray.size ≤ sizeLine; rw [List.size_toArray]; exact Nat.le_trans hsz (by decide))
end
end Mine
namespace Mine
open PySem PySem.W PySem.Calls PySem.Spec PyProof.Rows
noncomputable def actS (n : Int) : Str := if n.fmod 4 = 0 then "r" else if n.fmod 4 = 1 then "w" else if n.fmod 4 = 2 then "x" else ""
noncomputable def whoS (n : Int) : Str := if n.fmod 4 = 3 then "" else if (n.fdiv 4).fmod 4 = 0 then "u" else if (n.fdiv 4).fmod 4 = 1 then "g" else if (n.fdiv 4).fmod 4 = 2 then "o" else ""
noncomputable def pathS (n : Int) : Str := if whoS n = "" then "" else if (n.fdiv 16).fmod 4 = 0 then "" else if (n.fdiv 16).fmod 4 = 1 then "/a" else if (n.fdiv 16).fmod 4 = 2 then "/a/b" else "/b"
noncomputable def front (n : Int) : Str := actS n ++ whoS n ++ pathS n
noncomputable def okR (n : Int) : Bool := (n.fdiv 64).fmod 2 == 1
theorem m4_of (a : Int) : a.fmod 4 = 0 ∨ a.fmod 4 = 1 ∨ a.fmod 4 = 2 ∨ a.fmod 4 = 3 := by
  have := Int.fmod_nonneg_of_pos a (b := 4) (by omega); have := Int.fmod_lt_of_pos a (b := 4) (by omega); omega
theorem m4_lt (a : Int) : 0 ≤ a.fmod 4 ∧ a.fmod 4 < 2 ^ 63 := by
  have := Int.fmod_nonneg_of_pos a (b := 4) (by omega); have := Int.fmod_lt_of_pos a (b := 4) (by omega); omega
theorem act_no {n : Int} (h : ¬ n.fmod 4 < 3) : actS n = "" := by
  rcases m4_of n with e | e | e | e <;> simp [actS, e] at h ⊢
theorem act_yes {n : Int} (h : n.fmod 4 < 3) : ∃ c, ("rwx" : Str).cps[(n.fmod 4).toNat]? = some c ∧ actS n = ⟨#[c]⟩ := by
  rcases m4_of n with e | e | e | e
  · exact ⟨114, by rw [e]; rfl, by simp [actS, e]; rfl⟩
  · exact ⟨119, by rw [e]; rfl, by simp [actS, e]; rfl⟩
  · exact ⟨120, by rw [e]; rfl, by simp [actS, e]; rfl⟩
  · rw [e] at h; exact absurd h (by decide)
theorem act_ne {n : Int} : (actS n != "") = decide (n.fmod 4 ≠ 3) := by
  rcases m4_of n with e | e | e | e <;> simp [actS, e] <;> decide
theorem who_no {n : Int} (h : ¬ (n.fdiv 4).fmod 4 < 3 ∨ n.fmod 4 = 3) : whoS n = "" := by
  rcases h with h | h
  · rcases m4_of (n.fdiv 4) with e | e | e | e <;> simp [whoS, e] at h ⊢
  · simp [whoS, h]
theorem who_yes {n : Int} (h : (n.fdiv 4).fmod 4 < 3) (g : n.fmod 4 ≠ 3) : ∃ c, ("ugo" : Str).cps[((n.fdiv 4).fmod 4).toNat]? = some c ∧ whoS n = ⟨#[c]⟩ := by
  rcases m4_of (n.fdiv 4) with e | e | e | e
  · exact ⟨117, by rw [e]; rfl, by simp [whoS, e, g]; rfl⟩
  · exact ⟨103, by rw [e]; rfl, by simp [whoS, e, g]; rfl⟩
  · exact ⟨111, by rw [e]; rfl, by simp [whoS, e, g]; rfl⟩
  · rw [e] at h; exact absurd h (by decide)
theorem path_is {n : Int} (ew : whoS n ≠ "") (t1 t2 t3 t4 : Tok) : ∃ t, [Value.str "" t1, .str "/a" t2, .str "/a/b" t3, .str "/b" t4][((n.fdiv 16).fmod 4).toNat]? = some (.str (pathS n) t) := by
  rcases m4_of (n.fdiv 16) with e | e | e | e
  · exact ⟨t1, by rw [e]; simp [pathS, ew, e]⟩
  · exact ⟨t2, by rw [e]; simp [pathS, ew, e]⟩
  · exact ⟨t3, by rw [e]; simp [pathS, ew, e]⟩
  · exact ⟨t4, by rw [e]; simp [pathS, ew, e]⟩
theorem act_len (n : Int) : (actS n).length ≤ 1 := by unfold actS; (repeat' split) <;> decide
theorem who_len (n : Int) : (whoS n).length ≤ 1 := by unfold whoS; (repeat' split) <;> decide
theorem path_len (n : Int) : (pathS n).length ≤ 4 := by unfold pathS; (repeat' split) <;> decide
section
variable {C : Cx} {A : Around} {h : Heap} {E : Value → Heap → Prop} {G : Heap}
theorem rule_W (hG : Gd C G) (k : Kp G h) (hroom : A.depth < recursionLimit) {n : Int} {t : Tok} {Q : Value → Heap → Prop}
    (q : ∀ a h' t', Kp h h' → h'.get? a = some (tupO [.str (front n) t', .bool (okR n)]) → h.objs.size ≤ a → Q (.ref a) h') : WP C A (call (.ref 124) [.int n t]) Q E h := by
  have g := hG.keeps k
  refine W_callFn (binds := [("n", .int n t)]) g.nolimit (g.X 124 _ rfl) rfl rfl (codeRec_of g.X rfl) hroom rfl (locs rfl) fun h₁ n₁ k₁ z₁ => ?_
  have zn : h.get? h.objs.size = none := none_of_size (Nat.le_refl _)
  -- act
  refine W_cons (W_Assign (WP.post (Q := fun v h' => (∃ t, v = .str (actS n) t) ∧ h' = h₁) ?_ ?_))
  · refine W_IfExp (W_tCompare (W_BinOp (W_local n₁ rfl (W_int fun _ => W_mod (by decide) fun _ => W_int fun _ => W_ltInt (W_tbool ?_)))))
    cases hv : decide (n.fmod 4 < 3) with
    | true =>
      obtain ⟨c, hc, hs⟩ := act_yes (of_decide_eq_true hv)
      exact W_Sub (W_str fun _ => W_BinOp (W_local n₁ rfl (W_int fun _ => W_mod (by decide) fun _ => W_subStr (c := c) (m4_lt n).1 (m4_lt n).2 hc fun t => ⟨⟨t, by rw [hs]⟩, rfl⟩)))
    | false => exact W_str fun t => ⟨⟨t, by rw [act_no (of_decide_eq_false hv)]⟩, rfl⟩
  rintro _ _ ⟨⟨ta, rfl⟩, rfl⟩
  refine W_store n₁ fun h₂ n₂ s₂ => ?_
  -- who
  refine W_cons (W_Assign (WP.post (Q := fun v h' => (∃ t, v = .str (whoS n) t) ∧ h' = h₂) ?_ ?_))
  · refine W_IfExp (W_tAnd (W_tCompare (W_BinOp (W_BinOp (W_local n₂ (upd_ne rfl) (W_int fun _ => W_div (by decide) (by decide) fun _ => W_int fun _ => W_mod (by decide) fun _ => W_int fun _ => W_ltInt (W_tbool ?_)))))))
    cases hv : decide ((n.fdiv 4).fmod 4 < 3) with
    | true =>
      refine W_tAnd (W_tCompare (W_local n₂ upd_eq (W_str fun _ => W_neStr (W_tbool ?_))))
      rw [act_ne]
      cases hw : decide (n.fmod 4 ≠ 3) with
      | false => exact W_str fun t => ⟨⟨t, by rw [who_no (.inr (Decidable.not_not.mp (of_decide_eq_false hw)))]⟩, rfl⟩
      | true =>
        obtain ⟨c, hc, hs⟩ := who_yes (of_decide_eq_true hv) (of_decide_eq_true hw)
        exact W_tAnd0 (W_Sub (W_str fun _ => W_BinOp (W_BinOp (W_local n₂ (upd_ne rfl) (W_int fun _ => W_div (by decide) (by decide) fun _ => W_int fun _ => W_mod (by decide) fun _ => W_subStr (c := c) (m4_lt _).1 (m4_lt _).2 hc fun t => ⟨⟨t, by rw [hs]⟩, rfl⟩)))))
    | false => exact W_str fun t => ⟨⟨t, by rw [who_no (.inl (of_decide_eq_false hv))]⟩, rfl⟩
  rintro _ _ ⟨⟨tw, rfl⟩, rfl⟩
  refine W_store n₂ fun h₃ n₃ s₃ => ?_
  have k₃ : Kp h h₃ := (k₁.same s₂ zn).same s₃ zn
  have l3 : h.objs.size < h₃.objs.size := n₃.lt
  -- front
  refine W_cons (W_Assign (WP.post (Q := fun v h' => (∃ t, v = .str (front n) t) ∧ h'.Ns h.objs.size (upd (upd (fun x => [(Str.ofString "n", Value.int n t)].reverse.lookup x) "act" (.str (actS n) ta)) "who" (.str (whoS n) tw)) ∧ Kp h h' ∧ h.objs.size < h'.objs.size) ?_ ?_))
  · refine W_BinOp (W_BinOp (W_local n₃ (upd_ne upd_eq) (W_local n₃ upd_eq (W_addStr ?_ fun _ => ?_))))
    · have := act_len n
      have := who_len n
      rw [sizeLine_eq]; omega
    refine WP.post (Q := fun v h' => (∃ t, v = .str (pathS n) t) ∧ h'.Ns h.objs.size (upd (upd (fun x => [(Str.ofString "n", Value.int n t)].reverse.lookup x) "act" (.str (actS n) ta)) "who" (.str (whoS n) tw)) ∧ Kp h h' ∧ h.objs.size < h'.objs.size) ?_ ?_
    · refine W_IfExp (W_tCompare (W_local n₃ upd_eq (W_str fun _ => W_neStr (W_tbool ?_))))
      by_cases ew : whoS n = ""
      · have : (whoS n != "") = false := by simp [ew]
        rw [this]
        exact W_str fun t => ⟨⟨t, by simp [pathS, ew]⟩, n₃, k₃, l3⟩
      · have : (whoS n != "") = true := by simpa using ew
        rw [this]
        refine W_Sub (W_List (W_items (W_str fun t1 => W_items (W_str fun t2 => W_items (W_str fun t3 => W_items (W_str fun t4 => W_items0 (W_newList (by simp) ?_)))))))
        have n₄ := n₃.push (listO [.str "" t1, .str "/a" t2, .str "/a/b" t3, .str "/b" t4])
        have l4 : (h₃.push (listO [.str "" t1, .str "/a" t2, .str "/a/b" t3, .str "/b" t4])).IsList h₃.objs.size [.str "" t1, .str "/a" t2, .str "/a/b" t3, .str "/b" t4].toArray := isList_of (Heap.get?_push_size _ rfl)
        have z4 : h.objs.size < (h₃.push (listO [.str "" t1, .str "/a" t2, .str "/a/b" t3, .str "/b" t4])).objs.size := by rw [Heap.size_push]; omega
        refine W_BinOp (W_BinOp (W_local n₄ (upd_ne (upd_ne rfl)) (W_int fun _ => W_div (by decide) (by decide) fun _ => W_int fun _ => W_mod (by decide) fun _ => ?_)))
        obtain ⟨tq, hq⟩ := path_is ew t1 t2 t3 t4
        exact W_subList l4 (m4_lt _).1 (m4_lt _).2 hq ⟨⟨tq, rfl⟩, n₄, k₃.push _, z4⟩
    rintro _ h' ⟨⟨tp, rfl⟩, n', k', z'⟩
    refine W_addStr ?_ fun t => ⟨⟨t, rfl⟩, n', k', z'⟩
    have := act_len n
    have := who_len n
    have := path_len n
    rw [Str.length_append, sizeLine_eq]; omega
  rintro _ h₄ ⟨⟨tf, rfl⟩, n₄, k₄, z₄⟩
  refine W_store n₄ fun h₅ n₅ s₅ => ?_
  refine W_cons (W_Return (W_Tuple (W_items (W_local n₅ upd_eq (W_items (W_Compare (W_BinOp (W_BinOp (W_local n₅ (upd_ne (upd_ne (upd_ne rfl))) (W_int fun _ => W_div (by decide) (by decide) fun _ => W_int fun _ => W_mod (by decide) fun _ => W_int fun _ => W_eqInt ?_))))))))))
  refine W_items0 (W_newTuple (by simp) ?_)
  refine q _ _ tf ((k₄.same s₅ zn).push _) (Heap.get?_push_size _ rfl) ?_
  have := n₅.lt
  exact Nat.le_of_lt this
end
end Mine
namespace Mine
open PySem PySem.W PySem.Calls PySem.Spec PyProof.Rows
theorem slot_fn_ga : Slot "function" "__getattribute__" "object.__getattribute__" :=
  .of (owner := "object") (n := "__getattribute__") (by rw [typeLookup_type, builtinLookup_eq_fast]; kernel_rfl) (by decide +kernel) (by decide +kernel) (by decide +kernel)
    (by first | exact .inl (by decide +kernel) | exact .inr (by decide +kernel)) (by rw [isSubtype_type]; kernel_rfl)
theorem slot_fn_sa : Slot "function" "__setattr__" "object.__setattr__" :=
  .of (owner := "object") (n := "__setattr__") (by rw [typeLookup_type, builtinLookup_eq_fast]; kernel_rfl) (by decide +kernel) (by decide +kernel) (by decide +kernel)
    (by first | exact .inl (by decide +kernel) | exact .inr (by decide +kernel)) (by rw [isSubtype_type]; kernel_rfl)
noncomputable def fnO (d : Option Addr) (fd : FuncData) : Obj := { cls := .type "function", dict := d, data := .func fd }
section
variable {prog : Program} {w : World} {A : Around} {E : Value → Shared → Prop} {h : Heap} {g : Array GenState} {d : Drawn} {t : Nat} {os : OsState} {a da : Addr} {fd : FuncData} {md : Str → Option Value} {name : Str} {v : Value}
theorem ga_entry {tk : Tok} {Q : Fin → Shared → Prop} (ha : h.get? a = some (fnO (some da) fd)) (hd : h.Ns da md) (hm : md name = some v) (hT : typeLookup (.type "function") name = pure none)
    (hq : Q (.done (.ret v)) ⟨h, g, d, t, os⟩) : wpAny (model prog w) A (Builtin.«object.__getattribute__» ⟨[.ref a, .str name tk], []⟩) Q E ⟨h, g, d, t, os⟩ := by
  have hTy : (⟨h, g, d, t, os⟩ : Shared).TypeIs (.ref a) "function" := ⟨_, ha, rfl⟩
  repeat (any_goals (first | assumption | (with_reducible refine wpAny_nsGet (s := ⟨h, g, d, t, os⟩) hd ?_; rw [hm]) | wp_step))
theorem ga_call {tk : Tok} {R : Result → Shared → Prop} (ha : h.get? a = some (fnO (some da) fd)) (hd : h.Ns da md) (hm : md name = some v) (hT : typeLookup (.type "function") name = pure none)
    (hq : R (.ok (.ret v)) ⟨h, g, d, t, os⟩) : codeAny (model prog w) A (.call (.builtin "object.__getattribute__") ⟨[.ref a, .str name tk], []⟩) R ⟨h, g, d, t, os⟩ :=
  codeAny_call_builtin slot_fn_ga.plain F.entry_object_getattribute (slot_fn_ga.check _ _ _ _ _ _ _ _ (show (⟨h, g, d, t, os⟩ : Shared).TypeIs (.ref a) "function" from ⟨_, ha, rfl⟩) (F.args_object_getattribute_2 _ _) (ga_entry ha hd hm hT hq))
theorem ga_attr {ex : Bool} {Q : Value → Shared → Prop} (ha : h.get? a = some (fnO (some da) fd)) (hd : h.Ns da md) (hm : md name = some v) (hT : typeLookup (.type "function") name = pure none) (hh : handedOut v = pure v)
    (hq : Q v ⟨h, g, d, t + 1, os⟩) : wpAny (model prog w) A (getAttr (.ref a) name ex) Q E ⟨h, g, d, t, os⟩ := by
  have hTy : (⟨h, g, d, t + 1, os⟩ : Shared).TypeIs (.ref a) "function" := ⟨_, ha, rfl⟩
  have f2 := slot_fn_ga.lookup
  have f3 := slot_fn_ga.bind (.ref a)
  unfold getAttr getAttrBy
  cases ex <;> (repeat (any_goals (first | assumption | ((with_reducible show codeAny _ _ _ _ _); refine ga_call ha hd hm hT ?_) | wp_step)))
theorem ga_meth {pl : Sem Bool} {Q : Value × List Value → Shared → Prop} (ha : h.get? a = some (fnO (some da) fd)) (hd : h.Ns da md) (hm : md name = some v) (hT : typeLookup (.type "function") name = pure none) (hh : handedOut v = pure v)
    (hq : Q (v, []) ⟨h, g, d, t + 1, os⟩) : wpAny (model prog w) A (getMethod (.ref a) name pl) Q E ⟨h, g, d, t, os⟩ := by
  have hTy : (⟨h, g, d, t, os⟩ : Shared).TypeIs (.ref a) "function" := ⟨_, ha, rfl⟩
  have f2 := slot_fn_ga.lookup
  have f4 : typeLookup (.type "function") "__getattr__" = pure none := by rw [typeLookup_type, builtinLookup_eq_fast]; kernel_rfl
  have f5 := F.canon_object_ga
  unfold getMethod
  repeat (any_goals (first | assumption | (with_reducible refine ga_attr ha hd hm hT hh ?_) | ((with_reducible show wpAny _ _ (if (Manifest.canonical _ != _) = true then _ else _) _ _ _); rw [f5]; refine wpAny_ite_false (by decide) ?_) | wp_step))
end
end Mine
namespace Mine
open PySem PySem.W PySem.Calls PySem.Spec PyProof.Rows
section
variable {prog : Program} {w : World} {A : Around} {E : Value → Shared → Prop} {h : Heap} {g : Array GenState} {d : Drawn} {t : Nat} {os : OsState} {a da : Addr} {fd : FuncData} {md : Str → Option Value} {name : Str} {v : Value}
theorem sa_entry1 {tk : Tok} {Q : Fin → Shared → Prop} {ns : List Str} (ha : h.get? a = some (fnO (some da) fd)) (hd : h.Ns1 da md) (hw : Within md ns) (hl : ns.length ≤ 100) (hT : typeLookup (.type "function") name = pure none)
    (hq : ∀ h' tk', h'.Ns1 da (upd md name v) → Heap.SameBut da h h' → Q (.done (.ret .none)) ⟨h', g, d, tk', os⟩) : wpAny (model prog w) A (Builtin.«object.__setattr__» ⟨[.ref a, .str name tk, v], []⟩) Q E ⟨h, g, d, t, os⟩ := by
  have hTy : (⟨h, g, d, t, os⟩ : Shared).TypeIs (.ref a) "function" := ⟨_, ha, rfl⟩
  have f2 := slot_fn_sa.lookup
  repeat (any_goals (first | assumption | (with_reducible refine wpAny_nsSet1 (s := ⟨h, g, d, t, os⟩) hd (fun h' hn' hs' => ?_)) | ((with_reducible show wpAny _ _ (lookBehind _ _) _ _ _); fail) | wp_step))
  obtain ⟨oD, esD, epD, hoD, hdD, hcD⟩ := hn'.count (Within.cons name v hw)
  have hl' : esD.size ≤ sizeLine + 1 := by rw [List.length_cons] at hcD; rw [sizeLine_eq]; omega
  refine wpAny_loadPart hoD ?_
  rw [hdD, pastItsLine_dict hl']
  repeat (any_goals (first | assumption | wp_step))
  exact hq h' _ hn' hs'
theorem sa_entry0 {tk : Tok} {Q : Fin → Shared → Prop} (ha : h.get? a = some (fnO none fd)) (hT : typeLookup (.type "function") name = pure none)
    (hq : ∀ h' tk', h'.Ns1 h.objs.size (upd (fun _ => none) name v) → h'.get? a = some (fnO (some h.objs.size) fd) → (∀ b o, b ≠ a → h.get? b = some o → h'.get? b = some o) → Q (.done (.ret .none)) ⟨h', g, d, tk', os⟩) : wpAny (model prog w) A (Builtin.«object.__setattr__» ⟨[.ref a, .str name tk, v], []⟩) Q E ⟨h, g, d, t, os⟩ := by
  have hTy : (⟨h, g, d, t, os⟩ : Shared).TypeIs (.ref a) "function" := ⟨_, ha, rfl⟩
  have f2 := slot_fn_sa.lookup
  have hne : h.objs.size ≠ a := Nat.ne_of_gt (Heap.lt_size ha)
  have hN : ((h.push { cls := .type "dict", data := .dict #[] }).update a fun o => { cls := o.cls, dict := some h.objs.size, data := o.data, slots := o.slots }).Ns1 h.objs.size fun _ => none := by
    refine Heap.Ns1.of_empty ?_
    exact (Heap.Ns.new h (.type "dict")).sameBut (Heap.SameBut.update ..) hne
  have ha2 : ((h.push { cls := .type "dict", data := .dict #[] }).update a fun o => { cls := o.cls, dict := some h.objs.size, data := o.data, slots := o.slots }).get? a = some (fnO (some h.objs.size) fd) :=
    Heap.get?_update_self _ (Heap.get?_push_of_some _ ha) rfl
  repeat (any_goals (first | assumption | ((with_reducible show wpAny _ _ (nsSet _ _ _) _ _ _); refine wpAny_nsSet1 hN (fun h' hn' hs' => ?_)) | wp_step))
  obtain ⟨oD, esD, epD, hoD, hdD, hcD⟩ := hn'.count (Within.cons name v Within.nil)
  have hl' : esD.size ≤ sizeLine + 1 := by rw [List.length_cons] at hcD; rw [sizeLine_eq]; simp at hcD; omega
  refine wpAny_loadPart hoD ?_
  rw [hdD, pastItsLine_dict hl']
  repeat (any_goals (first | assumption | wp_step))
  exact hq h' _ hn' ((hs'.2 a hne.symm).trans ha2) (fun b o hb e => (hs'.2 b (Nat.ne_of_lt (Heap.lt_size e))).trans ((Heap.get?_update_other _ _ (Ne.symm hb)).trans (Heap.get?_push_of_some _ e)))
section
theorem sa_attr1 {Q : Unit → Shared → Prop} {ns : List Str} (ha : h.get? a = some (fnO (some da) fd)) (hd : h.Ns1 da md) (hw : Within md ns) (hl : ns.length ≤ 100) (hT : typeLookup (.type "function") name = pure none)
    (hq : ∀ h' tk', h'.Ns1 da (upd md name v) → Heap.SameBut da h h' → Q () ⟨h', g, d, tk', os⟩) : wpAny (model prog w) A (setAttr (.ref a) name v) Q E ⟨h, g, d, t, os⟩ := by
  have hTy : (⟨h, g, d, t + 1, os⟩ : Shared).TypeIs (.ref a) "function" := ⟨_, ha, rfl⟩
  have f2 := slot_fn_sa.lookup
  have f3 := slot_fn_sa.bind (.ref a)
  unfold setAttr callSpecial?
  repeat (any_goals (first | assumption | ((with_reducible show codeAny _ _ _ _ _); refine codeAny_call_builtin slot_fn_sa.plain F.entry_object_setattr (slot_fn_sa.check _ _ _ _ _ _ _ _ (show (⟨h, g, d, t + 1, os⟩ : Shared).TypeIs (.ref a) "function" from ⟨_, ha, rfl⟩) (F.args_object_setattr_3 _ _ _) (sa_entry1 ha hd hw hl hT fun h' tk' n' s' => ?_))) | wp_step))
  exact hq _ _ n' s'
theorem sa_attr0 {Q : Unit → Shared → Prop} (ha : h.get? a = some (fnO none fd)) (hT : typeLookup (.type "function") name = pure none)
    (hq : ∀ h' tk', h'.Ns1 h.objs.size (upd (fun _ => none) name v) → h'.get? a = some (fnO (some h.objs.size) fd) → (∀ b o, b ≠ a → h.get? b = some o → h'.get? b = some o) → Q () ⟨h', g, d, tk', os⟩) : wpAny (model prog w) A (setAttr (.ref a) name v) Q E ⟨h, g, d, t, os⟩ := by
  have hTy : (⟨h, g, d, t + 1, os⟩ : Shared).TypeIs (.ref a) "function" := ⟨_, ha, rfl⟩
  have f2 := slot_fn_sa.lookup
  have f3 := slot_fn_sa.bind (.ref a)
  unfold setAttr callSpecial?
  repeat (any_goals (first | assumption | ((with_reducible show codeAny _ _ _ _ _); refine codeAny_call_builtin slot_fn_sa.plain F.entry_object_setattr (slot_fn_sa.check _ _ _ _ _ _ _ _ (show (⟨h, g, d, t + 1, os⟩ : Shared).TypeIs (.ref a) "function" from ⟨_, ha, rfl⟩) (F.args_object_setattr_3 _ _ _) (sa_entry0 ha hT fun h' tk' n' a' s' => ?_))) | wp_step))
  exact hq _ _ n' a' s'
end
end
end Mine
namespace Mine
open PySem PySem.W PySem.Calls PySem.Spec PyProof.Rows
/-- who holds a callee: a built-in, or a def's object -/
noncomputable def Kept (f : Value) (h : Heap) : Prop := (∃ id, f = .builtin id) ∨ (∃ id, f = .type id) ∨ (∃ a o fd, f = .ref a ∧ h.get? a = some o ∧ o.data = .func fd) ∨ ∃ K : Frag, K.In h ∧ keepIn K f = true
theorem Kept.builtin {id : String} {h : Heap} : Kept (.builtin id) h := .inl ⟨id, rfl⟩
theorem Kept.type {id : String} {h : Heap} : Kept (.type id) h := .inr (.inl ⟨id, rfl⟩)
theorem Kept.fn {a : Addr} {o : Obj} {fd : FuncData} {h : Heap} (e : h.get? a = some o) (d : o.data = .func fd) : Kept (.ref a) h := .inr (.inr (.inl ⟨a, o, fd, rfl, e, d⟩))
theorem Kept.top {K : Frag} {f : Value} {h : Heap} (x : K.In h) (e : keepIn K f = true) : Kept f h := .inr (.inr (.inr ⟨K, x, e⟩))
theorem Kept.looks {M : Model} {f : Value} (h : Heap) (x : Kept f h) : ∃ k, (k = Keeper.frame ∨ k = Keeper.machine ∨ k = Keeper.boundFrame) ∧ Looks M h (keeperOf f) k := by
  rcases x with ⟨id, rfl⟩ | ⟨id, rfl⟩ | ⟨a, o, fd, rfl, e, d⟩ | ⟨K, x, e⟩
  · exact ⟨.machine, .inr (.inl rfl), Looks.of_pure rfl⟩
  · exact ⟨.machine, .inr (.inl rfl), Looks.of_pure rfl⟩
  · refine ⟨.frame, .inl rfl, ?_⟩
    intro A Q E s k q
    unfold keeperOf
    refine wpAny_bind (wpAny_load (k _ _ e) ?_)
    rw [d]
    exact wpAny_pure q
  · exact keeps_K e h x
section
variable {C : Cx} {A : Around} {h : Heap} {E : Value → Heap → Prop} {env : Env}
theorem W_Call {func : Expr} {args : List Expr} {pos : Pos} {Q : Value → Heap → Prop} (y : WP C A (eval func env) (fun f h₁ => WP C A (callWith pos f [] (backTo pos (starEach args env)) []) Q E h₁) E h)
    (he : eval (.Call func args [] pos) env = (do callWith pos (← eval func env) [] (backTo pos (starEach args env)) (backToKw pos (keywordEach [] env))) := by rfl) : WP C A (eval (.Call func args [] pos) env) Q E h :=
  fun k => PyProof.Rows.Call_ (wpAny_mono (y k) (fun _ _ q => go q) fun _ _ e => e) he
theorem W_with {f : Value} {first : List Value} {pos : Pos} {e : Expr} {rest : List Expr} {Q : Value → Heap → Prop}
    (y : WP C A (spliced (backTo pos (starEach (e :: rest) env))) (fun vs h₁ => Kept f h₁ ∧ WP C A (call f (first ++ vs)) Q E h₁) E h)
    (he : starEach (e :: rest) env = (false, eval e env) :: starEach rest env := by rfl) (hplain : (backTo pos (starEach rest env)).any (·.1) = false := by rfl) :
    WP C A (callWith pos f first (backTo pos (starEach (e :: rest) env)) []) Q E h := fun k => by
  have y' := y k
  rw [he] at y' ⊢
  refine callWith_of (P := Kept f) (by show ((false || (backTo pos (starEach rest env)).any (·.1)) || false) = false; rw [hplain]; rfl) Kept.looks ?_
  refine evalArgs_plain (wpAny_mono y' (fun vs s q => ?_) fun _ _ e => e)
  obtain ⟨h, k, rfl, q1, q2⟩ := q
  exact ⟨q1, q2 k⟩
theorem W_with0 {f : Value} {first : List Value} {pos : Pos} {Q : Value → Heap → Prop} (hk : Kept f h) (y : WP C A (call f (first ++ [])) Q E h) : WP C A (callWith pos f first (backTo pos (starEach [] env)) []) Q E h :=
  fun k => callWith_of (P := Kept f) rfl Kept.looks (evalArgs_nil3 ⟨hk, y k⟩)
theorem W_Meth {o : Expr} {name : Str} {apos pos : Pos} {args : List Expr} {Q : Value → Heap → Prop}
    (y : WP C A (eval o env) (fun ov h₁ => ∀ pl, WP C A (getMethod ov name pl) (fun p h₂ => WP C A (callWith pos p.1 p.2 (backTo pos (starEach args env)) []) Q E h₂) E h₁) E h)
    (hbase : attributeBase o name env (eval o env) = eval o env := by rfl)
    (hfew : methodCallForm (args.length + ([] : List Keyword).length) (backTo pos (starEach args env)) (backToKw pos (keywordEach [] env)) = true := by rfl) (hline : (apos.endLine == pos.line) = true := by rfl) :
    WP C A (eval (.Call (.Attribute o name apos) args [] pos) env) Q E h := fun k => by
  rw [arm_eval_Call, hbase]
  refine wpAny_bind (wpAny_mono (y k) (fun ov s₁ h₁ => ?_) fun _ _ e => e)
  obtain ⟨h, k, rfl, q⟩ := h₁
  refine wpAny_bind (wpAny_standAt ?_)
  have hpos : methodCallPos true o env apos pos = pure pos := by unfold methodCallPos; simp [hline]
  unfold methodCall calleeOf
  rw [hfew]
  refine wpAny_bind (wpAny_holding (wpAny_mono (q _ k) (fun p s₂ h₂ => ?_) fun _ _ e => e))
  exact wpAny_bind (wpAny_of_eq hpos (go h₂))
theorem W_Attr {value : Expr} {attr : Str} {pos : Pos} {Q : Value → Heap → Prop} (y : WP C A (eval value env) (fun o h₁ => WP C A (getAttr o attr true) Q E h₁) E h)
    (he : eval (.Attribute value attr pos) env = (do
      let o ← eval value env
      standAt pos.atName
      let r ← holding [o] (getAttr o attr true)
      letTemporaryGo value o r
      pure r) := by with_unfolding_all rfl) : WP C A (eval (.Attribute value attr pos) env) Q E h :=
  fun k => Attribute_any_ (wpAny_mono (y k) (fun _ _ q => go q) fun _ _ e => e) he
theorem W_Expr {e pos} {Q : Flow → Heap → Prop} (y : WP C A (eval e env) (fun v h' => (∀ a, v ≠ .ref a) ∧ Q .next h') E h) (hi : interactive env = false := by rfl) (hs : swapsWith e none pos.line env = pure false := by rfl) :
    WP C A (exec (.Expr e pos) env) Q E h :=
  fun k => wpAny_Expr (wpAny_mono (y k) (fun v s q => by
    obtain ⟨h, k, rfl, hv, q⟩ := q
    cases v <;> first | exact up1 q | exact (hv _ rfl).elim) fun _ _ e => e) hi hs
/-- read an attribute of a function's own dict -/
theorem W_fnAttr {a da : Addr} {fd : FuncData} {md : Str → Option Value} {name : Str} {v : Value} {ex : Bool} {Q : Value → Heap → Prop} (ha : h.get? a = some (fnO (some da) fd)) (hd : h.Ns da md) (hm : md name = some v) (hT : typeLookup (.type "function") name = pure none) (hh : handedOut v = pure v)
    (q : Q v h) : WP C A (getAttr (.ref a) name ex) Q E h := fun k => ga_attr ha hd hm hT hh ⟨h, k + 1, rfl, q⟩
theorem W_fnMeth {a da : Addr} {fd : FuncData} {md : Str → Option Value} {name : Str} {v : Value} {pl : Sem Bool} {Q : Value × List Value → Heap → Prop} (ha : h.get? a = some (fnO (some da) fd)) (hd : h.Ns da md) (hm : md name = some v) (hT : typeLookup (.type "function") name = pure none) (hh : handedOut v = pure v)
    (q : Q (v, []) h) : WP C A (getMethod (.ref a) name pl) Q E h := fun k => ga_meth ha hd hm hT hh ⟨h, k + 1, rfl, q⟩
/-- a call of a def of the text, with cells -/
theorem W_callFnC {f : Addr} {o : Obj} {fd : FuncData} {body : List Stmt} {args : List Value} {binds : List (Str × Value)} {Q : Value → Heap → Prop}
    (hl : h.NoLimit) (ho : h.get? f = some o) (hd : o.data = .func fd) (hbody : fd.body = .stmts body) (hcd : h.CodeRec fd.code fd.qualname) (hroom : A.depth < recursionLimit)
    (hbind : bindArgs fd ⟨args, []⟩ = pure binds) (hclo : fd.closure = [])
    (hkind : ∀ x ∈ binds, fd.scope.names.lookup x.1 = some .local ∨ (fd.scope.names.lookup x.1 = some .cell ∧ ((cellsFrom (h.objs.size + 1) fd.scope.names []).lookup x.1).isSome = true))
    (y : ∀ h₁, h₁.Ns h.objs.size (bindL (callEnvC fd h.objs.size f).kindOf binds fun _ => none) → Kp h h₁ →
      (∀ n c, (callEnvC fd h.objs.size f).cells.lookup n = some c → h₁.IsCell c (bindC (callEnvC fd h.objs.size f).kindOf binds (fun _ => none) n)) →
      WP C (A.deeper (callEnvC fd h.objs.size f)) (execs body (callEnvC fd h.objs.size f)) (fun fl h' => Q (match fl with | .ret v => v | _ => .none) h') (fun _ _ => False) h₁)
    (hco : fd.scope.isCoroutine = false := by rfl) (hgen : fd.scope.isGenerator = false := by rfl) (hk : fd.scope.kind = .function := by rfl) :
    WP C A (call (.ref f) args) Q E h := fun k => by
  refine wpAny_call (codeAny_call_cells (fd := fd) hroom ho hd hl hcd hbody hbind hclo hkind (fun s₁ x => ?_) hco hgen hk)
  obtain ⟨h₁, tk, rfl⟩ := x.toInCall.same
  refine wpAny_mono (y h₁ x.toInCall.ns x.toInCall.keep x.cell tk) (fun fl s q => ?_) fun _ _ ⟨_, _, _, q⟩ => q.elim
  cases fl <;> exact q
end
end Mine
namespace Mine
open PySem PySem.W PySem.Calls PySem.Spec PyProof.Rows
noncomputable def KpT (h h' : Heap) : Prop := ∀ b o, b ≠ 126 → h.get? b = some o → h'.get? b = some o
theorem KpT.refl (h : Heap) : KpT h h := fun _ _ _ e => e
theorem KpT.trans {a b c : Heap} (x : KpT a b) (y : KpT b c) : KpT a c := fun q o n e => y q o n (x q o n e)
theorem Kp.t {a b : Heap} (x : Kp a b) : KpT a b := fun q o _ e => x q o e
theorem Kp.thenT {a b c : Heap} (x : Kp a b) (y : KpT b c) (n : a.get? 126 = none) : Kp a c := fun q o e => y q o (fun z => by rw [z, n] at e; cases e) (x q o e)
theorem KpT.same {a b c : Heap} {L : Addr} (x : KpT a b) (s : Heap.SameBut L b c) (n : a.get? L = none) : KpT a c := fun q o z e => (s.2 q (fun z => by rw [z, n] at e; cases e)).trans (x q o z e)
noncomputable def lamQ : Str := "_law_line.<locals>.<lambda>"
/-- what is frozen grows: G' holds G and all that is new behind h -/
noncomputable def frz (h' : Heap) (P : Addr → Bool) : Heap := { h' with objs := h'.objs.mapIdx fun b o => if P b then o else { o with data := .freed } }
theorem frz_get {h' : Heap} {P : Addr → Bool} {b : Addr} (c : P b = true) : (frz h' P).get? b = h'.get? b := by
  unfold frz Heap.get?
  simp only [Array.getElem?_mapIdx]
  cases h'.objs[b]? with
  | none => rfl
  | some o => simp only [Option.map_some, c, if_true]
theorem frz_no {h' : Heap} {P : Addr → Bool} {b : Addr} (c : P b = false) : (frz h' P).get? b = none := by
  unfold frz Heap.get?
  simp only [Array.getElem?_mapIdx]
  cases h'.objs[b]? with
  | none => rfl
  | some o => simp only [Option.map_some, c, Bool.false_eq_true, if_false]
noncomputable def grow (G h h' : Heap) : Heap := frz h' fun b => (G.get? b).isSome || (h.get? b).isNone
theorem grow_get {G h h' : Heap} {b : Addr} (c : ((G.get? b).isSome || (h.get? b).isNone) = true) : (grow G h h').get? b = h'.get? b := frz_get c
theorem grow_no {G h h' : Heap} {b : Addr} (c : ((G.get? b).isSome || (h.get? b).isNone) = false) : (grow G h h').get? b = none := frz_no c
structure Grow (G h G' h' : Heap) : Prop where
  old : Kp G G'
  now : Kp G' h'
  new : ∀ b o, G'.get? b = some o → G.get? b = some o ∨ h.get? b = none
theorem grow_is {G h h' : Heap} (k : Kp G h') : Grow G h (grow G h h') h' where
  old := fun b o e => by rw [grow_get (by rw [e]; rfl)]; exact k b o e
  now := fun b o e => by
    cases c : ((G.get? b).isSome || (h.get? b).isNone) with
    | true => rw [grow_get c] at e; exact e
    | false => rw [grow_no c] at e; cases e
  new := fun b o e => by
    cases c : ((G.get? b).isSome || (h.get? b).isNone) with
    | true =>
      rw [grow_get c] at e
      cases q : G.get? b with
      | none => rw [q] at c; exact .inr (by simpa using c)
      | some o' => exact .inl ((k b o' q).symm.trans e ▸ rfl)
    | false => rw [grow_no c] at e; cases e
theorem grow_new {G h h' : Heap} {b : Addr} {o : Obj} (e : h'.get? b = some o) (n : h.get? b = none) : (grow G h h').get? b = some o := by
  rw [grow_get (by rw [n]; exact Bool.or_true _)]; exact e
theorem Grow.off {G h G' h' : Heap} (x : Grow G h G' h') {b : Addr} (n : G.get? b = none) {o : Obj} (l : h.get? b = some o) : G'.get? b = none := by
  cases e : G'.get? b with
  | none => rfl
  | some o' => rcases x.new b o' e with q | q
               · rw [n] at q; cases q
               · rw [l] at q; cases q
/-- what is frozen in K, new or old, is frozen in grow -/
theorem grow_into {G h h' K : Heap} (k : Kp K h') (n : ∀ b o, K.get? b = some o → G.get? b = some o ∨ h.get? b = none) : Kp K (grow G h h') := fun b o e => by
  rw [grow_get (by rcases n b o e with q | q <;> rw [q] <;> simp)]
  exact k b o e
noncomputable def TabSt (G h : Heap) : Prop := h.get? 126 = some (tabObj #[]) ∨ ∃ c1 c2, h.get? 126 = some (tabObj #[rawInt 114, rawInt 11, .ref c1, rawInt 115, rawInt 22, .ref c2]) ∧ G.CodeRec (.ref c1) lamQ ∧ G.CodeRec (.ref c2) lamQ
noncomputable def mOf (f name : Str) : Int := if Txt.startswith name f then f.length + 1 else 0
noncomputable def Appl (C : Cx) (G : Heap) (fv : Value) (f : Str) : Prop := ∀ (A : Around) (h' : Heap) (name : Str) (t : Tok) (Q : Value → Heap → Prop) (E : Value → Heap → Prop), Kp G h' → A.depth + 5 < recursionLimit →
  (∀ t' h'', Kp h' h'' → Q (.int (mOf f name) t') h'') → WP C A (call fv [.str name t]) Q E h'
/-- a line of an entry: what it stands for -/
inductive LineAt (C : Cx) (G : Heap) (a : Addr) (f : Str) (b : Bool) : Prop
  | mk (da fd md fa fl : _) (p1 : G.get? a = some (fnO (some da) fd)) (p2 : G.Ns da md) (p3 : md "applies_to" = some (.ref fa)) (p4 : md "allowance" = some (.bool b)) (p5 : G.get? fa = some (fnO none fl)) (p6 : Appl C G (.ref fa) f) : LineAt C G a f b
section
variable {C : Cx} {A : Around} {h : Heap} {E : Value → Heap → Prop} {env : Env} {G : Heap}
theorem W_callLam {f : Addr} {o : Obj} {fd : FuncData} {body : Expr} {args : List Value} {binds : List (Str × Value)} {Q : Value → Heap → Prop}
    (hl : h.NoLimit) (ho : h.get? f = some o) (hd : o.data = .func fd) (hbody : fd.body = .expr body) (hcd : h.CodeRec fd.code fd.qualname) (hroom : A.depth < recursionLimit)
    (hbind : bindArgs fd ⟨args, []⟩ = pure binds) (hloc : ∀ x ∈ binds, fd.scope.names.lookup x.1 = some .local)
    (y : ∀ h₁, h₁.Ns h.objs.size (fun x => binds.reverse.lookup x) → Kp h h₁ →
      WP C (A.deeper (newEnv fd.scope h.objs.size fd.globals fd.closure (fd.qualname ++ ".<locals>.") (some f) fd.code none fd.builtins)) (eval body (newEnv fd.scope h.objs.size fd.globals fd.closure (fd.qualname ++ ".<locals>.") (some f) fd.code none fd.builtins))
        Q (fun _ _ => False) h₁)
    (hco : fd.scope.isCoroutine = false := by rfl) (hgen : fd.scope.isGenerator = false := by rfl) (hk : fd.scope.kind = .function := by rfl) (hcell : ∀ x ∈ fd.scope.names, x.2 ≠ .cell := by decide) :
    WP C A (call (.ref f) args) Q E h := fun k => by
  refine wpAny_call (kla_callFunE (fd := fd) hroom ho hd hco hgen hbody hcd ?_)
  rw [hbind]
  refine wpAny_pure (wpAny_newFunctionEnv hcell hloc (fun h₁ hns hsb => ⟨?_, ?_⟩) hk)
  · exact hl.fresh _ hsb
  · have kp : Kp h h₁ := fun b o e => hsb.extBut b o (Nat.ne_of_lt (Heap.lt_size e)) (Heap.get?_push_of_some _ e)
    exact kla_codeExpr (wpAny_mono (y h₁ hns kp (k + binds.length)) (fun fl s q => q) fun _ _ ⟨_, _, _, q⟩ => q.elim)
theorem W_lam {params : Arguments} {body : Expr} {scope : Scope} {pos : Pos} {ps : Array Value} {clos : List (Str × Addr)} {Q : Value → Heap → Prop}
    (hG : Gd C G) (hn : G.get? 126 = none) (kp : Kp G h) (hP : h.get? 126 = some (tabObj ps)) (ht : TriplesOk ps.toList) (hcl : closureFor scope env = pure clos) (hge : env.globals = mainGlobals) (hcode : env.code = .ref 130) (hqu : env.qual ++ "<lambda>" = lamQ)
    (hlook : codeAmong pos ps.toList = none ∨ ∃ c, codeAmong pos ps.toList = some (.ref c) ∧ h.CodeRec (.ref c) lamQ)
    (q : ∀ a h' c' pm ctv ps', KpT h h' → h.objs.size ≤ a → h'.get? a = some (fnO none (kla_fn "<lambda>" lamQ params body scope clos pm (.ref c') ctv)) → h'.CodeRec (.ref c') lamQ → h'.get? 126 = some (tabObj ps') →
      ((codeAmong pos ps.toList = none ∧ ps' = ps ++ #[rawInt pos.line, rawInt pos.col, .ref c'] ∧ h.objs.size ≤ c') ∨ (codeAmong pos ps.toList = some (.ref c') ∧ ps' = ps)) → Q (.ref a) h')
    (he : eval (.Lambda params body scope pos) env = makeFunction "<lambda>" (env.qual ++ "<lambda>") params (.expr body) scope env [] [] [] pos pos.line := by rfl) :
    WP C A (eval (.Lambda params body scope pos) env) Q E h := fun k => by
  have g := hG.keeps kp
  obtain ⟨_, _, mg, mb, T⟩ := hG.T
  have Tg := T.g.keeps kp
  obtain ⟨bm, ob, b1, b2, b3, b4, b5, b6⟩ := T.bmain
  have hgP : mainGlobals ≠ 126 := by decide
  have hbP : bm ≠ 126 := fun z => by rw [z, hn] at b3; cases b3
  have hbG : bm ≠ mainGlobals := fun z => by
    obtain ⟨o, es, ep, e, hd, _⟩ := T.g
    rw [z, e] at b3; cases b3; rw [hd] at b6; cases b6
  have hB : h.BuiltinsAt mg 126 := ⟨bm, ob, b1, b2, hbG, hbP, kp _ _ b3, b4, b5, b6⟩
  have hC : CodeHd h 130 126 := ⟨_, _, _, _, _, _, _, _, _, g.X 130 _ rfl, rfl, rfl, rfl, rfl, rfl, rfl, rfl, rfl, by decide⟩
  rw [he, hqu]
  rcases hlook with hnf | ⟨c, hf, hc⟩
  · refine kla_makeFunction (s := C.S h k) (mg := mg) hcl hge Tg hcode hC hP ht hnf hgP hB fun c' ctv h' tk hx hge hlt hrec htb => ?_
    refine ⟨_, _, rfl, q _ _ c' _ ctv _ (fun b o z e => Heap.get?_push_of_some _ (hx b o z e)) ?_ (Heap.get?_push_size _ rfl) (hrec.push _) (Heap.get?_push_of_some _ htb) (.inl ⟨hnf, rfl, hge⟩)⟩
    exact Nat.le_of_lt (Nat.lt_of_le_of_lt hge hlt)
  · refine kla_makeFunctionHit (s := C.S h k) (mg := mg) hcl hge Tg hcode hC hP ht hf hB fun ctv h' tk hx hsz => ?_
    exact ⟨_, _, rfl, q _ _ c _ ctv _ (fun b o z e => Heap.get?_push_of_some _ (hx b o e)) hsz (Heap.get?_push_size _ rfl) ((hc.keeps hx).push _) (Heap.get?_push_of_some _ (hx _ _ hP)) (.inr ⟨hf, rfl⟩)⟩
theorem W_AssignAttr {o attr pos' value pos} {Q : Flow → Heap → Prop} (y : WP C A (eval value env) (fun v h₁ => WP C A (eval o env) (fun ov h₂ => WP C A (setAttr ov attr v) (fun _ => Q .next) E h₂) E h₁) E h)
    (hs : swapsWith value (some (.Attribute o attr pos')) pos.line env = pure false := by rfl) : WP C A (exec (.Assign [.Attribute o attr pos'] value pos) env) Q E h :=
  fun k => plainObj_wpAny_Assign_Attribute (wpAny_mono (y k) (fun _ _ q => wpAny_mono (go q) (fun _ _ q => by obtain ⟨h, k, rfl, q⟩ := q; exact q k) fun _ _ e => e) fun _ _ e => e) hs
theorem W_fnSet0 {a : Addr} {fd : FuncData} {name : Str} {v : Value} {Q : Unit → Heap → Prop} (ha : h.get? a = some (fnO none fd)) (hT : typeLookup (.type "function") name = pure none)
    (q : ∀ h', h'.Ns1 h.objs.size (upd (fun _ => none) name v) → h'.get? a = some (fnO (some h.objs.size) fd) → (∀ b o, b ≠ a → h.get? b = some o → h'.get? b = some o) → Q () h') : WP C A (setAttr (.ref a) name v) Q E h :=
  fun k => sa_attr0 ha hT fun h' tk' a b c => ⟨h', tk', rfl, q h' a b c⟩
theorem W_fnSet1 {a da : Addr} {fd : FuncData} {md : Str → Option Value} {ns : List Str} {name : Str} {v : Value} {Q : Unit → Heap → Prop} (ha : h.get? a = some (fnO (some da) fd)) (hd : h.Ns1 da md) (hw : Within md ns) (hl : ns.length ≤ 100) (hT : typeLookup (.type "function") name = pure none)
    (q : ∀ h', h'.Ns1 da (upd md name v) → Heap.SameBut da h h' → Q () h') : WP C A (setAttr (.ref a) name v) Q E h :=
  fun k => sa_attr1 ha hd hw hl hT fun h' tk' a b => ⟨h', tk', rfl, q h' a b⟩
theorem trip1 {l : List Value} {q : Str} {t : Tok} (ht : TriplesOk l) (e : l[1]? = some (.str q t)) : False := by
  cases l with
  | nil => cases e
  | cons a l =>
    cases l with
    | nil => cases e
    | cons b l =>
      cases (show b = .str q t from Option.some.inj e)
      cases a <;> exact ht
theorem codeRec_ne {c : Addr} {qu : Str} {ps : Array Value} (r : h.CodeRec (.ref c) qu) (hP : h.get? 126 = some (tabObj ps)) (ht : TriplesOk ps.toList) : c ≠ 126 := by
  rintro rfl
  obtain ⟨c, o, vs, t, e, e1, e2, e3⟩ := r
  cases e
  rw [hP] at e1
  cases e1
  cases e2
  rw [← Array.getElem?_toList] at e3
  exact trip1 ht e3
theorem codeRec_t {h' : Heap} {c : Addr} {qu : Str} (r : h.CodeRec (.ref c) qu) (n : c ≠ 126) (k : KpT h h') : h'.CodeRec (.ref c) qu := by
  obtain ⟨c', o, vs, t, e, e1, e2, e3⟩ := r
  cases e
  exact ⟨_, o, vs, t, rfl, k _ _ n e1, e2, e3⟩
theorem isCell_t {h' : Heap} {c : Addr} {v : Option Value} (r : h.IsCell c v) (n : c ≠ 126) (k : KpT h h') : h'.IsCell c v := let ⟨o, e, d⟩ := r; ⟨o, k _ _ n e, d⟩
theorem tl_applies : typeLookup (.type "function") "applies_to" = pure none := by rw [typeLookup_type, builtinLookup_eq_fast]; kernel_rfl
theorem tl_allow : typeLookup (.type "function") "allowance" = pure none := by rw [typeLookup_type, builtinLookup_eq_fast]; kernel_rfl
theorem boot_len : bootBuiltins "len" = some (.builtin "len") := PySem.boot_len
theorem line_W (hG : Gd C G) (hn : G.get? 126 = none) (kp : Kp G h) (tb : TabSt G h) (hroom : A.depth + 5 < recursionLimit) {f : Str} {b : Bool} {t : Tok} (hf : f.length ≤ 1000) {Q : Value → Heap → Prop}
    (q : ∀ a h' G', KpT h h' → Grow G h G' h' → TabSt G' h' → LineAt C G' a f b → Q (.ref a) h') : WP C A (call (.ref 131) [.str f t, .bool b]) Q E h := by
  have g := hG.keeps kp
  refine W_callFnC (binds := [("front", .str f t), ("allowed", .bool b)]) g.nolimit (g.X 131 _ rfl) rfl rfl (codeRec_of g.X rfl) (by omega) rfl rfl ?_ ?_
  · exact kindsX (binds := [("front", .str f t), ("allowed", .bool b)]) rfl _
  intro h₁ n₁ k₁ c₁
  have cf := c₁ "front" (h.objs.size + 1) rfl
  have n₁' : h₁.Ns h.objs.size (upd (fun _ => none) "allowed" (.bool b)) := n₁
  have cf' : h₁.IsCell (h.objs.size + 1) (some (.str f t)) := cf
  clear n₁ cf c₁
  have zn : h.get? h.objs.size = none := none_of_size (Nat.le_refl _)
  obtain ⟨ps, hP, ht, hps⟩ : ∃ ps, h.get? 126 = some (tabObj ps) ∧ TriplesOk ps.toList ∧ (ps = #[] ∨ ∃ c1 c2, ps = #[rawInt 114, rawInt 11, .ref c1, rawInt 115, rawInt 22, .ref c2] ∧ G.CodeRec (.ref c1) lamQ ∧ G.CodeRec (.ref c2) lamQ) := by
    rcases tb with e | ⟨c1, c2, e, r⟩
    · exact ⟨_, e, trivial, .inl rfl⟩
    · exact ⟨_, e, trivial, .inr ⟨c1, c2, rfl, r⟩⟩
  refine W_cons (W_Assign (W_lam hG hn (kp.trans k₁) (k₁ _ _ hP) ht rfl rfl rfl rfl ?_ fun a₁ h₂ d₁ pm₁ ctv₁ ps₁ kt₁ ha₁ o₁ r₁ p₁ w₁ => ?_))
  · rcases hps with rfl | ⟨c1, c2, rfl, rc1, rc2⟩
    · exact .inl rfl
    · exact .inr ⟨c1, rfl, rc1.keeps (kp.trans k₁)⟩
  have hLn : 126 < h.objs.size := Heap.lt_size hP
  have hLne : h.objs.size ≠ 126 := by omega
  have gL : ∀ x, h.objs.size ≤ x → G.get? x = none := fun x hx => by
    cases e : G.get? x with
    | none => rfl
    | some o => exact absurd (Heap.lt_size (kp _ _ e)) (Nat.not_lt.mpr hx)
  have n₂ : h₂.Ns h.objs.size (upd (fun _ => none) "allowed" (.bool b)) := n₁'.extBut kt₁ hLne
  have cf₂ := isCell_t cf' (show h.objs.size + 1 ≠ 126 by omega) kt₁
  have l₁ : h.objs.size < h₁.objs.size := n₁'.lt
  refine W_store n₂ fun h₃ n₃ s₃ => ?_
  have o₃ := (s₃.2 a₁ (Nat.ne_of_gt (Nat.lt_of_lt_of_le l₁ ha₁))).trans o₁
  have cf₃ := cf₂.sameBut s₃ (by show h.objs.size + 1 ≠ h.objs.size; omega)
  have p₃ := (s₃.2 126 (Ne.symm hLne)).trans p₁
  have kG₃ : Kp G h₃ := ((kp.trans k₁).thenT kt₁ hn).same s₃ (gL _ (Nat.le_refl _))
  have kt₃ : KpT h h₃ := (k₁.t.trans kt₁).same s₃ zn
  have r₃ : h₃.CodeRec (.ref d₁) lamQ := by
    obtain ⟨c', o, vs, t, e, e1, e2, e3⟩ := r₁
    cases e
    refine ⟨_, o, vs, t, rfl, (s₃.2 _ fun z => ?_).trans e1, e2, e3⟩
    obtain ⟨o', es, ep, f1, f2, _⟩ := n₂
    have z' : d₁ = h.objs.size := z
    rw [z', f1] at e1; cases e1; rw [f2] at e2; cases e2
  have ht₁ : TriplesOk ps₁.toList := by
    rcases w₁ with ⟨e, rfl, _⟩ | ⟨e, rfl⟩
    · rcases hps with rfl | ⟨c1, c2, rfl, rc1, rc2⟩
      · trivial
      · cases e
    · exact ht
  refine W_cons (W_AssignAttr (W_lam (clos := [("front", h.objs.size + 1)]) hG hn kG₃ p₃ ht₁ rfl rfl rfl rfl ?_ fun a₂ h₄ d₂ pm₂ ctv₂ ps₂ kt₄ ha₂ o₄ r₄ p₄ w₂ => ?_))
  · rcases w₁ with ⟨e, rfl, _⟩ | ⟨e, rfl⟩
    · rcases hps with rfl | ⟨c1, c2, rfl, rc1, rc2⟩
      · exact .inl rfl
      · cases e
    · rcases hps with rfl | ⟨c1, c2, rfl, rc1, rc2⟩
      · cases e
      · exact .inr ⟨c2, rfl, rc2.keeps kG₃⟩
  have n₄ := n₃.extBut kt₄ hLne
  refine W_local n₄ upd_eq ?_
  have l₃ : h.objs.size < h₃.objs.size := n₃.lt
  have a₁n : a₁ ≠ 126 := by omega
  have e₁ : h₄.get? a₁ = _ := kt₄ _ _ a₁n o₃
  refine W_fnSet0 e₁ tl_applies fun h₅ m₅ e₅ k₅ => ?_
  have l₄ : a₁ < h₄.objs.size := Heap.lt_size e₁
  have hLa : h.objs.size ≠ a₁ := by omega
  have ne21 : a₂ ≠ a₁ := by
    have : a₁ < h₃.objs.size := Heap.lt_size o₃
    omega
  obtain ⟨ot, est, ept, t1, t2⟩ := id n₄
  have n₅ : h₅.Ns h.objs.size _ := ⟨ot, est, ept, k₅ _ _ hLa t1, t2⟩
  have cf₄ := isCell_t cf₃ (show h.objs.size + 1 ≠ 126 by omega) kt₄
  have o₅ : h₅.get? a₂ = _ := k₅ _ _ ne21 o₄
  have p₅ : h₅.get? 126 = _ := k₅ _ _ (Ne.symm a₁n) p₄
  have a₂n : a₂ ≠ 126 := by omega
  refine W_cons (W_AssignAttr (W_local n₅ (upd_ne upd_eq) (W_local n₅ upd_eq ?_)))
  refine W_fnSet1 e₅ m₅ (Within.cons _ _ Within.nil) (by simp) tl_allow fun h₆ m₆ s₆ => ?_
  have hLd : h.objs.size ≠ h₄.objs.size := by omega
  have n₆ := n₅.sameBut s₆ hLd
  refine W_cons (W_Return (W_local n₆ upd_eq ?_))
  have dn : h₄.objs.size ≠ 126 := by omega
  have p₆ : h₆.get? 126 = _ := (s₆.2 _ (Ne.symm dn)).trans p₅
  have o₆ : h₆.get? a₂ = _ := (s₆.2 _ (Nat.ne_of_lt (Heap.lt_size o₄))).trans o₅
  have e₆ : h₆.get? a₁ = _ := (s₆.2 _ (Nat.ne_of_lt l₄)).trans e₅
  have all : ∀ b o, b ≠ 126 → b ≠ a₁ → h₄.get? b = some o → h₆.get? b = some o := fun b o _ hb e => (s₆.2 _ (Nat.ne_of_lt (Heap.lt_size e))).trans (k₅ _ _ hb e)
  have a₁h : h.get? a₁ = none := none_of_size (by omega)
  have kh : KpT h h₆ := fun b o hb e => all b o hb (fun z => by rw [z, a₁h] at e; cases e) (kt₄ _ _ hb (kt₃ _ _ hb e))
  have kG : Kp G h₆ := kp.thenT kh hn
  have ht₂ : TriplesOk ps₂.toList := by
    rcases w₂ with ⟨e, rfl, x⟩ | ⟨e, rfl⟩
    · rcases w₁ with ⟨e', rfl, x'⟩ | ⟨e', rfl⟩
      · rcases hps with rfl | ⟨c1, c2, rfl, rc1, rc2⟩
        · trivial
        · cases e'
      · rcases hps with rfl | ⟨c1, c2, rfl, rc1, rc2⟩
        · cases e'
        · cases e
    · exact ht₁
  have fr : ∀ c, h₄.CodeRec (.ref c) lamQ → h₆.CodeRec (.ref c) lamQ := fun c r => by
    obtain ⟨c', o, vs, t, e, e1, e2, e3⟩ := r
    cases e
    refine ⟨_, o, vs, t, rfl, (s₆.2 _ (Nat.ne_of_lt (Heap.lt_size e1))).trans (k₅ _ _ (fun z => ?_) e1), e2, e3⟩
    rw [z, e₁] at e1; cases e1; cases e2
  have r₆ := fr _ r₄
  have r₆' := fr _ (codeRec_t r₃ (codeRec_ne r₃ p₃ ht₁) kt₄)
  have gr : Grow G h (grow G h h₆) h₆ := grow_is kG
  have hm : (h₄.objs.size : Nat) ≥ h.objs.size := by omega
  have gd : ∀ c, h₆.CodeRec (.ref c) lamQ → h.objs.size ≤ c → (grow G h h₆).CodeRec (.ref c) lamQ := fun c r hc => by
    obtain ⟨c', o, vs, t, e, e1, e2, e3⟩ := r
    cases e
    exact ⟨_, o, vs, t, rfl, grow_new e1 (none_of_size hc), e2, e3⟩
  have m₆' := m₆.ns
  obtain ⟨om, em, epm, q1, q2⟩ := id m₆'
  have cf₆ : h₆.IsCell (h.objs.size + 1) (some (.str f t)) := by
    obtain ⟨o, e1, e2⟩ := cf₄
    refine ⟨o, all _ _ (by omega) (fun z => ?_) e1, e2⟩
    rw [z, e₁] at e1; cases e1; cases e2
  have cfG : (grow G h h₆).IsCell (h.objs.size + 1) (some (.str f t)) := by
    obtain ⟨o, e1, e2⟩ := cf₆
    exact ⟨o, grow_new e1 (none_of_size (by omega)), e2⟩
  have z₃ : h.objs.size ≤ h₃.objs.size := by omega
  obtain ⟨tbG, rG⟩ : TabSt (grow G h h₆) h₆ ∧ (grow G h h₆).CodeRec (.ref d₂) lamQ := by
    rcases w₂ with ⟨e, rfl, x⟩ | ⟨e, rfl⟩
    · rcases w₁ with ⟨e', rfl, x'⟩ | ⟨e', rfl⟩
      · rcases hps with rfl | ⟨c1, c2, rfl, rc1, rc2⟩
        · have y1 := gd _ r₆' (Nat.le_trans (Nat.le_of_lt l₁) x')
          have y2 := gd _ r₆ (Nat.le_trans z₃ x)
          exact ⟨.inr ⟨d₁, d₂, p₆, y1, y2⟩, y2⟩
        · cases e'
      · rcases hps with rfl | ⟨c1, c2, rfl, rc1, rc2⟩
        · cases e'
        · cases e
    · rcases w₁ with ⟨e', rfl, x'⟩ | ⟨e', rfl⟩
      · rcases hps with rfl | ⟨c1, c2, rfl, rc1, rc2⟩
        · cases e
        · cases e'
      · rcases hps with rfl | ⟨c1, c2, rfl, rc1, rc2⟩
        · cases e'
        · cases e'
          cases e
          exact ⟨.inr ⟨_, _, p₆, rc1.keeps gr.old, rc2.keeps gr.old⟩, rc2.keeps gr.old⟩
  refine q a₁ h₆ _ kh gr tbG ⟨_, _, _, a₂, _, grow_new e₆ a₁h, ⟨om, em, epm, grow_new q1 (none_of_size hm), q2⟩, upd_ne upd_eq, upd_eq, grow_new o₆ (none_of_size (by omega)), ?_⟩
  · -- a call of it
    intro A h' name t' Q E k' room q'
    have g' := hG.keeps (gr.old.trans k')
    have cf' := cfG.keeps k'
    have oG := grow_new (G := G) (h := h) o₆ (none_of_size (by omega))
    refine W_callLam (binds := [("name", .str name t')]) g'.nolimit (k' _ _ oG) rfl rfl (rG.keeps k') (by omega) rfl (locs rfl) (fun h₁ n₁ k₁ => ?_) (hcell := by show ∀ x ∈ [(("name" : Str), NameKind.local), ("front", NameKind.free), ("len", NameKind.globalImplicit)], x.2 ≠ NameKind.cell; decide)
    have g₁ := g'.keeps k₁
    have cf₁ := cf'.keeps k₁
    refine W_IfExp (W_tplain (W_Meth (W_local n₁ rfl fun pl => ?_)))
    refine WP.of fun k => GM.startswith (up1 ?_)
    refine W_with (W_items (W_free rfl cf₁ (W_items0 ⟨Kept.builtin, ?_⟩)))
    refine WP.of fun k => SC.startswith (up1 ?_)
    refine W_tbool ?_
    cases es : Txt.startswith name f with
    | true =>
      have em : mOf f name = (f.length : Int) + 1 := by simp [mOf, es]
      refine W_BinOp (W_Call (W_builtin g₁ rfl boot_len (W_with (W_items (W_free rfl cf₁ (W_items0 ⟨Kept.builtin, ?_⟩))))))
      refine WP.of fun k => P.len_str (by omega) ⟨_, _, rfl, ?_⟩
      refine W_int fun _ => W_addInt fun t => ?_
      rw [← em]
      exact q' _ _ k₁
    | false =>
      have em : mOf f name = 0 := by simp [mOf, es]
      refine W_int fun t => ?_
      rw [← em]
      exact q' _ _ k₁
end
end Mine
namespace Mine
open PySem PySem.W PySem.Calls PySem.Spec PyProof.Rows
noncomputable def NoE : Value → Heap → Prop := fun _ _ => False
theorem noE {C : Cx} {e : Value} {s : Shared} {P : Prop} (x : C.up NoE e s) : P := let ⟨_, _, _, f⟩ := x; f.elim
section
variable {C : Cx} {A : Around} {h : Heap} {E : Value → Heap → Prop} {env : Env}
theorem W_For {target iter body orelse pos} {Q : Flow → Heap → Prop}
    (y : WP C A (eval iter env) (fun x h₁ => WP C A (pyIter x) (fun it h₂ => CP C A (.forLoop target it body orelse env) (fun r h' => match r with | .ok f => Q f h' | .error _ => False) h₂) E h₁) E h)
    (hs : ∀ x, foldedSetIterable iter env x = pure x := by intro _; rfl) : WP C A (exec (.For target iter body orelse pos) env) Q E h :=
  fun k => wpAny_For (wpAny_mono (y k) (fun _ _ q => wpAny_mono (go q) (fun it s q => by
    obtain ⟨h, k, rfl, q⟩ := q
    refine codeAny_mono (q k) fun r s z => ?_
    obtain ⟨h, k, rfl, z⟩ := z
    cases r with
    | ok f => exact up1 z
    | error e => exact z.elim) fun _ _ e => e) fun _ _ e => e) hs
theorem C_for {target it body orelse} {R : Result → Heap → Prop} (I : Nat → Heap → Prop)
    (turn : ∀ n h, I n h → WP C A (pyNext it) (fun r h₁ => match r with
      | none => WP C A (execs orelse env) (fun f h₃ => R (.ok f) h₃) NoE h₁
      | some v => WP C A (letOwnedTupleGo target it v) (fun _ h₁ => WP C A (assign target env v) (fun _ h₂ => WP C A (execs body env) (fun f h₃ => match f with
          | .next | .cont => ∃ m, m < n ∧ I m h₃
          | .brk => R (.ok .next) h₃
          | .ret v => R (.ok (.ret v)) h₃) NoE h₂) NoE h₁) NoE h₁) NoE h)
    (n : Nat) (hI : I n h) : CP C A (.forLoop target it body orelse env) R h := fun k => by
  refine codeAny_forLoop_any (fun n s => ∃ h k, s = C.S h k ∧ I n h) (fun n s hs => ?_) n ⟨h, k, rfl, hI⟩
  obtain ⟨h, k, rfl, hI⟩ := hs
  refine wpAny_mono (turn n h hI k) (fun r s q => ?_) fun _ _ e => noE e
  obtain ⟨h₁, k₁, rfl, q⟩ := q
  cases r with
  | none => exact wpAny_mono (q k₁) (fun _ _ z => z) fun _ _ e => noE e
  | some v =>
    refine wpAny_mono (q k₁) (fun _ s₂ z => ?_) fun _ _ e => noE e
    obtain ⟨h₂, k₂, rfl, z⟩ := z
    refine wpAny_mono (z k₂) (fun _ s₂ z => ?_) fun _ _ e => noE e
    obtain ⟨h₂, k₂, rfl, z⟩ := z
    refine wpAny_mono (z k₂) (fun f s₃ z => ?_) fun _ _ e => noE e
    obtain ⟨h₃, k₃, rfl, z⟩ := z
    cases f with
    | next => obtain ⟨m, hm, hI⟩ := z; exact ⟨m, hm, h₃, k₃, rfl, hI⟩
    | cont => obtain ⟨m, hm, hI⟩ := z; exact ⟨m, hm, h₃, k₃, rfl, hI⟩
    | brk => exact up1 z
    | ret v => exact up1 z
theorem W_noOwn {target : Expr} {it v : Value} {Q : Unit → Heap → Prop} (q : Q () h) (he : letOwnedTupleGo target it v = pure () := by rfl) : WP C A (letOwnedTupleGo target it v) Q E h := fun k => wpAny_of_eq he (up1 q)
theorem W_aName {x pos v} {Q : Unit → Heap → Prop} (y : WP C A (storeName env x v) Q E h) : WP C A (assign (.Name x pos) env v) Q E h := fun k => wpAny_assign_Name (y k)
noncomputable def itO (l : Addr) (i : Nat) : Obj := { cls := .type "list_iterator", data := .fields #[.ref l, .int i 0] }
theorem W_iterList {l : Addr} {items : Array Value} {Q : Value → Heap → Prop} (hl : h.IsList l items) (q : ∀ h', Kp h h' → h'.IsListIter h.objs.size l 0 → h'.objs.size = h.objs.size + 1 → Q (.ref h.objs.size) h') : WP C A (pyIter (.ref l)) Q E h :=
  fun k => wpAny_pyIter_list (s := C.S h k) hl ⟨_, k, rfl, q _ (fun b o e => Heap.get?_push_of_some _ e) ⟨_, Heap.get?_push_size _ rfl, rfl, rfl⟩ (Heap.size_push _ _)⟩
theorem W_nextItem {it l : Addr} {i : Nat} {items : Array Value} {x : Value} {Q : Option Value → Heap → Prop} (hit : h.IsListIter it l i) (hl : h.IsList l items) (hx : items[i]? = some x)
    (q : ∀ h', h'.IsListIter it l (i + 1) → Heap.SameBut it h h' → Q (some x) h') : WP C A (pyNext (.ref it)) Q E h :=
  fun k => wpAny_pyNext_list_item (s := C.S h k) hit hl hx fun h' a b => ⟨h', k, rfl, q h' a b⟩
theorem W_nextEnd {it l : Addr} {i : Nat} {items : Array Value} {Q : Option Value → Heap → Prop} (hh : A.handled = none) (hit : h.IsListIter it l i) (hl : h.IsList l items) (hx : items[i]? = none)
    (q : ∀ h', Heap.ExtBut it h h' → Q none h') : WP C A (pyNext (.ref it)) Q E h :=
  fun k => wpAny_pyNext_list_end (s := C.S h k) hh hit hl hx fun h' a => ⟨h', k, rfl, q h' a⟩
/-- an attribute of an Entry, out of its own dict -/
theorem W_instAttr {x dx : Addr} {od : Obj} {sl : Array (Option Value)} {name : Str} {v : Value} {ex : Bool} {attr : Option Value} {Q : Value → Heap → Prop} (g : Gd C h) (hx : h.get? x = some ⟨.ref 52, some dx, .plain, sl⟩) (hd : h.get? dx = some od) (hl : lookIn name od = some (some v)) (q : Q v h)
    (hg : plainGet (KF C.w) 52 name = true := by rfl) (hh : hasDictIn (KF C.w) 52 = true := by rfl) (ha : findIn (KF C.w) (.ref 52) name = some attr := by rfl) (hn : noGet (KF C.w) attr = true := by rfl) (hv : handedIn v = true := by rfl) :
    WP C A (getAttr (.ref x) name ex) Q E h :=
  fun k => get_value (s := C.S h k) g.X ⟨hx, rfl, rfl, hd⟩ (plainGet_of hg).1 (findObj_own hh ha hn hl) hv ⟨h, k + 1, rfl, q⟩
end
end Mine
namespace Mine
open PySem PySem.W PySem.Calls PySem.Spec PyProof.Rows
abbrev Rule := Str × Bool
noncomputable def stepR (name : Str) (st : Int × Bool) (r : Rule) : Int × Bool :=
  if mOf r.1 name = 0 then st else if st.1 < mOf r.1 name then (mOf r.1 name, r.2) else if mOf r.1 name = st.1 ∧ st.2 = false then (st.1, r.2) else st
noncomputable def allow (rules : List Rule) (name : Str) : Bool := (rules.foldl (stepR name) (-1, true)).2
inductive LinesAt (C : Cx) (h : Heap) : List Addr → List Rule → Prop
  | nil : LinesAt C h [] []
  | cons {a as r rs} : LineAt C h a r.1 r.2 → LinesAt C h as rs → LinesAt C h (a :: as) (r :: rs)
theorem LinesAt.length {C : Cx} {h : Heap} {as : List Addr} {rs : List Rule} (x : LinesAt C h as rs) : as.length = rs.length := by
  induction x with
  | nil => rfl
  | cons _ _ ih => simp [ih]
theorem LinesAt.get {C : Cx} {h : Heap} {as : List Addr} {rs : List Rule} (x : LinesAt C h as rs) : ∀ {i : Nat} {a : Addr}, as[i]? = some a → ∃ r, rs[i]? = some r ∧ LineAt C h a r.1 r.2 := by
  induction x with
  | nil => intro i a e; simp at e
  | cons l _ ih =>
    intro i a e
    cases i with
    | zero => simp at e; subst e; exact ⟨_, rfl, l⟩
    | succ i => simpa using ih (by simpa using e)
theorem LineAt.keeps {C : Cx} {h h' : Heap} {a : Addr} {f : Str} {b : Bool} (x : LineAt C h a f b) (k : Kp h h') : LineAt C h' a f b := by
  obtain ⟨da, fd, md, fa, fl, h1, h2, h3, h4, h5, h9⟩ := x
  exact ⟨da, fd, md, fa, fl, k _ _ h1, h2.keeps k, h3, h4, k _ _ h5, fun A h'' name t Q E k' => h9 A h'' name t Q E (k.trans k')⟩
theorem LinesAt.keeps {C : Cx} {h h' : Heap} {as : List Addr} {rs : List Rule} (x : LinesAt C h as rs) (k : Kp h h') : LinesAt C h' as rs := by
  induction x with
  | nil => exact .nil
  | cons l _ ih => exact .cons (l.keeps k) ih
theorem LinesAt.append {C : Cx} {h : Heap} {as as' : List Addr} {rs rs' : List Rule} (x : LinesAt C h as rs) (y : LinesAt C h as' rs') : LinesAt C h (as ++ as') (rs ++ rs') := by
  induction x with
  | nil => exact y
  | cons l _ ih => exact .cons l ih
/-- an entry and its rules -/
inductive EntryAt (C : Cx) (h : Heap) (e : Addr) (rs : List Rule) : Prop
  | mk (de od sl lr n lu as : _) (p1 : h.get? e = some ⟨.ref 52, some de, .plain, sl⟩) (p2 : h.get? de = some od) (p3 : lookIn "rulelines" od = some (some (.ref lr))) (p4 : lookIn "allowance" od = some none) (p5 : lookIn "useragents" od = some (some (.ref lu))) (p6 : lookIn "delay" od = some (some .none)) (p7 : lookIn "req_rate" od = some (some .none)) (p8 : (∃ nu, h.get? lu = some (listO [] nu))) (p9 : h.get? lr = some (listO (as.map .ref) n)) (p10 : LinesAt C h as rs) : EntryAt C h e rs
theorem EntryAt.keeps {C : Cx} {h h' : Heap} {e : Addr} {rs : List Rule} (x : EntryAt C h e rs) (k : Kp h h') : EntryAt C h' e rs := by
  obtain ⟨de, od, sl, lr, n, lu, as, h1, h2, h3, h4, h5, h6, h7, h8, h9, h10⟩ := x
  exact ⟨de, od, sl, lr, n, lu, as, k _ _ h1, k _ _ h2, h3, h4, h5, h6, h7, (let ⟨nu, e⟩ := h8; ⟨nu, k _ _ e⟩), k _ _ h9, h10.keeps k⟩
section
variable {C : Cx} {A : Around} {h : Heap} {E : Value → Heap → Prop} {G : Heap}
/-- between the turns -/
inductive AlwI (h : Heap) (rs : List Rule) (name : Str) (t : Tok) (N : Nat) (I lr : Addr) (n : Nat) (h' : Heap) : Prop
  | mk (i : _) (p1 : n = N - i) (p2 : i ≤ N) (p3 : Kp h h') (p4 : h'.IsListIter I lr i) (m tb : _) (p5 : h'.Ns h.objs.size m) (p6 : m "filename" = some (.str name t)) (p7 : m "best_match" = some (.int ((rs.take i).foldl (stepR name) (-1, true)).1 tb)) (p8 : m "allowance" = some (.bool ((rs.take i).foldl (stepR name) (-1, true)).2)) : AlwI h rs name t N I lr n h'
theorem allow_W (hG : Gd C G) (kp : Kp G h) (hh : A.handled = none) (hroom : A.depth + 10 < recursionLimit) {e : Addr} {rs : List Rule} (en : EntryAt C G e rs) {name : Str} {t : Tok} {Q : Value → Heap → Prop}
    (q : ∀ h', Kp h h' → Q (.bool (allow rs name)) h') : WP C A (call (.ref 49) [.ref e, .str name t]) Q E h := by
  have g := hG.keeps kp
  obtain ⟨de, od, sl, lr, n, lu, as, he', hde', hlr, _, _, _, _, _, hlist', hlines⟩ := en
  have he := kp _ _ he'
  have hde := kp _ _ hde'
  have hlist := kp _ _ hlist'
  refine W_callFn (binds := [("self", .ref e), ("filename", .str name t)]) g.nolimit (g.X 49 _ rfl) rfl rfl (codeRec_of g.X rfl) (by omega) rfl (locs rfl) fun h₁ n₁ k₁ z₁ => ?_
  have zn : h.get? h.objs.size = none := none_of_size (Nat.le_refl _)
  refine W_cons (W_Assign (W_UnaryOp (W_int fun _ => W_neg fun t1 => W_store n₁ fun h₂ n₂ s₂ => ?_)))
  refine W_cons (W_Assign (W_bool (W_store n₂ fun h₃ n₃ s₃ => ?_)))
  have k₃ : Kp h h₃ := (k₁.same s₂ zn).same s₃ zn
  have g₃ := g.keeps k₃
  refine W_cons (W_For (W_Attr (W_local n₃ (upd_ne (upd_ne rfl)) (W_instAttr g₃ (k₃ _ _ he) (k₃ _ _ hde) hlr (W_iterList (isList_of (k₃ _ _ hlist)) fun h₄ k₄ i₄ z₄ => ?_)))))
  have l₃ : h.objs.size < h₃.objs.size := n₃.lt
  have n₄ := n₃.keeps k₄
  refine C_for (AlwI h rs name t as.length h₃.objs.size lr)
    ?_ as.length ⟨0, rfl, Nat.zero_le _, k₃.trans k₄, i₄, _, t1, n₄, upd_ne (upd_ne rfl), upd_ne upd_eq, upd_eq⟩
  rintro n' h' ⟨i, rfl, hi, k', i', m, tb, n', mf, mb, ma⟩
  have li := isList_of (k' _ _ hlist)
  by_cases hlt : i < as.length
  · obtain ⟨a, ea⟩ : ∃ a, as[i]? = some a := ⟨_, List.getElem?_eq_getElem hlt⟩
    obtain ⟨r, er, la⟩ := hlines.get ea
    have hs : (rs.take (i + 1)).foldl (stepR name) (-1, true) = stepR name ((rs.take i).foldl (stepR name) (-1, true)) r := by
      rw [List.take_add_one, er]; simp
    generalize (rs.take i).foldl (stepR name) (-1, true) = st at *
    obtain ⟨best, al⟩ := st
    refine W_nextItem (x := .ref a) i' li (by simp [ea]) fun h₅ i₅ s₅ => ?_
    refine W_noOwn (W_aName ?_)
    have n₅ := n'.sameBut s₅ (show h.objs.size ≠ h₃.objs.size by omega)
    have kz : h.get? h₃.objs.size = none := none_of_size (by omega)
    refine W_store n₅ fun h₆ n₆ s₆ => WP.gen fun Qi kQi => ?_
    have k₆ : Kp h h₆ := (k'.same s₅ kz).same s₆ zn
    have i₆ : h₆.IsListIter h₃.objs.size lr (i + 1) := i₅.extBut s₆.extBut (show h₃.objs.size ≠ h.objs.size by omega)
    obtain ⟨da, fd, md, fa, fl, f1, f2, f3, f4, f5, f9⟩ := la.keeps (kp.trans k₆)
    refine W_cons (W_Assign (W_Meth (W_local n₆ upd_eq fun pl => W_fnMeth f1 f2 f3 tl_applies rfl (W_with (W_items (W_local n₆ (upd_ne mf) (W_items0 ⟨Kept.fn f5 rfl, ?_⟩)))))))
    refine f9 _ _ _ _ _ _ (Kp.refl _) (show A.depth + 1 + 5 < recursionLimit by omega) fun t2 h₇ k₇ => ?_
    have n₇ := n₆.keeps k₇
    refine W_store n₇ fun h₈ n₈ s₈ => ?_
    have k₈ : Kp h h₈ := (k₆.trans k₇).same s₈ zn
    have i₈ : h₈.IsListIter h₃.objs.size lr (i + 1) := (i₆.at fun o e => k₇ _ _ e).extBut s₈.extBut (show h₃.objs.size ≠ h.objs.size by omega)
    obtain ⟨da, fd, md, fa, fl, f1, f2, f3, f4, f5, f9⟩ := la.keeps (kp.trans k₈)
    have mf8 := upd_ne (x := "m") (v := .int (mOf r.1 name) t2) (upd_ne (x := "line") (v := .ref a) mf)
    have mb8 := upd_ne (x := "m") (v := .int (mOf r.1 name) t2) (upd_ne (x := "line") (v := .ref a) mb)
    have ma8 := upd_ne (x := "m") (v := .int (mOf r.1 name) t2) (upd_ne (x := "line") (v := .ref a) ma)
    have fin : ∀ h₉ m' best' al' tb', Kp h h₉ → h₉.IsListIter h₃.objs.size lr (i + 1) → h₉.Ns h.objs.size m' → m' "filename" = some (.str name t) → m' "best_match" = some (.int best' tb') → m' "allowance" = some (.bool al') → stepR name (best, al) r = (best', al') →
        Qi .next h₉ := by
      intro h₉ m' best' al' tb' a1 a2 a3 a4 a5 a6 a7
      refine kQi _ _ ⟨as.length - (i + 1), by omega, i + 1, rfl, by omega, a1, a2, m', tb', a3, a4, ?_, ?_⟩
      · rw [hs, a7]; exact a5
      · rw [hs, a7]; exact a6
    refine W_cons (W_If (W_tplain (W_local n₈ upd_eq (W_tInt ?_))))
    by_cases e0 : mOf r.1 name = 0
    · rw [show (mOf r.1 name != 0) = false by simp [e0]]
      exact W_nil (W_nil (fin _ _ best al tb k₈ i₈ n₈ mf8 mb8 ma8 (by simp [stepR, e0])))
    rw [show (mOf r.1 name != 0) = true by simpa using e0]
    refine W_cons (W_If (W_tCompare (W_local n₈ upd_eq (W_local n₈ mb8 (W_gtInt (W_tbool ?_))))))
    by_cases e1 : best < mOf r.1 name
    · rw [show decide ((best, al).1 < mOf r.1 name) = true from decide_eq_true e1]
      refine W_cons (W_Assign (W_local n₈ upd_eq (W_store n₈ fun h₉ n₉ s₉ => ?_)))
      refine W_cons (W_Assign (W_Attr (W_local n₉ (upd_ne (upd_ne upd_eq)) ?_)))
      have k₉ : Kp h h₉ := k₈.same s₉ zn
      obtain ⟨da, fd, md, fa, fl, f1, f2, f3, f4, f5, f9⟩ := la.keeps (kp.trans k₉)
      refine W_fnAttr f1 f2 f4 tl_allow rfl (W_store n₉ fun h₀ n₀ s₀ => ?_)
      refine W_nil (W_nil (W_nil (fin _ _ (mOf r.1 name) r.2 _ (k₉.same s₀ zn) ?_ n₀ (upd_ne (upd_ne mf8)) (upd_ne upd_eq) upd_eq (by simp [stepR, e0, e1]))))
      exact (i₈.extBut s₉.extBut (show h₃.objs.size ≠ h.objs.size by omega)).extBut s₀.extBut (show h₃.objs.size ≠ h.objs.size by omega)
    · rw [show decide ((best, al).1 < mOf r.1 name) = false from decide_eq_false e1]
      refine W_cons (W_If (W_tAnd (W_tCompare (W_local n₈ upd_eq (W_local n₈ mb8 (W_eqInt (W_tbool ?_)))))))
      by_cases e2 : mOf r.1 name = best
      · rw [show (mOf r.1 name == (best, al).1) = true by simp [e2]]
        refine W_tAnd (W_tNot (W_tplain (W_local n₈ ma8 (W_tbool ?_))))
        cases al with
        | true => exact W_nil (W_nil (W_nil (W_nil (fin _ _ best true tb k₈ i₈ n₈ mf8 mb8 ma8 (by simp [stepR, e0, e1])))))
        | false =>
          refine W_tAnd0 (W_cons (W_Assign (W_Attr (W_local n₈ (upd_ne upd_eq) (W_fnAttr f1 f2 f4 tl_allow rfl (W_store n₈ fun h₉ n₉ s₉ => ?_))))))
          refine W_nil (W_nil (W_nil (W_nil (fin _ _ best r.2 tb (k₈.same s₉ zn) ?_ n₉ (upd_ne mf8) (upd_ne mb8) upd_eq (by unfold stepR; rw [if_neg e0, if_neg e1, if_pos ⟨e2, rfl⟩])))))
          exact i₈.extBut s₉.extBut (show h₃.objs.size ≠ h.objs.size by omega)
      · rw [show (mOf r.1 name == (best, al).1) = false by simpa using e2]
        exact W_nil (W_nil (W_nil (W_nil (fin _ _ best al tb k₈ i₈ n₈ mf8 mb8 ma8 (by simp [stepR, e0, e1, e2])))))
  · have hi' : i = as.length := by omega
    subst hi'
    refine W_nextEnd hh i' li (by simp) fun h₅ x₅ => ?_
    have k₅ : Kp h h₅ := fun b o e => x₅ b o (fun z => by rw [z, none_of_size (show h.objs.size ≤ h₃.objs.size by omega)] at e; cases e) (k' _ _ e)
    have n₅ := n'.extBut x₅ (show h.objs.size ≠ h₃.objs.size by omega)
    refine W_nil (W_cons (W_Return (W_local n₅ ma ?_)))
    rw [hlines.length, List.take_length]
    exact q _ k₅
end
end Mine
namespace Mine
open PySem PySem.W PySem.Calls PySem.Spec PyProof.Rows
theorem getL_self {name : Str} {hsh : Int} {tk : Tok} {v : Value} : ∀ es : List DictEntry, getL name (putL name hsh (.str name tk) v es) = some (some v)
  | [] => by simp [putL, getL, Value.isStr]
  | e :: r => by
    have ih := getL_self (name := name) (hsh := hsh) (tk := tk) (v := v) r
    unfold getL at ih ⊢
    unfold putL
    cases h : e.key.isStr name with
    | true => simp [h]
    | false =>
      simp only [Bool.false_eq_true, if_false, List.find?_cons, h]
      split at ih
      · rename_i x hx; rw [hx]; exact ih
      · rename_i hx; split at ih <;> cases ih
theorem putL_find' {name x : Str} {hsh : Int} {tk : Tok} {v : Value} (hn : x ≠ name) : ∀ es : List DictEntry, ((putL name hsh (.str name tk) v es).find? (·.key.isStr x)).map (·.val) = (es.find? (·.key.isStr x)).map (·.val)
  | [] => by
    have : (Value.str name tk).isStr x = false := by simp [Value.isStr]; exact fun h => hn h.symm
    simp [putL, this]
  | e :: r => by
    have ih := putL_find' (name := name) (x := x) (hsh := hsh) (tk := tk) (v := v) hn r
    unfold putL
    cases h : e.key.isStr name with
    | true =>
      have : e.key.isStr x = false := by
        cases hk : e.key <;> rw [hk] at h <;> simp [Value.isStr] at h ⊢
        rw [h]; exact fun z => hn z.symm
      simp [this]
    | false =>
      simp only [Bool.false_eq_true, if_false, List.find?_cons]
      cases e.key.isStr x
      · exact ih
      · rfl
theorem putL_any {name : Str} {hsh : Int} {tk : Tok} {v : Value} : ∀ es : List DictEntry, (putL name hsh (.str name tk) v es).any (·.refKey) = es.any (·.refKey)
  | [] => by simp [putL, DictEntry.refKey]
  | e :: r => by
    have ih := putL_any (name := name) (hsh := hsh) (tk := tk) (v := v) r
    unfold putL
    cases h : e.key.isStr name with
    | true => simp [DictEntry.refKey]
    | false => simp [ih]
theorem putL_length {name : Str} {hsh : Int} {tk : Tok} {v : Value} : ∀ es : List DictEntry, (putL name hsh (.str name tk) v es).length ≤ es.length + 1
  | [] => by simp [putL]
  | e :: r => by
    have ih := putL_length (name := name) (hsh := hsh) (tk := tk) (v := v) r
    unfold putL
    cases h : e.key.isStr name <;> simp <;> omega
theorem getL_other {name x : Str} {hsh : Int} {tk : Tok} {v : Value} (hn : x ≠ name) (es : List DictEntry) : getL x (putL name hsh (.str name tk) v es) = getL x es := by
  have h1 := putL_find' (hsh := hsh) (tk := tk) (v := v) hn es
  have h2 := putL_any (name := name) (hsh := hsh) (tk := tk) (v := v) es
  unfold getL
  rw [h2]
  cases ha : (putL name hsh (.str name tk) v es).find? (·.key.isStr x) <;> cases hb : es.find? (·.key.isStr x) <;> rw [ha, hb] at h1 <;> simp at h1 ⊢
  exact h1
section
variable {C : Cx} {A : Around} {h : Heap} {E : Value → Heap → Prop}
theorem W_instSet {e de : Addr} {sl : Array (Option Value)} {es : List DictEntry} {n : Nat} {name : Str} {v : Value} {Q : Unit → Heap → Prop} (g : Gd C h) (he : h.get? e = some ⟨.ref 52, some de, .plain, sl⟩) (hd : h.get? de = some (dictOf es n)) (hl : (getL name es).isSome = true) (hz : es.length ≤ 900)
    (q : ∀ h' es' n', h'.get? de = some (dictOf es' n') → Heap.SameBut de h h' → getL name es' = some (some v) → (∀ x, x ≠ name → getL x es' = getL x es) → es'.length ≤ es.length + 1 → Q () h')
    (hs : findIn (KF C.w) (.ref 52) "__setattr__" = some (some (.builtin "object.__setattr__")) := by rfl) (hp : plainOver (KF C.w) 52 = true := by rfl) (ht : takerIn (KF C.w) 52 name = some none := by rfl) (hh : hasDictIn (KF C.w) 52 = true := by rfl) :
    WP C A (setAttr (.ref e) name v) Q E h := fun k => by
  have X : (KF C.w).In (C.S h k).heap := g.X
  have I : InstAt (C.S h k).heap e ⟨.ref 52, some de, .plain, sl⟩ 52 (some (dictOf es n)) := ⟨he, rfl, rfl, hd⟩
  refine set_plain X I hs ?_
  refine osa_open (s := { C.S h k with toks := (C.S h k).toks + 1 }) X I hp ht fun b => ?_
  obtain ⟨cd, hc, hd'⟩ := any_some hh
  have X1 : (KF C.w).In (C.S h (k + 1)).heap := g.X
  show wpAny _ _ _ _ _ (C.S h (k + 1))
  refine wpAny_bind (wpAny_pure (wpAny_bind (wpAny_bind (wpAny_loadPart (s := C.S h (k + 1)) he (wpAny_bind ((looks_clsIn X1 hc).here ?_))))))
  rw [hd']
  refine wpAny_pure (a := some de) (wpAny_bind (wpAny_pure (wpAny_bind ?_)))
  unfold nsSet
  refine wpAny_bind (wpAny_bind (wpAny_askSetting (wpAny_pure (wpAny_bind (wpAny_mkText (wpAny_bind (wpAny_loadPart (s := C.S h (k + 1 + 1)) hd ?_)))))))
  have c : (!es.toArray.any (·.key.isStr name) && es.toArray.any (·.refKey)) = false := by
    rw [List.any_toArray, List.any_toArray]
    unfold getL at hl
    split at hl
    · rename_i en he
      rw [List.any_eq_true.mpr ⟨en, List.mem_of_find?_eq_some he, List.find?_some he⟩]; rfl
    · split at hl
      · cases hl
      · rename_i z; rw [Bool.not_eq_true] at z; rw [z, Bool.and_false]
  show wpAny _ _ (if aRefKeyMayBeTheName name es.toArray = true then _ else _) _ _ _
  rw [aRefKeyMayBeTheName_at, c]
  have up : (h.update de (Obj.putName name (PyData.keyHash C.w.params name) (.str name (k + 1)) v)).get? de = some (dictOf (putL name (PyData.keyHash C.w.params name) (.str name (k + 1)) v es) (putN name es n)) := by
    rw [← putName_dict]
    refine Heap.get?_update_self _ hd ?_
    rw [putName_dict]; rfl
  refine wpAny_updatePart (s := C.S h (k + 1 + 1)) hd ?_
  refine wpAny_bind (wpAny_lookBehind (s := C.S (h.update de (Obj.putName name (PyData.keyHash C.w.params name) (.str name (k + 1)) v)) (k + 1 + 1)) up (pastItsLine_dict (by rw [List.size_toArray, sizeLine_eq]; have := putL_length (name := name) (hsh := PyData.keyHash C.w.params name) (tk := k + 1) (v := v) es; omega)) ?_)
  exact wpAny_pure ⟨_, _, rfl, q _ _ _ up (Heap.SameBut.update ..) (getL_self es) (fun x hx => getL_other hx es) (putL_length es)⟩
end
end Mine
namespace Mine
open PySem PySem.W PySem.Calls PySem.Spec PyProof.Rows PySem.W.X
/-- room for d more frames -/
structure Rm (A : Around) (d : Nat) : Prop where
  hd : A.handled = none
  dp : A.depth + d ≤ 600
  un : A.units + 20 * d ≤ 3000
theorem Rm.deeper {A : Around} {d : Nat} {env : Env} (r : Rm A (d + 1)) : Rm (A.deeper env) d := ⟨r.hd, by have := r.dp; show A.depth + 1 + d ≤ 600; omega, by have := r.un; show A.units + 3 + 20 * d ≤ 3000; omega⟩
theorem Rm.less {A : Around} {d e : Nat} (r : Rm A d) (h : e ≤ d) : Rm A e := ⟨r.hd, by have := r.dp; omega, by have := r.un; omega⟩
theorem Rm.lim {A : Around} {d : Nat} (r : Rm A d) : A.depth + d + 300 < recursionLimit := by have := r.dp; show _ < 1000; omega
noncomputable def Amax : Around := { depth := 600, units := 3000 }
theorem WP.room {C : Cx} {A : Around} {α : Type} {t : Sem α} {Q : α → Heap → Prop} {E : Value → Heap → Prop} {h : Heap} {d : Nat} (x : WP C Amax t Q E h) (r : Rm A d) : WP C A t Q E h :=
  fun k Γ p hΓ => x k Γ p ⟨hΓ.1.trans r.hd, Nat.le_trans hΓ.2.1 (by have := r.dp; show A.depth ≤ 600; omega), fun l hl => (by cases hl), fun l hl => (by cases hl), Nat.le_trans hΓ.2.2.2.2 (by have := r.un; show A.units ≤ 3000; omega)⟩
/-- a new entry, no rules yet -/
inductive NewEntry (h h' : Heap) (e : Addr) : Prop
  | mk (de od lr lu : _) (p1 : Kp h h') (p2 : h'.get? e = some ⟨.ref 52, some de, .plain, #[]⟩) (p3 : h'.get? de = some od) (p4 : lookIn "rulelines" od = some (some (.ref lr))) (p5 : lookIn "allowance" od = some none) (p6 : lookIn "useragents" od = some (some (.ref lu))) (p7 : lookIn "delay" od = some (some .none)) (p8 : lookIn "req_rate" od = some (some .none)) (p9 : h'.get? lr = some (listO [])) (p10 : h'.get? lu = some (listO [])) (p11 : h.get? e = none) (p12 : h.get? de = none) (p13 : h.get? lr = none) (p14 : h.get? lu = none) (p15 : e ≠ lr) (p16 : de ≠ lr) (p17 : lu ≠ lr) (p18 : (∃ es n, od = dictOf es n ∧ es.length ≤ 800)) (p19 : e ≠ de) (p20 : lu ≠ de) (p21 : e ≠ lu) : NewEntry h h' e
theorem kp_off {a b : Heap} (k : Kp a b) {x : Addr} (e : b.get? x = none) : a.get? x = none := by
  cases z : a.get? x with
  | none => rfl
  | some o => rw [k _ _ z] at e; cases e
section
variable {C : Cx} {A : Around} {h : Heap} {E : Value → Heap → Prop}
theorem C_callFn {f : Addr} {o : Obj} {fd : FuncData} {body : List Stmt} {args : List Value} {binds : List (Str × Value)} {R : Result → Heap → Prop} {k : Nat}
    (hl : h.NoLimit) (ho : h.get? f = some o) (hd : o.data = .func fd) (hbody : fd.body = .stmts body) (hcd : h.CodeRec fd.code fd.qualname) (hroom : A.depth < recursionLimit)
    (hbind : bindArgs fd ⟨args, []⟩ = pure binds) (hloc : ∀ x ∈ binds, fd.scope.names.lookup x.1 = some .local)
    (y : ∀ h₁, h₁.Ns h.objs.size (fun x => binds.reverse.lookup x) → Kp h h₁ →
      WP C (A.deeper (newEnv fd.scope h.objs.size fd.globals fd.closure (fd.qualname ++ ".<locals>.") (some f) fd.code none fd.builtins)) (execs body (newEnv fd.scope h.objs.size fd.globals fd.closure (fd.qualname ++ ".<locals>.") (some f) fd.code none fd.builtins))
        (fun fl h' => R (.ok (.ret (match fl with | .ret v => v | _ => .none))) h') (fun _ _ => False) h₁)
    (hco : fd.scope.isCoroutine = false := by rfl) (hgen : fd.scope.isGenerator = false := by rfl) (hk : fd.scope.kind = .function := by rfl) (hcell : ∀ x ∈ fd.scope.names, x.2 ≠ .cell := by decide) :
    codeAny (model prg C.w) A (.call (.ref f) ⟨args, []⟩) (C.up R) (C.S h k) := by
  refine codeAny_call_function (fd := fd) hroom ho hd hco hgen hbody hcd ?_
  rw [hbind]
  refine wpAny_pure (wpAny_newFunctionEnv hcell hloc (fun h₁ hns hsb => ⟨?_, ?_⟩) hk)
  · exact hl.fresh _ hsb
  · have kp : Kp h h₁ := fun b o e => hsb.extBut b o (Nat.ne_of_lt (Heap.lt_size e)) (Heap.get?_push_of_some _ e)
    refine codeAny_func (wpAny_mono (y h₁ hns kp (k + binds.length)) (fun fl s q => ?_) fun _ _ ⟨_, _, _, q⟩ => q.elim)
    cases fl <;> exact q
theorem ent_W {Q : Value → Heap → Prop} {d : Nat} (g : Gd C h) (r : Rm A d) (q : ∀ e h', NewEntry h h' e → Q (.ref e) h') : WP C A (call (.ref 52) []) Q E h := fun k => by
  refine wpAny_call (make_core (makes_of g.X rfl) (looks_findIn g.X rfl) (fun self => bind_fn g.X self rfl) (.inl rfl) ?_)
  have kp : Kp h ((h.push emptyDict).push (instObj 52 h.objs.size)) := ((Kp.refl h).push _).push _
  have sz : (h.push emptyDict).objs.size = h.objs.size + 1 := Heap.size_push _ _
  have xe : ((h.push emptyDict).push (instObj 52 h.objs.size)).get? (h.objs.size + 1) = some (instObj 52 h.objs.size) := by rw [← sz]; exact Heap.get?_push_size _ rfl
  have xd : ((h.push emptyDict).push (instObj 52 h.objs.size)).get? h.objs.size = some (dictOf [] 0) := Heap.get?_push_of_some _ (Heap.get?_push_size _ rfl)
  have ne0 : h.get? (h.objs.size + 1) = none := none_of_size (Nat.le_succ _)
  have nd0 : h.get? h.objs.size = none := none_of_size (Nat.le_refl _)
  have ned : h.objs.size + 1 ≠ h.objs.size := Nat.succ_ne_self _
  generalize (h.push emptyDict).push (instObj 52 h.objs.size) = h₀ at kp xe xd ⊢
  generalize h.objs.size + 1 = e at xe ne0 ned ⊢
  generalize h.objs.size = de at xe xd nd0 ned ⊢
  have g₀ := g.keeps kp
  refine codeAny_mono (C_callFn (C := C) (k := k) (R := fun r h' => r = .ok (.ret .none) ∧ Q (.ref e) h') (binds := [("self", .ref e)]) g₀.nolimit (g₀.X _ _ rfl) rfl rfl (codeRec_of g₀.X rfl) ?_ rfl (locs rfl) fun h₁ n₁ k₁ => ?_) fun res s' z => ?_
  · have := r.dp; show A.depth + _ < 1000
    have w : (Code.builtin "type.__call__" ⟨[Value.ref 52], []⟩).weight ≤ 2 := by decide
    omega
  · have z₁ : ∀ {b : Addr}, h₀.objs.size ≤ b → h.get? b = none := fun hb => kp_off kp (none_of_size hb)
    have x₁ := k₁ _ _ xe
    have y₁ := k₁ _ _ xd
    have L0 := z₁ (b := h₀.objs.size) (Nat.le_refl _)
    have lL : h₀.objs.size < h₁.objs.size := n₁.lt
    have dLt : de < h₀.objs.size := Heap.lt_size xd
    have eLt : e < h₀.objs.size := Heap.lt_size xe
    refine W_cons (W_AssignAttr (W_List (W_items0 (W_newList (by simp) (W_local (n₁.push _) rfl (W_instSet (g₀.keeps (k₁.push _)) (Heap.get?_push_of_some _ x₁) (Heap.get?_push_of_some _ y₁) rfl (by simp) fun h₂ es₂ c₂ y₂ s₂ q₂ o₂ l₂ => ?_))))))
    have Ld : h₀.objs.size ≠ de := Nat.ne_of_gt dLt
    have ud : h₁.objs.size ≠ de := Nat.ne_of_gt (Nat.lt_trans dLt lL)
    have ue : h₁.objs.size ≠ e := Nat.ne_of_gt (Nat.lt_trans eLt lL)
    have zu := z₁ (b := h₁.objs.size) (Nat.le_of_lt lL)
    have u₂ : h₂.get? h₁.objs.size = some (listO []) := (s₂.2 _ ud).trans (Heap.get?_push_size _ rfl)
    have n₂ := (n₁.push (listO [])).sameBut s₂ Ld
    have x₂ : h₂.get? e = _ := (s₂.2 _ ned).trans (Heap.get?_push_of_some _ x₁)
    have k₂ : Kp h h₂ := ((kp.trans k₁).push _).same s₂ nd0
    have m₂ : h₁.objs.size < h₂.objs.size := Heap.lt_size u₂
    generalize h₁.objs.size = lu at *
    have sz0 : es₂.length ≤ 1 := by simpa using l₂
    refine W_cons (W_AssignAttr (W_List (W_items0 (W_newList (by simp) (W_local (n₂.push _) rfl (W_instSet (g.keeps (k₂.push _)) (Heap.get?_push_of_some _ x₂) (Heap.get?_push_of_some _ y₂) (by rw [o₂ _ (by decide)]; rfl) (by omega) fun h₃ es₃ c₃ y₃ s₃ q₃ o₃ l₃ => ?_))))))
    have z₂ := z₁ (b := h₂.objs.size) (Nat.le_of_lt (Nat.lt_trans lL m₂))
    have rd : h₂.objs.size ≠ de := Nat.ne_of_gt (Nat.lt_trans dLt (Nat.lt_trans lL m₂))
    have re : h₂.objs.size ≠ e := Nat.ne_of_gt (Nat.lt_trans eLt (Nat.lt_trans lL m₂))
    have ru : lu ≠ h₂.objs.size := Nat.ne_of_lt m₂
    have r₃ : h₃.get? h₂.objs.size = some (listO []) := (s₃.2 _ rd).trans (Heap.get?_push_size _ rfl)
    have u₃ : h₃.get? lu = _ := (s₃.2 _ ud).trans (Heap.get?_push_of_some _ u₂)
    have n₃ := (n₂.push (listO [])).sameBut s₃ Ld
    have x₃ : h₃.get? e = _ := (s₃.2 _ ned).trans (Heap.get?_push_of_some _ x₂)
    have k₃ : Kp h h₃ := (k₂.push _).same s₃ nd0
    generalize h₂.objs.size = lr at *
    refine W_cons (W_AssignAttr (W_none (W_local n₃ rfl (W_instSet (g.keeps k₃) x₃ y₃ (by rw [o₃ _ (by decide), o₂ _ (by decide)]; rfl) (by omega) fun h₄ es₄ c₄ y₄ s₄ q₄ o₄ l₄ => ?_))))
    have n₄ := n₃.sameBut s₄ Ld
    have x₄ := (s₄.2 _ ned).trans x₃
    have k₄ := k₃.same s₄ nd0
    refine W_cons (W_AssignAttr (W_none (W_local n₄ rfl (W_instSet (g.keeps k₄) x₄ y₄ (by rw [o₄ _ (by decide), o₃ _ (by decide), o₂ _ (by decide)]; rfl) (by omega) fun h₅ es₅ c₅ y₅ s₅ q₅ o₅ l₅ => ?_))))
    refine W_nil ⟨rfl, q e h₅ ⟨de, _, lr, lu, k₄.same s₅ nd0, (s₅.2 _ ned).trans x₄, y₅, ?_, ?_, ?_, ?_, ?_, (s₅.2 _ rd).trans ((s₄.2 _ rd).trans r₃), (s₅.2 _ ud).trans ((s₄.2 _ ud).trans u₃), ne0, nd0, z₂, zu, Ne.symm re, Ne.symm rd, ru, ⟨_, _, rfl, by omega⟩, ned, ud, Ne.symm ue⟩⟩
    · show getL "rulelines" es₅ = _; rw [o₅ _ (by decide), o₄ _ (by decide), q₃]
    · show getL "allowance" es₅ = _; rw [o₅ _ (by decide), o₄ _ (by decide), o₃ _ (by decide), o₂ _ (by decide)]; rfl
    · show getL "useragents" es₅ = _; rw [o₅ _ (by decide), o₄ _ (by decide), o₃ _ (by decide), q₂]
    · show getL "delay" es₅ = _; rw [o₅ _ (by decide), q₄]
    · exact q₅
  · obtain ⟨h', k', rfl, rfl, z⟩ := z
    exact ⟨rfl, h', k', rfl, z⟩
end
end Mine
namespace Mine
open PySem PySem.W PySem.Calls PySem.Spec PyProof.Rows
noncomputable def ruleOf (n : Int) : Rule := (front n, okR n)
theorem front_len (n : Int) : (front n).length ≤ 6 := by
  have : (actS n).length ≤ 1 := by unfold actS; (repeat' split) <;> decide
  have : (whoS n).length ≤ 1 := by unfold whoS; (repeat' split) <;> decide
  have : (pathS n).length ≤ 4 := by unfold pathS; (repeat' split) <;> decide
  unfold front
  rw [Str.length_append, Str.length_append]; omega
section
variable {C : Cx} {A : Around} {h : Heap} {E : Value → Heap → Prop} {env : Env} {G : Heap}
/-- f(*t) -/
theorem W_withStar {f : Value} {first : List Value} {pos p : Pos} {e : Expr} {Q : Value → Heap → Prop}
    (y : WP C A (eval e env) (fun v h₁ => ∃ a vs, v = .ref a ∧ h₁.get? a = some (tupO vs) ∧ vs.length ≤ 1000 ∧ ∀ h₂, Kp h₁ h₂ → Kept f h₂ ∧ WP C A (call f (first ++ vs)) Q E h₂) E h)
    (he : starEach [.Starred e p] env = [(true, eval e env)] := by rfl) : WP C A (callWith pos f first (backTo pos (starEach [.Starred e p] env)) []) Q E h := fun k => by
  rw [he]
  refine ks_call (P := Kept f) rfl Kept.looks (ks_lone (wpAny_mono (y k) (fun v s q => ?_) fun _ _ e => e))
  obtain ⟨h₁, k₁, rfl, a, vs, rfl, ha, hl, q⟩ := q
  have hT : (C.S h₁ k₁).TypeIs (.ref a) "tuple" := ⟨_, ha, rfl⟩
  unfold StarOf notIterableAtAll
  refine wpAny_bind (wpAny_specialOf hT PySem.F.slot_tuple_iter.lookup (wpAny_pure ⟨rfl, ?_⟩))
  refine wpAny_collect_seq (s := C.S h₁ k₁) a (.inr rfl) ha rfl rfl (fun h' hk => ?_) (by rw [List.size_toArray]; exact Nat.le_trans hl (by decide))
  have z := q h' hk
  exact ⟨z.1, z.2 k₁⟩
theorem W_methAppend {l : Addr} {vs : List Value} {n : Nat} {pl : Sem Bool} {Q : Value × List Value → Heap → Prop} (hl : h.get? l = some (listO vs n)) (q : Q (.builtin "list.append", [.ref l]) h) : WP C A (getMethod (.ref l) "append" pl) Q E h :=
  fun k => getMethod_list_append (s := C.S h k) hl rfl rfl (up1 q)
theorem W_append {l : Addr} {vs : List Value} {n : Nat} {x : Value} {Q : Value → Heap → Prop} (hl : h.get? l = some (listO vs n)) (hs : vs.length ≤ 1000) (q : ∀ h' n', h'.get? l = some (listO (vs ++ [x]) n') → Heap.SameBut l h h' → Q .none h') : WP C A (call (.builtin "list.append") [.ref l, x]) Q E h := fun k => by
  refine wpAny_call_entry (s := C.S h k) slot_list_append (Heap.IsList.typeIs (s := C.S h k) (isList_of hl)) entry_list_append ?_ (args_list_append _ _)
  show wpAny _ _ (updateSeq l (·.push x) >>= fun _ => ret .none) _ _ _
  refine wpAny_bind ?_
  refine wpAny_updateSeq (s := C.S h k) hl rfl (wpAny_pure ⟨.none, rfl, _, k, rfl, q _ (n + 1) ?_ (Heap.SameBut.update ..)⟩) (by rw [List.size_toArray]; exact Nat.le_trans hs (by decide))
  have := Heap.get?_update_self (h := h) (a := l) (o := listO vs n) (Obj.mapSeq fun y => y.push x) hl rfl
  refine this.trans ?_
  congr 1
  show (⟨_, _, .seq (vs.toArray.push x) (if (vs.toArray.push x).size == vs.toArray.size then n else n + 1), _⟩ : Obj) = _
  have e : ((vs.toArray.push x).size == vs.toArray.size) = false := by simp
  rw [e]
  simp [listO]
/-- what was there is there -/
noncomputable def Ex (h h' : Heap) : Prop := ∀ b o, h.get? b = some o → ∃ o', h'.get? b = some o'
theorem Ex.refl (h : Heap) : Ex h h := fun _ o e => ⟨o, e⟩
theorem Ex.trans {a b c : Heap} (x : Ex a b) (y : Ex b c) : Ex a c := fun q o e => let ⟨o', e'⟩ := x q o e; y q o' e'
theorem Kp.ex {a b : Heap} (x : Kp a b) : Ex a b := fun q o e => ⟨o, x q o e⟩
theorem ex_same {a b : Heap} {L : Addr} {o : Obj} (s : Heap.SameBut L a b) (e : b.get? L = some o) : Ex a b := fun q o' e' => by
  by_cases z : q = L
  · subst z; exact ⟨o, e⟩
  · exact ⟨o', (s.2 _ z).trans e'⟩
theorem ex_t {a b : Heap} {o : Obj} (s : KpT a b) (e : b.get? 126 = some o) : Ex a b := fun q o' e' => by
  by_cases z : q = 126
  · subst z; exact ⟨o, e⟩
  · exact ⟨o', s _ _ z e'⟩
theorem ns_there {h : Heap} {L : Addr} {m : Str → Option Value} (n : h.Ns L m) : ∃ o, h.get? L = some o := let ⟨o, _, _, e, _⟩ := n; ⟨o, e⟩
theorem TabSt.to {h' : Heap} {G' : Heap} (x : TabSt G h) (e : h'.get? 126 = h.get? 126) (k : Kp G G') : TabSt G' h' := by
  rcases x with x | ⟨c1, c2, x, r1, r2⟩
  · exact .inl (e.trans x)
  · exact .inr ⟨c1, c2, e.trans x, r1.keeps k, r2.keeps k⟩
theorem TabSt.there (x : TabSt G h) : ∃ o, h.get? 126 = some o := by
  rcases x with x | ⟨c1, c2, x, r1, r2⟩ <;> exact ⟨_, x⟩
/-- between the turns -/
inductive EntI (C : Cx) (G h h₄ : Heap) (ns : List Int) (I ln e de lu lr : Addr) (od : Obj) (n : Nat) (h' : Heap) : Prop
  | mk (i G' : _) (p1 : n = ns.length - i) (p2 : i ≤ ns.length) (p3 : KpT h h') (p4 : Kp G G') (p5 : Kp G' h') (p6 : (∀ b o, G'.get? b = some o → G.get? b = some o ∨ h₄.get? b = none)) (p7 : TabSt G' h') (p8 : h'.IsListIter I ln i) (p9 : (∃ m, h'.Ns h.objs.size m ∧ m "entry" = some (.ref e))) (p10 : Ex h₄ h') (p11 : h'.get? e = some ⟨.ref 52, some de, .plain, #[]⟩) (p12 : h'.get? de = some od) (p13 : h'.get? lu = some (listO [])) (n' as : _) (p14 : h'.get? lr = some (listO (as.map .ref) n')) (p15 : LinesAt C G' as ((ns.take i).map ruleOf)) : EntI C G h h₄ ns I ln e de lu lr od n h'
theorem entry_W (hG : Gd C G) (hn : G.get? 126 = none) (kp : Kp G h) (tb : TabSt G h) (r : Rm A 20) {ln : Addr} {vs : List Value} {ns : List Int} (hl : h.IsList ln vs.toArray) (hi : IntsAre vs ns) (hln : ln ≠ 126) (hlen : ns.length ≤ 100) {Q : Value → Heap → Prop}
    (q : ∀ e h' G', KpT h h' → Grow G h G' h' → TabSt G' h' → EntryAt C G' e (ns.map ruleOf) → Q (.ref e) h') : WP C A (call (.ref 138) [.ref ln]) Q E h := by
  have g := hG.keeps kp
  obtain ⟨o126, t126⟩ := tb.there
  have l126 : 126 < h.objs.size := Heap.lt_size t126
  refine W_callFn (binds := [("numbers", .ref ln)]) g.nolimit (g.X 138 _ rfl) rfl rfl (codeRec_of g.X rfl) (by have := r.lim; omega) rfl (locs rfl) fun h₁ n₁ k₁ z₁ => ?_
  have zn : ∀ b, h.objs.size ≤ b → h.get? b = none := fun b hb => none_of_size hb
  have gN : ∀ b, h.objs.size ≤ b → G.get? b = none := fun b hb => by
    cases e : G.get? b with
    | none => rfl
    | some o => exact absurd (Heap.lt_size (kp _ _ e)) (Nat.not_lt.mpr hb)
  have g₁ := g.keeps k₁
  have r' : ∀ env, Rm (A.deeper env) 19 := fun env => r.deeper
  have rm1 : A.depth + 1 < recursionLimit := by have := r.lim; omega
  have rm6 : A.depth + 1 + 5 < recursionLimit := by have := r.lim; omega
  refine W_cons (W_Assign (W_Call (W_global g₁ rfl (W_with0 (Kept.top g₁.X rfl) (ent_W g₁ (r' _) fun e h₂ ne => ?_)))))
  obtain ⟨de, od, lr, lu, k₂, e1, e2, e3, e4, e5, e6, e7, e8, e9, f1, f2, f3, f4, d1, d2, d3, _, _, _, _⟩ := ne
  have n₂ := n₁.keeps k₂
  have oL : ∃ o, h₁.get? h.objs.size = some o := let ⟨o, _, _, e, _⟩ := n₁; ⟨o, e⟩
  obtain ⟨oL, oL1⟩ := oL
  have ne_of : ∀ {b c : Addr} {o : Obj}, h₁.get? b = none → h₁.get? c = some o → b ≠ c := fun hb hc z => by rw [z, hc] at hb; cases hb
  have eL := ne_of f1 oL1
  have dL := ne_of f2 oL1
  have rL := ne_of f3 oL1
  have uL := ne_of f4 oL1
  have r126 := ne_of f3 (k₁ _ _ t126)
  have no : ∀ b, h₁.get? b = none → h.get? b = none := fun b hb => by
    cases e : h.get? b with
    | none => rfl
    | some o => rw [k₁ _ _ e] at hb; cases hb
  have nG : ∀ b, h.get? b = none → G.get? b = none := fun b hb => by
    cases e : G.get? b with
    | none => rfl
    | some o => rw [kp _ _ e] at hb; cases hb
  refine W_store n₂ fun h₃ n₃ s₃ => ?_
  have k₃ : Kp h h₃ := (k₁.trans k₂).same s₃ (zn _ (Nat.le_refl _))
  have e1' := (s₃.2 _ eL).trans e1
  have e2' := (s₃.2 _ dL).trans e2
  have e8' := (s₃.2 _ rL).trans e8
  have e9' := (s₃.2 _ uL).trans e9
  refine W_cons (W_For (W_local n₃ (upd_ne rfl) (W_iterList (hl.at fun o e => k₃ _ _ e) fun h₄ k₄ i₄ z₄ => ?_)))
  have n₄ := n₃.keeps k₄
  have lI : h₃.get? h₃.objs.size = none := none_of_size (Nat.le_refl _)
  have neI : ∀ {b : Addr} {o : Obj}, h₃.get? b = some o → b ≠ h₃.objs.size := fun hb z => by rw [z, lI] at hb; cases hb
  obtain ⟨oL3, oL3'⟩ : ∃ o, h₃.get? h.objs.size = some o := let ⟨o, _, _, e, _⟩ := n₃; ⟨o, e⟩
  have hI : h.get? h₃.objs.size = none := by
    cases e : h.get? h₃.objs.size with
    | none => rfl
    | some o => exact absurd rfl (neI (k₃ _ _ e))
  have LI := neI oL3'
  have eI := neI e1'
  have dI := neI e2'
  have rI := neI e8'
  have uI := neI e9'
  have I126 := neI (k₃ _ _ t126)
  obtain ⟨oI, oI4, _⟩ := id i₄
  refine C_for (EntI C G h h₄ ns h₃.objs.size ln e de lu lr od)
    ?_ ns.length ⟨0, G, rfl, Nat.zero_le _, (k₃.trans k₄).t, Kp.refl _, kp.trans (k₃.trans k₄), fun b o e => .inl e, tb.to ((k₄ _ _ (k₃ _ _ t126)).trans t126.symm) (Kp.refl _), i₄, ⟨_, n₄, upd_eq⟩, Ex.refl _, k₄ _ _ e1', k₄ _ _ e2', k₄ _ _ e9', 0, [], k₄ _ _ e8', .nil⟩
  rintro n' h' ⟨i, G', rfl, hi', kT, kG, kG', new, tb', i', ⟨m, n', me⟩, ex', p1, p2, p3, nl, as, p4, lines⟩
  have off : ∀ {b : Addr} {o : Obj}, h.get? b = none → h₄.get? b = some o → G'.get? b = none := fun {b o} hb hb4 => by
    cases e : G'.get? b with
    | none => rfl
    | some o' => rcases new b o' e with z | z
                 · rw [nG _ hb] at z; cases z
                 · rw [hb4] at z; cases z
  have oL' := off (zn _ (Nat.le_refl _)) (k₄ _ _ oL3')
  have oI' := off hI oI4
  have oR' := off (no _ f3) (k₄ _ _ e8')
  have hn' : G'.get? 126 = none := by
    cases e : G'.get? 126 with
    | none => rfl
    | some o' => rcases new _ o' e with z | z
                 · rw [hn] at z; cases z
                 · rw [k₄ _ _ (k₃ _ _ t126)] at z; cases z
  have hl' : h'.IsList ln vs.toArray := hl.at fun o e => kT _ _ hln e
  by_cases hlt : i < ns.length
  · obtain ⟨t, ev⟩ := hi.get i ns[i] (by simp [hlt])
    refine W_nextItem (x := .int ns[i] t) i' hl' (by simpa using ev) fun h₅ i₅ s₅ => ?_
    refine W_noOwn (W_aName ?_)
    have n₅ := n'.sameBut s₅ LI
    refine W_store n₅ fun h₆ n₆ s₆ => ?_
    have k₆ : Kp G' h₆ := (kG'.same s₅ oI').same s₆ oL'
    have kT₆ : KpT h h₆ := (kT.same s₅ hI).same s₆ (zn _ (Nat.le_refl _))
    have i₆ : h₆.IsListIter h₃.objs.size ln (i + 1) := i₅.extBut s₆.extBut (Ne.symm LI)
    have p1₆ := (s₆.2 _ eL).trans ((s₅.2 _ eI).trans p1)
    have p2₆ := (s₆.2 _ dL).trans ((s₅.2 _ dI).trans p2)
    have p3₆ := (s₆.2 _ uL).trans ((s₅.2 _ uI).trans p3)
    have p4₆ := (s₆.2 _ rL).trans ((s₅.2 _ rI).trans p4)
    have tb₆ : TabSt G' h₆ := tb'.to ((s₆.2 _ (show 126 ≠ h.objs.size by omega)).trans (s₅.2 _ I126)) (Kp.refl _)
    have gG' := hG.keeps kG
    have g₆ := gG'.keeps k₆
    refine WP.gen fun Qi kQi => ?_
    refine W_cons (W_Expr (W_Meth (W_Attr (W_local n₆ (upd_ne me) (W_instAttr g₆ p1₆ p2₆ e3 fun pl => W_methAppend p4₆ ?_)))))
    refine W_with (W_items (W_Call (W_global g₆ rfl (W_withStar (W_Call (W_global g₆ rfl (W_with (W_items (W_local n₆ upd_eq (W_items0 ⟨Kept.top g₆.X rfl, ?_⟩))))))))))
    refine rule_W gG' k₆ rm1 fun a h₇ t' k₇ ha _ => ⟨a, _, rfl, ha, by simp, fun h₈ k₈ => ⟨Kept.top (g₆.keeps (k₇.trans k₈)).X rfl, ?_⟩⟩
    have k₆₈ := k₇.trans k₈
    obtain ⟨oi5, oi5', _⟩ := id i₅
    obtain ⟨on6, on6'⟩ := ns_there n₆
    have ex₈ : Ex h₄ h₈ := ((ex'.trans (ex_same s₅ oi5')).trans (ex_same s₆ on6')).trans k₆₈.ex
    refine line_W gG' hn' (k₆.trans k₆₈) (tb₆.to ((k₆₈ _ _ (tb₆.there.choose_spec)).trans tb₆.there.choose_spec.symm) (Kp.refl _)) rm6 (Nat.le_trans (front_len _) (by decide)) fun a₉ h₉ G₉ kt₉ gr₉ tb₉ la => ?_
    refine W_items0 ⟨Kept.builtin, ?_⟩
    have p4₉ := kt₉ _ _ r126 (k₆₈ _ _ p4₆)
    have hlen' : as.length = i := by rw [lines.length]; simp; omega
    refine W_append p4₉ (by simp; omega) fun h₀ n₀ p4₀ s₀ => ⟨fun a z => (by cases z), ?_⟩
    have ld : LinesAt C G₉ (as ++ [a₉]) ((ns.take (i + 1)).map ruleOf) := by
      rw [List.take_add_one, List.map_append, List.getElem?_eq_getElem hlt]
      exact (lines.keeps gr₉.old).append (.cons la .nil)
    have all : ∀ {b : Addr} {o : Obj}, b ≠ 126 → b ≠ lr → h₆.get? b = some o → h₀.get? b = some o := fun h1 h2 e => (s₀.2 _ h2).trans (kt₉ _ _ h1 (k₆₈ _ _ e))
    obtain ⟨oN, esN, epN, hN1, hN2⟩ := n₆
    refine W_nil (kQi _ _ ⟨ns.length - (i + 1), by omega, i + 1, G₉, rfl, by omega, ?_, kG.trans gr₉.old, gr₉.now.same s₀ (gr₉.off oR' (k₆₈ _ _ p4₆)), fun b o e => ?_, tb₉.to (s₀.2 _ (Ne.symm r126)) (Kp.refl _), ?_, ⟨_, ⟨oN, esN, epN, all (by show h.objs.size ≠ 126; omega) (Ne.symm rL) hN1, hN2⟩, upd_ne me⟩,
      (ex₈.trans (ex_t kt₉ tb₉.there.choose_spec)).trans (ex_same s₀ p4₀), all ?_ d1 p1₆, all ?_ d2 p2₆, all ?_ d3 p3₆, n₀, as ++ [a₉], ?_, ld⟩)
    · exact fun b o hb e => all hb (fun z => by rw [z, no _ f3] at e; cases e) (kT₆ _ _ hb e)
    · rcases gr₉.new b o e with z | z
      · exact new b o z
      · refine .inr ?_
        cases x : h₄.get? b with
        | none => rfl
        | some o' =>
          obtain ⟨o2, z2⟩ := ex₈ _ _ x
          rw [z] at z2; cases z2
    · obtain ⟨o, x, y⟩ := i₆
      exact ⟨o, all (Ne.symm I126) (Ne.symm rI) x, y⟩
    · exact ne_of f1 (k₁ _ _ t126)
    · exact ne_of f2 (k₁ _ _ t126)
    · exact ne_of f4 (k₁ _ _ t126)
    · rw [List.map_append]; exact p4₀
  · have hi'' : i = ns.length := by omega
    subst hi''
    refine W_nextEnd r.hd i' hl' (by simp [hi.length]) fun h₅ x₅ => ?_
    have n₅ := n'.extBut x₅ LI
    refine W_nil (W_cons (W_Return (W_local n₅ me ?_)))
    have kG₅ : Kp G' h₅ := fun b o e => x₅ b o (fun z => by rw [z, oI'] at e; cases e) (kG' b o e)
    have kT₅ : KpT h h₅ := fun b o hb e => x₅ b o (fun z => by rw [z, hI] at e; cases e) (kT b o hb e)
    have gr := grow_is (G := G) (h := h) (kG.trans kG₅)
    have into : Kp G' (grow G h h₅) := grow_into kG₅ fun b o e => by
      rcases new b o e with z | z
      · exact .inl z
      · refine .inr ?_
        cases x : h.get? b with
        | none => rfl
        | some o' => rw [k₄ _ _ (k₃ _ _ x)] at z; cases z
    have lines' := lines.keeps into
    rw [List.take_length] at lines'
    refine q e h₅ _ kT₅ gr (tb'.to (x₅ _ _ I126 tb'.there.choose_spec |>.trans tb'.there.choose_spec.symm) into) ⟨de, od, #[], lr, nl, lu, as, grow_new (x₅ _ _ eI p1) (no _ f1), grow_new (x₅ _ _ dI p2) (no _ f2), e3, e4, e5, e6, e7, ⟨0, grow_new (x₅ _ _ uI p3) (no _ f4)⟩, grow_new (x₅ _ _ rI p4) (no _ f3), lines'⟩
end
end Mine
namespace Mine
open PySem PySem.W PySem.Calls PySem.Spec PyProof.Rows
noncomputable def tiO (t : Addr) (i : Nat) : Obj := { cls := .type "tuple_iterator", data := .fields #[.ref t, .int i 0] }
noncomputable def enO (v : Value) (it : Addr) (i : Int) (old : Value) : Obj := { cls := .type "enumerate", data := .fields #[v, .bool false, .ref it, rawInt i, .none, old] }
section
variable {prog : Program} {w : World} {A : Around} {E : Value → Shared → Prop} {h : Heap} {g : Array GenState} {d : Drawn} {tk : Nat} {os : OsState} {e it t : Addr} {i : Nat} {vs : List Value} {x old : Value}
theorem next_ti {Q : Value → Shared → Prop} (hit : h.get? it = some (tiO t i)) (ht : h.get? t = some (tupO vs)) (hx : vs[i]? = some x)
    (hq : ∀ h', h'.get? it = some (tiO t (i + 1)) → Heap.SameBut it h h' → Q x ⟨h', g, d, tk, os⟩) : wpAny (model prog w) A (Builtin.SmallTypes.nextOf (.ref it)) Q E ⟨h, g, d, tk, os⟩ := by
  have hT : (⟨h, g, d, tk, os⟩ : Shared).TypeIs (.ref it) "tuple_iterator" := ⟨_, hit, rfl⟩
  unfold Builtin.SmallTypes.nextOf
  refine wpAny_bind (wpAny_callSpecial?_slot (name := Str.ofString "__next__") hT slot_tupleiter_next (wpAny_call_entry slot_tupleiter_next hT entry_tupleiter_next ?_ (args_tupleiter_next _)))
  have hx' : vs.toArray[i]? = some x := by simpa using hx
  repeat (any_goals (first | assumption | wp_step))
  rw [Int.toNat_natCast, hx']
  refine wpAny_bind (wpAny_setField (s := ⟨h, g, d, tk, os⟩) hit rfl (by simp) (wpAny_pure ⟨x, rfl, wpAny_pure (hq _ ?_ (Heap.SameBut.update ..))⟩))
  exact Heap.get?_update_self _ hit rfl
theorem next_ti_end {Q : Value → Shared → Prop} (hh : A.handled = none) (hit : h.get? it = some (tiO t i)) (ht : h.get? t = some (tupO vs)) (hx : vs[i]? = none)
    (hE : ∀ h' ex, Heap.ExtBut it h h' → (∃ o, h'.get? ex = some o ∧ o.cls = .type "StopIteration") → E (.ref ex) ⟨h', g, d, tk, os⟩) : wpAny (model prog w) A (Builtin.SmallTypes.nextOf (.ref it)) Q E ⟨h, g, d, tk, os⟩ := by
  have hT : (⟨h, g, d, tk, os⟩ : Shared).TypeIs (.ref it) "tuple_iterator" := ⟨_, hit, rfl⟩
  unfold Builtin.SmallTypes.nextOf
  refine wpAny_bind (wpAny_callSpecial?_slot (name := Str.ofString "__next__") hT slot_tupleiter_next (wpAny_call_entry slot_tupleiter_next hT entry_tupleiter_next ?_ (args_tupleiter_next _)))
  have hx' : vs.toArray[i]? = none := by simpa using hx
  repeat (any_goals (first | assumption | wp_step))
  rw [Int.toNat_natCast, hx']
  refine wpAny_bind (wpAny_rule (wpAny_bind (wpAny_setField (s := ⟨h, g, d, tk, os⟩) hit rfl (by simp) ?_)))
  show wpAny _ _ (newExc (.type "StopIteration") [] >>= _) _ _ _
  refine wpAny_bind ?_
  simp only [newExc, newTuple]
  refine wpAny_bind (wpAny_newObj_type ?_ (by size_fits))
  refine wpAny_bind (m := firstArgMember _ _) (wpAny_of_eq (a := Value.none) (by first | rfl | (simp only [firstArgMember]; rfl)) ?_)
  refine wpAny_newObj_type ?_ (by size_fits)
  simp only [raiseNew]
  refine wpAny_bind (wpAny_handled ?_)
  rw [show A.in1.handled = none from hh]
  refine wpAny_bind (wpAny_pure (wpAny_throw ?_))
  exact hE _ _ (((Heap.SameBut.update ..).extBut.push _).push _) ⟨_, Heap.get?_push_size _ rfl, rfl⟩
theorem en_item {Q : Value → Shared → Prop} (he : h.get? e = some (enO .none it i old)) (hit : h.get? it = some (tiO t i)) (ht : h.get? t = some (tupO vs)) (hx : vs[i]? = some x) (hne : e ≠ it)
    (hq : ∀ h', h'.get? e = some (enO (rawInt h.objs.size) it ((i : Int) + 1) x) → h'.get? it = some (tiO t (i + 1)) → h'.get? h.objs.size = some (tupO [.int i tk, x]) →
      (∀ b o, b ≠ e → b ≠ it → h.get? b = some o → h'.get? b = some o) → Q (.ref h.objs.size) ⟨h', g, d, tk + 1, os⟩) :
    wpAny (model prog w) A (Builtin.«enumerate.__next__» ⟨[.ref e], []⟩) (fun fin s' => ∃ v, fin = .done (.ret v) ∧ Q v s') E ⟨h, g, d, tk, os⟩ := by
  show wpAny _ _ (field (.ref e) 2 >>= _) _ _ _
  refine wpAny_bind (wpAny_field (s := ⟨h, g, d, tk, os⟩) he rfl (x := .ref it) rfl ?_)
  refine wpAny_bind (next_ti hit ht hx fun h₁ hit₁ hs₁ => ?_)
  have he₁ : h₁.get? e = some (enO .none it i old) := (hs₁.2 e hne).trans he
  show wpAny _ _ (field (.ref e) 3 >>= _) _ _ ⟨h₁, g, d, tk, os⟩
  refine wpAny_bind (wpAny_field (s := ⟨h₁, g, d, tk, os⟩) he₁ rfl (x := rawInt i) rfl ?_)
  show wpAny _ _ (field (.ref e) 4 >>= _) _ _ ⟨h₁, g, d, tk, os⟩
  refine wpAny_bind (wpAny_field (s := ⟨h₁, g, d, tk, os⟩) he₁ rfl (x := .none) rfl ?_)
  show wpAny _ _ (mkInt i >>= _) _ _ ⟨h₁, g, d, tk, os⟩
  refine wpAny_bind (wpAny_mkInt ?_)
  show wpAny _ _ (setField (.ref e) 3 (rawInt ((i : Int) + 1)) >>= _) _ _ ⟨h₁, g, d, tk + 1, os⟩
  refine wpAny_bind (wpAny_setField_rec he₁ (by simp) fun h₂ he₂ hs₂ => ?_)
  show wpAny _ _ (setField (.ref e) 4 .none >>= _) _ _ ⟨h₂, g, d, tk + 1, os⟩
  refine wpAny_bind (wpAny_setField_rec he₂ (by simp) fun h₃ he₃ hs₃ => ?_)
  show wpAny _ _ (newTuple [.int i tk, x] >>= _) _ _ ⟨h₃, g, d, tk + 1, os⟩
  refine wpAny_bind (wpAny_newTuple ?_)
  have sz : h₃.objs.size = h.objs.size := by
    have a1 : h₃.objs.size = h₂.objs.size := hs₃.1
    have a2 : h₂.objs.size = h₁.objs.size := hs₂.1
    have a3 : h₁.objs.size = h.objs.size := hs₁.1
    omega
  have hel : e ≠ h₃.objs.size := by rw [sz]; exact Nat.ne_of_lt (Heap.lt_size he)
  have he₄ : (h₃.push (tupO [.int i tk, x])).get? e = some (enO .none it ((i : Int) + 1) old) := Heap.get?_push_of_some _ he₃
  have ht₄ : (h₃.push (tupO [.int i tk, x])).get? h₃.objs.size = some (tupO [.int i tk, x]) := Heap.get?_push_size _ rfl
  have hk₄ : ∀ b o, b ≠ e → b ≠ it → h.get? b = some o → (h₃.push (tupO [.int i tk, x])).get? b = some o := fun b o hbe hbi hb =>
    Heap.get?_push_of_some _ ((hs₃.2 b hbe).trans ((hs₂.2 b hbe).trans ((hs₁.2 b hbi).trans hb)))
  have hi₄ : (h₃.push (tupO [.int i tk, x])).get? it = some (tiO t (i + 1)) := Heap.get?_push_of_some _ ((hs₃.2 _ (Ne.symm hne)).trans ((hs₂.2 _ (Ne.symm hne)).trans hit₁))
  show wpAny _ _ (Builtin.SmallTypes.ownedTupleIsFree (.ref e) >>= _) _ _ ⟨h₃.push (tupO [.int i tk, x]), g, d, tk + 1, os⟩
  generalize h₃.push (tupO [.int i tk, x]) = h₄ at he₄ ht₄ hk₄ hi₄
  refine wpAny_bind ?_
  unfold Builtin.SmallTypes.ownedTupleIsFree
  refine wpAny_bind (wpAny_field (s := ⟨h₄, g, d, tk + 1, os⟩) he₄ rfl (x := .none) rfl (wpAny_pure ?_))
  simp only [if_true]
  refine wpAny_bind (wpAny_rule ?_)
  refine wpAny_bind (wpAny_field (s := ⟨h₄, g, d, tk + 1, os⟩) he₄ rfl (x := old) rfl ?_)
  refine wpAny_bind (wpAny_setField_rec he₄ (by simp) fun h₅ he₅ hs₅ => ?_)
  show wpAny _ _ (Builtin.SmallTypes.ownedTupleHandOut (.ref e) (.ref h₃.objs.size) >>= _) _ _ ⟨h₅, g, d, tk + 1, os⟩
  refine wpAny_bind ?_
  unfold Builtin.SmallTypes.ownedTupleHandOut
  refine wpAny_bind (wpAny_setField_rec he₅ (by simp) fun h₆ he₆ hs₆ => ?_)
  refine wpAny_setField_rec he₆ (by simp) fun h₇ he₇ hs₇ => ?_
  refine wpAny_bind (wpAny_letGo (wpAny_pure ⟨_, rfl, ?_⟩))
  have all : ∀ b o, b ≠ e → h₄.get? b = some o → h₇.get? b = some o := fun b o hb x => (hs₇.2 b hb).trans ((hs₆.2 b hb).trans ((hs₅.2 b hb).trans x))
  have fin := hq h₇ (by rw [← sz]; exact he₇) (all _ _ (Ne.symm hne) hi₄) (by rw [← sz]; exact all _ _ (Ne.symm hel) ht₄) (fun b o h1 h2 h3 => all _ _ h1 (hk₄ b o h1 h2 h3))
  rw [← sz] at fin
  exact fin
end
section
variable {C : Cx} {A : Around} {h : Heap} {E : Value → Heap → Prop} {e it t : Addr} {i : Nat} {vs : List Value} {x old : Value}
theorem W_enItem {Q : Option Value → Heap → Prop} (he : h.get? e = some (enO .none it i old)) (hit : h.get? it = some (tiO t i)) (ht : h.get? t = some (tupO vs)) (hx : vs[i]? = some x) (hne : e ≠ it)
    (q : ∀ h' tk, h'.get? e = some (enO (rawInt h.objs.size) it ((i : Int) + 1) x) → h'.get? it = some (tiO t (i + 1)) → h'.get? h.objs.size = some (tupO [.int i tk, x]) →
      (∀ b o, b ≠ e → b ≠ it → h.get? b = some o → h'.get? b = some o) → Q (some (.ref h.objs.size)) h') : WP C A (pyNext (.ref e)) Q E h := fun k => by
  have hT : (C.S h k).TypeIs (.ref e) "enumerate" := ⟨_, he, rfl⟩
  unfold pyNext
  exact wpAny_bind (wpAny_attempt (wpAny_callSpecial?_slot (name := Str.ofString "__next__") hT F.slot_enumerate_next
    (wpAny_call_entry F.slot_enumerate_next hT F.entry_enumerate_next (en_item he hit ht hx hne fun h' a b c f => wpAny_pure ⟨h', _, rfl, q h' _ a b c f⟩) (F.args_enumerate_next_1 _))))
theorem W_enEnd {Q : Option Value → Heap → Prop} (hh : A.handled = none) (he : h.get? e = some (enO .none it i old)) (hit : h.get? it = some (tiO t i)) (ht : h.get? t = some (tupO vs)) (hx : vs[i]? = none)
    (q : ∀ h', Heap.ExtBut it h h' → Q none h') : WP C A (pyNext (.ref e)) Q E h := fun k => by
  have hT : (C.S h k).TypeIs (.ref e) "enumerate" := ⟨_, he, rfl⟩
  unfold pyNext
  refine wpAny_bind (wpAny_attempt (wpAny_callSpecial?_slot (name := Str.ofString "__next__") hT F.slot_enumerate_next
    (wpAny_call_entry F.slot_enumerate_next hT F.entry_enumerate_next ?_ (F.args_enumerate_next_1 _))))
  show wpAny _ _ (field (.ref e) 2 >>= _) _ _ _
  refine wpAny_bind (wpAny_field (s := C.S h k) he rfl (x := .ref it) rfl ?_)
  refine wpAny_bind (next_ti_end hh hit ht hx fun h' x he' hx' => ?_)
  obtain ⟨o, ho, hc⟩ := hx'
  refine wpAny_bind (wpAny_isInstance (T := "StopIteration") (b := true) ⟨o, ho, hc⟩ isSubtype_stop ?_)
  exact wpAny_pure ⟨h', _, rfl, q _ he'⟩
theorem W_enFree {elts : List Expr} {n : Nat} {pos : Pos} {a : Addr} {j : Int} {item : Value} {Q : Unit → Heap → Prop} (he : h.get? e = some (enO (rawInt a) it j item))
    (q : ∀ h', h'.get? e = some (enO .none it j item) → Heap.SameBut e h h' → Q () h') : WP C A (letOwnedTupleGo (.Tuple elts n pos) (.ref e) (.ref a)) Q E h :=
  fun k => wpAny_letOwnedTupleGo_enum (s := C.S h k) he fun h' a b => ⟨h', k, rfl, q h' a b⟩
theorem W_tiItem {Q : Option Value → Heap → Prop} (hit : h.get? it = some (tiO t i)) (ht : h.get? t = some (tupO vs)) (hx : vs[i]? = some x)
    (q : ∀ h', h'.get? it = some (tiO t (i + 1)) → Heap.SameBut it h h' → Q (some x) h') : WP C A (pyNext (.ref it)) Q E h := fun k => by
  have hT : (C.S h k).TypeIs (.ref it) "tuple_iterator" := ⟨_, hit, rfl⟩
  unfold pyNext
  refine wpAny_bind (wpAny_attempt (wpAny_callSpecial?_slot (name := Str.ofString "__next__") hT slot_tupleiter_next (wpAny_call_entry slot_tupleiter_next hT entry_tupleiter_next ?_ (args_tupleiter_next _))))
  show wpAny _ _ (field (.ref it) 0 >>= _) _ _ _
  refine wpAny_bind (wpAny_field (s := C.S h k) hit rfl (x := .ref t) rfl ?_)
  show wpAny _ _ (if (Value.ref t == Value.none) = true then _ else _) _ _ _
  rw [if_neg (show ¬ ((Value.ref t == Value.none) = true) from Bool.false_ne_true)]
  show wpAny _ _ (field (.ref it) 1 >>= _) _ _ _
  refine wpAny_bind (wpAny_field (s := C.S h k) hit rfl (x := .int i 0) rfl ?_)
  show wpAny _ _ (seqItems? (.ref t) >>= _) _ _ _
  refine wpAny_bind (wpAny_seqItems (s := C.S h k) ht rfl ?_)
  have hx' : vs.toArray[i]? = some x := by simpa using hx
  simp only [Int.toNat_natCast, hx']
  refine wpAny_bind (wpAny_setField (s := C.S h k) hit rfl (by simp) (wpAny_pure ⟨x, rfl, wpAny_pure ⟨_, k, rfl, q _ ?_ (Heap.SameBut.update ..)⟩⟩))
  exact Heap.get?_update_self _ hit rfl
theorem W_tiEnd {Q : Option Value → Heap → Prop} (hh : A.handled = none) (hit : h.get? it = some (tiO t i)) (ht : h.get? t = some (tupO vs)) (hx : vs[i]? = none) (q : ∀ h', Heap.ExtBut it h h' → Q none h') : WP C A (pyNext (.ref it)) Q E h :=
  fun k => next_tuple_end (s := C.S h k) hh ⟨_, hit, rfl, rfl⟩ (isTup_of ht) (by simpa using hx) fun h' x => ⟨h', k, rfl, q h' x⟩
theorem W_iterTup {Q : Value → Heap → Prop} (ht : h.get? t = some (tupO vs)) (q : ∀ h', Kp h h' → h'.get? h.objs.size = some (tiO t 0) → h'.objs.size = h.objs.size + 1 → Q (.ref h.objs.size) h') : WP C A (pyIter (.ref t)) Q E h :=
  fun k => iter_tuple (s := C.S h k) (isTup_of ht) ⟨_, k, rfl, q _ (fun b o e => Heap.get?_push_of_some _ e) (Heap.get?_push_size _ rfl) (Heap.size_push _ _)⟩
theorem W_iterEn {j : Int} {Q : Value → Heap → Prop} (he : h.get? e = some (enO .none it j old)) (q : Q (.ref e) h) : WP C A (pyIter (.ref e)) Q E h := fun k => wpAny_pyIter_enum (s := C.S h k) he (up1 q)
/-- a, b = t -/
theorem W_aPair {env : Env} {x y : Str} {p1 p2 pos : Pos} {n : Nat} {u v : Value} {Q : Unit → Heap → Prop} (hh : A.handled = none) (ht : h.get? t = some (tupO [u, v]))
    (q : ∀ h', Heap.ExtBut h.objs.size h h' → WP C A (storeName env x u) (fun _ h₁ => WP C A (storeName env y v) Q E h₁) E h') : WP C A (assign (.Tuple [.Name x p1, .Name y p2] n pos) env (.ref t)) Q E h := fun k => by
  refine assign_Tuple_tuple (s := C.S h k) hh (isTup_of ht) rfl rfl fun h' x => ?_
  refine assignInOrder_cons (wpAny_assign_Name (wpAny_mono (q h' x k) (fun _ s z => ?_) fun _ _ e => e))
  obtain ⟨h₁, k₁, rfl, z⟩ := z
  refine assignInOrder_cons (wpAny_assign_Name (wpAny_mono (z k₁) (fun _ s z => assignInOrder_nil z) fun _ _ e => e))
end
end Mine
namespace Mine
open PySem PySem.W PySem.Calls PySem.Spec PyProof.Rows PySem.W.X
noncomputable def NewEn (h h' : Heap) (e it : Addr) : Prop := Kp h h' ∧ h'.get? e = some (enO .none it 0 .none) ∧ h'.get? it = some (tiO 103 0) ∧ h.get? e = none ∧ h.get? it = none ∧ e ≠ it
noncomputable def setO (t : SetTable) : Obj := { cls := .type "set", data := .set #[] 0 t }
noncomputable def bmN : String := toString "set" ++ toString "." ++ toString ("__contains__" : Str).toString
theorem bm_id : bmN = "set.__contains__" := by decide +kernel
noncomputable def bmO (s : Addr) : Obj := { cls := .type "builtin_function_or_method", data := .fields #[.builtin "set.__contains__", .ref s] }
noncomputable def flO (f it : Addr) : Obj := { cls := .type "filter", data := .fields #[.ref f, .ref it] }
noncomputable def liO (l : Addr) : Obj := { cls := .type "list_iterator", data := .fields #[.ref l, .int 0 0] }
theorem mem_keep {h h' : Heap} {news : List (Addr × Obj)} (D : Mem h h' [] news) : Kp h h' := fun b o x => D.keep b o x (by rw [Bool.or_eq_true]; exact .inr rfl)
theorem mem_two {h h' : Heap} {a b : Addr} {o1 o2 : Obj} (D : Mem h h' [] [(a, o1), (b, o2)]) : h'.get? a = some o1 ∧ h'.get? b = some o2 ∧ h.get? a = none ∧ h.get? b = none ∧ a ≠ b := by
  have o := D.ord
  simp only [List.map_cons, List.map_nil, List.pairwise_cons, List.mem_cons, List.not_mem_nil, or_false, forall_eq] at o
  have d1 := D.nw _ (.head _)
  have d2 := D.nw _ (.tail _ (.head _))
  exact ⟨d1.1, d2.1, d1.2, d2.2, Nat.ne_of_gt o.1⟩
section
local macro_rules | `(tactic| x_close) => `(tactic| exact ⟨_, _, rfl, _, by assumption, _, _, rfl, rfl⟩)
theorem en_x {C : Cx} {E : Value → Heap → Prop} {h : Heap} (k : Nat) (X : (hd.heap_39 C.w.params).In h) :
    wpAny (model prg C.w) Amax (call (.type "enumerate") [.ref 103]) (C.up fun v h' => ∃ news, Mem h h' [] news ∧ ∃ e it, v = .ref e ∧ news = [(e, enO .none it 0 .none), (it, tiO 103 0)]) (C.up E) ⟨h, C.gens, C.drawn, k, C.os⟩ := by
  x_run
theorem con_x {C : Cx} {E : Value → Heap → Prop} {h : Heap} (k : Nat) {l : Addr} {t : SetTable} {tk : Tok} (X : (hd.heap_39 C.w.params).In h) (hl : h.get? l = some { cls := .type "set", data := .set #[] 0 t }) :
    wpAny (model prg C.w) Amax (call (.builtin "set.__getattribute__") [.ref l, .str "__contains__" tk]) (C.up fun v h' => ∃ news, Mem h h' [] news ∧ ∃ a r, v = .ref a ∧ news = (a, { cls := .type "builtin_function_or_method", data := .fields #[.builtin bmN, .ref l] }) :: r) (C.up E) ⟨h, C.gens, C.drawn, k, C.os⟩ := by
  x_run
theorem fil_x {C : Cx} {E : Value → Heap → Prop} {h : Heap} (k : Nat) {l f s : Addr} {nl : Nat} (X : (hd.heap_39 C.w.params).In h) (hf : h.get? f = some { cls := .type "builtin_function_or_method", data := .fields #[.builtin "set.__contains__", .ref s] }) (hl : h.get? l = some ⟨.type "list", none, .seq #[] nl, #[]⟩) :
    wpAny (model prg C.w) Amax (call (.type "filter") [.ref f, .ref l]) (C.up fun v h' => ∃ news, Mem h h' [] news ∧ ∃ a it, v = .ref a ∧ news = [(a, flO f it), (it, liO l)]) (C.up E) ⟨h, C.gens, C.drawn, k, C.os⟩ := by
  x_run
end
theorem en_W {C : Cx} {A : Around} {Q : Value → Heap → Prop} {E : Value → Heap → Prop} {h : Heap} {d : Nat} (g : Gd C h) (r : Rm A d) (q : ∀ e it h', NewEn h h' e it → Q (.ref e) h') : WP C A (call (.type "enumerate") [.ref 103]) Q E h := by
  refine WP.mono (WP.room (fun k => en_x k g.X) r) (fun v h' y => ?_) fun _ _ e => e
  obtain ⟨_, D, e, it, rfl, rfl⟩ := y
  have z := mem_two D
  exact q e it h' ⟨mem_keep D, z⟩
theorem con_W {C : Cx} {A : Around} {Q : Value → Heap → Prop} {E : Value → Heap → Prop} {h : Heap} {d : Nat} {s : Addr} {t : SetTable} {tk : Tok} (g : Gd C h) (r : Rm A d) (hs : h.get? s = some (setO t)) (q : ∀ a h', Kp h h' → h'.get? a = some (bmO s) → Q (.ref a) h') :
    WP C A (call (.builtin "set.__getattribute__") [.ref s, .str "__contains__" tk]) Q E h := by
  refine WP.mono (WP.room (fun k => con_x k g.X hs) r) (fun v h' y => ?_) fun _ _ e => e
  obtain ⟨_, D, a, r, rfl, rfl⟩ := y
  have z := (D.nw _ (.head _)).1
  rw [bm_id] at z
  exact q a h' (mem_keep D) z
theorem fil_W {C : Cx} {A : Around} {Q : Value → Heap → Prop} {E : Value → Heap → Prop} {h : Heap} {d : Nat} {l f s : Addr} {nl : Nat} (g : Gd C h) (r : Rm A d) (hf : h.get? f = some (bmO s)) (hl : h.get? l = some (listO [] nl))
    (q : ∀ a it h', Kp h h' → h'.get? a = some (flO f it) → h'.get? it = some (liO l) → h.get? a = none → h.get? it = none → a ≠ it → Q (.ref a) h') : WP C A (call (.type "filter") [.ref f, .ref l]) Q E h := by
  refine WP.mono (WP.room (fun k => fil_x k g.X hf hl) r) (fun v h' y => ?_) fun _ _ e => e
  obtain ⟨_, D, a, it, rfl, rfl⟩ := y
  obtain ⟨z1, z2, z3, z4, z5⟩ := mem_two D
  exact q a it h' (mem_keep D) z1 z2 z3 z4 z5
section
variable {prog : Program} {w : World} {A : Around} {s : Shared} {a l : Addr} {nl : Nat} {led : Bool} {E : Value → Shared → Prop}
theorem setName {Q : String → Shared → Prop} (hT : s.TypeIs (.ref a) "set") (q : ∀ n, Q n s) : wpAny (model prog w) A (typeNameOfCut 200 (.ref a)) Q E s := by
  unfold typeNameOfCut shownTypeOf
  exact wpAny_bind (wpAny_bind (wpAny_typeOf hT (wpAny_of_eq (a := .type "set") rfl (wpAny_of_eq rfl (q _)))))
theorem setUse {Q : Bool → Shared → Prop} (ha : s.heap.get? a = some (setO (.fresh 0 0 led))) (q : Q false s) : wpAny (model prog w) A (setUsed a) Q E s := by
  unfold setUsed
  exact wpAny_bind (wpAny_setState_of ha rfl rfl (wpAny_pure q))
theorem setAny {Q : Bool → Shared → Prop} (hT : s.TypeIs (.ref l) "list") (q : Q false s) : wpAny (model prog w) A (Builtin.Frozenset.isAnySet (.ref l)) Q E s := by
  unfold Builtin.Frozenset.isAnySet orM
  refine wpAny_bind (wpAny_isInstance hT F.sub_list_set ?_)
  show wpAny _ _ (isInstance (.ref l) (.type "frozenset")) _ _ _
  exact wpAny_isInstance hT F.sub_list_frozenset q
theorem setLoop {R : Result → Shared → Prop} (hh : A.handled = none) (hl : s.heap.get? l = some (listO [] nl)) (q : ∀ h' k, Kp s.heap h' → R (.ok (.ret .none)) { s with heap := h', toks := k }) :
    codeAny (model prog w) A (.builtin "set.update.loop" ⟨[.ref a, .ref s.heap.objs.size], []⟩) R { s with heap := s.heap.push { cls := .type "list_iterator", data := .fields #[.ref l, .int 0 0] } } := by
  refine codeAny_builtin F.entry_set_update_loop ?_
  rw [Around.under_plainId F.plain_set_update_loop _]
  have la : l < s.heap.objs.size := Heap.lt_size hl
  have hll : s.heap.IsList l #[] := ⟨_, hl, rfl, nl, rfl⟩
  refine wpAny_bind ((Walks.list (prog := prog) (w := w) (A := A.in1) hh _ l (Nat.ne_of_lt la) #[]).toS.done _ _ _ ⟨⟨_, Heap.get?_push_size _ rfl, rfl, rfl⟩, hll.push _⟩ fun s' m => ?_)
  obtain ⟨h', g', d', t', o'⟩ := s'
  obtain ⟨m1, m2, m3, m4, m5⟩ := m
  dsimp only at m1 m2 m3 m4
  subst m2 m3 m4
  refine wpAny_pure (q h' t' fun b o e => m1 b o (fun z => ?_) (Heap.get?_push_of_some _ e))
  rw [List.mem_singleton] at z
  exact Nat.lt_irrefl _ (z ▸ Heap.lt_size e)
theorem setUpd {Q : Unit → Shared → Prop} (hh : A.handled = none) (hl : s.heap.get? l = some (listO [] nl)) (q : ∀ h' k, Kp s.heap h' → Q () { s with heap := h', toks := k }) :
    wpAny (model prog w) A (Builtin.Frozenset.updateFrom "set.__init__" a (.ref l)) Q E s := by
  have hT : s.TypeIs (.ref l) "list" := ⟨_, hl, rfl⟩
  unfold Builtin.Frozenset.updateFrom
  refine wpAny_bind (setAny hT ?_)
  show wpAny _ _ (typeOf (.ref l) >>= _) _ _ _
  refine wpAny_bind (wpAny_typeOf hT ?_)
  show wpAny _ _ (pyIter (.ref l) >>= fun it => runValue (.builtin "set.update.loop" ⟨[.ref a, it], []⟩) >>= fun _ => pure ()) _ _ _
  refine wpAny_bind (wpAny_pyIter_list ⟨_, hl, rfl, nl, rfl⟩ (wpAny_bind (wpAny_runValue (setLoop hh hl fun h' k x => wpAny_pure (q h' k x)))))
theorem setInit {Q : PySem.Fin → Shared → Prop} (hh : A.handled = none) (ha : s.heap.get? a = some (setO (.fresh 0 0 led))) (hl : s.heap.get? l = some (listO [] nl))
    (q : ∀ h' k, Kp s.heap h' → Q (.done (.ret .none)) { s with heap := h', toks := k }) :
    wpAny (model prog w) A (Builtin.«set.__init__» ⟨[.ref a, .ref l], []⟩) Q E s := by
  show wpAny _ _ (typeNameOfCut 200 (.ref a) >>= _) _ _ _
  refine wpAny_bind (setName ⟨_, ha, rfl⟩ fun n => ?_)
  refine wpAny_bind (wpAny_of_eq (a := ()) rfl (wpAny_bind (wpAny_of_eq (a := a) rfl (wpAny_bind (setUse ha ?_)))))
  show wpAny _ _ (Builtin.Frozenset.updateFrom "set.__init__" a (.ref l) >>= fun _ => ret .none) _ _ _
  exact wpAny_bind (setUpd hh hl fun h' k x => wpAny_pure (q h' k x))
theorem setCall {Q : PySem.Fin → Shared → Prop} (hh : A.handled = none) (hl : s.heap.get? l = some (listO [] nl))
    (q : ∀ x t h' k, Kp s.heap h' → h'.get? x = some (setO t) → Q (.done (.ret (.ref x))) { s with heap := h', toks := k }) :
    wpAny (model prog w) A.in1 (Builtin.«type.__call__» ⟨[.type "set", .ref l], []⟩) Q E s := by
  obtain ⟨c, tl, hmro⟩ := F.called_set.mro
  have hmade := F.called_set.made
  have hsub := F.called_set.sub
  have h1 := F.called_set.notType
  have h2 := F.called_set.canCreate
  have hct := F.typeCall_set_1 (.ref l)
  repeat (any_goals (first | assumption | wp_step))
  refine codeAny_mono (code_set_new_1 (.ref l) (E := E) (Q₁ := fun obj s₁ => ∃ led : Bool, obj = .ref s.heap.objs.size ∧ s₁ = { s with heap := s.heap.push (setO (.fresh 0 0 led)) }) fun led => ⟨led, rfl, rfl⟩) fun r s₁ hr => ?_
  cases r with
  | error e => exact hr
  | ok fl =>
    cases fl with
    | ret obj =>
      obtain ⟨led, rfl, rfl⟩ := hr
      have hS : (s.heap.push (setO (.fresh 0 0 led))).get? s.heap.objs.size = some (setO (.fresh 0 0 led)) := Heap.get?_push_size _ rfl
      have kS : Kp s.heap (s.heap.push (setO (.fresh 0 0 led))) := fun b o e => Heap.get?_push_of_some _ e
      generalize s.heap.push (setO (.fresh 0 0 led)) = h₁ at hS kS ⊢
      generalize s.heap.objs.size = x at hS ⊢
      have hT : Shared.TypeIs { s with heap := h₁ } (.ref x) "set" := ⟨_, hS, rfl⟩
      have hli := F.called_set.init.lookup
      have hbi := F.called_set.init.bind (.ref x)
      repeat (any_goals (first | assumption | wp_step))
      refine codeAny_call_builtin F.called_set.init.plain F.entry_set_init (check_set_init_1 hT (setInit hh hS (kS _ _ hl) fun h' k kk => ?_))
      refine wpAny_pure ?_
      show wpAny _ _ (ret (.ref x)) _ _ _
      exact wpAny_pure (q x _ h' k (fun b o e => kk b o (kS b o e)) (kk _ _ hS))
    | _ => exact hr.elim
theorem set_W {C : Cx} {A : Around} {h : Heap} {E : Value → Heap → Prop} {Q : Value → Heap → Prop} (hh : A.handled = none) (hl : h.get? l = some (listO [] nl)) (q : ∀ s t h', Kp h h' → h'.get? s = some (setO t) → Q (.ref s) h') :
    WP C A (call (.type "set") [.ref l]) Q E h := fun k => by
  refine wpAny_call (codeAny_of_tree ?_)
  show wpAny _ _ (callAny (.type "set") _) _ _ _
  refine wpAny_pure ⟨Code.quiet_builtin _ (by decide +kernel), codeAny_builtin F.entry_type_call ?_⟩
  rw [Around.under_plain (weight_type_call_type "set" [.ref l] []) rfl]
  exact setCall (s := C.S h k) hh hl fun x t h' k kk e => ⟨h', k, rfl, q x t h' kk e⟩
end
end Mine
namespace Mine
open PySem PySem.W PySem.Calls PySem.Spec PyProof.Rows
noncomputable def hitB (mode : Int) (idx : Nat) (bit : Int) : Bool := if idx = 0 then Builtin.bitAnd mode 61440 == bit else Builtin.bitAnd mode bit == bit
noncomputable def charOf (mode : Int) (idx : Nat) (row : List (Int × Str)) : Str := match row.find? (fun p => hitB mode idx p.1) with
  | some p => p.2
  | none => if idx = 0 then "?" else "-"
noncomputable def modeTab : List (List (Int × Str)) := [[(40960, "l"), (49152, "s"), (32768, "-"), (24576, "b"), (16384, "d"), (8192, "c"), (4096, "p")], [(256, "r")], [(128, "w")], [(2112, "s"), (2048, "S"), (64, "x")],
  [(32, "r")], [(16, "w")], [(1032, "s"), (1024, "S"), (8, "x")], [(4, "r")], [(2, "w")], [(513, "t"), (512, "T"), (1, "x")]]
inductive PairsAt (h : Heap) : List Addr → List (Int × Str) → Prop
  | nil : PairsAt h [] []
  | cons {a as b c t t' r} : h.get? a = some (tupO [.int b t, .str c t']) → PairsAt h as r → PairsAt h (a :: as) ((b, c) :: r)
inductive RowsAt (h : Heap) : List Addr → List (List (Int × Str)) → Prop
  | nil : RowsAt h [] []
  | cons {a as ps row rows} : h.get? a = some (tupO (ps.map .ref)) → PairsAt h ps row → RowsAt h as rows → RowsAt h (a :: as) (row :: rows)
theorem PairsAt.length {h : Heap} {as : List Addr} {r : List (Int × Str)} (x : PairsAt h as r) : as.length = r.length := by
  induction x with
  | nil => rfl
  | cons _ _ ih => simp [ih]
theorem PairsAt.get {h : Heap} {as : List Addr} {r : List (Int × Str)} (x : PairsAt h as r) : ∀ {i : Nat} {p : Int × Str}, r[i]? = some p → ∃ a t t', as[i]? = some a ∧ h.get? a = some (tupO [.int p.1 t, .str p.2 t']) := by
  induction x with
  | nil => intro i p e; simp at e
  | cons l _ ih =>
    intro i p e
    cases i with
    | zero => simp at e; subst e; exact ⟨_, _, _, rfl, l⟩
    | succ i => simpa using ih (by simpa using e)
theorem RowsAt.length {h : Heap} {as : List Addr} {r : List (List (Int × Str))} (x : RowsAt h as r) : as.length = r.length := by
  induction x with
  | nil => rfl
  | cons _ _ _ ih => simp [ih]
theorem RowsAt.get {h : Heap} {as : List Addr} {r : List (List (Int × Str))} (x : RowsAt h as r) : ∀ {i : Nat} {row : List (Int × Str)}, r[i]? = some row → ∃ a ps, as[i]? = some a ∧ h.get? a = some (tupO (ps.map .ref)) ∧ PairsAt h ps row := by
  induction x with
  | nil => intro i p e; simp at e
  | cons l ps _ ih =>
    intro i p e
    cases i with
    | zero => simp at e; subst e; exact ⟨_, _, rfl, l, ps⟩
    | succ i => simpa using ih (by simpa using e)
noncomputable def tabA : List Addr := [78, 80, 82, 86, 88, 90, 94, 96, 98, 102]
theorem tab_K {C : Cx} {h : Heap} (g : Gd C h) : h.get? 103 = some (tupO (tabA.map .ref)) ∧ RowsAt h tabA modeTab := by
  refine ⟨g.X 103 _ rfl, ?_⟩
  have X := g.X
  refine .cons (ps := [71, 72, 73, 74, 75, 76, 77]) (X 78 _ rfl) (.cons (X 71 _ rfl) (.cons (X 72 _ rfl) (.cons (X 73 _ rfl) (.cons (X 74 _ rfl) (.cons (X 75 _ rfl) (.cons (X 76 _ rfl) (.cons (X 77 _ rfl) .nil))))))) ?_
  refine .cons (ps := [79]) (X 80 _ rfl) (.cons (X 79 _ rfl) .nil) ?_
  refine .cons (ps := [81]) (X 82 _ rfl) (.cons (X 81 _ rfl) .nil) ?_
  refine .cons (ps := [83, 84, 85]) (X 86 _ rfl) (.cons (X 83 _ rfl) (.cons (X 84 _ rfl) (.cons (X 85 _ rfl) .nil))) ?_
  refine .cons (ps := [87]) (X 88 _ rfl) (.cons (X 87 _ rfl) .nil) ?_
  refine .cons (ps := [89]) (X 90 _ rfl) (.cons (X 89 _ rfl) .nil) ?_
  refine .cons (ps := [91, 92, 93]) (X 94 _ rfl) (.cons (X 91 _ rfl) (.cons (X 92 _ rfl) (.cons (X 93 _ rfl) .nil))) ?_
  refine .cons (ps := [95]) (X 96 _ rfl) (.cons (X 95 _ rfl) .nil) ?_
  refine .cons (ps := [97]) (X 98 _ rfl) (.cons (X 97 _ rfl) .nil) ?_
  exact .cons (ps := [99, 100, 101]) (X 102 _ rfl) (.cons (X 99 _ rfl) (.cons (X 100 _ rfl) (.cons (X 101 _ rfl) .nil))) .nil
section
variable {C : Cx} {A : Around} {h : Heap} {E : Value → Heap → Prop} {G : Heap}
theorem ifmt_W (hG : Gd C G) (kp : Kp G h) {d : Nat} (r : Rm A d) {mode : Int} {t : Tok} {Q : Value → Heap → Prop} (q : ∀ h' t', Kp h h' → Q (.int (Builtin.bitAnd mode 61440) t') h') : WP C A (call (.ref 70) [.int mode t]) Q E h := by
  have g := hG.keeps kp
  refine W_callFn (binds := [("mode", .int mode t)]) g.nolimit (g.X 70 _ rfl) rfl rfl (codeRec_of g.X rfl) (by have := r.lim; omega) rfl (locs rfl) fun h₁ n₁ k₁ z₁ => ?_
  exact W_cons (W_Return (W_BinOp (W_local n₁ rfl (W_int fun _ => W_and fun t' => q _ _ k₁))))
theorem Kp.off {a b : Heap} (k : Kp a b) {x : Addr} (e : b.get? x = none) : a.get? x = none := by
  cases z : a.get? x with
  | none => rfl
  | some o => rw [k _ _ z] at e; cases e
theorem ne_some {h : Heap} {a b : Addr} {o : Obj} (ha : h.get? a = none) (hb : h.get? b = some o) : a ≠ b := fun z => by rw [z, hb] at ha; cases ha
theorem W_tiFree {elts : List Expr} {n : Nat} {pos : Pos} {it t a : Addr} {i : Nat} {Q : Unit → Heap → Prop} (he : h.get? it = some (tiO t i)) (q : Q () h) : WP C A (letOwnedTupleGo (.Tuple elts n pos) (.ref it) (.ref a)) Q E h := fun k => by
  unfold letOwnedTupleGo
  refine wpAny_bind (wpAny_load (s := C.S h k) he ?_)
  show wpAny _ A (if (["enumerate", "zip", "dict_itemiterator", "dict_reverseitemiterator", "odict_iterator", "itertools.zip_longest", "itertools.pairwise"].contains "tuple_iterator" && _) = true then _ else _) _ _ _
  rw [if_neg (by simp)]
  exact wpAny_pure (up1 q)
theorem W_Break {env : Env} {pos : Pos} {Q : Flow → Heap → Prop} (q : Q .brk h) : WP C A (exec (.Break pos) env) Q E h := fun k => wpAny_Break (up1 q)
/-- one row of the table -/
inductive FmSt (h₀ : Heap) (L lp e it : Addr) (mode : Int) (i : Nat) (l : List (Str × Tok)) (h : Heap) : Prop
  | mk (p1 : Kp h₀ h) (p2 : (∃ n, h.get? lp = some (listO (strValues l) n))) (p3 : (∃ old, h.get? e = some (enO .none it i old))) (p4 : h.get? it = some (tiO 103 i)) (m t : _) (p5 : h.Ns L m) (p6 : m "mode" = some (.int mode t)) (p7 : m "perm" = some (.ref lp)) : FmSt h₀ L lp e it mode i l h
theorem charOf_len {mode : Int} {i : Nat} {row : List (Int × Str)} (hr : ∀ p ∈ row, p.2.length ≤ 1) : (charOf mode i row).length ≤ 1 := by
  unfold charOf
  split
  · rename_i p e
    exact hr p (List.mem_of_find?_eq_some e)
  · split <;> decide
theorem fold_le : ∀ (l : List Str) (n : Nat), (∀ x ∈ l, x.length ≤ 1) → l.foldl (fun a x => a + x.length + ("" : Str).length) n ≤ n + l.length
  | [], n, _ => Nat.le_refl _
  | x :: l, n, h => by
    rw [List.foldl_cons]
    have := fold_le l (n + x.length + ("" : Str).length) fun y hy => h y (.tail _ hy)
    have h1 := h x (.head _)
    have h2 : ("" : Str).length = 0 := rfl
    rw [List.length_cons]
    omega
theorem join_ok (mode : Int) : JoinOk "" (modeTab.mapIdx fun i row => charOf mode i row) = true := by
  have h : ∀ row ∈ modeTab, ∀ p ∈ row, p.2.length ≤ 1 := by decide
  have z : ∀ x ∈ modeTab.mapIdx fun i row => charOf mode i row, x.length ≤ 1 := fun x hx => by
    obtain ⟨i, hi, rfl⟩ := List.mem_mapIdx.mp hx
    exact charOf_len (h _ (List.getElem_mem hi))
  have y := fold_le _ 0 z
  simp only [List.length_mapIdx] at y
  have e : modeTab.length = 10 := rfl
  unfold JoinOk
  rw [List.foldl_toArray]
  show (!decide (_ > sizeLine)) = true
  rw [decide_eq_false (by rw [sizeLine_eq]; omega)]
  rfl
theorem boot_enum : bootBuiltins "enumerate" = some (.type "enumerate") := PyProof.Rows.boot_enumerate
/-- between the turns of the two loops -/
inductive ModeO (h : Heap) (lp e it : Addr) (mode : Int) (n : Nat) (h' : Heap) : Prop
  | mk (i l : _) (p1 : n = 10 - i) (p2 : i ≤ 10) (p3 : l.map (·.1) = (modeTab.mapIdx fun i row => charOf mode i row).take i) (p4 : FmSt h h.objs.size lp e it mode i l h') : ModeO h lp e it mode n h'
inductive ModeI (h : Heap) (lp e it ra j2 : Addr) (mode : Int) (row : List (Int × Str)) (l : List (Str × Tok)) (i : Nat) (n : Nat) (h' : Heap) : Prop
  | mk (j : _) (p1 : n = row.length - j) (p2 : j ≤ row.length) (p3 : (∀ p ∈ row.take j, hitB mode i p.1 = false)) (p4 : h'.get? j2 = some (tiO ra j)) (p5 : Kp h h') (p6 : (∃ n, h'.get? lp = some (listO (strValues l) n))) (p7 : h'.get? e = some (enO .none it ((i : Int) + 1) (.ref ra))) (p8 : h'.get? it = some (tiO 103 (i + 1))) (m t ti : _) (p9 : h'.Ns h.objs.size m) (p10 : m "mode" = some (.int mode t)) (p11 : m "perm" = some (.ref lp)) (p12 : m "index" = some (.int i ti)) : ModeI h lp e it ra j2 mode row l i n h'
theorem mode_W (hG : Gd C G) (kp : Kp G h) (r : Rm A 20) {mode : Int} {t : Tok} {Q : Value → Heap → Prop}
    (q : ∀ h' t', Kp h h' → Q (.str (Txt.join "" (modeTab.mapIdx fun i row => charOf mode i row)) t') h') : WP C A (call (.ref 110) [.int mode t]) Q E h := by
  have g := hG.keeps kp
  obtain ⟨t103, rows⟩ := tab_K g
  refine W_callFn (binds := [("mode", .int mode t)]) g.nolimit (g.X 110 _ rfl) rfl rfl (codeRec_of g.X rfl) (by have := r.lim; omega) rfl (locs rfl) fun h₁ n₁ k₁ z₁ => ?_
  have zn : h.get? h.objs.size = none := none_of_size (Nat.le_refl _)
  have hh : A.handled = none := r.hd
  refine W_cons (W_Assign (W_List (W_items0 (W_newList (by simp) (W_store (n₁.push _) fun h₂ n₂ s₂ => ?_)))))
  have l₁ : h.objs.size < h₁.objs.size := n₁.lt
  have k₁' : Kp h (h₁.push (listO [])) := k₁.push _
  have k₂ : Kp h h₂ := k₁'.same s₂ zn
  have p₂ : h₂.get? h₁.objs.size = some (listO []) := (s₂.2 _ (show h₁.objs.size ≠ h.objs.size by omega)).trans (Heap.get?_push_size _ rfl)
  have g₂ := g.keeps k₂
  refine W_cons (W_For (W_Call (W_builtin g₂ rfl boot_enum (W_with (W_items (W_global g₂ rfl (W_items0 ⟨Kept.type, ?_⟩)))))))
  refine en_W g₂ (r.deeper (d := 19)) fun e it h₃ ne => ?_
  obtain ⟨k₃, e3, i3, ne, ni, nei⟩ := ne
  refine W_iterEn e3 ?_
  have n₃ := n₂.keeps k₃
  have LP : h.objs.size ≠ h₁.objs.size := by omega
  obtain ⟨oL2, oL2'⟩ := ns_there n₂
  have eL : e ≠ h.objs.size := ne_some ne oL2'
  have eP : e ≠ h₁.objs.size := ne_some ne p₂
  have iL : it ≠ h.objs.size := ne_some ni oL2'
  have iP : it ≠ h₁.objs.size := ne_some ni p₂
  have he0 : h.get? e = none := k₂.off ne
  have hi0 : h.get? it = none := k₂.off ni
  have hp0 : h.get? h₁.objs.size = none := none_of_size (by omega)
  generalize hLp : h₁.objs.size = lp at *
  refine C_for (ModeO h lp e it mode) ?_ 10
    ⟨0, [], rfl, by omega, rfl, k₂.trans k₃, ⟨_, k₃ _ _ p₂⟩, ⟨_, e3⟩, i3, _, _, n₃, upd_ne rfl, upd_eq⟩
  rintro n' h' ⟨i, l, rfl, hi, hl, k', ⟨nl, p'⟩, ⟨old, e'⟩, i', m, t', n', mm, mp⟩
  by_cases hlt : i < 10
  · obtain ⟨row, er⟩ : ∃ row, modeTab[i]? = some row := ⟨_, List.getElem?_eq_getElem (show i < modeTab.length from hlt)⟩
    obtain ⟨ra, ps, ea, rt, prs⟩ := rows.get er
    have hc : (modeTab.mapIdx fun i row => charOf mode i row)[i]? = some (charOf mode i row) := by simp [er]
    refine W_enItem (x := .ref ra) e' i' (k' _ _ t103) (by simp [ea]) nei fun h₄ tk e₄ i₄ t₄ all₄ => ?_
    refine W_enFree e₄ fun h₅ e₅ s₅ => ?_
    have k₄ : Kp h h₄ := fun b o x => all₄ b o (fun z => by rw [z, he0] at x; cases x) (fun z => by rw [z, hi0] at x; cases x) (k' _ _ x)
    have k₅ : Kp h h₅ := k₄.same s₅ he0
    have hz : h'.objs.size ≠ e := Nat.ne_of_gt (Heap.lt_size e')
    refine W_aPair hh ((s₅.2 _ hz).trans t₄) fun h₆ x₆ => ?_
    have up : ∀ {b : Addr} {o : Obj}, b ≠ e → b ≠ it → h'.get? b = some o → h₆.get? b = some o := fun {b o} h1 h2 x =>
      x₆ b o (Nat.ne_of_lt (Heap.lt_size ((s₅.2 _ h1).trans (all₄ b o h1 h2 x)))) ((s₅.2 _ h1).trans (all₄ b o h1 h2 x))
    obtain ⟨oN, esN, epN, hN1, hN2⟩ := n'
    have n₆ : h₆.Ns h.objs.size m := ⟨oN, esN, epN, up (Ne.symm eL) (Ne.symm iL) hN1, hN2⟩
    refine W_store n₆ fun h₇ n₇ s₇ => W_store n₇ fun h₈ n₈ s₈ => WP.gen fun Qi kQi => ?_
    have k₆ : Kp h h₆ := fun b o x => x₆ b o (Nat.ne_of_lt (Heap.lt_size (k₅ _ _ x))) (k₅ _ _ x)
    have k₈ : Kp h h₈ := (k₆.same s₇ zn).same s₈ zn
    have e₆ : h₆.get? e = some (enO .none it ((i : Int) + 1) (.ref ra)) := x₆ _ _ (Nat.ne_of_lt (Heap.lt_size e₅)) e₅
    have i₅ := (s₅.2 _ (Ne.symm nei)).trans i₄
    have i₆ : h₆.get? it = some (tiO 103 (i + 1)) := x₆ _ _ (Nat.ne_of_lt (Heap.lt_size i₅)) i₅
    have e₈ := (s₈.2 _ eL).trans ((s₇.2 _ eL).trans e₆)
    have i₈ := (s₈.2 _ iL).trans ((s₇.2 _ iL).trans i₆)
    have p₈ := (s₈.2 _ (Ne.symm LP)).trans ((s₇.2 _ (Ne.symm LP)).trans (up (Ne.symm eP) (Ne.symm iP) p'))
    have fin : ∀ h₉ c tc, c = charOf mode i row → FmSt h h.objs.size lp e it mode (i + 1) (l ++ [(c, tc)]) h₉ → Qi .next h₉ := by
      rintro h₉ c tc rfl st
      refine kQi _ _ ⟨10 - (i + 1), by omega, i + 1, _, rfl, by omega, ?_, st⟩
      rw [List.take_add_one, hc, List.map_append, hl]; rfl
    -- the inner loop
    refine W_cons (W_For (W_local n₈ upd_eq (W_iterTup (k₈ _ _ rt) fun h₉ k₉ j₉ z₉ => ?_)))
    have jn : h₈.get? h₈.objs.size = none := none_of_size (Nat.le_refl _)
    have jL : h₈.objs.size ≠ h.objs.size := ne_some jn (ns_there n₈).choose_spec
    have jE := ne_some jn e₈
    have jI := ne_some jn i₈
    have jP := ne_some jn p₈
    have j0 : h.get? h₈.objs.size = none := k₈.off jn
    generalize hJ : h₈.objs.size = j2 at *
    refine C_for (ModeI h lp e it ra j2 mode row l i) ?_ row.length
      ⟨0, rfl, Nat.zero_le _, by simp, j₉, k₈.trans k₉, ⟨_, k₉ _ _ p₈⟩, k₉ _ _ e₈, k₉ _ _ i₈, _, _, _, n₈.keeps k₉, upd_ne (upd_ne mm), upd_ne (upd_ne mp), upd_ne upd_eq⟩
    rintro n2 ha ⟨j, rfl, hj, no, ja, ka, ⟨na, pa⟩, ea', ia, m2, t2, ti, n2, mm2, mp2, mi2⟩
    have apd : ∀ {hb : Heap} {m3 : Str → Option Value} {nb : Nat} {c : Str} {tc : Tok} {A' : Around} {R : Value → Heap → Prop} {E' : Value → Heap → Prop}, Kp h hb → hb.get? lp = some (listO (strValues l) nb) → hb.get? e = some (enO .none it ((i : Int) + 1) (.ref ra)) → hb.get? it = some (tiO 103 (i + 1)) →
        hb.Ns h.objs.size m3 → m3 "mode" = some (.int mode t2) → m3 "perm" = some (.ref lp) → (∀ hc, FmSt h h.objs.size lp e it mode (i + 1) (l ++ [(c, tc)]) hc → R .none hc) → WP C A' (call (.builtin "list.append") [.ref lp, .str c tc]) R E' hb := by
      intro hb m3 nb c tc A' R E' a1 a2 a3 a4 a5 a6 a7 a8
      have hll : l.length ≤ 10 := by
        have := congrArg List.length hl
        simp at this; omega
      refine W_append a2 (by simp [strValues]; omega) fun hc nc pc sc => a8 hc ⟨a1.same sc hp0, ⟨nc, ?_⟩, ⟨_, (sc.2 _ eP).trans a3⟩, (sc.2 _ iP).trans a4, m3, t2, a5.sameBut sc LP, a6, a7⟩
      rw [pc]; simp [strValues]
    by_cases hj' : j < row.length
    · obtain ⟨⟨bit, c⟩, ep⟩ : ∃ p, row[j]? = some p := ⟨_, List.getElem?_eq_getElem hj'⟩
      obtain ⟨pa', tb, tc, epa, pp⟩ := prs.get ep
      refine W_tiItem (x := .ref pa') ja (ka _ _ rt) (by simp [epa]) fun hb jb sb => ?_
      refine W_tiFree jb ?_
      have kb : Kp h hb := ka.same sb j0
      refine W_aPair hh (kb _ _ pp) fun hc xc => ?_
      have nb := n2.sameBut sb (Ne.symm jL)
      have upc : ∀ {b : Addr} {o : Obj}, hb.get? b = some o → hc.get? b = some o := fun {b o} x => xc b o (Nat.ne_of_lt (Heap.lt_size x)) x
      have nc := nb.keeps (fun b o x => upc x)
      refine W_store nc fun hd nd sd => W_store nd fun hf nf sf => WP.gen fun Qj kQj => ?_
      have kf : Kp h hf := ((kb.trans (fun b o x => upc x)).same sd zn).same sf zn
      have tr : ∀ {b : Addr} {o : Obj}, b ≠ h.objs.size → hb.get? b = some o → hf.get? b = some o := fun hb' x => (sf.2 _ hb').trans ((sd.2 _ hb').trans (upc x))
      have jf : hf.get? j2 = some (tiO ra (j + 1)) := tr jL jb
      have pf := tr (Ne.symm LP) ((sb.2 _ (Ne.symm jP)).trans pa)
      have ef := tr eL ((sb.2 _ (Ne.symm jE)).trans ea')
      have if' := tr iL ((sb.2 _ (Ne.symm jI)).trans ia)
      have mmf := upd_ne (x := "char") (v := .str c tc) (upd_ne (x := "bit") (v := .int bit tb) mm2)
      have mpf := upd_ne (x := "char") (v := .str c tc) (upd_ne (x := "bit") (v := .int bit tb) mp2)
      have mif := upd_ne (x := "char") (v := .str c tc) (upd_ne (x := "bit") (v := .int bit tb) mi2)
      have gf := g.keeps kf
      have hyes : hitB mode i bit = true → c = charOf mode i row := fun hy => by
        have : row.find? (fun p => hitB mode i p.1) = some (bit, c) := by
          rw [List.find?_eq_some_iff_append]
          refine ⟨hy, row.take j, row.drop (j + 1), ?_, fun p hp => by simpa using no p hp⟩
          have e2 : row[j] = (bit, c) := by
            have := ep; rw [List.getElem?_eq_getElem hj'] at this; exact Option.some.inj this
          rw [← e2]
          exact (List.take_append_drop j row).symm.trans (by rw [List.drop_eq_getElem_cons hj'])
        simp [charOf, this]
      have go : ∀ hg, hitB mode i bit = false → Kp hf hg → Qj .next hg := by
        rintro hg hno kg
        refine kQj _ _ ⟨row.length - (j + 1), by omega, j + 1, rfl, by omega, fun p hp => ?_, kg _ _ jf, kf.trans kg, ⟨_, kg _ _ pf⟩, kg _ _ ef, kg _ _ if', _, t2, ti, nf.keeps kg, mmf, mpf, mif⟩
        rw [List.take_add_one, ep] at hp
        rcases List.mem_append.mp hp with hp | hp
        · exact no p hp
        · simp at hp; subst hp; exact hno
      refine W_cons (W_If (W_tCompare (W_local nf mif (W_int fun _ => W_eqInt (W_tbool ?_)))))
      by_cases h0 : i = 0
      · subst h0
        refine W_cons (W_If (W_tCompare (W_Call (W_global gf rfl (W_with (W_items (W_local nf mmf (W_items0 ⟨Kept.top gf.X rfl, ?_⟩))))))))
        refine ifmt_W gf (Kp.refl _) (r.deeper (d := 19)) fun hg tg kg => ?_
        have ng := nf.keeps kg
        refine W_local ng (upd_ne upd_eq) (W_eqInt (W_tbool ?_))
        have hb2 : hitB mode 0 bit = (Builtin.bitAnd mode 61440 == bit) := by simp [hitB]
        rw [← hb2]
        cases hv : hitB mode 0 bit with
        | true =>
          refine W_cons (W_Expr (W_Meth (W_local ng mpf fun pl => W_methAppend (kg _ _ pf) (W_with (W_items (W_local ng upd_eq (W_items0 ⟨Kept.builtin, ?_⟩)))))))
          refine apd (kf.trans kg) (kg _ _ pf) (kg _ _ ef) (kg _ _ if') ng mmf mpf fun hk st => ⟨fun a z => (by cases z), W_cons (W_Break (kQj _ _ (W_nil (fin hk c tc (hyes hv) st))))⟩
        | false => exact W_nil (W_nil (W_nil (go _ hv kg)))
      · rw [show ((i : Int) == 0) = false by simpa using h0]
        refine W_cons (W_If (W_tCompare (W_BinOp (W_local nf mmf (W_local nf (upd_ne upd_eq) (W_and fun _ => W_local nf (upd_ne upd_eq) (W_eqInt (W_tbool ?_))))))))
        have hb2 : hitB mode i bit = (Builtin.bitAnd mode bit == bit) := by simp [hitB, h0]
        rw [← hb2]
        cases hv : hitB mode i bit with
        | true =>
          refine W_cons (W_Expr (W_Meth (W_local nf mpf fun pl => W_methAppend pf (W_with (W_items (W_local nf upd_eq (W_items0 ⟨Kept.builtin, ?_⟩)))))))
          refine apd kf pf ef if' nf mmf mpf fun hg st => ⟨fun a z => (by cases z), W_cons (W_Break (kQj _ _ (W_nil (fin hg c tc (hyes hv) st))))⟩
        | false => exact W_nil (W_nil (W_nil (go _ hv (Kp.refl _))))
    · have hj'' : j = row.length := by omega
      subst hj''
      refine W_tiEnd hh ja (ka _ _ rt) (by rw [← prs.length]; simp) fun hb xb => ?_
      have kb : Kp h hb := fun b o x => xb b o (fun z => by rw [z, j0] at x; cases x) (ka _ _ x)
      have nb := n2.extBut xb (Ne.symm jL)
      have pb := xb _ _ (Ne.symm jP) pa
      have eb := xb _ _ (Ne.symm jE) ea'
      have ib := xb _ _ (Ne.symm jI) ia
      have hno : row.find? (fun p => hitB mode i p.1) = none := by
        rw [List.find?_eq_none]
        intro p hp
        rw [List.take_length] at no
        simp [no p hp]
      refine W_cons (W_If (W_tCompare (W_local nb mi2 (W_int fun _ => W_eqInt (W_tbool ?_)))))
      by_cases h0 : i = 0
      · rw [show ((i : Int) == 0) = true by simp [h0]]
        refine W_cons (W_Expr (W_Meth (W_local nb mp2 fun pl => W_methAppend pb (W_with (W_items (W_str fun tc => W_items0 ⟨Kept.builtin, ?_⟩))))))
        exact apd kb pb eb ib nb mm2 mp2 fun hk st => ⟨fun a z => (by cases z), W_nil (W_nil (W_nil (fin hk _ tc (by rw [charOf, hno]; simp [h0]) st)))⟩
      · rw [show ((i : Int) == 0) = false by simpa using h0]
        refine W_cons (W_Expr (W_Meth (W_local nb mp2 fun pl => W_methAppend pb (W_with (W_items (W_str fun tc => W_items0 ⟨Kept.builtin, ?_⟩))))))
        exact apd kb pb eb ib nb mm2 mp2 fun hk st => ⟨fun a z => (by cases z), W_nil (W_nil (W_nil (fin hk _ tc (by simp [charOf, hno, h0]) st)))⟩
  · have hi' : i = 10 := by omega
    subst hi'
    refine W_enEnd hh e' i' (k' _ _ t103) rfl fun h₄ x₄ => ?_
    have k₄ : Kp h h₄ := fun b o x => x₄ b o (fun z => by rw [z, hi0] at x; cases x) (k' _ _ x)
    have n₄ := n'.extBut x₄ (Ne.symm iL)
    have p₄ := x₄ _ _ (Ne.symm iP) p'
    refine W_nil (W_cons (W_Return (W_Meth (W_str fun _ pl => WP.of fun k => GM.join (up1 (W_with (W_items (W_local n₄ mp (W_items0 ⟨Kept.builtin, ?_⟩)))))))))
    refine WP.of fun k => SC.join (s := C.S h₄ k) (isList_of p₄) hl ?_ fun t' k' => ⟨h₄, k', rfl, ?_⟩
    · rw [List.take_of_length_le (by simp [modeTab])]
      exact join_ok mode
    · rw [List.take_of_length_le (by simp [modeTab])]
      exact q _ _ k₄
end
end Mine
namespace Mine
open PySem PySem.W PySem.Calls PySem.Spec PyProof.Rows
/-- all but wr stands -/
noncomputable def KpW (wr : List Addr) (h h' : Heap) : Prop := ∀ b o, b ∉ wr → h.get? b = some o → h'.get? b = some o
structure Wk (C : Cx) (A : Around) (h₁ : Heap) (n : Nat) (P : Nat → Value → Prop) (I : Addr) (fp wr : List Addr) (St : Nat → Heap → Prop) (h₂ : Heap) : Prop where
  W : Walks prg C.w A I fp wr n P St
  st : St 0 h₂
  kp : Kp h₁ h₂
  lt : ∀ b ∈ fp, b < h₂.objs.size
  nw : ∀ b ∈ wr, h₁.get? b = none
  ge : ∀ b ∈ wr, @LE.le Nat _ h₁.objs.size b
  pr : ∀ i h, St i h → ∀ b ∈ wr, ∃ o, h.get? b = some o
  own : ∀ i h target v Q E, St i h → Q () h → WP C A (letOwnedTupleGo target (.ref I) v) Q E h
noncomputable def WalkOf (C : Cx) (A : Around) (x : Value) (h₁ : Heap) (n : Nat) (P : Nat → Value → Prop) : Prop :=
  ∀ (Q : Value → Heap → Prop) (E : Value → Heap → Prop), (∀ I fp wr St h₂, Wk C A h₁ n P I fp wr St h₂ → Q (.ref I) h₂) → WP C A (pyIter x) Q E h₁
section
variable {C : Cx} {A : Around} {h : Heap} {E : Value → Heap → Prop} {env : Env} {n : Nat} {P : Nat → Value → Prop} {I : Addr} {fp wr : List Addr} {St : Nat → Heap → Prop}
theorem W_own {r : Addr} {o : Obj} {ty : String} {target : Expr} {v : Value} {Q : Unit → Heap → Prop} (ho : h.get? r = some o) (hc : o.cls = .type ty)
    (hn : ["enumerate", "zip", "dict_itemiterator", "dict_reverseitemiterator", "odict_iterator", "itertools.zip_longest", "itertools.pairwise"].contains ty = false) (q : Q () h) : WP C A (letOwnedTupleGo target (.ref r) v) Q E h := fun k => by
  have nf : ∀ b : Bool, ¬ ((["enumerate", "zip", "dict_itemiterator", "dict_reverseitemiterator", "odict_iterator", "itertools.zip_longest", "itertools.pairwise"].contains ty && b) = true) := fun b z => by rw [hn] at z; cases z
  have pq : wpAny (model prg C.w) A (pure ()) (C.up Q) (C.up E) (C.S h k) := wpAny_pure (up1 q)
  obtain ⟨oc, od, dt, sl⟩ := o
  cases hc
  have tup : ∀ elts n pos, wpAny (model prg C.w) A (letOwnedTupleGo (.Tuple elts n pos) (.ref r) v) (C.up Q) (C.up E) (C.S h k) := fun elts n pos => by
    cases v
    case ref a =>
      refine wpAny_bind (wpAny_load (s := C.S h k) ho ?_)
      cases dt
      case fields vs =>
        show wpAny _ A (if (_ && _) = true then _ else _) _ _ _
        rw [if_neg (nf _)]
        exact pq
      all_goals exact pq
    all_goals exact pq
  cases target
  case Tuple elts n pos => exact tup elts n pos
  case List elts pos => exact tup [] default default
  all_goals exact pq
theorem walk_list' {l : Addr} {vs : List Value} (hh : A.handled = none) (hl : h.IsList l vs.toArray) {Q : Value → Heap → Prop} (q : ∀ St h₂, Wk C A h vs.length (fun i v => vs[i]? = some v) h.objs.size [h.objs.size, l] [h.objs.size] St h₂ → Q (.ref h.objs.size) h₂) : WP C A (pyIter (.ref l)) Q E h := fun k => by
  have geI : ∀ b ∈ [h.objs.size], @LE.le Nat _ h.objs.size b := fun b hb => by simp only [List.mem_cons, List.not_mem_nil, or_false] at hb; subst hb; exact Nat.le_refl _
  have hlt : l < h.objs.size := let ⟨o, e, _⟩ := hl; Heap.lt_size e
  have hne : l ≠ h.objs.size := Nat.ne_of_lt hlt
  refine wpAny_pyIter_list (s := C.S h k) hl ⟨_, k, rfl, q (fun i h' => h'.IsListIter h.objs.size l i ∧ h'.IsList l vs.toArray) _ ?_⟩
  have W := Walks.list (prog := prg) (w := C.w) (A := A) hh h.objs.size l hne vs.toArray
  simp only [List.size_toArray, List.getElem?_toArray] at W
  refine ⟨W, ⟨⟨_, Heap.get?_push_size _ rfl, rfl, rfl⟩, hl.at fun o e => Heap.get?_push_of_some _ e⟩, fun b o e => Heap.get?_push_of_some _ e, ?_, ?_, geI, ?_, ?_⟩
  · intro b hb
    simp only [List.mem_cons, List.not_mem_nil, or_false] at hb
    show b < (h.push _).objs.size
    rw [Heap.size_push]
    rcases hb with rfl | rfl
    · exact Nat.lt_succ_self _
    · exact Nat.lt_succ_of_lt hlt
  · intro b hb
    simp only [List.mem_cons, List.not_mem_nil, or_false] at hb
    subst hb; exact none_of_size (Nat.le_refl _)
  · rintro i h' ⟨⟨o, e, _⟩, _⟩ b hb
    simp only [List.mem_cons, List.not_mem_nil, or_false] at hb
    subst hb; exact ⟨o, e⟩
  · rintro i h' target v Q E ⟨⟨o, e, c, _⟩, _⟩ q
    exact W_own e c rfl q
theorem walk_list {l : Addr} {vs : List Value} (hh : A.handled = none) (hl : h.IsList l vs.toArray) : WalkOf C A (.ref l) h vs.length (fun i v => vs[i]? = some v) := fun Q E q => walk_list' hh hl fun St h₂ w => q _ _ _ _ _ w
theorem walk_str' {x : Str} {t : Tok} (hh : A.handled = none) {Q : Value → Heap → Prop} (q : ∀ St h₂, Wk C A h x.cps.size (SignAt x) h.objs.size [h.objs.size] [h.objs.size] St h₂ → Q (.ref h.objs.size) h₂) : WP C A (pyIter (.str x t)) Q E h := fun k => by
  have geI : ∀ b ∈ [h.objs.size], @LE.le Nat _ h.objs.size b := fun b hb => by simp only [List.mem_cons, List.not_mem_nil, or_false] at hb; subst hb; exact Nat.le_refl _
  have all : ∀ (ty : String) (c : ["enumerate", "zip", "dict_itemiterator", "dict_reverseitemiterator", "odict_iterator", "itertools.zip_longest", "itertools.pairwise"].contains ty = false) (W : Walks prg C.w A h.objs.size [h.objs.size] [h.objs.size] x.cps.size (SignAt x) (fun i h' => h'.IsStrIter h.objs.size ty x t i)) (o : Obj), (h.push o).IsStrIter h.objs.size ty x t 0 →
      C.up Q (.ref h.objs.size) (C.S (h.push o) k) := fun ty c W o st => by
    refine ⟨_, k, rfl, q _ _ ⟨W, st, fun b o e => Heap.get?_push_of_some _ e, ?_, ?_, geI, ?_, ?_⟩⟩
    · intro b hb
      simp only [List.mem_cons, List.not_mem_nil, or_false] at hb
      subst hb
      rw [Heap.size_push]
      exact Nat.lt_succ_self _
    · intro b hb
      simp only [List.mem_cons, List.not_mem_nil, or_false] at hb
      subst hb; exact none_of_size (Nat.le_refl _)
    · rintro i h' ⟨o, e, _⟩ b hb
      simp only [List.mem_cons, List.not_mem_nil, or_false] at hb
      subst hb; exact ⟨o, e⟩
    · rintro i h' target v Q E ⟨o, e, cl, _⟩ q
      exact W_own e cl c q
  cases ha : x.cps.all (· < 128)
  · exact wpAny_pyIter_wide (s := C.S h k) ha (all _ rfl (Walks.strWide hh _ x t) _ ⟨_, Heap.get?_push_size _ rfl, rfl, rfl⟩)
  · exact wpAny_pyIter_ascii (s := C.S h k) ha (all _ rfl (Walks.strAscii hh _ x t) _ ⟨_, Heap.get?_push_size _ rfl, rfl, rfl⟩)
theorem walk_str {x : Str} {t : Tok} (hh : A.handled = none) : WalkOf C A (.str x t) h x.cps.size (SignAt x) := fun Q E q => walk_str' hh fun St h₂ w => q _ _ _ _ _ w
theorem walk_range {r : Addr} {b : Nat} {t u v : Tok} (hh : A.handled = none) (hr : IsRange h r 0 b 1 t u v) (hsm : Builtin.Range.small 0 b 1 = true) (hn : Builtin.Range.rangeSize 0 b 1 = ((b : Nat) : Int)) : WalkOf C A (.ref r) h b (fun i v => ∃ t, v = .int (i : Int) t) := fun Q E q k => by
  refine wpAny_pyIter_range (s := C.S h k) hr hsm ⟨_, k, rfl, q h.objs.size [h.objs.size] [h.objs.size] (fun i h' => IsRangeIter h' h.objs.size (0 + (i : Nat) * 1) ((b : Int) - (i : Nat)) 1) _ ?_⟩
  have geI : ∀ b ∈ [h.objs.size], @LE.le Nat _ h.objs.size b := fun b hb => by simp only [List.mem_cons, List.not_mem_nil, or_false] at hb; subst hb; exact Nat.le_refl _
  have W := Walks.range (prog := prg) (w := C.w) (A := A) hh h.objs.size 0 1 b
  simp only [Int.zero_add, Int.mul_one] at W ⊢
  refine ⟨W, ?_, fun b o e => Heap.get?_push_of_some _ e, ?_, ?_, geI, ?_, ?_⟩
  · show (h.push _).get? h.objs.size = _
    rw [Heap.get?_push_size _ rfl, hn]
    simp
  · intro b hb
    simp only [List.mem_cons, List.not_mem_nil, or_false] at hb
    subst hb
    show _ < (h.push _).objs.size
    rw [Heap.size_push]
    exact Nat.lt_succ_self _
  · intro b hb
    simp only [List.mem_cons, List.not_mem_nil, or_false] at hb
    subst hb; exact none_of_size (Nat.le_refl _)
  · rintro i h' e b hb
    simp only [List.mem_cons, List.not_mem_nil, or_false] at hb
    subst hb; exact ⟨_, e⟩
  · rintro i h' target v Q E e q
    exact W_own e rfl rfl q
theorem W_wItem (W : Walks prg C.w A I fp wr n P St) {i : Nat} {Q : Option Value → Heap → Prop} (hi : i < n) (st : St i h) (q : ∀ v h', P i v → St (i + 1) h' → KpW wr h h' → Q (some v) h') : WP C A (pyNext (.ref I)) Q E h :=
  fun k => W.item i (C.S h k) _ _ hi st fun v h' tk p s' kp => ⟨h', tk, rfl, q v h' p s' kp⟩
theorem W_wEnd (W : Walks prg C.w A I fp wr n P St) {Q : Option Value → Heap → Prop} (st : St n h) (q : ∀ h', KpW wr h h' → Q none h') : WP C A (pyNext (.ref I)) Q E h :=
  fun k => W.done (C.S h k) _ _ st fun h' tk kp => ⟨h', tk, rfl, q h' kp⟩
/-- a for over what walks -/
theorem C_forW {target body orelse} {R : Result → Heap → Prop} {h₀ : Heap} (w : Wk C A h₀ n P I fp wr St h) (J : Nat → Heap → Prop) (j0 : J 0 h)
    (turn : ∀ i v h₁ h₂, i < n → J i h₁ → P i v → St i h₁ → St (i + 1) h₂ → KpW wr h₁ h₂ → WP C A (assign target env v) (fun _ h₂ => WP C A (execs body env) (fun f h₃ => match f with
      | .next | .cont => St (i + 1) h₃ ∧ J (i + 1) h₃
      | .brk => R (.ok .next) h₃
      | .ret v => R (.ok (.ret v)) h₃) NoE h₂) NoE h₂)
    (fin : ∀ h₁ h₂, J n h₁ → St n h₁ → KpW wr h₁ h₂ → WP C A (execs orelse env) (fun f h₃ => R (.ok f) h₃) NoE h₂) : CP C A (.forLoop target (.ref I) body orelse env) R h := by
  refine C_for (fun k h' => ∃ i, k = n - i ∧ i ≤ n ∧ St i h' ∧ J i h') ?_ n ⟨0, rfl, Nat.zero_le _, w.st, j0⟩
  rintro k h' ⟨i, rfl, hi, st, j⟩
  by_cases hlt : i < n
  · refine W_wItem w.W hlt st fun v h₂ p st' kp => ?_
    refine w.own _ _ _ _ _ _ st' ((turn i v h' h₂ hlt j p st st' kp).post fun _ h₃ x => x.post fun f h₄ y => ?_)
    cases f with
    | next => exact ⟨n - (i + 1), by omega, i + 1, rfl, by omega, y.1, y.2⟩
    | cont => exact ⟨n - (i + 1), by omega, i + 1, rfl, by omega, y.1, y.2⟩
    | brk => exact y
    | ret v => exact y
  · have : i = n := by omega
    subst this
    exact W_wEnd w.W st fun h₂ kp => fin _ _ j st kp
end
end Mine
namespace Mine
open PySem PySem.W PySem.Calls PySem.Spec PyProof.Rows
noncomputable def Tests (ifs : List Expr) (env : Env) : Sem Bool := forIn ifs true fun c r => if r = true then do let ok ← isTrue c env (eval c env); pure (ForInStep.yield ok) else pure (ForInStep.yield r)
/-- a turn of a comprehension's loop; K: what is done behind the target -/
noncomputable def cTurn (target : Expr) (p : Pos) (it : Value) (env : Env) (K : Sem PySem.Fin) : Sem PySem.Fin := do
  standAt p
  match ← pyNext it with
  | none => pure (.done .next)
  | some v =>
    letOwnedTupleGo target it v
    assign target env v
    K
noncomputable def cEnd (ifs : List Expr) (elt : Expr) (acc : Value) (env : Env) (c : Code) : Sem PySem.Fin := do
  let mut ok := true
  for c in ifs do
    if ok then ok ← isTrue c env (eval c env)
  if ok then
    (do let _ ← call (.builtin "list.append") [acc, ← eval elt env])
  again c
noncomputable def cIn (iter' : Expr) (e : Expr) (acc : Value) (env : Env) (c : Code) : Sem PySem.Fin := do
  let x ← eval iter' env
  standAt iter'.pos
  let x ← foldedSetIterable iter' env x
  let _ ← runOwn (.compStart e 1 (← holding [x] (pyIter x)) acc env) env
  again c
inductive CompI (C : Cx) (n : Nat) (St J : Nat → Heap → Prop) (k : Nat) (s : Shared) : Prop
  | mk (i h' k' : _) (p1 : s = C.S h' k') (p2 : k = n - i) (p3 : i ≤ n) (p4 : St i h' ∧ J i h') : CompI C n St J k s
section
variable {C : Cx} {A : Around} {h : Heap} {E : Value → Heap → Prop} {env : Env} {n : Nat} {P : Nat → Value → Prop} {I : Addr} {fp wr : List Addr} {St : Nat → Heap → Prop}
theorem W_tests0 {Q : Bool → Heap → Prop} (q : Q true h) : WP C A (Tests [] env) Q E h := fun k => wpAny_tests_nil (up1 q)
theorem W_tests1 {c : Expr} {Q : Bool → Heap → Prop} (y : WP C A (isTrue c env (eval c env)) Q E h) : WP C A (Tests [c] env) Q E h := fun k => wpAny_tests_one (y k)
theorem turn_core {target : Expr} {p : Pos} {K : Sem PySem.Fin} {c : Code} {J : Nat → Heap → Prop} {h₀ h' : Heap} {k' i : Nat} {Q : PySem.Fin → Shared → Prop} {E₀ : Value → Shared → Prop} (w : Wk C A h₀ n P I fp wr St h) (hi : i ≤ n) (st : St i h')
    (turn : ∀ v h₂, i < n → P i v → St (i + 1) h₂ → KpW wr h' h₂ → WP C A (assign target env v) (fun _ h₃ => WP C A K (fun f h₄ => f = .again c ∧ St (i + 1) h₄ ∧ J (i + 1) h₄) NoE h₃) NoE h₂)
    (qT : ∀ h₄ k₄, i < n → St (i + 1) h₄ → J (i + 1) h₄ → Q (.again c) (C.S h₄ k₄)) (qF : ∀ h₂ k₂, i = n → KpW wr h' h₂ → Q (.done .next) (C.S h₂ k₂)) : wpAny (model prg C.w) A (cTurn target p (.ref I) env K) Q E₀ (C.S h' k') := by
  unfold cTurn
  refine wpAny_bind (wpAny_standAt ?_)
  rcases Nat.lt_or_eq_of_le hi with hlt | hz
  · refine wpAny_bind (wpAny_mono (W_wItem (E := NoE) (Q := fun r h₂ => ∃ v, r = some v ∧ P i v ∧ St (i + 1) h₂ ∧ KpW wr h' h₂) w.W hlt st (fun v h₂ p st' kp => ⟨v, rfl, p, st', kp⟩) k') (fun r s₂ q => ?_) fun _ _ e => noE e)
    obtain ⟨h₂, k₂, rfl, v, rfl, p, st', kp⟩ := q
    refine wpAny_bind (wpAny_mono (w.own (i + 1) h₂ target v (fun _ h => h = h₂) NoE st' rfl k₂) (fun _ s₂ q => ?_) fun _ _ e => noE e)
    obtain ⟨h₂', k₂, rfl, e2⟩ := q
    cases e2
    refine wpAny_bind (wpAny_mono (turn v h₂ hlt p st' kp k₂) (fun _ s₃ q => ?_) fun _ _ e => noE e)
    obtain ⟨h₃, k₃, rfl, q⟩ := q
    refine wpAny_mono (q k₃) (fun f s₃ q => ?_) fun _ _ e => noE e
    obtain ⟨h₄, k₄, rfl, rfl, s4, j4⟩ := q
    exact qT h₄ k₄ hlt s4 j4
  · subst hz
    refine wpAny_bind (wpAny_mono (W_wEnd (E := NoE) (Q := fun r h₂ => r = none ∧ KpW wr h' h₂) w.W st (fun h₂ kp => ⟨rfl, kp⟩) k') (fun r s₂ q => ?_) fun _ _ e => noE e)
    obtain ⟨h₂, k₂, rfl, rfl, kp⟩ := q
    exact wpAny_pure (qF h₂ k₂ rfl kp)
theorem C_turns {e target : Expr} {p : Pos} {K : Sem PySem.Fin} {d : Nat} {acc : Value} {R : Result → Heap → Prop} {h₀ : Heap} (w : Wk C A h₀ n P I fp wr St h) (J : Nat → Heap → Prop) (j0 : J 0 h)
    (turn : ∀ i v h₁ h₂, i < n → J i h₁ → P i v → St i h₁ → St (i + 1) h₂ → KpW wr h₁ h₂ → WP C A (assign target env v) (fun _ h₃ => WP C A K (fun f h₄ => f = .again (.compLoop e d (.ref I) acc env) ∧ St (i + 1) h₄ ∧ J (i + 1) h₄) NoE h₃) NoE h₂)
    (fin : ∀ h₁ h₂, J n h₁ → St n h₁ → KpW wr h₁ h₂ → R (.ok .next) h₂)
    (he : compTurn e d (.ref I) acc env = cTurn target p (.ref I) env K) (hq : (Code.compLoop e d (.ref I) acc env).quiet = true := by rfl)
    (hd : (model prg C.w).den (.compLoop e d (.ref I) acc env) = (compTurn e d (.ref I) acc env).onRaise (fun x => do noteFrame x env; theTreesLotGoes x) := by rfl) (hu : A.under (.compLoop e d (.ref I) acc env) = A := by rfl) : CP C A (.compLoop e d (.ref I) acc env) R h := fun k => by
  refine codeAny_loop hq (CompI C n St J) ?_ n ⟨0, h, k, rfl, rfl, Nat.zero_le _, w.st, j0⟩
  rintro k s ⟨i, h', k', rfl, rfl, hi, st, j⟩
  rw [hd, he, hu]
  exact wpAny_noted (turn_core w hi st (fun v h₂ a b => turn i v h' h₂ a j b st) (fun h₄ k₄ l s4 j4 => ⟨rfl, n - (i + 1), Nat.sub_lt_sub_left l (Nat.lt_succ_self i), i + 1, h₄, k₄, rfl, rfl, l, s4, j4⟩)
    fun h₂ k₂ z kp => by subst z; exact ⟨h₂, k₂, rfl, fin _ _ j st kp⟩)
theorem C_comp {elt target iter : Expr} {ifs : List Expr} {gens : List Comprehension} {scope : Scope} {pos : Pos} {d : Nat} {acc : Value} {R : Result → Heap → Prop} {h₀ : Heap} (w : Wk C A h₀ n P I fp wr St h) (J : Nat → Heap → Prop) (j0 : J 0 h)
    (turn : ∀ i v h₁ h₂, i < n → J i h₁ → P i v → St i h₁ → St (i + 1) h₂ → KpW wr h₁ h₂ → WP C A (assign target env v) (fun _ h₃ => WP C A (Tests ifs env) (fun ok h₄ =>
      if ok then WP C A (eval elt env) (fun x h₅ => WP C A (call (.builtin "list.append") [acc, x]) (fun _ h₆ => St (i + 1) h₆ ∧ J (i + 1) h₆) NoE h₅) NoE h₄ else St (i + 1) h₄ ∧ J (i + 1) h₄) NoE h₃) NoE h₂)
    (fin : ∀ h₁ h₂, J n h₁ → St n h₁ → KpW wr h₁ h₂ → R (.ok .next) h₂)
    (he : compTurn (.ListComp elt gens scope pos) d (.ref I) acc env = cTurn target iter.pos (.ref I) env (cEnd ifs elt acc env (.compLoop (.ListComp elt gens scope pos) d (.ref I) acc env)) := by rfl) : CP C A (.compLoop (.ListComp elt gens scope pos) d (.ref I) acc env) R h := by
  refine C_turns w J j0 (fun i v h₁ h₂ a b c d e f => WP.mono (turn i v h₁ h₂ a b c d e f) (fun _ h₃ q k₃ => ?_) fun _ _ e => e) fin he
  unfold cEnd
  refine wpAny_bind (wpAny_mono (q k₃) (fun ok s₃ q => ?_) fun _ _ e => noE e)
  obtain ⟨h₄, k₄, rfl, q⟩ := q
  cases ok with
  | false => exact wpAny_pure (up1 ⟨rfl, q⟩)
  | true =>
    refine wpAny_bind (wpAny_bind (wpAny_mono (q k₄) (fun x s q => ?_) fun _ _ e => noE e))
    obtain ⟨h₅, k₅, rfl, q⟩ := q
    refine wpAny_bind (wpAny_mono (q k₅) (fun x s q => ?_) fun _ _ e => noE e)
    obtain ⟨h₆, k₆, rfl, q⟩ := q
    exact wpAny_pure (wpAny_pure (up1 ⟨rfl, q⟩))
theorem W_compStart {e : Expr} {d : Nat} {acc : Value} {R : Result → Heap → Prop} {h₀ : Heap} (w : Wk C A h₀ n P I fp wr St h) (x : CP C A (.compLoop e d (.ref I) acc env) R h)
    (hf : (Code.compStart e d (.ref I) acc env).isFrame = false := by rfl) (hu : A.under (.compStart e d (.ref I) acc env) = A := by rfl) (ha : ((clausesOf e)[d]?).elim false (·.is_async != 0) = false := by rfl) (hq : (Code.compLoop e d (.ref I) acc env).quiet = true := by rfl) : CP C A (.compStart e d (.ref I) acc env) R h := fun k => by
  refine codeAny_of_tree ?_
  rw [hu]
  have st : ∀ Q : Value → Heap → Prop, Q (.ref I) h → WP C A (pyIter (.ref I)) Q NoE h := fun Q q k => w.W.self 0 (C.S h k) _ _ w.st (up1 q)
  show wpAny _ _ (if (Code.compStart e d (.ref I) acc env).isFrame = true then _ else (compStart e d (.ref I) acc env).onRaise (fun x => do noteFrame x env; standAt theWindowsPlace)) _ _ _
  rw [hf]
  refine wpAny_notedAt ?_
  unfold compStart
  rw [ha]
  show wpAny _ _ (ask >>= _) _ _ _
  refine wpAny_bind (wpAny_askSetting (wpAny_ite ?_))
  split
  · first
      | exact wpAny_bind (wpAny_pure (wpAny_pure (And.intro rfl (x k))))
      | exact wpAny_pure (And.intro hq (x k))
  · refine wpAny_bind (wpAny_rule ?_)
    split
    · refine wpAny_bind (wpAny_standAt (wpAny_bind (wpAny_mono (st (fun v h' => v = .ref I ∧ h' = h) ⟨rfl, rfl⟩ k) (fun it' s' q => ?_) fun _ _ e => noE e)))
      obtain ⟨h', k', rfl, rfl, rfl⟩ := q
      exact wpAny_pure (And.intro hq (x k'))
    · refine wpAny_bind (wpAny_mono (st (fun v h' => v = .ref I ∧ h' = h) ⟨rfl, rfl⟩ k) (fun it' s' q => ?_) fun _ _ e => noE e)
      obtain ⟨h', k', rfl, rfl, rfl⟩ := q
      exact wpAny_pure (And.intro hq (x k'))
/-- two clauses: the outer one -/
theorem C_comp2 {elt target iter iter' target' : Expr} {ifs' : List Expr} {scope : Scope} {pos : Pos} {acc : Value} {R : Result → Heap → Prop} {h₀ : Heap} (w : Wk C A h₀ n P I fp wr St h) (J : Nat → Heap → Prop) (j0 : J 0 h)
    (turn : ∀ i v h₁ h₂, i < n → J i h₁ → P i v → St i h₁ → St (i + 1) h₂ → KpW wr h₁ h₂ → WP C A (assign target env v) (fun _ h₃ => WP C A (eval iter' env) (fun x h₄ => WP C A (pyIter x) (fun it' h₅ =>
      CP C A (.compStart (.ListComp elt [⟨target, iter, [], 0⟩, ⟨target', iter', ifs', 0⟩] scope pos) 1 it' acc env) (fun r h₆ => match r with | .ok _ => St (i + 1) h₆ ∧ J (i + 1) h₆ | .error _ => False) h₅) NoE h₄) NoE h₃) NoE h₂)
    (fin : ∀ h₁ h₂, J n h₁ → St n h₁ → KpW wr h₁ h₂ → R (.ok .next) h₂)
    (hs : ∀ x, foldedSetIterable iter' env x = pure x := by intro _; rfl)
    : CP C A (.compLoop (.ListComp elt [⟨target, iter, [], 0⟩, ⟨target', iter', ifs', 0⟩] scope pos) 0 (.ref I) acc env) R h := by
  refine C_turns (e := .ListComp elt [⟨target, iter, [], 0⟩, ⟨target', iter', ifs', 0⟩] scope pos) (d := 0) (acc := acc) (p := iter.pos) (K := cIn iter' (.ListComp elt [⟨target, iter, [], 0⟩, ⟨target', iter', ifs', 0⟩] scope pos) acc env (.compLoop (.ListComp elt [⟨target, iter, [], 0⟩, ⟨target', iter', ifs', 0⟩] scope pos) 0 (.ref I) acc env)) w J j0 (fun i v h₁ h₂ a b c d e f => WP.mono (turn i v h₁ h₂ a b c d e f) (fun _ h₃ q k₃ => ?_) fun _ _ e => e) fin rfl
  unfold cIn
  refine wpAny_bind (wpAny_mono (q k₃) (fun x s₃ q => ?_) fun _ _ e => noE e)
  obtain ⟨h₄, k₄, rfl, q⟩ := q
  refine wpAny_bind (wpAny_standAt (wpAny_bind (wpAny_of_eq (hs x) (wpAny_bind (wpAny_holding (wpAny_mono (q k₄) (fun it' s q => ?_) fun _ _ e => noE e))))))
  obtain ⟨h₅, k₅, rfl, q⟩ := q
  refine wpAny_bind (wpAny_runOwn (codeAny_mono (q k₅) fun r s q => ?_))
  obtain ⟨h₆, k₆, rfl, q⟩ := q
  cases r with
  | ok f => exact wpAny_pure (up1 ⟨rfl, q⟩)
  | error x => exact q.elim
theorem C_comp1 {elt target iter : Expr} {ifs : List Expr} {g0 : Comprehension} {scope : Scope} {pos : Pos} {acc : Value} {R : Result → Heap → Prop} {h₀ : Heap} (w : Wk C A h₀ n P I fp wr St h) (J : Nat → Heap → Prop) (j0 : J 0 h)
    (turn : ∀ i v h₁ h₂, i < n → J i h₁ → P i v → St i h₁ → St (i + 1) h₂ → KpW wr h₁ h₂ → WP C A (assign target env v) (fun _ h₃ => WP C A (Tests ifs env) (fun ok h₄ =>
      if ok then WP C A (eval elt env) (fun x h₅ => WP C A (call (.builtin "list.append") [acc, x]) (fun _ h₆ => St (i + 1) h₆ ∧ J (i + 1) h₆) NoE h₅) NoE h₄ else St (i + 1) h₄ ∧ J (i + 1) h₄) NoE h₃) NoE h₂)
    (fin : ∀ h₁ h₂, J n h₁ → St n h₁ → KpW wr h₁ h₂ → R (.ok .next) h₂) : CP C A (.compLoop (.ListComp elt [g0, ⟨target, iter, ifs, 0⟩] scope pos) 1 (.ref I) acc env) R h :=
  C_comp w J j0 turn fin rfl
/-- a list comprehension, up to its loop -/
theorem comp_run {use : Option (Value → Sem Unit)} {elt : Expr} {g : Comprehension} {gs : List Comprehension} {scope : Scope} {cl : List (Str × Addr)} {pos p : Pos} {Q : Value → Shared → Prop} {k : Nat}
    (hclos : closureFor scope env = pure cl)
    (y : WP C A (eval g.iter env) (fun xv h₁ => ∃ n P, WalkOf C A xv h₁ n P ∧ ∀ I fp wr St h₂ D L h₃, Wk C A h₁ n P I fp wr St h₃ → Kp h₂ h₃ → Kp h₁ h₂ → (∀ b ∈ fp, b < h₂.objs.size) → D = h₂.objs.size → L = h₂.objs.size + 1 → h₃.get? D = some (listO []) → h₃.Ns L (fun _ => none) →
      CP C A (.compLoop (.ListComp elt (g :: gs) scope pos) 0 (.ref I) (.ref D) (compEnvC scope cl L env)) (fun r h' => ∀ k', compPost (model prg C.w) A (C.up E) use Q (.ref D) L r (C.S h' k')) h₃) E h)
    (hcell : ∀ y ∈ scope.names, y.2 ≠ .cell) (hkind : scope.kind = .function) (hnames : ∀ y ∈ scope.names, y.2 = .local → scope.names.lookup y.1 = some .local) (ha : g.is_async = 0) (hs : ∀ x, foldedSetIterable g.iter env x = pure x) :
    wpAny (model prg C.w) A (comprehension (.ListComp elt (g :: gs) scope pos) scope env p (newList []) false (eval g.iter env) use) Q (C.up E) (C.S h k) := by
  refine wpAny_comprehension_free (use := use) rfl hs hclos hkind hnames (wpAny_mono (y k) (fun xv s₁ q => ?_) fun _ _ e => e)
  obtain ⟨h₁, k₁, rfl, n, P, wk, q⟩ := q
  refine wpAny_mono (wk (fun v h₂ => ∃ I fp wr St, v = .ref I ∧ Wk C A h₁ n P I fp wr St h₂) E (fun I fp wr St h₂ w => ⟨I, fp, wr, St, rfl, w⟩) k₁) (fun it s₂ z => ?_) fun _ _ e => e
  obtain ⟨h₂, k₂, rfl, I, fp, wr, St, rfl, w⟩ := z
  refine wpAny_newObj_type (s := C.S h₂ k₂) (wpAny_newFunctionEnv hcell (by intro y hy; simp at hy) (fun h₃ ns sb => ?_) hkind)
  dsimp only at ns sb ⊢
  have sz : ((C.S h₂ k₂).heap.push { cls := .type "list", dict := none, data := .seq ([] : List Value).toArray }).objs.size = h₂.objs.size + 1 := Heap.size_push _ _
  rw [sz] at ns sb ⊢
  have kp : Kp h₂ h₃ := fun b o e => sb.extBut b o (Nat.ne_of_lt (Nat.lt_succ_of_lt (Heap.lt_size e))) (Heap.get?_push_of_some _ (Heap.get?_push_of_some _ e))
  have hD : h₃.get? h₂.objs.size = some (listO []) := sb.extBut _ _ (Nat.ne_of_lt (Nat.lt_succ_self _)) (Heap.get?_push_of_some _ (Heap.get?_push_size _ rfl))
  have w' : Wk C A h₁ n P I fp wr St h₃ := ⟨w.W, w.W.frame _ _ _ w.st fun b _ o e => kp b o e, w.kp.trans kp, fun b hb => Nat.lt_of_lt_of_le (w.lt b hb) (by
    have : h₃.objs.size = h₂.objs.size + 1 + 1 := by rw [sb.1, Heap.size_push, sz]
    omega), w.nw, w.ge, w.pr, w.own⟩
  have c := W_compStart w' (q I fp wr St h₂ _ _ h₃ w' kp w.kp w.lt rfl rfl hD ns) (ha := by show (g.is_async != 0) = false; rw [ha]; rfl)
  refine codeAny_mono (c k₂) fun r s q => ?_
  obtain ⟨h', k', rfl, q⟩ := q
  exact q k'
theorem W_ListComp {elt : Expr} {g : Comprehension} {gs : List Comprehension} {scope : Scope} {cl : List (Str × Addr)} {pos : Pos} {Q : Value → Heap → Prop}
    (hclos : closureFor scope env = pure cl)
    (y : WP C A (eval g.iter env) (fun xv h₁ => ∃ n P, WalkOf C A xv h₁ n P ∧ ∀ I fp wr St h₂ D L h₃, Wk C A h₁ n P I fp wr St h₃ → Kp h₂ h₃ → Kp h₁ h₂ → (∀ b ∈ fp, b < h₂.objs.size) → D = h₂.objs.size → L = h₂.objs.size + 1 → h₃.get? D = some (listO []) → h₃.Ns L (fun _ => none) →
      CP C A (.compLoop (.ListComp elt (g :: gs) scope pos) 0 (.ref I) (.ref D) (compEnvC scope cl L env)) (fun r h' => (∃ f, r = .ok f) ∧ (∃ m, h'.Ns L m) ∧ ∀ h'', Heap.SameBut L h' h'' → Q (.ref D) h'') h₃) E h)
    (hcell : ∀ y ∈ scope.names, y.2 ≠ .cell := by decide) (hkind : scope.kind = .function := by rfl)
    (hnames : ∀ y ∈ scope.names, y.2 = .local → scope.names.lookup y.1 = some .local := by decide)
    (ha : g.is_async = 0 := by rfl)
    (hs : ∀ x, foldedSetIterable g.iter env x = pure x := by intro _; rfl)
    (he : eval (.ListComp elt (g :: gs) scope pos) env = comprehension (.ListComp elt (g :: gs) scope pos) scope env (firstIterPos (g :: gs) pos) (newList []) false (eval g.iter env) := by rfl) :
    WP C A (eval (.ListComp elt (g :: gs) scope pos) env) Q E h := fun k => by
  rw [he]
  refine comp_run hclos (WP.mono y (fun xv h₁ q => ?_) fun _ _ e => e) hcell hkind hnames ha hs
  obtain ⟨n, P, wk, q⟩ := q
  refine ⟨n, P, wk, fun I fp wr St h₂ D L h₃ a b c d e f g i k => codeAny_mono (q I fp wr St h₂ D L h₃ a b c d e f g i k) fun r s q => ?_⟩
  obtain ⟨h', k', rfl, ⟨f, rfl⟩, ⟨m, ns'⟩, q⟩ := q
  exact up1 fun k'' => ⟨m, ns', fun h'' s => up1 (q h'' s)⟩
end
end Mine
namespace Mine
open PySem PySem.W PySem.Calls PySem.Spec PyProof.Rows
noncomputable def Out (L : Addr) (h h' : Heap) : Prop := (∀ b o, b ≠ L → h.get? b = some o → h'.get? b = some o) ∧ ∃ m, h'.Ns L m
inductive CmpG (G₀ h₁ : Heap) (J : Nat → List Value → Heap → Prop) (D L : Addr) (wr : List Addr) (i : Nat) (h' : Heap) : Prop
  | mk (ys G k m : _) (p1 : J i ys G) (p2 : Kp G₀ G) (p3 : Kp G h') (p4 : (∀ b o, G.get? b = some o → G₀.get? b = some o ∨ h₁.get? b = none)) (p5 : Kp h₁ h') (p6 : h'.get? D = some (listO ys k)) (p7 : h'.Ns L m) (p8 : ys.length ≤ i) (p9 : G.get? D = none) (p10 : G.get? L = none) (p11 : ∀ b ∈ wr, G.get? b = none) : CmpG G₀ h₁ J D L wr i h'
section
variable {C : Cx} {A : Around} {h : Heap} {E : Value → Heap → Prop} {env : Env} {n : Nat} {P : Nat → Value → Prop} {I : Addr} {fp wr : List Addr} {St : Nat → Heap → Prop}
theorem C_compG {elt target iter : Expr} {ifs : List Expr} {gens : List Comprehension} {scope : Scope} {pos : Pos} {d : Nat} {D L : Addr} {R : Result → Heap → Prop} {h₁ h₂ h₃ G₀ : Heap} {m₀ : Str → Option Value} {cenv : Env}
    (w : Wk C A h₁ n P I fp wr St h₃) (k12 : Kp h₁ h₂) (hfp : ∀ b ∈ fp, b < h₂.objs.size) (eD : D = h₂.objs.size) (eL : L = h₂.objs.size + 1) (hD : h₃.get? D = some (listO [])) (hL : h₃.Ns L m₀) (hlen : n ≤ 900)
    (k0 : Kp G₀ h₁) (J : Nat → List Value → Heap → Prop) (j0 : J 0 [] G₀)
    (turn : ∀ i v ys G h₄ m, i < n → P i v → J i ys G → Kp G₀ G → Kp G h₄ → Kp h₁ h₄ → G.get? L = none → h₄.Ns L m → WP C A (assign target cenv v) (fun _ h₅ => WP C A (Tests ifs cenv) (fun ok h₆ =>
      if ok then WP C A (eval elt cenv) (fun x h₇ => Out L h₄ h₇ ∧ ∃ G', Grow G h₄ G' h₇ ∧ J (i + 1) (ys ++ [x]) G') NoE h₆ else Out L h₄ h₆ ∧ J (i + 1) ys G) NoE h₅) NoE h₄)
    (fin : ∀ ys G h' m k, J n ys G → Kp G₀ G → Kp G h' → (∀ b o, G.get? b = some o → G₀.get? b = some o ∨ h₁.get? b = none) → Kp h₁ h' → h'.get? D = some (listO ys k) → h₁.get? D = none → G.get? D = none → G.get? L = none → h'.Ns L m → h₁.get? L = none → D ≠ L → R (.ok .next) h')
    (he : compTurn (.ListComp elt gens scope pos) d (.ref I) (.ref D) cenv = cTurn target iter.pos (.ref I) cenv (cEnd ifs elt (.ref D) cenv (.compLoop (.ListComp elt gens scope pos) d (.ref I) (.ref D) cenv)) := by rfl) : CP C A (.compLoop (.ListComp elt gens scope pos) d (.ref I) (.ref D) cenv) R h₃ := by
  have eD : @Eq Nat D h₂.objs.size := eD
  have eL : @Eq Nat L (h₂.objs.size + 1) := eL
  have nD : D ∉ fp := fun x => by have z : @LT.lt Nat _ D h₂.objs.size := hfp _ x; omega
  have nL : L ∉ fp := fun x => by have z : @LT.lt Nat _ L h₂.objs.size := hfp _ x; omega
  have wD : D ∉ wr := fun x => nD (w.W.sub _ x)
  have wL : L ∉ wr := fun x => nL (w.W.sub _ x)
  have DL : @Ne Nat D L := by omega
  have off : ∀ {b : Addr}, h₂.objs.size ≤ b → h₁.get? b = none := fun hb => k12.off (none_of_size hb)
  have oD := off (b := D) (show @LE.le Nat _ h₂.objs.size D by omega)
  have oL := off (b := L) (show @LE.le Nat _ h₂.objs.size L by omega)
  have g0 : ∀ {b : Addr}, h₁.get? b = none → G₀.get? b = none := fun hb => k0.off hb
  refine C_comp w (CmpG G₀ h₁ J D L wr)
    ⟨[], G₀, 0, m₀, j0, Kp.refl _, k0.trans w.kp, fun b o e => .inl e, w.kp, hD, hL, Nat.le_refl _, g0 oD, g0 oL, fun b hb => g0 (w.nw b hb)⟩ ?_ ?_ he
  · rintro i v h' h₄ hi ⟨ys, G, k, m, j, kG, kGh, new, k1, eD', eL', hys, gD, gL, gW⟩ p st st' kw
    have kG4 : Kp G h₄ := fun b o e => kw b o (fun x => by rw [gW b x] at e; cases e) (kGh b o e)
    have k14 : Kp h₁ h₄ := fun b o e => kw b o (fun x => by rw [w.nw b x] at e; cases e) (k1 b o e)
    have D4 := kw _ _ wD eD'
    have L4 : h₄.Ns L m := by
      obtain ⟨o, es, ep, x, r⟩ := eL'
      exact ⟨o, es, ep, kw _ _ wL x, r⟩
    obtain ⟨oL4, xL4⟩ := ns_there L4
    refine (turn i v ys G h₄ m hi p j kG kG4 k14 gL L4).post fun _ h₅ q => q.post fun ok h₆ q => ?_
    have stO : ∀ {h₇ : Heap}, Out L h₄ h₇ → St (i + 1) h₇ := fun o => w.W.frame _ _ _ st' fun b hb o' e => o.1 b o' (fun x => nL (x ▸ hb)) e
    cases ok with
    | false =>
      obtain ⟨o, j'⟩ := q
      obtain ⟨m', L7⟩ := o.2
      exact ⟨stO o, ys, G, k, m', j', kG, fun b o' e => o.1 b o' (fun x => by rw [x, gL] at e; cases e) (kG4 b o' e), new, fun b o' e => o.1 b o' (fun x => by rw [x, oL] at e; cases e) (k14 b o' e), o.1 _ _ DL D4, L7, by omega, gD, gL, gW⟩
    | true =>
      refine WP.post q fun x h₇ q => ?_
      obtain ⟨o, G', gr, j'⟩ := q
      obtain ⟨m', L7⟩ := o.2
      have D7 := o.1 _ _ DL D4
      refine W_append D7 (by omega) fun h₈ k8 D8 s8 => ?_
      refine ⟨w.W.frame _ _ _ (stO o) fun b hb o' e => (s8.2 b (fun x => nD (x ▸ hb))).trans e, ys ++ [x], G', k8, m', j', kG.trans gr.old, ?_, ?_, ?_, D8, L7.sameBut s8 (Ne.symm DL), by simp; omega, gr.off gD D4, gr.off gL xL4, fun b hb => ?_⟩
      · exact gr.now.same s8 (gr.off gD D4)
      · intro b o' e
        rcases gr.new b o' e with z | z
        · exact new b o' z
        · exact .inr (k14.off z)
      · exact fun b o' e => (s8.2 b (fun x => by rw [x, oD] at e; cases e)).trans (o.1 b o' (fun x => by rw [x, oL] at e; cases e) (k14 b o' e))
      · obtain ⟨ob, xb⟩ := w.pr _ _ st' b hb
        exact gr.off (gW b hb) xb
  · rintro h' h₄ ⟨ys, G, k, m, j, kG, kGh, new, k1, eD', eL', hys, gD, gL, gW⟩ st kw
    refine fin ys G h₄ m k j kG (fun b o e => kw b o (fun x => by rw [gW b x] at e; cases e) (kGh b o e)) new (fun b o e => kw b o (fun x => by rw [w.nw b x] at e; cases e) (k1 b o e)) (kw _ _ wD eD') oD gD gL ?_ oL DL
    obtain ⟨o, es, ep, x, r⟩ := eL'
    exact ⟨o, es, ep, kw _ _ wL x, r⟩
/-- a list comprehension of one clause, its turns told over frozen heaps -/
theorem W_comp {elt target iter : Expr} {ifs : List Expr} {scope : Scope} {cl : List (Str × Addr)} {pos : Pos} {Q : Value → Heap → Prop}
    (hclos : closureFor scope env = pure cl)
    (y : WP C A (eval iter env) (fun xv h₁ => ∃ n P, WalkOf C A xv h₁ n P ∧ n ≤ 900 ∧ ∃ (G₀ : Heap) (J : Nat → List Value → Heap → Prop), Kp G₀ h₁ ∧ J 0 [] G₀ ∧
      (∀ L i v ys G h₄ m, i < n → P i v → J i ys G → Kp G₀ G → Kp G h₄ → Kp h₁ h₄ → h₁.get? L = none → G.get? L = none → h₄.Ns L m → WP C A (assign target (compEnvC scope cl L env) v) (fun _ h₅ => WP C A (Tests ifs (compEnvC scope cl L env)) (fun ok h₆ =>
        if ok then WP C A (eval elt (compEnvC scope cl L env)) (fun x h₇ => Out L h₄ h₇ ∧ ∃ G', Grow G h₄ G' h₇ ∧ J (i + 1) (ys ++ [x]) G') NoE h₆ else Out L h₄ h₆ ∧ J (i + 1) ys G) NoE h₅) NoE h₄) ∧
      (∀ D ys G h' k, J n ys G → Grow G₀ h₁ G h' → Kp h₁ h' → h'.get? D = some (listO ys k) → h₁.get? D = none → G.get? D = none → Q (.ref D) h')) E h)
    (hcell : ∀ y ∈ scope.names, y.2 ≠ .cell := by decide) (hkind : scope.kind = .function := by rfl)
    (hnames : ∀ y ∈ scope.names, y.2 = .local → scope.names.lookup y.1 = some .local := by decide)
    (hs : ∀ x, foldedSetIterable iter env x = pure x := by intro _; rfl) :
    WP C A (eval (.ListComp elt [⟨target, iter, ifs, 0⟩] scope pos) env) Q E h := by
  refine W_ListComp hclos (y.post fun xv h₁ q => ?_) hcell hkind hnames (ha := rfl) (hs := hs)
  obtain ⟨n, P, wk, hn, G₀, J, k0, j0, turn, fin⟩ := q
  refine ⟨n, P, wk, fun I fp wr St h₂ D L h₃ w k23 k12 hfp eD eL hD hL => ?_⟩
  have off : ∀ {b : Addr}, h₂.objs.size ≤ b → h₁.get? b = none := fun hb => k12.off (none_of_size hb)
  have eL' : @Eq Nat L (h₂.objs.size + 1) := eL
  refine C_compG w k12 hfp eD eL hD hL hn k0 J j0 (fun i v ys G h₄ m a b c d e f => turn L i v ys G h₄ m a b c d e f (off (show @LE.le Nat _ h₂.objs.size L by omega))) fun ys G h' m k j kG kGh new k1 eD' oD gD gL nL oL DL => ⟨⟨_, rfl⟩, ⟨m, nL⟩, fun h'' s => ?_⟩
  exact fin D ys G h'' k j ⟨kG, kGh.same s gL, new⟩ (k1.same s oL) ((s.2 _ DL).trans eD') oD gD
end
end Mine
namespace Mine
open PySem PySem.W PySem.Calls PySem.Spec PyProof.Rows
theorem oa0 {a n : Nat} (h : a + 3 < n) : a ≠ n := Nat.ne_of_lt (Nat.lt_of_le_of_lt (Nat.le_add_right a 3) h)
theorem ob0 {a n : Nat} (h : a + 3 < n) : n ≠ a := Nat.ne_of_gt (Nat.lt_of_le_of_lt (Nat.le_add_right a 3) h)
theorem oc0 {a n : Nat} (h : a + 3 < n) : a ≠ n + 1 := Nat.ne_of_lt (Nat.lt_succ_of_lt (Nat.lt_of_le_of_lt (Nat.le_add_right a 3) h))
theorem od0 {a n : Nat} (h : a + 3 < n) : a < n := Nat.lt_of_le_of_lt (Nat.le_add_right a 3) h
theorem oe0 {a b n : Nat} (e : b = n) (h : a + 3 < n) : b ≠ a := fun z => Nat.ne_of_gt (Nat.lt_of_le_of_lt (Nat.le_add_right a 3) h) (e.symm.trans z)
theorem oa1 {a n : Nat} (h : a + 3 < n) : a + 1 ≠ n := Nat.ne_of_lt (Nat.lt_of_le_of_lt (Nat.add_le_add_left (by decide) a) h)
theorem ob1 {a n : Nat} (h : a + 3 < n) : n ≠ a + 1 := Nat.ne_of_gt (Nat.lt_of_le_of_lt (Nat.add_le_add_left (by decide) a) h)
theorem oc1 {a n : Nat} (h : a + 3 < n) : a + 1 ≠ n + 1 := Nat.ne_of_lt (Nat.lt_succ_of_lt (Nat.lt_of_le_of_lt (Nat.add_le_add_left (by decide) a) h))
theorem od1 {a n : Nat} (h : a + 3 < n) : a + 1 < n := Nat.lt_of_le_of_lt (Nat.add_le_add_left (by decide) a) h
theorem oe1 {a b n : Nat} (e : b = n) (h : a + 3 < n) : b ≠ a + 1 := fun z => Nat.ne_of_gt (Nat.lt_of_le_of_lt (Nat.add_le_add_left (by decide) a) h) (e.symm.trans z)
theorem oa2 {a n : Nat} (h : a + 3 < n) : a + 2 ≠ n := Nat.ne_of_lt (Nat.lt_of_le_of_lt (Nat.add_le_add_left (by decide) a) h)
theorem ob2 {a n : Nat} (h : a + 3 < n) : n ≠ a + 2 := Nat.ne_of_gt (Nat.lt_of_le_of_lt (Nat.add_le_add_left (by decide) a) h)
theorem oc2 {a n : Nat} (h : a + 3 < n) : a + 2 ≠ n + 1 := Nat.ne_of_lt (Nat.lt_succ_of_lt (Nat.lt_of_le_of_lt (Nat.add_le_add_left (by decide) a) h))
theorem od2 {a n : Nat} (h : a + 3 < n) : a + 2 < n := Nat.lt_of_le_of_lt (Nat.add_le_add_left (by decide) a) h
theorem oe2 {a b n : Nat} (e : b = n) (h : a + 3 < n) : b ≠ a + 2 := fun z => Nat.ne_of_gt (Nat.lt_of_le_of_lt (Nat.add_le_add_left (by decide) a) h) (e.symm.trans z)
theorem oa3 {a n : Nat} (h : a + 3 < n) : a + 3 ≠ n := Nat.ne_of_lt (h)
theorem ob3 {a n : Nat} (h : a + 3 < n) : n ≠ a + 3 := Nat.ne_of_gt (h)
theorem oc3 {a n : Nat} (h : a + 3 < n) : a + 3 ≠ n + 1 := Nat.ne_of_lt (Nat.lt_succ_of_lt (h))
theorem oe3 {a b n : Nat} (e : b = n) (h : a + 3 < n) : b ≠ a + 3 := fun z => Nat.ne_of_gt (h) (e.symm.trans z)
theorem of0 {a n : Nat} (h : a + 3 < n) : a ≤ n := Nat.le_of_lt (Nat.lt_of_le_of_lt (Nat.le_add_right a 3) h)
theorem of1 {a n : Nat} (h : a + 3 < n) : a ≤ n + 1 := Nat.le_succ_of_le (Nat.le_of_lt (Nat.lt_of_le_of_lt (Nat.le_add_right a 3) h))
theorem og0 {a n : Nat} (h : a < n) : a ≠ n + 1 := Nat.ne_of_lt (Nat.lt_succ_of_lt h)
theorem og1 {a n : Nat} (h : a < n) : a ≠ n := Nat.ne_of_lt h
theorem og2 {a n : Nat} (h : a < n) : n ≠ a := Nat.ne_of_gt h
theorem og3 {a b n : Nat} (e : b = a) (h : a < n) : b ≠ n := fun z => Nat.ne_of_lt h (e.symm.trans z)
theorem og4 {a b n : Nat} (e : b = n) (h : a < n) : b ≠ a := fun z => Nat.ne_of_gt h (e.symm.trans z)
theorem oz01 (a : Nat) : a ≠ a + 1 := Nat.ne_of_lt (Nat.lt_add_of_pos_right (by decide : 0 < 1))
theorem oz02 (a : Nat) : a ≠ a + 2 := Nat.ne_of_lt (Nat.lt_add_of_pos_right (by decide : 0 < 2))
theorem oz03 (a : Nat) : a ≠ a + 3 := Nat.ne_of_lt (Nat.lt_add_of_pos_right (by decide : 0 < 3))
theorem oz12 (a : Nat) : a + 1 ≠ a + 2 := Nat.ne_of_lt (Nat.add_lt_add_left (by decide : 1 < 2) a)
theorem oz13 (a : Nat) : a + 1 ≠ a + 3 := Nat.ne_of_lt (Nat.add_lt_add_left (by decide : 1 < 3) a)
theorem oz23 (a : Nat) : a + 2 ≠ a + 3 := Nat.ne_of_lt (Nat.add_lt_add_left (by decide : 2 < 3) a)
theorem oz10 (a : Nat) : a + 1 ≠ a := Ne.symm (oz01 a)
theorem oz20 (a : Nat) : a + 2 ≠ a := Ne.symm (oz02 a)
theorem oz21 (a : Nat) : a + 2 ≠ a + 1 := Ne.symm (oz12 a)
theorem oz30 (a : Nat) : a + 3 ≠ a := Ne.symm (oz03 a)
theorem oz31 (a : Nat) : a + 3 ≠ a + 1 := Ne.symm (oz13 a)
theorem oz32 (a : Nat) : a + 3 ≠ a + 2 := Ne.symm (oz23 a)
theorem boot_range : bootBuiltins "range" = some (.type "range") := PyProof.Rows.boot_range
theorem boot_sum : bootBuiltins "sum" = some (.builtin "sum") := PyProof.Rows.boot_sum
theorem boot_max : bootBuiltins "max" = some (.builtin "max") := PyProof.Rows.boot_max
section
variable {C : Cx} {A : Around} {h : Heap} {E : Value → Heap → Prop} {env : Env}
theorem W_pow2 {b : Int} {t u : Tok} {Q : Value → Heap → Prop} (h0 : 0 ≤ b) (hb : b ≤ 8) (q : ∀ t, Q (.int (2 ^ b.toNat) t) h) : WP C A (binaryOp .Pow (.int 2 t) (.int b u)) Q E h := fun k =>
  pow_int_small h0 (by omega) (by decide) ⟨h, k + 1, rfl, q _⟩
theorem W_methFn {x dx f : Addr} {od : Obj} {sl : Array (Option Value)} {name : Str} {pl : Sem Bool} {Q : Value × List Value → Heap → Prop} (g : Gd C h) (hx : h.get? x = some ⟨.ref 52, some dx, .plain, sl⟩) (hd : h.get? dx = some od) (hl : lookIn name od = some none) (q : Q (.ref f, [.ref x]) h)
    (hg : plainGet (KF C.w) 52 name = true := by rfl) (hf : findIn (KF C.w) (.ref 52) name = some (some (.ref f)) := by rfl) (ht : isFn (KF C.w) (.ref f) = true := by rfl) :
    WP C A (getMethod (.ref x) name pl) Q E h :=
  fun k => method_fn (s := C.S h k) (od := some od) g.X ⟨hx, rfl, rfl, hd⟩ (plainGet_of hg).1 (plainGet_of hg).2 hf (beq_iff_eq.mp ht) (by show (lookIn name od).map _ = _; rw [hl]; rfl) (up1 q)
theorem W_sum {l : Addr} {xs : List (Int × Tok)} {n : Nat} {Q : Value → Heap → Prop} (hh : A.handled = none) (hl : h.get? l = some (listO (xs.map fun p => .int p.1 p.2) n)) (q : ∀ h' t, Kp h h' → Q (.int (xs.map (·.1)).sum t) h') : WP C A (call (.builtin "sum") [.ref l]) Q E h := fun k => by
  refine sum_intListG (s := C.S h k) (xs := xs.toArray) hh ?_ fun h' tk t' kp => ⟨h', tk, rfl, ?_⟩
  · show h.IsList _ _
    have := isList_of hl
    simpa [intItems] using this
  · rw [preSum_eq, List.take_of_length_le (by simp)]
    exact q h' t' kp
theorem W_range {b : Int} {t : Tok} {Q : Value → Heap → Prop} (q : ∀ r t u v h', Kp h h' → IsRange h' r 0 b 1 t u v → Q (.ref r) h') : WP C A (call (.type "range") [.int b t]) Q E h := fun k =>
  call_range_1 (s := C.S h k) ⟨_, k + 1 + 1, rfl, q _ _ _ _ _ (fun b o e => Heap.get?_push_of_some _ e) (Heap.get?_push_size _ rfl)⟩
end
end Mine
namespace Mine
open PySem PySem.W PySem.Calls PySem.Spec PyProof.Rows
noncomputable def nameL (p : Str) : List Str := ["r" ++ "u" ++ p, "w" ++ "u" ++ p, "x" ++ "u" ++ p, "r" ++ "g" ++ p, "w" ++ "g" ++ p, "x" ++ "g" ++ p, "r" ++ "o" ++ p, "w" ++ "o" ++ p, "x" ++ "o" ++ p]
noncomputable def nm (p : Str) (k : Nat) : Str := (nameL p)[k]?.getD ""
noncomputable def bits (al : Str → Bool) (p : Str) (i : Nat) : List Int := ((List.range i).filter fun k => al (nm p k)).map fun k => (2 : Int) ^ (8 - k)
noncomputable def sign (al : Str → Bool) (p : Str) : Str := Txt.join "" (modeTab.mapIdx fun i row => charOf (32768 + (bits al p 9).sum) i row)
noncomputable def paths : List Str := ["/a", "/a/b", "/b"]
noncomputable def rowsL (al : Str → Bool) : List (Str × Str) := paths.map fun p => (sign al p, p)
inductive TupsAt (h : Heap) : List Addr → List (Str × Str) → Prop
  | nil : TupsAt h [] []
  | cons {a as s p t t' rs} : h.get? a = some (tupO [.str s t, .str p t']) → TupsAt h as rs → TupsAt h (a :: as) ((s, p) :: rs)
theorem TupsAt.keeps {h h' : Heap} {as : List Addr} {rs : List (Str × Str)} (x : TupsAt h as rs) (k : Kp h h') : TupsAt h' as rs := by
  induction x with
  | nil => exact .nil
  | cons l _ ih => exact .cons (k _ _ l) ih
theorem TupsAt.snoc {h : Heap} {as : List Addr} {rs : List (Str × Str)} (x : TupsAt h as rs) {a : Addr} {s p : Str} {t t' : Tok} (e : h.get? a = some (tupO [.str s t, .str p t'])) : TupsAt h (as ++ [a]) (rs ++ [(s, p)]) := by
  induction x with
  | nil => exact .cons e .nil
  | cons l _ ih => exact .cons l ih
theorem TupsAt.length {h : Heap} {as : List Addr} {rs : List (Str × Str)} (x : TupsAt h as rs) : as.length = rs.length := by
  induction x with
  | nil => rfl
  | cons l _ ih => simp [ih]
noncomputable def ListgAt (h : Heap) (a : Addr) (rows : List (Str × Str)) : Prop := ∃ as n, h.get? a = some (listO (as.map .ref) n) ∧ TupsAt h as rows
theorem ListgAt.keeps {h h' : Heap} {a : Addr} {rows : List (Str × Str)} (x : ListgAt h a rows) (k : Kp h h') : ListgAt h' a rows := let ⟨as, n, e, t⟩ := x; ⟨as, n, k _ _ e, t.keeps k⟩
theorem name_at {p : Str} {i j c d : Nat} (hc : ("ugo" : Str).cps[i]? = some c) (hd : ("rwx" : Str).cps[j]? = some d) : (nameL p)[3 * i + j]? = some (⟨#[d]⟩ ++ ⟨#[c]⟩ ++ p) := by
  have hi : i < 3 := (Array.getElem?_eq_some_iff.mp hc).1
  have hj : j < 3 := (Array.getElem?_eq_some_iff.mp hd).1
  have h1 : i = 0 ∨ i = 1 ∨ i = 2 := by omega
  have h2 : j = 0 ∨ j = 1 ∨ j = 2 := by omega
  rcases h1 with rfl | rfl | rfl <;> rcases h2 with rfl | rfl | rfl <;> (cases hc; cases hd; rfl)
theorem bits_succ {al : Str → Bool} {p : Str} {k : Nat} : bits al p (k + 1) = bits al p k ++ if al (nm p k) then [(2 : Int) ^ (8 - k)] else [] := by
  unfold bits
  rw [List.range_succ, List.filter_append, List.map_append]
  congr 1
  cases h : al (nm p k) <;> simp [h]
theorem cellA {h h' : Heap} {c : Addr} {v : Option Value} (x : h.IsCell c v) (k : ∀ o, h.get? c = some o → h'.get? c = some o) : h'.IsCell c v := let ⟨o, e, d⟩ := x; ⟨o, k o e, d⟩
theorem nsA {h h' : Heap} {c : Addr} {m : Str → Option Value} (x : h.Ns c m) (k : ∀ o, h.get? c = some o → h'.get? c = some o) : h'.Ns c m := let ⟨o, es, ep, e, d⟩ := x; ⟨o, es, ep, k o e, d⟩
/-- between the turns of the loops -/
inductive LgO (G h : Heap) (rs : List Rule) (e : Addr) (L lp I : Nat) (i : Nat) (h' : Heap) : Prop
  | mk (G' as n m vp vn : _) (p1 : Kp G G') (p2 : Kp G' h') (p3 : (∀ b o, G'.get? b = some o → G.get? b = some o ∨ h.get? b = none)) (p4 : Kp h h') (p5 : (G'.get? L = none ∧ G'.get? (L + 1) = none ∧ G'.get? (L + 2) = none ∧ G'.get? (L + 3) = none ∧ G'.get? lp = none ∧ G'.get? I = none)) (p6 : h'.get? lp = some (listO (as.map .ref) n)) (p7 : TupsAt G' as ((rowsL (allow rs)).take i)) (p8 : h'.Ns L m) (p9 : m "rows" = some (.ref lp)) (p10 : h'.IsCell (L + 1) (some (.ref e))) (p11 : h'.IsCell (L + 2) vp) (p12 : h'.IsCell (L + 3) vn) : LgO G h rs e L lp I i h'
inductive LgM (h₅ : Heap) (pth : Str) (D Lc : Addr) (i : Nat) (h' : Heap) : Prop
  | mk (l k m : _) (p1 : l.map (·.1) = (nameL pth).take (3 * i)) (p2 : h'.get? D = some (listO (strValues l) k)) (p3 : h'.Ns Lc m) (p4 : Kp h₅ h') : LgM h₅ pth D Lc i h'
inductive LgN (h₅ : Heap) (pth : Str) (D Lc : Addr) (w : Option Value) (i : Nat) (S : Heap → Prop) (j : Nat) (h' : Heap) : Prop
  | mk (l k m : _) (p1 : l.map (·.1) = (nameL pth).take (3 * i + j)) (p2 : h'.get? D = some (listO (strValues l) k)) (p3 : h'.Ns Lc m) (p4 : m "who" = w) (p5 : Kp h₅ h') (p6 : S h') : LgN h₅ pth D Lc w i S j h'
section
variable {C : Cx} {A : Around} {h : Heap} {E : Value → Heap → Prop} {G : Heap}
theorem listing_W (hG : Gd C G) (kp : Kp G h) (r : Rm A 40) {e : Addr} {rs : List Rule} (en : EntryAt C G e rs) {Q : Value → Heap → Prop}
    (q : ∀ a h' G', Kp h h' → Grow G h G' h' → ListgAt G' a (rowsL (allow rs)) → Q (.ref a) h') : WP C A (call (.ref 143) [.ref e]) Q E h := by
  have g := hG.keeps kp
  have r' : ∀ env, Rm (A.deeper env) 39 := fun env => r.deeper
  have hh : ∀ env, (A.deeper env).handled = none := fun env => (r' env).hd
  refine W_callFnC (binds := [("entry", .ref e)]) g.nolimit (g.X 143 _ rfl) rfl rfl (codeRec_of g.X rfl) (by have := r.lim; omega) rfl rfl ?_ ?_
  · exact kindsX (binds := [("entry", .ref e)]) rfl _
  intro h₁ n₁ k₁ c₁
  have ce : h₁.IsCell (h.objs.size + 1) (some (.ref e)) := c₁ "entry" (h.objs.size + 1) rfl
  have cp : h₁.IsCell (h.objs.size + 2) none := c₁ "path" (h.objs.size + 2) rfl
  have cn : h₁.IsCell (h.objs.size + 3) none := c₁ "names" (h.objs.size + 3) rfl
  have n₁' : h₁.Ns h.objs.size (fun _ => none) := n₁
  clear n₁ c₁
  generalize hL : h.objs.size = L at *
  have zn : ∀ b, L ≤ b → h.get? b = none := fun b hb => none_of_size (hL ▸ hb)
  have zL := zn L (Nat.le_refl _)
  have z1 := zn (L + 1) (Nat.le_add_right _ _)
  have z2 := zn (L + 2) (Nat.le_add_right _ _)
  have z3 := zn (L + 3) (Nat.le_add_right _ _)
  have dL1 : L + 1 ≠ L := by first | exact oa0 (by assumption) | exact ob0 (by assumption) | exact oc0 (by assumption) | exact od0 (by assumption) | exact oe0 (by assumption) (by assumption) | exact oa1 (by assumption) | exact ob1 (by assumption) | exact oc1 (by assumption) | exact od1 (by assumption) | exact oe1 (by assumption) (by assumption) | exact oa2 (by assumption) | exact ob2 (by assumption) | exact oc2 (by assumption) | exact od2 (by assumption) | exact oe2 (by assumption) (by assumption) | exact oa3 (by assumption) | exact ob3 (by assumption) | exact oc3 (by assumption) | exact oe3 (by assumption) (by assumption) | exact of0 (by assumption) | exact of1 (by assumption) | exact og0 (by assumption) | exact og1 (by assumption) | exact og2 (by assumption) | exact og3 (by assumption) (by assumption) | exact og4 (by assumption) (by assumption) | exact oz01 _ | exact oz02 _ | exact oz03 _ | exact oz10 _ | exact oz12 _ | exact oz13 _ | exact oz20 _ | exact oz21 _ | exact oz23 _ | exact oz30 _ | exact oz31 _ | exact oz32 _ | omega
  have dL2 : L + 2 ≠ L := by first | exact oa0 (by assumption) | exact ob0 (by assumption) | exact oc0 (by assumption) | exact od0 (by assumption) | exact oe0 (by assumption) (by assumption) | exact oa1 (by assumption) | exact ob1 (by assumption) | exact oc1 (by assumption) | exact od1 (by assumption) | exact oe1 (by assumption) (by assumption) | exact oa2 (by assumption) | exact ob2 (by assumption) | exact oc2 (by assumption) | exact od2 (by assumption) | exact oe2 (by assumption) (by assumption) | exact oa3 (by assumption) | exact ob3 (by assumption) | exact oc3 (by assumption) | exact oe3 (by assumption) (by assumption) | exact of0 (by assumption) | exact of1 (by assumption) | exact og0 (by assumption) | exact og1 (by assumption) | exact og2 (by assumption) | exact og3 (by assumption) (by assumption) | exact og4 (by assumption) (by assumption) | exact oz01 _ | exact oz02 _ | exact oz03 _ | exact oz10 _ | exact oz12 _ | exact oz13 _ | exact oz20 _ | exact oz21 _ | exact oz23 _ | exact oz30 _ | exact oz31 _ | exact oz32 _ | omega
  have dL3 : L + 3 ≠ L := by first | exact oa0 (by assumption) | exact ob0 (by assumption) | exact oc0 (by assumption) | exact od0 (by assumption) | exact oe0 (by assumption) (by assumption) | exact oa1 (by assumption) | exact ob1 (by assumption) | exact oc1 (by assumption) | exact od1 (by assumption) | exact oe1 (by assumption) (by assumption) | exact oa2 (by assumption) | exact ob2 (by assumption) | exact oc2 (by assumption) | exact od2 (by assumption) | exact oe2 (by assumption) (by assumption) | exact oa3 (by assumption) | exact ob3 (by assumption) | exact oc3 (by assumption) | exact oe3 (by assumption) (by assumption) | exact of0 (by assumption) | exact of1 (by assumption) | exact og0 (by assumption) | exact og1 (by assumption) | exact og2 (by assumption) | exact og3 (by assumption) (by assumption) | exact og4 (by assumption) (by assumption) | exact oz01 _ | exact oz02 _ | exact oz03 _ | exact oz10 _ | exact oz12 _ | exact oz13 _ | exact oz20 _ | exact oz21 _ | exact oz23 _ | exact oz30 _ | exact oz31 _ | exact oz32 _ | omega
  have d12 : L + 1 ≠ L + 2 := by first | exact oa0 (by assumption) | exact ob0 (by assumption) | exact oc0 (by assumption) | exact od0 (by assumption) | exact oe0 (by assumption) (by assumption) | exact oa1 (by assumption) | exact ob1 (by assumption) | exact oc1 (by assumption) | exact od1 (by assumption) | exact oe1 (by assumption) (by assumption) | exact oa2 (by assumption) | exact ob2 (by assumption) | exact oc2 (by assumption) | exact od2 (by assumption) | exact oe2 (by assumption) (by assumption) | exact oa3 (by assumption) | exact ob3 (by assumption) | exact oc3 (by assumption) | exact oe3 (by assumption) (by assumption) | exact of0 (by assumption) | exact of1 (by assumption) | exact og0 (by assumption) | exact og1 (by assumption) | exact og2 (by assumption) | exact og3 (by assumption) (by assumption) | exact og4 (by assumption) (by assumption) | exact oz01 _ | exact oz02 _ | exact oz03 _ | exact oz10 _ | exact oz12 _ | exact oz13 _ | exact oz20 _ | exact oz21 _ | exact oz23 _ | exact oz30 _ | exact oz31 _ | exact oz32 _ | omega
  have d13 : L + 1 ≠ L + 3 := by first | exact oa0 (by assumption) | exact ob0 (by assumption) | exact oc0 (by assumption) | exact od0 (by assumption) | exact oe0 (by assumption) (by assumption) | exact oa1 (by assumption) | exact ob1 (by assumption) | exact oc1 (by assumption) | exact od1 (by assumption) | exact oe1 (by assumption) (by assumption) | exact oa2 (by assumption) | exact ob2 (by assumption) | exact oc2 (by assumption) | exact od2 (by assumption) | exact oe2 (by assumption) (by assumption) | exact oa3 (by assumption) | exact ob3 (by assumption) | exact oc3 (by assumption) | exact oe3 (by assumption) (by assumption) | exact of0 (by assumption) | exact of1 (by assumption) | exact og0 (by assumption) | exact og1 (by assumption) | exact og2 (by assumption) | exact og3 (by assumption) (by assumption) | exact og4 (by assumption) (by assumption) | exact oz01 _ | exact oz02 _ | exact oz03 _ | exact oz10 _ | exact oz12 _ | exact oz13 _ | exact oz20 _ | exact oz21 _ | exact oz23 _ | exact oz30 _ | exact oz31 _ | exact oz32 _ | omega
  have d23 : L + 2 ≠ L + 3 := by first | exact oa0 (by assumption) | exact ob0 (by assumption) | exact oc0 (by assumption) | exact od0 (by assumption) | exact oe0 (by assumption) (by assumption) | exact oa1 (by assumption) | exact ob1 (by assumption) | exact oc1 (by assumption) | exact od1 (by assumption) | exact oe1 (by assumption) (by assumption) | exact oa2 (by assumption) | exact ob2 (by assumption) | exact oc2 (by assumption) | exact od2 (by assumption) | exact oe2 (by assumption) (by assumption) | exact oa3 (by assumption) | exact ob3 (by assumption) | exact oc3 (by assumption) | exact oe3 (by assumption) (by assumption) | exact of0 (by assumption) | exact of1 (by assumption) | exact og0 (by assumption) | exact og1 (by assumption) | exact og2 (by assumption) | exact og3 (by assumption) (by assumption) | exact og4 (by assumption) (by assumption) | exact oz01 _ | exact oz02 _ | exact oz03 _ | exact oz10 _ | exact oz12 _ | exact oz13 _ | exact oz20 _ | exact oz21 _ | exact oz23 _ | exact oz30 _ | exact oz31 _ | exact oz32 _ | omega
  refine W_cons (W_Assign (W_List (W_items0 (W_newList (by simp) (W_store (n₁'.push _) fun h₂ n₂ s₂ => ?_)))))
  have lc3 : L + 3 < h₁.objs.size := let ⟨o, e, _⟩ := cn; Heap.lt_size e
  have p₂ : h₂.get? h₁.objs.size = some (listO []) := (s₂.2 _ (show h₁.objs.size ≠ L by first | exact oa0 (by assumption) | exact ob0 (by assumption) | exact oc0 (by assumption) | exact od0 (by assumption) | exact oe0 (by assumption) (by assumption) | exact oa1 (by assumption) | exact ob1 (by assumption) | exact oc1 (by assumption) | exact od1 (by assumption) | exact oe1 (by assumption) (by assumption) | exact oa2 (by assumption) | exact ob2 (by assumption) | exact oc2 (by assumption) | exact od2 (by assumption) | exact oe2 (by assumption) (by assumption) | exact oa3 (by assumption) | exact ob3 (by assumption) | exact oc3 (by assumption) | exact oe3 (by assumption) (by assumption) | exact of0 (by assumption) | exact of1 (by assumption) | exact og0 (by assumption) | exact og1 (by assumption) | exact og2 (by assumption) | exact og3 (by assumption) (by assumption) | exact og4 (by assumption) (by assumption) | exact oz01 _ | exact oz02 _ | exact oz03 _ | exact oz10 _ | exact oz12 _ | exact oz13 _ | exact oz20 _ | exact oz21 _ | exact oz23 _ | exact oz30 _ | exact oz31 _ | exact oz32 _ | omega)).trans (Heap.get?_push_size _ rfl)
  have k₂ : Kp h h₂ := (k₁.push _).same s₂ zL
  have ce₂ := cellA ce fun o x => (s₂.2 _ dL1).trans (Heap.get?_push_of_some (listO []) x)
  have cp₂ := cellA cp fun o x => (s₂.2 _ dL2).trans (Heap.get?_push_of_some (listO []) x)
  have cn₂ := cellA cn fun o x => (s₂.2 _ dL3).trans (Heap.get?_push_of_some (listO []) x)
  generalize hlp : h₁.objs.size = lp at *
  have zp := zn lp (by first | exact oa0 (by assumption) | exact ob0 (by assumption) | exact oc0 (by assumption) | exact od0 (by assumption) | exact oe0 (by assumption) (by assumption) | exact oa1 (by assumption) | exact ob1 (by assumption) | exact oc1 (by assumption) | exact od1 (by assumption) | exact oe1 (by assumption) (by assumption) | exact oa2 (by assumption) | exact ob2 (by assumption) | exact oc2 (by assumption) | exact od2 (by assumption) | exact oe2 (by assumption) (by assumption) | exact oa3 (by assumption) | exact ob3 (by assumption) | exact oc3 (by assumption) | exact oe3 (by assumption) (by assumption) | exact of0 (by assumption) | exact of1 (by assumption) | exact og0 (by assumption) | exact og1 (by assumption) | exact og2 (by assumption) | exact og3 (by assumption) (by assumption) | exact og4 (by assumption) (by assumption) | exact oz01 _ | exact oz02 _ | exact oz03 _ | exact oz10 _ | exact oz12 _ | exact oz13 _ | exact oz20 _ | exact oz21 _ | exact oz23 _ | exact oz30 _ | exact oz31 _ | exact oz32 _ | omega)
  refine W_cons (W_For (W_List (W_items (W_str fun ta => W_items (W_str fun tb => W_items (W_str fun tc => W_items0 (W_newList (by simp) ?_)))))))
  have hps : (h₂.push (listO [.str "/a" ta, .str "/a/b" tb, .str "/b" tc])).get? h₂.objs.size = some _ := Heap.get?_push_size _ rfl
  refine walk_list' (vs := [.str "/a" ta, .str "/a/b" tb, .str "/b" tc]) (hh _) (isList_of hps) fun St h₃ w => ?_
  have sz2 : (h₂.push (listO [.str "/a" ta, .str "/a/b" tb, .str "/b" tc])).objs.size = h₂.objs.size + 1 := Heap.size_push _ _
  rw [sz2] at w ⊢
  have k₃ : Kp h₂ h₃ := ((Kp.refl h₂).push _).trans w.kp
  have lp2 : lp < h₂.objs.size := Heap.lt_size p₂
  have l3h : L + 3 < h₂.objs.size := Nat.lt_trans lc3 lp2
  have gz : ∀ {b}, h.get? b = none → G.get? b = none := fun hb => kp.off hb
  have zI := zn (h₂.objs.size + 1) (by first | exact oa0 (by assumption) | exact ob0 (by assumption) | exact oc0 (by assumption) | exact od0 (by assumption) | exact oe0 (by assumption) (by assumption) | exact oa1 (by assumption) | exact ob1 (by assumption) | exact oc1 (by assumption) | exact od1 (by assumption) | exact oe1 (by assumption) (by assumption) | exact oa2 (by assumption) | exact ob2 (by assumption) | exact oc2 (by assumption) | exact od2 (by assumption) | exact oe2 (by assumption) (by assumption) | exact oa3 (by assumption) | exact ob3 (by assumption) | exact oc3 (by assumption) | exact oe3 (by assumption) (by assumption) | exact of0 (by assumption) | exact of1 (by assumption) | exact og0 (by assumption) | exact og1 (by assumption) | exact og2 (by assumption) | exact og3 (by assumption) (by assumption) | exact og4 (by assumption) (by assumption) | exact oz01 _ | exact oz02 _ | exact oz03 _ | exact oz10 _ | exact oz12 _ | exact oz13 _ | exact oz20 _ | exact oz21 _ | exact oz23 _ | exact oz30 _ | exact oz31 _ | exact oz32 _ | omega)
  have nfp : ∀ {b : Nat}, b < h₂.objs.size → b ∉ [h₂.objs.size + 1, h₂.objs.size] := fun hb x => by
    simp only [List.mem_cons, List.not_mem_nil, or_false] at x
    rcases x with x | x <;> (have y : @Eq Nat _ _ := x; omega)
  obtain ⟨de, od, sl, lr, nr, lu, as0, he', hde', hlr, hal, _, _, _, _, _, _⟩ := id en
  refine C_forW w (LgO G h rs e L lp (h₂.objs.size + 1))
    ⟨G, [], 0, _, _, _, Kp.refl _, kp.trans (k₂.trans k₃), fun b o e => .inl e, k₂.trans k₃, ⟨gz zL, gz z1, gz z2, gz z3, gz zp, gz zI⟩, k₃ _ _ p₂, .nil, n₂.keeps k₃, upd_eq, cellA ce₂ fun o => k₃ _ o, cellA cp₂ fun o => k₃ _ o, cellA cn₂ fun o => k₃ _ o⟩ ?_ ?_
  · rintro i v h' h₄ hi ⟨G', as, n, m, vp, vn, kG, kG', new, kh, ⟨oL, o1, o2, o3, op, oI⟩, el, tups, nL, mr, ce', cp', cn'⟩ p st st' kw
    obtain ⟨pth, tp, rfl, epth⟩ : ∃ pth t, v = .str pth t ∧ paths[i]? = some pth := by
      have h3 : i = 0 ∨ i = 1 ∨ i = 2 := by have : i < 3 := hi; omega
      rcases h3 with rfl | rfl | rfl <;> (cases p; exact ⟨_, _, rfl, rfl⟩)
    have kwI : ∀ {b : Nat} {o}, b ≠ h₂.objs.size + 1 → h'.get? b = some o → h₄.get? b = some o := fun hb e => kw _ _ (by simpa using hb) e
    refine W_aName (W_storeC rfl (cellA cp' fun o => kwI (by first | exact oa0 (by assumption) | exact ob0 (by assumption) | exact oc0 (by assumption) | exact od0 (by assumption) | exact oe0 (by assumption) (by assumption) | exact oa1 (by assumption) | exact ob1 (by assumption) | exact oc1 (by assumption) | exact od1 (by assumption) | exact oe1 (by assumption) (by assumption) | exact oa2 (by assumption) | exact ob2 (by assumption) | exact oc2 (by assumption) | exact od2 (by assumption) | exact oe2 (by assumption) (by assumption) | exact oa3 (by assumption) | exact ob3 (by assumption) | exact oc3 (by assumption) | exact oe3 (by assumption) (by assumption) | exact of0 (by assumption) | exact of1 (by assumption) | exact og0 (by assumption) | exact og1 (by assumption) | exact og2 (by assumption) | exact og3 (by assumption) (by assumption) | exact og4 (by assumption) (by assumption) | exact oz01 _ | exact oz02 _ | exact oz03 _ | exact oz10 _ | exact oz12 _ | exact oz13 _ | exact oz20 _ | exact oz21 _ | exact oz23 _ | exact oz30 _ | exact oz31 _ | exact oz32 _ | omega)) fun h₅ cp₅ s₅ => WP.gen fun Qi kQi => ?_)
    have ce₅ := cellA ce' fun o x => (s₅.2 _ d12).trans (kwI (by first | exact oa0 (by assumption) | exact ob0 (by assumption) | exact oc0 (by assumption) | exact od0 (by assumption) | exact oe0 (by assumption) (by assumption) | exact oa1 (by assumption) | exact ob1 (by assumption) | exact oc1 (by assumption) | exact od1 (by assumption) | exact oe1 (by assumption) (by assumption) | exact oa2 (by assumption) | exact ob2 (by assumption) | exact oc2 (by assumption) | exact od2 (by assumption) | exact oe2 (by assumption) (by assumption) | exact oa3 (by assumption) | exact ob3 (by assumption) | exact oc3 (by assumption) | exact oe3 (by assumption) (by assumption) | exact of0 (by assumption) | exact of1 (by assumption) | exact og0 (by assumption) | exact og1 (by assumption) | exact og2 (by assumption) | exact og3 (by assumption) (by assumption) | exact og4 (by assumption) (by assumption) | exact oz01 _ | exact oz02 _ | exact oz03 _ | exact oz10 _ | exact oz12 _ | exact oz13 _ | exact oz20 _ | exact oz21 _ | exact oz23 _ | exact oz30 _ | exact oz31 _ | exact oz32 _ | omega) x)
    have cn₅ := cellA cn' fun o x => (s₅.2 _ (Ne.symm d23)).trans (kwI (by first | exact oa0 (by assumption) | exact ob0 (by assumption) | exact oc0 (by assumption) | exact od0 (by assumption) | exact oe0 (by assumption) (by assumption) | exact oa1 (by assumption) | exact ob1 (by assumption) | exact oc1 (by assumption) | exact od1 (by assumption) | exact oe1 (by assumption) (by assumption) | exact oa2 (by assumption) | exact ob2 (by assumption) | exact oc2 (by assumption) | exact od2 (by assumption) | exact oe2 (by assumption) (by assumption) | exact oa3 (by assumption) | exact ob3 (by assumption) | exact oc3 (by assumption) | exact oe3 (by assumption) (by assumption) | exact of0 (by assumption) | exact of1 (by assumption) | exact og0 (by assumption) | exact og1 (by assumption) | exact og2 (by assumption) | exact og3 (by assumption) (by assumption) | exact og4 (by assumption) (by assumption) | exact oz01 _ | exact oz02 _ | exact oz03 _ | exact oz10 _ | exact oz12 _ | exact oz13 _ | exact oz20 _ | exact oz21 _ | exact oz23 _ | exact oz30 _ | exact oz31 _ | exact oz32 _ | omega) x)
    have n₅ := nsA nL fun o x => (s₅.2 _ (Ne.symm dL2)).trans (kwI (by first | exact oa0 (by assumption) | exact ob0 (by assumption) | exact oc0 (by assumption) | exact od0 (by assumption) | exact oe0 (by assumption) (by assumption) | exact oa1 (by assumption) | exact ob1 (by assumption) | exact oc1 (by assumption) | exact od1 (by assumption) | exact oe1 (by assumption) (by assumption) | exact oa2 (by assumption) | exact ob2 (by assumption) | exact oc2 (by assumption) | exact od2 (by assumption) | exact oe2 (by assumption) (by assumption) | exact oa3 (by assumption) | exact ob3 (by assumption) | exact oc3 (by assumption) | exact oe3 (by assumption) (by assumption) | exact of0 (by assumption) | exact of1 (by assumption) | exact og0 (by assumption) | exact og1 (by assumption) | exact og2 (by assumption) | exact og3 (by assumption) (by assumption) | exact og4 (by assumption) (by assumption) | exact oz01 _ | exact oz02 _ | exact oz03 _ | exact oz10 _ | exact oz12 _ | exact oz13 _ | exact oz20 _ | exact oz21 _ | exact oz23 _ | exact oz30 _ | exact oz31 _ | exact oz32 _ | omega) x)
    have e₅ : h₅.get? lp = _ := (s₅.2 _ (show lp ≠ L + 2 by first | exact oa0 (by assumption) | exact ob0 (by assumption) | exact oc0 (by assumption) | exact od0 (by assumption) | exact oe0 (by assumption) (by assumption) | exact oa1 (by assumption) | exact ob1 (by assumption) | exact oc1 (by assumption) | exact od1 (by assumption) | exact oe1 (by assumption) (by assumption) | exact oa2 (by assumption) | exact ob2 (by assumption) | exact oc2 (by assumption) | exact od2 (by assumption) | exact oe2 (by assumption) (by assumption) | exact oa3 (by assumption) | exact ob3 (by assumption) | exact oc3 (by assumption) | exact oe3 (by assumption) (by assumption) | exact of0 (by assumption) | exact of1 (by assumption) | exact og0 (by assumption) | exact og1 (by assumption) | exact og2 (by assumption) | exact og3 (by assumption) (by assumption) | exact og4 (by assumption) (by assumption) | exact oz01 _ | exact oz02 _ | exact oz03 _ | exact oz10 _ | exact oz12 _ | exact oz13 _ | exact oz20 _ | exact oz21 _ | exact oz23 _ | exact oz30 _ | exact oz31 _ | exact oz32 _ | omega)).trans (kwI (by first | exact oa0 (by assumption) | exact ob0 (by assumption) | exact oc0 (by assumption) | exact od0 (by assumption) | exact oe0 (by assumption) (by assumption) | exact oa1 (by assumption) | exact ob1 (by assumption) | exact oc1 (by assumption) | exact od1 (by assumption) | exact oe1 (by assumption) (by assumption) | exact oa2 (by assumption) | exact ob2 (by assumption) | exact oc2 (by assumption) | exact od2 (by assumption) | exact oe2 (by assumption) (by assumption) | exact oa3 (by assumption) | exact ob3 (by assumption) | exact oc3 (by assumption) | exact oe3 (by assumption) (by assumption) | exact of0 (by assumption) | exact of1 (by assumption) | exact og0 (by assumption) | exact og1 (by assumption) | exact og2 (by assumption) | exact og3 (by assumption) (by assumption) | exact og4 (by assumption) (by assumption) | exact oz01 _ | exact oz02 _ | exact oz03 _ | exact oz10 _ | exact oz12 _ | exact oz13 _ | exact oz20 _ | exact oz21 _ | exact oz23 _ | exact oz30 _ | exact oz31 _ | exact oz32 _ | omega) el)
    have kG₅ : Kp G' h₅ := fun b o x => (s₅.2 b (fun z => by rw [z, o2] at x; cases x)).trans (kwI (fun z => by have z' : b = h₂.objs.size + 1 := z; rw [z', oI] at x; cases x) (kG' b o x))
    have kh₅ : Kp h h₅ := fun b o x => (s₅.2 b (fun z => by rw [z, z2] at x; cases x)).trans (kwI (fun z => by have z' : b = h₂.objs.size + 1 := z; rw [z', zI] at x; cases x) (kh b o x))
    have st₅ : St (i + 1) h₅ := w.W.frame _ _ _ st' fun b hb o x => (s₅.2 b (fun z => nfp (show L + 2 < h₂.objs.size by first | exact oa0 (by assumption) | exact ob0 (by assumption) | exact oc0 (by assumption) | exact od0 (by assumption) | exact oe0 (by assumption) (by assumption) | exact oa1 (by assumption) | exact ob1 (by assumption) | exact oc1 (by assumption) | exact od1 (by assumption) | exact oe1 (by assumption) (by assumption) | exact oa2 (by assumption) | exact ob2 (by assumption) | exact oc2 (by assumption) | exact od2 (by assumption) | exact oe2 (by assumption) (by assumption) | exact oa3 (by assumption) | exact ob3 (by assumption) | exact oc3 (by assumption) | exact oe3 (by assumption) (by assumption) | exact of0 (by assumption) | exact of1 (by assumption) | exact og0 (by assumption) | exact og1 (by assumption) | exact og2 (by assumption) | exact og3 (by assumption) (by assumption) | exact og4 (by assumption) (by assumption) | exact oz01 _ | exact oz02 _ | exact oz03 _ | exact oz10 _ | exact oz12 _ | exact oz13 _ | exact oz20 _ | exact oz21 _ | exact oz23 _ | exact oz30 _ | exact oz31 _ | exact oz32 _ | omega) (z ▸ hb))).trans x
    have plen : pth.length ≤ 4 := by
      have h3 : i = 0 ∨ i = 1 ∨ i = 2 := by have : i < 3 := hi; omega
      rcases h3 with rfl | rfl | rfl <;> (cases epth; decide)
    refine W_cons (W_Assign (W_ListComp (cl := [("path", L + 2)]) rfl (W_str fun tu => ⟨_, _, walk_str (hh _), fun I₁ fp₁ wr₁ St₁ h₆ D Lc h₇ w₁ k67 k56 hfp eD eL hD hLc => ?_⟩)))
    have eD : @Eq Nat D h₆.objs.size := eD
    have eL : @Eq Nat Lc (h₆.objs.size + 1) := eL
    have D5 : h₅.get? D = none := k56.off (none_of_size (show @LE.le Nat _ h₆.objs.size D by first | exact oa0 (by assumption) | exact ob0 (by assumption) | exact oc0 (by assumption) | exact od0 (by assumption) | exact oe0 (by assumption) (by assumption) | exact oa1 (by assumption) | exact ob1 (by assumption) | exact oc1 (by assumption) | exact od1 (by assumption) | exact oe1 (by assumption) (by assumption) | exact oa2 (by assumption) | exact ob2 (by assumption) | exact oc2 (by assumption) | exact od2 (by assumption) | exact oe2 (by assumption) (by assumption) | exact oa3 (by assumption) | exact ob3 (by assumption) | exact oc3 (by assumption) | exact oe3 (by assumption) (by assumption) | exact of0 (by assumption) | exact of1 (by assumption) | exact og0 (by assumption) | exact og1 (by assumption) | exact og2 (by assumption) | exact og3 (by assumption) (by assumption) | exact og4 (by assumption) (by assumption) | exact oz01 _ | exact oz02 _ | exact oz03 _ | exact oz10 _ | exact oz12 _ | exact oz13 _ | exact oz20 _ | exact oz21 _ | exact oz23 _ | exact oz30 _ | exact oz31 _ | exact oz32 _ | omega))
    have L5 : h₅.get? Lc = none := k56.off (none_of_size (show @LE.le Nat _ h₆.objs.size Lc by first | exact oa0 (by assumption) | exact ob0 (by assumption) | exact oc0 (by assumption) | exact od0 (by assumption) | exact oe0 (by assumption) (by assumption) | exact oa1 (by assumption) | exact ob1 (by assumption) | exact oc1 (by assumption) | exact od1 (by assumption) | exact oe1 (by assumption) (by assumption) | exact oa2 (by assumption) | exact ob2 (by assumption) | exact oc2 (by assumption) | exact od2 (by assumption) | exact oe2 (by assumption) (by assumption) | exact oa3 (by assumption) | exact ob3 (by assumption) | exact oc3 (by assumption) | exact oe3 (by assumption) (by assumption) | exact of0 (by assumption) | exact of1 (by assumption) | exact og0 (by assumption) | exact og1 (by assumption) | exact og2 (by assumption) | exact og3 (by assumption) (by assumption) | exact og4 (by assumption) (by assumption) | exact oz01 _ | exact oz02 _ | exact oz03 _ | exact oz10 _ | exact oz12 _ | exact oz13 _ | exact oz20 _ | exact oz21 _ | exact oz23 _ | exact oz30 _ | exact oz31 _ | exact oz32 _ | omega))
    have DL : @Ne Nat D Lc := by first | exact oa0 (by assumption) | exact ob0 (by assumption) | exact oc0 (by assumption) | exact od0 (by assumption) | exact oe0 (by assumption) (by assumption) | exact oa1 (by assumption) | exact ob1 (by assumption) | exact oc1 (by assumption) | exact od1 (by assumption) | exact oe1 (by assumption) (by assumption) | exact oa2 (by assumption) | exact ob2 (by assumption) | exact oc2 (by assumption) | exact od2 (by assumption) | exact oe2 (by assumption) (by assumption) | exact oa3 (by assumption) | exact ob3 (by assumption) | exact oc3 (by assumption) | exact oe3 (by assumption) (by assumption) | exact of0 (by assumption) | exact of1 (by assumption) | exact og0 (by assumption) | exact og1 (by assumption) | exact og2 (by assumption) | exact og3 (by assumption) (by assumption) | exact og4 (by assumption) (by assumption) | exact oz01 _ | exact oz02 _ | exact oz03 _ | exact oz10 _ | exact oz12 _ | exact oz13 _ | exact oz20 _ | exact oz21 _ | exact oz23 _ | exact oz30 _ | exact oz31 _ | exact oz32 _ | omega
    have nD : D ∉ fp₁ := fun x => by have z : @LT.lt Nat _ D h₆.objs.size := hfp _ x; omega
    have nLc : Lc ∉ fp₁ := fun x => by have z : @LT.lt Nat _ Lc h₆.objs.size := hfp _ x; omega
    refine C_comp2 w₁ (LgM h₅ pth D Lc) ⟨[], 0, _, rfl, hD, hLc, w₁.kp⟩ ?_ ?_
    · rintro i v ha hb hi ⟨l, k, m, hl, eD', nLc', ka⟩ ⟨c, u, hc, rfl⟩ st st' kw
      have wD : D ∉ wr₁ := fun x => nD (w₁.W.sub _ x)
      have wL : Lc ∉ wr₁ := fun x => nLc (w₁.W.sub _ x)
      refine W_aName (W_store (nsA nLc' fun o => kw _ o wL) fun hc_ nc sc => ?_)
      have sc : Heap.SameBut Lc hb hc_ := sc
      have nc : hc_.Ns Lc _ := nc
      have Dc : hc_.get? D = _ := (sc.2 _ DL).trans (kw _ _ wD eD')
      have kc : Kp h₅ hc_ := fun b o x => (sc.2 b (fun z => by rw [z, L5] at x; cases x)).trans (kw b o (fun z => by rw [w₁.nw b z] at x; cases x) (ka b o x))
      have stc : St₁ (i + 1) hc_ := w₁.W.frame _ _ _ st' fun b hb o x => (sc.2 b (fun z => nLc (z ▸ hb))).trans x
      refine W_str fun tr => walk_str' (hh _) fun St₂ hd w₂ => W_compStart w₂ (C_comp1 w₂ (LgN h₅ pth D Lc (some (.str ⟨#[c]⟩ u)) i (St₁ (i + 1))) ?_ ?_ ?_)
      · refine ⟨l, k, _, by simpa using hl, w₂.kp _ _ Dc, nc.keeps w₂.kp, upd_eq, kc.trans w₂.kp, w₁.W.frame _ _ _ stc fun b hb o x => w₂.kp b o x⟩
      · rintro j v hx hy hj ⟨l, k, m, hl, Dx, nx, mw, kx, sx⟩ ⟨d, ud, hd', rfl⟩ stx sty kwy
        have cD : @Ne Nat D hc_.objs.size := Nat.ne_of_lt (Heap.lt_size Dc)
        have cL : @Ne Nat Lc hc_.objs.size := Nat.ne_of_lt nc.lt
        have kwy' : ∀ {b : Nat} {o}, b ≠ hc_.objs.size → hx.get? b = some o → hy.get? b = some o := fun hb e => kwy _ _ (by simpa using hb) e
        have cc : h₅.get? hc_.objs.size = none := kc.off (none_of_size (Nat.le_refl _))
        have cf : hc_.objs.size ∉ fp₁ := fun x => by
          have z1 : @LT.lt Nat _ hc_.objs.size h₆.objs.size := hfp _ x
          have z2 : @LT.lt Nat _ Lc hc_.objs.size := nc.lt
          omega
        refine W_aName (W_store (nsA nx fun o => kwy' cL) fun hz nz sz => ?_)
        have sz : Heap.SameBut Lc hy hz := sz
        have nz : hz.Ns Lc _ := nz
        have Dz : hz.get? D = _ := (sz.2 _ DL).trans (kwy' cD Dx)
        have kz : Kp h₅ hz := fun b o x => (sz.2 b (fun z => by rw [z, L5] at x; cases x)).trans (kwy' (fun z => by have z' : b = hc_.objs.size := z; rw [z', cc] at x; cases x) (kx b o x))
        have hsl : l.length ≤ 9 := by
          have := congrArg List.length hl
          have e9 : (nameL pth).length = 9 := rfl
          simp at this; omega
        refine W_tests0 (W_BinOp (W_BinOp (W_local nz upd_eq (W_local nz (upd_ne mw) (W_addStr (by rw [sizeLine_eq]; show 1 + 1 ≤ _; decide) fun t1 => W_cell rfl (cellA cp₅ fun o => kz _ o) (W_addStr (by rw [sizeLine_eq, Str.length_append]; show 1 + 1 + pth.length ≤ _; omega) fun t2 => W_append Dz (by simp [strValues]; omega) fun hw kk Dw sw => ?_))))))
        refine ⟨w₂.W.frame _ _ _ sty fun b hb o x => ?_, l ++ [(⟨#[d]⟩ ++ ⟨#[c]⟩ ++ pth, t2)], kk, _, ?_, ?_, nz.sameBut sw (Ne.symm DL), upd_ne mw, kz.same sw D5, w₁.W.frame _ _ _ sx fun b hb o x => ?_⟩
        · simp only [List.mem_cons, List.not_mem_nil, or_false] at hb
          subst hb
          exact (sw.2 _ (Ne.symm cD)).trans ((sz.2 _ (Ne.symm cL)).trans x)
        · rw [← Nat.add_assoc, List.take_add_one, name_at hc hd', List.map_append, hl]; rfl
        · rw [Dw]; simp [strValues]
        · exact (sw.2 _ fun z => nD (z ▸ hb)).trans ((sz.2 _ fun z => nLc (z ▸ hb)).trans (kwy' (fun z => cf (z ▸ hb)) x))
      · rintro hx hy ⟨l, k, m, hl, Dx, nx, mw, kx, sx⟩ stx kwy
        have cD : @Ne Nat D hc_.objs.size := Nat.ne_of_lt (Heap.lt_size Dc)
        have cL : @Ne Nat Lc hc_.objs.size := Nat.ne_of_lt nc.lt
        have kwy' : ∀ {b : Nat} {o}, b ≠ hc_.objs.size → hx.get? b = some o → hy.get? b = some o := fun hb e => kwy _ _ (by simpa using hb) e
        have cc : h₅.get? hc_.objs.size = none := kc.off (none_of_size (Nat.le_refl _))
        have cf : hc_.objs.size ∉ fp₁ := fun x => by
          have z1 : @LT.lt Nat _ hc_.objs.size h₆.objs.size := hfp _ x
          have z2 : @LT.lt Nat _ Lc hc_.objs.size := nc.lt
          omega
        exact ⟨w₁.W.frame _ _ _ sx fun b hb o x => kwy' (fun z => cf (z ▸ hb)) x, l, k, m, hl, kwy' cD Dx, nsA nx fun o => kwy' cL, fun b o x => kwy' (fun z => by have z' : b = hc_.objs.size := z; rw [z', cc] at x; cases x) (kx b o x)⟩
    · rintro ha hb ⟨l, k, m, hl, eD', nLc', ka⟩ st kw
      have wD : D ∉ wr₁ := fun x => nD (w₁.W.sub _ x)
      have wL : Lc ∉ wr₁ := fun x => nLc (w₁.W.sub _ x)
      have kb : Kp h₅ hb := fun b o x => kw b o (fun z => by rw [w₁.nw b z] at x; cases x) (ka b o x)
      refine ⟨⟨_, rfl⟩, ⟨m, nsA nLc' fun o => kw _ o wL⟩, fun h₈ s₈ => ?_⟩
      have D8 : h₈.get? D = _ := (s₈.2 _ DL).trans (kw _ _ wD eD')
      have k₈ : Kp h₅ h₈ := kb.same s₈ L5
      have hl : l.map (·.1) = nameL pth := hl
      clear st kw wD wL
      refine W_storeC rfl (cellA cn₅ fun o => k₈ _ o) fun h₉ cn₉ s₉ => ?_
      have s₉ : Heap.SameBut (L + 3) h₈ h₉ := s₉
      have D9 : h₉.get? D = _ := (s₉.2 _ (fun z => by have z' : D = L + 3 := z; obtain ⟨o, x, _⟩ := cn₅; rw [z', x] at D5; cases D5)).trans D8
      have up9 : ∀ {b : Nat} {o}, b ≠ L + 3 → h₅.get? b = some o → h₉.get? b = some o := fun hb x => (s₉.2 _ hb).trans (k₈ _ _ x)
      have n₉ := nsA n₅ fun o => up9 (show L ≠ L + 3 by first | exact oa0 (by assumption) | exact ob0 (by assumption) | exact oc0 (by assumption) | exact od0 (by assumption) | exact oe0 (by assumption) (by assumption) | exact oa1 (by assumption) | exact ob1 (by assumption) | exact oc1 (by assumption) | exact od1 (by assumption) | exact oe1 (by assumption) (by assumption) | exact oa2 (by assumption) | exact ob2 (by assumption) | exact oc2 (by assumption) | exact od2 (by assumption) | exact oe2 (by assumption) (by assumption) | exact oa3 (by assumption) | exact ob3 (by assumption) | exact oc3 (by assumption) | exact oe3 (by assumption) (by assumption) | exact of0 (by assumption) | exact of1 (by assumption) | exact og0 (by assumption) | exact og1 (by assumption) | exact og2 (by assumption) | exact og3 (by assumption) (by assumption) | exact og4 (by assumption) (by assumption) | exact oz01 _ | exact oz02 _ | exact oz03 _ | exact oz10 _ | exact oz12 _ | exact oz13 _ | exact oz20 _ | exact oz21 _ | exact oz23 _ | exact oz30 _ | exact oz31 _ | exact oz32 _ | omega)
      have ce₉ := cellA ce₅ fun o => up9 d13
      have cp₉ := cellA cp₅ fun o => up9 d23
      have e₉ := up9 (show lp ≠ L + 3 by first | exact oa0 (by assumption) | exact ob0 (by assumption) | exact oc0 (by assumption) | exact od0 (by assumption) | exact oe0 (by assumption) (by assumption) | exact oa1 (by assumption) | exact ob1 (by assumption) | exact oc1 (by assumption) | exact od1 (by assumption) | exact oe1 (by assumption) (by assumption) | exact oa2 (by assumption) | exact ob2 (by assumption) | exact oc2 (by assumption) | exact od2 (by assumption) | exact oe2 (by assumption) (by assumption) | exact oa3 (by assumption) | exact ob3 (by assumption) | exact oc3 (by assumption) | exact oe3 (by assumption) (by assumption) | exact of0 (by assumption) | exact of1 (by assumption) | exact og0 (by assumption) | exact og1 (by assumption) | exact og2 (by assumption) | exact og3 (by assumption) (by assumption) | exact og4 (by assumption) (by assumption) | exact oz01 _ | exact oz02 _ | exact oz03 _ | exact oz10 _ | exact oz12 _ | exact oz13 _ | exact oz20 _ | exact oz21 _ | exact oz23 _ | exact oz30 _ | exact oz31 _ | exact oz32 _ | omega) e₅
      have kG₉ : Kp G' h₉ := (kG₅.trans k₈).same s₉ o3
      have kh₉ : Kp h h₉ := (kh₅.trans k₈).same s₉ z3
      have st₉ : St (i + 1) h₉ := w.W.frame _ _ _ st₅ fun b hb o x => up9 (fun z => nfp (show L + 3 < h₂.objs.size by first | exact oa0 (by assumption) | exact ob0 (by assumption) | exact oc0 (by assumption) | exact od0 (by assumption) | exact oe0 (by assumption) (by assumption) | exact oa1 (by assumption) | exact ob1 (by assumption) | exact oc1 (by assumption) | exact od1 (by assumption) | exact oe1 (by assumption) (by assumption) | exact oa2 (by assumption) | exact ob2 (by assumption) | exact oc2 (by assumption) | exact od2 (by assumption) | exact oe2 (by assumption) (by assumption) | exact oa3 (by assumption) | exact ob3 (by assumption) | exact oc3 (by assumption) | exact oe3 (by assumption) (by assumption) | exact of0 (by assumption) | exact of1 (by assumption) | exact og0 (by assumption) | exact og1 (by assumption) | exact og2 (by assumption) | exact og3 (by assumption) (by assumption) | exact og4 (by assumption) (by assumption) | exact oz01 _ | exact oz02 _ | exact oz03 _ | exact oz10 _ | exact oz12 _ | exact oz13 _ | exact oz20 _ | exact oz21 _ | exact oz23 _ | exact oz30 _ | exact oz31 _ | exact oz32 _ | omega) (z ▸ hb)) x
      have gG' := hG.keeps kG
      have g₉ := gG'.keeps kG₉
      refine W_cons (W_Expr (W_Meth (W_local n₉ mr fun pl => W_methAppend e₉ (W_with (W_items (W_Tuple (W_items (W_Call (W_global g₉ rfl (W_with (W_items (W_BinOp (W_global g₉ rfl (W_Call (W_builtin g₉ rfl boot_sum (W_with (W_items ?_)))))))))))))))))
      refine W_comp (cl := [("names", L + 3), ("entry", L + 1)]) rfl (W_Call (W_builtin g₉ rfl boot_range (W_with (W_items (W_int fun t9 => W_items0 ⟨Kept.type, W_range fun ra t1 t2 t3 hA kA hr => ?_⟩)))))
      refine ⟨9, _, walk_range (hh _) hr (by decide) (by decide), by decide, G', fun i ys _ => ∃ xs : List (Int × Tok), ys = xs.map (fun p => .int p.1 p.2) ∧ xs.map (·.1) = bits (allow rs) pth i, kG₉.trans kA, ⟨[], rfl, rfl⟩, ?_, ?_⟩
      · rintro Lk k v ys G2 hB m2 hk ⟨tk, rfl⟩ ⟨xs, rfl, hxs⟩ kG2 kGB kAB oA gLk nB
        refine W_aName (W_store nB fun hC nC sC => ?_)
        have sC : Heap.SameBut Lk hB hC := sC
        have nC : hC.Ns Lk _ := nC
        have kC : Kp G' hC := (kG2.trans kGB).same sC (kG2.off gLk)
        have k2C : Kp G2 hC := kGB.same sC gLk
        have k9C : Kp h₉ hC := kA.trans (kAB.same sC oA)
        have gC := gG'.keeps kC
        obtain ⟨tn, eln⟩ : ∃ t, l[k]? = some (nm pth k, t) := by
          have e1 : (l.map (·.1))[k]? = (nameL pth)[k]? := by rw [hl]
          have e2 : k < (nameL pth).length := hk
          have e3 : (nameL pth)[k]? = some (nm pth k) := by unfold nm; rw [List.getElem?_eq_getElem e2]; rfl
          rw [e3, List.getElem?_map] at e1
          cases e4 : l[k]? with
          | none => rw [e4] at e1; cases e1
          | some x => rw [e4] at e1; exact ⟨x.2, by rw [← Option.some.inj e1]⟩
        refine W_tests1 (W_tplain (W_Meth (W_cell rfl (cellA ce₉ fun o => k9C _ o) fun pl => W_methFn gC ((kG.trans kC) _ _ he') ((kG.trans kC) _ _ hde') hal (W_with (W_items (W_Sub (W_cell rfl (cellA cn₉ fun o => k9C _ o) (W_local nC upd_eq (W_subList (isList_of (k9C _ _ D9)) (by first | exact oa0 (by assumption) | exact ob0 (by assumption) | exact oc0 (by assumption) | exact od0 (by assumption) | exact oe0 (by assumption) (by assumption) | exact oa1 (by assumption) | exact ob1 (by assumption) | exact oc1 (by assumption) | exact od1 (by assumption) | exact oe1 (by assumption) (by assumption) | exact oa2 (by assumption) | exact ob2 (by assumption) | exact oc2 (by assumption) | exact od2 (by assumption) | exact oe2 (by assumption) (by assumption) | exact oa3 (by assumption) | exact ob3 (by assumption) | exact oc3 (by assumption) | exact oe3 (by assumption) (by assumption) | exact of0 (by assumption) | exact of1 (by assumption) | exact og0 (by assumption) | exact og1 (by assumption) | exact og2 (by assumption) | exact og3 (by assumption) (by assumption) | exact og4 (by assumption) (by assumption) | exact oz01 _ | exact oz02 _ | exact oz03 _ | exact oz10 _ | exact oz12 _ | exact oz13 _ | exact oz20 _ | exact oz21 _ | exact oz23 _ | exact oz30 _ | exact oz31 _ | exact oz32 _ | omega) (by first | exact oa0 (by assumption) | exact ob0 (by assumption) | exact oc0 (by assumption) | exact od0 (by assumption) | exact oe0 (by assumption) (by assumption) | exact oa1 (by assumption) | exact ob1 (by assumption) | exact oc1 (by assumption) | exact od1 (by assumption) | exact oe1 (by assumption) (by assumption) | exact oa2 (by assumption) | exact ob2 (by assumption) | exact oc2 (by assumption) | exact od2 (by assumption) | exact oe2 (by assumption) (by assumption) | exact oa3 (by assumption) | exact ob3 (by assumption) | exact oc3 (by assumption) | exact oe3 (by assumption) (by assumption) | exact of0 (by assumption) | exact of1 (by assumption) | exact og0 (by assumption) | exact og1 (by assumption) | exact og2 (by assumption) | exact og3 (by assumption) (by assumption) | exact og4 (by assumption) (by assumption) | exact oz01 _ | exact oz02 _ | exact oz03 _ | exact oz10 _ | exact oz12 _ | exact oz13 _ | exact oz20 _ | exact oz21 _ | exact oz23 _ | exact oz30 _ | exact oz31 _ | exact oz32 _ | omega) (v := .str (nm pth k) tn) (by simp [strValues, eln]) (W_items0 ⟨Kept.top gC.X rfl, ?_⟩))))))))))
        refine allow_W hG (kG.trans kC) (hh _) (by have := r.lim; show A.depth + 1 + 10 < _; omega) en fun hE kE => W_tbool ?_
        have nE := nC.keeps kE
        have ou : Out Lk hB hE := ⟨fun b o hb x => kE _ _ ((sC.2 _ hb).trans x), _, nE⟩
        cases hv : allow rs (nm pth k) with
        | false => exact ⟨ou, xs, rfl, by rw [bits_succ, hv, hxs]; simp⟩
        | true =>
          refine W_BinOp (W_int fun _ => W_BinOp (W_int fun _ => W_local nE upd_eq (W_subInt fun _ => W_pow2 (by first | exact oa0 (by assumption) | exact ob0 (by assumption) | exact oc0 (by assumption) | exact od0 (by assumption) | exact oe0 (by assumption) (by assumption) | exact oa1 (by assumption) | exact ob1 (by assumption) | exact oc1 (by assumption) | exact od1 (by assumption) | exact oe1 (by assumption) (by assumption) | exact oa2 (by assumption) | exact ob2 (by assumption) | exact oc2 (by assumption) | exact od2 (by assumption) | exact oe2 (by assumption) (by assumption) | exact oa3 (by assumption) | exact ob3 (by assumption) | exact oc3 (by assumption) | exact oe3 (by assumption) (by assumption) | exact of0 (by assumption) | exact of1 (by assumption) | exact og0 (by assumption) | exact og1 (by assumption) | exact og2 (by assumption) | exact og3 (by assumption) (by assumption) | exact og4 (by assumption) (by assumption) | exact oz01 _ | exact oz02 _ | exact oz03 _ | exact oz10 _ | exact oz12 _ | exact oz13 _ | exact oz20 _ | exact oz21 _ | exact oz23 _ | exact oz30 _ | exact oz31 _ | exact oz32 _ | omega) (by first | exact oa0 (by assumption) | exact ob0 (by assumption) | exact oc0 (by assumption) | exact od0 (by assumption) | exact oe0 (by assumption) (by assumption) | exact oa1 (by assumption) | exact ob1 (by assumption) | exact oc1 (by assumption) | exact od1 (by assumption) | exact oe1 (by assumption) (by assumption) | exact oa2 (by assumption) | exact ob2 (by assumption) | exact oc2 (by assumption) | exact od2 (by assumption) | exact oe2 (by assumption) (by assumption) | exact oa3 (by assumption) | exact ob3 (by assumption) | exact oc3 (by assumption) | exact oe3 (by assumption) (by assumption) | exact of0 (by assumption) | exact of1 (by assumption) | exact og0 (by assumption) | exact og1 (by assumption) | exact og2 (by assumption) | exact og3 (by assumption) (by assumption) | exact og4 (by assumption) (by assumption) | exact oz01 _ | exact oz02 _ | exact oz03 _ | exact oz10 _ | exact oz12 _ | exact oz13 _ | exact oz20 _ | exact oz21 _ | exact oz23 _ | exact oz30 _ | exact oz31 _ | exact oz32 _ | omega) fun tq => ⟨ou, G2, ⟨Kp.refl _, k2C.trans kE, fun b o x => .inl x⟩, xs ++ [((2 : Int) ^ (8 - (k : Int)).toNat, tq)], by simp, ?_⟩)))
          have e8 : (8 - (k : Int)).toNat = 8 - k := by first | exact oa0 (by assumption) | exact ob0 (by assumption) | exact oc0 (by assumption) | exact od0 (by assumption) | exact oe0 (by assumption) (by assumption) | exact oa1 (by assumption) | exact ob1 (by assumption) | exact oc1 (by assumption) | exact od1 (by assumption) | exact oe1 (by assumption) (by assumption) | exact oa2 (by assumption) | exact ob2 (by assumption) | exact oc2 (by assumption) | exact od2 (by assumption) | exact oe2 (by assumption) (by assumption) | exact oa3 (by assumption) | exact ob3 (by assumption) | exact oc3 (by assumption) | exact oe3 (by assumption) (by assumption) | exact of0 (by assumption) | exact of1 (by assumption) | exact og0 (by assumption) | exact og1 (by assumption) | exact og2 (by assumption) | exact og3 (by assumption) (by assumption) | exact og4 (by assumption) (by assumption) | exact oz01 _ | exact oz02 _ | exact oz03 _ | exact oz10 _ | exact oz12 _ | exact oz13 _ | exact oz20 _ | exact oz21 _ | exact oz23 _ | exact oz30 _ | exact oz31 _ | exact oz32 _ | omega
          rw [bits_succ, hv, List.map_append, hxs, e8]; rfl
      · rintro Dk ys G2 hB nk ⟨xs, rfl, hxs⟩ gr kAB eDk oDk gDk
        refine W_items0 ⟨Kept.builtin, W_sum (hh _) eDk fun hC tC kC => W_addInt fun tD => W_items0 ⟨Kept.top (g₉.keeps (kA.trans (kAB.trans kC))).X rfl, ?_⟩⟩
        have k9C := kA.trans (kAB.trans kC)
        refine mode_W gG' (kG₉.trans k9C) ((r' _).less (by decide)) fun hD' tM kM => ?_
        have k9D := k9C.trans kM
        refine W_items (W_cell rfl (cellA cp₉ fun o => k9D _ o) (W_items0 (W_newTuple (by simp) (W_items0 ⟨Kept.builtin, W_append (Heap.get?_push_of_some _ (k9D _ _ e₉)) ?_ fun hE nE eE sE => ⟨fun a z => (by cases z), W_nil (kQi _ _ ?_)⟩⟩))))
        · have := tups.length
          simp at this ⊢
          have e3 : (rowsL (allow rs)).length = 3 := rfl
          omega
        · have kGE : Kp G' hE := ((kG₉.trans k9D).push _).same sE op
          have gr := grow_is (h := hD') kGE
          have lpD : lp < hD'.objs.size := Heap.lt_size (k9D _ _ e₉)
          have ea : hE.get? hD'.objs.size = some (tupO [.str (Txt.join "" (modeTab.mapIdx fun i row => charOf (32768 + (xs.map (·.1)).sum) i row)) tM, .str pth tp]) := (sE.2 _ (show hD'.objs.size ≠ lp by first | exact oa0 (by assumption) | exact ob0 (by assumption) | exact oc0 (by assumption) | exact od0 (by assumption) | exact oe0 (by assumption) (by assumption) | exact oa1 (by assumption) | exact ob1 (by assumption) | exact oc1 (by assumption) | exact od1 (by assumption) | exact oe1 (by assumption) (by assumption) | exact oa2 (by assumption) | exact ob2 (by assumption) | exact oc2 (by assumption) | exact od2 (by assumption) | exact oe2 (by assumption) (by assumption) | exact oa3 (by assumption) | exact ob3 (by assumption) | exact oc3 (by assumption) | exact oe3 (by assumption) (by assumption) | exact of0 (by assumption) | exact of1 (by assumption) | exact og0 (by assumption) | exact og1 (by assumption) | exact og2 (by assumption) | exact og3 (by assumption) (by assumption) | exact og4 (by assumption) (by assumption) | exact oz01 _ | exact oz02 _ | exact oz03 _ | exact oz10 _ | exact oz12 _ | exact oz13 _ | exact oz20 _ | exact oz21 _ | exact oz23 _ | exact oz30 _ | exact oz31 _ | exact oz32 _ | omega)).trans (Heap.get?_push_size _ rfl)
          rw [hxs] at ea
          have tup' := (tups.keeps gr.old).snoc (grow_new (G := G') ea (none_of_size (Nat.le_refl _)))
          have er : (rowsL (allow rs))[i]? = some (sign (allow rs) pth, pth) := by unfold rowsL; rw [List.getElem?_map, epth]; rfl
          obtain ⟨oN, xN⟩ := ns_there n₉
          obtain ⟨oI', xI⟩ := w.pr _ _ st₉ (h₂.objs.size + 1) (by simp)
          obtain ⟨oc1, xc1, _⟩ := ce₉
          obtain ⟨oc2, xc2, _⟩ := id cp₉
          obtain ⟨oc3, xc3, _⟩ := id cn₉
          have upE : ∀ {b : Nat} {o}, b ≠ lp → h₉.get? b = some o → hE.get? b = some o := fun hb x => (sE.2 _ hb).trans (Heap.get?_push_of_some _ (k9D _ _ x))
          refine ⟨w.W.frame _ _ _ st₉ fun b hb o x => upE (fun z => nfp lp2 (z ▸ hb)) x, grow G' hD' hE, as ++ [hD'.objs.size], nE, _, _, _, kG.trans gr.old, gr.now, fun b o x => ?_, ((kh₉.trans k9D).push _).same sE zp, ⟨gr.off oL (k9D _ _ xN), gr.off o1 (k9D _ _ xc1), gr.off o2 (k9D _ _ xc2), gr.off o3 (k9D _ _ xc3), gr.off op (k9D _ _ e₉), gr.off oI (k9D _ _ xI)⟩, ?_, ?_, nsA n₉ fun o => upE (show L ≠ lp by first | exact oa0 (by assumption) | exact ob0 (by assumption) | exact oc0 (by assumption) | exact od0 (by assumption) | exact oe0 (by assumption) (by assumption) | exact oa1 (by assumption) | exact ob1 (by assumption) | exact oc1 (by assumption) | exact od1 (by assumption) | exact oe1 (by assumption) (by assumption) | exact oa2 (by assumption) | exact ob2 (by assumption) | exact oc2 (by assumption) | exact od2 (by assumption) | exact oe2 (by assumption) (by assumption) | exact oa3 (by assumption) | exact ob3 (by assumption) | exact oc3 (by assumption) | exact oe3 (by assumption) (by assumption) | exact of0 (by assumption) | exact of1 (by assumption) | exact og0 (by assumption) | exact og1 (by assumption) | exact og2 (by assumption) | exact og3 (by assumption) (by assumption) | exact og4 (by assumption) (by assumption) | exact oz01 _ | exact oz02 _ | exact oz03 _ | exact oz10 _ | exact oz12 _ | exact oz13 _ | exact oz20 _ | exact oz21 _ | exact oz23 _ | exact oz30 _ | exact oz31 _ | exact oz32 _ | omega), mr, ⟨oc1, upE (show L + 1 ≠ lp by first | exact oa0 (by assumption) | exact ob0 (by assumption) | exact oc0 (by assumption) | exact od0 (by assumption) | exact oe0 (by assumption) (by assumption) | exact oa1 (by assumption) | exact ob1 (by assumption) | exact oc1 (by assumption) | exact od1 (by assumption) | exact oe1 (by assumption) (by assumption) | exact oa2 (by assumption) | exact ob2 (by assumption) | exact oc2 (by assumption) | exact od2 (by assumption) | exact oe2 (by assumption) (by assumption) | exact oa3 (by assumption) | exact ob3 (by assumption) | exact oc3 (by assumption) | exact oe3 (by assumption) (by assumption) | exact of0 (by assumption) | exact of1 (by assumption) | exact og0 (by assumption) | exact og1 (by assumption) | exact og2 (by assumption) | exact og3 (by assumption) (by assumption) | exact og4 (by assumption) (by assumption) | exact oz01 _ | exact oz02 _ | exact oz03 _ | exact oz10 _ | exact oz12 _ | exact oz13 _ | exact oz20 _ | exact oz21 _ | exact oz23 _ | exact oz30 _ | exact oz31 _ | exact oz32 _ | omega) xc1, by assumption⟩, cellA cp₉ fun o => upE (show L + 2 ≠ lp by first | exact oa0 (by assumption) | exact ob0 (by assumption) | exact oc0 (by assumption) | exact od0 (by assumption) | exact oe0 (by assumption) (by assumption) | exact oa1 (by assumption) | exact ob1 (by assumption) | exact oc1 (by assumption) | exact od1 (by assumption) | exact oe1 (by assumption) (by assumption) | exact oa2 (by assumption) | exact ob2 (by assumption) | exact oc2 (by assumption) | exact od2 (by assumption) | exact oe2 (by assumption) (by assumption) | exact oa3 (by assumption) | exact ob3 (by assumption) | exact oc3 (by assumption) | exact oe3 (by assumption) (by assumption) | exact of0 (by assumption) | exact of1 (by assumption) | exact og0 (by assumption) | exact og1 (by assumption) | exact og2 (by assumption) | exact og3 (by assumption) (by assumption) | exact og4 (by assumption) (by assumption) | exact oz01 _ | exact oz02 _ | exact oz03 _ | exact oz10 _ | exact oz12 _ | exact oz13 _ | exact oz20 _ | exact oz21 _ | exact oz23 _ | exact oz30 _ | exact oz31 _ | exact oz32 _ | omega), cellA cn₉ fun o => upE (show L + 3 ≠ lp by first | exact oa0 (by assumption) | exact ob0 (by assumption) | exact oc0 (by assumption) | exact od0 (by assumption) | exact oe0 (by assumption) (by assumption) | exact oa1 (by assumption) | exact ob1 (by assumption) | exact oc1 (by assumption) | exact od1 (by assumption) | exact oe1 (by assumption) (by assumption) | exact oa2 (by assumption) | exact ob2 (by assumption) | exact oc2 (by assumption) | exact od2 (by assumption) | exact oe2 (by assumption) (by assumption) | exact oa3 (by assumption) | exact ob3 (by assumption) | exact oc3 (by assumption) | exact oe3 (by assumption) (by assumption) | exact of0 (by assumption) | exact of1 (by assumption) | exact og0 (by assumption) | exact og1 (by assumption) | exact og2 (by assumption) | exact og3 (by assumption) (by assumption) | exact og4 (by assumption) (by assumption) | exact oz01 _ | exact oz02 _ | exact oz03 _ | exact oz10 _ | exact oz12 _ | exact oz13 _ | exact oz20 _ | exact oz21 _ | exact oz23 _ | exact oz30 _ | exact oz31 _ | exact oz32 _ | omega)⟩
          · rcases gr.new b o x with z | z
            · exact new b o z
            · exact .inr ((kh₉.trans k9D).off z)
          · rw [eE]; simp
          · rw [List.take_add_one, er]; exact tup'
  · rintro h' h₄ ⟨G', as, n, m, vp, vn, kG, kG', new, kh, ⟨oL, o1, o2, o3, op, oI⟩, el, tups, nL, mr, ce', cp', cn'⟩ st kw
    have kwI : ∀ {b : Nat} {o}, b ≠ h₂.objs.size + 1 → h'.get? b = some o → h₄.get? b = some o := fun hb e => kw _ _ (by simpa using hb) e
    have kG₄ : Kp G' h₄ := fun b o x => kwI (fun z => by have z' : b = h₂.objs.size + 1 := z; rw [z', oI] at x; cases x) (kG' b o x)
    have kh₄ : Kp h h₄ := fun b o x => kwI (fun z => by have z' : b = h₂.objs.size + 1 := z; rw [z', zI] at x; cases x) (kh b o x)
    refine W_nil (W_cons (W_Return (W_local (nsA nL fun o => kwI (show L ≠ h₂.objs.size + 1 by first | exact oa0 (by assumption) | exact ob0 (by assumption) | exact oc0 (by assumption) | exact od0 (by assumption) | exact oe0 (by assumption) (by assumption) | exact oa1 (by assumption) | exact ob1 (by assumption) | exact oc1 (by assumption) | exact od1 (by assumption) | exact oe1 (by assumption) (by assumption) | exact oa2 (by assumption) | exact ob2 (by assumption) | exact oc2 (by assumption) | exact od2 (by assumption) | exact oe2 (by assumption) (by assumption) | exact oa3 (by assumption) | exact ob3 (by assumption) | exact oc3 (by assumption) | exact oe3 (by assumption) (by assumption) | exact of0 (by assumption) | exact of1 (by assumption) | exact og0 (by assumption) | exact og1 (by assumption) | exact og2 (by assumption) | exact og3 (by assumption) (by assumption) | exact og4 (by assumption) (by assumption) | exact oz01 _ | exact oz02 _ | exact oz03 _ | exact oz10 _ | exact oz12 _ | exact oz13 _ | exact oz20 _ | exact oz21 _ | exact oz23 _ | exact oz30 _ | exact oz31 _ | exact oz32 _ | omega)) mr ?_)))
    refine q lp h₄ (grow G h h₄) kh₄ (grow_is (kp.trans kh₄)) ⟨as, n, grow_new (kwI (by first | exact oa0 (by assumption) | exact ob0 (by assumption) | exact oc0 (by assumption) | exact od0 (by assumption) | exact oe0 (by assumption) (by assumption) | exact oa1 (by assumption) | exact ob1 (by assumption) | exact oc1 (by assumption) | exact od1 (by assumption) | exact oe1 (by assumption) (by assumption) | exact oa2 (by assumption) | exact ob2 (by assumption) | exact oc2 (by assumption) | exact od2 (by assumption) | exact oe2 (by assumption) (by assumption) | exact oa3 (by assumption) | exact ob3 (by assumption) | exact oc3 (by assumption) | exact oe3 (by assumption) (by assumption) | exact of0 (by assumption) | exact of1 (by assumption) | exact og0 (by assumption) | exact og1 (by assumption) | exact og2 (by assumption) | exact og3 (by assumption) (by assumption) | exact og4 (by assumption) (by assumption) | exact oz01 _ | exact oz02 _ | exact oz03 _ | exact oz10 _ | exact oz12 _ | exact oz13 _ | exact oz20 _ | exact oz21 _ | exact oz23 _ | exact oz30 _ | exact oz31 _ | exact oz32 _ | omega) el) zp, (tups.keeps (grow_into kG₄ new))⟩
end
end Mine
namespace Mine
open PySem PySem.W PySem.Calls PySem.Spec PyProof.Rows
open AutoSeq1 (wpAny_loadPart')
noncomputable def gt2 (x y : Int × Bool) : Bool := if x.1 == y.1 then x.2 && !y.2 else decide (x.1 > y.1)
theorem tuple_gt2 (l b : Addr) (m1 m2 : Int) (t1 t2 : Tok) (b1 b2 : Bool) :
    Meets (Builtin.«tuple.__gt__» ⟨[.ref l, .ref b], []⟩)
      (fun A R s => s.heap.get? l = some (tupO [.int m1 t1, .bool b1]) ∧ s.heap.get? b = some (tupO [.int m2 t2, .bool b2]) ∧ R (.ok (.ret (.bool (gt2 (m1, b1) (m2, b2))))) s) :=
  .of_wp fun prog w A R s h => by
    obtain ⟨hp, g, d, tk, os⟩ := s; obtain ⟨hl, hb, h⟩ := h
    have f2 := AutoSeq1.sub_tuple_tuple
    unfold tupO at hl hb
    wp_walk using wpAny_loadPart' hl, wpAny_loadPart' hb, wpAny_forIn_list _ (fun rest (b : Option PySem.Fin × Unit) s' => b.1 = none ∧ s' = (⟨hp, g, d, tk, os⟩ : Shared) ∧
      (rest = [(Value.int m1 t1, Value.int m2 t2), (.bool b1, .bool b2)] ∨ (rest = [(Value.bool b1, Value.bool b2)] ∧ m1 = m2) ∨ (rest = [] ∧ m1 = m2 ∧ b1 = b2))) _
    case turn =>
      rintro ⟨y, x⟩ rest b s' ⟨hb', rfl, hz⟩
      rcases hz with hz | ⟨hz, rfl⟩ | ⟨hz, _⟩
      · cases hz
        refine wpAny_bind (SeqAt.EqAt.int_int m1 t1 m2 t2 prog w _ _ ?_)
        cases he : (m1 == m2) with
        | true =>
          wp_walk
          exact ⟨rfl, rfl, .inr (.inl ⟨rfl, by simpa using he⟩)⟩
        | false =>
          have hg : gt2 (m1, b1) (m2, b2) = decide (m1 > m2) := by simp [gt2, he]
          rw [hg] at h
          have r := fun {A' : Around} {E'} {Q' : Value → Shared → Prop} {s'} (q : Q' (.bool (decide (m1 > m2))) s') => (PyProof.Rows.gt_int (prog := prog) (w := w) (A := A') (E := E') (s := s') (t := t1) (u := t2) q : wpAny (model prog w) A' (richCompare .Gt (.int m1 t1) (.int m2 t2)) Q' E' s')
          refine wpAny_bind (wpAny_rule (wpAny_bind (r ?_)))
          wp_walk
          exact ⟨_, rfl, h⟩
      · cases hz
        have eqb : ∀ {A' : Around} {E' : Value → Shared → Prop} {Q' : Bool → Shared → Prop} {s'}, Q' (b1 == b2) s' → wpAny (model prog w) A' (eqBool (.bool b1) (.bool b2)) Q' E' s' := fun {A' E' Q' s'} q => by
          unfold eqBool
          show wpAny _ _ (if (Value.bool b1 == Value.bool b2) = true then _ else _) _ _ _
          by_cases hab : (Value.bool b1 == Value.bool b2) = true
          · rw [if_pos hab]
            have e : b1 = b2 := by have := eq_of_beq hab; injection this
            subst e
            exact wpAny_bind (wpAny_rule (wpAny_pure (by simpa using q)))
          · rw [if_neg hab]
            exact wpAny_bind (PyProof.Rows.eq_bool (wpAny_truthy_bool q))
        refine wpAny_bind (eqb ?_)
        cases he : (b1 == b2) with
        | true =>
          wp_walk
          exact ⟨rfl, rfl, .inr (.inr ⟨rfl, rfl, by simpa using he⟩)⟩
        | false =>
          have hg : gt2 (m1, b1) (m1, b2) = decide (b2i b1 > b2i b2) := by revert he; cases b1 <;> cases b2 <;> simp [gt2] <;> decide
          rw [hg] at h
          have r := fun {A' : Around} {E'} {Q' : Value → Shared → Prop} {s'} (q : Q' (.bool (decide (b2i b1 > b2i b2))) s') => (PyProof.Rows.gt_bool (prog := prog) (w := w) (A := A') (E := E') (s := s') q : wpAny (model prog w) A' (richCompare .Gt (.bool b1) (.bool b2)) Q' E' s')
          refine wpAny_bind (wpAny_rule (wpAny_bind (r ?_)))
          wp_walk
          exact ⟨_, rfl, h⟩
      · cases hz
    case fin =>
      rintro ⟨a1, a2⟩ s' ⟨hb', rfl, hz⟩
      simp only at hb'
      subst hb'
      rcases hz with hz | ⟨hz, _⟩ | ⟨_, rfl, rfl⟩
      · cases hz
      · cases hz
      · have hg : gt2 (m1, b1) (m1, b1) = false := by cases b1 <;> simp [gt2]
        rw [hg] at h
        wp_walk
        exact ⟨_, rfl, by simpa [Builtin.Tuple.tupleCompareSizes] using h⟩
    case h =>
      exact ⟨rfl, rfl, .inl rfl⟩
noncomputable def fitV (p : Int × Bool) (t : Tok) : Obj := tupO [.int p.1 t, .bool p.2]
inductive FitsAt (h : Heap) : List Addr → List (Int × Bool) → Prop
  | nil : FitsAt h [] []
  | cons {a as p t fs} : h.get? a = some (fitV p t) → FitsAt h as fs → FitsAt h (a :: as) (p :: fs)
theorem FitsAt.at {h h' : Heap} {as : List Addr} {fs : List (Int × Bool)} (x : FitsAt h as fs) (k : ∀ b ∈ as, ∀ o, h.get? b = some o → h'.get? b = some o) : FitsAt h' as fs := by
  induction x with
  | nil => exact .nil
  | cons l _ ih => exact .cons (k _ (.head _) _ l) (ih fun b hb => k b (.tail _ hb))
theorem FitsAt.keeps {h h' : Heap} {as : List Addr} {fs : List (Int × Bool)} (x : FitsAt h as fs) (k : Kp h h') : FitsAt h' as fs := x.at fun b _ o => k b o
theorem FitsAt.append {h : Heap} {as as' : List Addr} {rs rs' : List (Int × Bool)} (x : FitsAt h as rs) (y : FitsAt h as' rs') : FitsAt h (as ++ as') (rs ++ rs') := by
  induction x with
  | nil => exact y
  | cons l _ ih => exact .cons l ih
theorem FitsAt.length {h : Heap} {as : List Addr} {rs : List (Int × Bool)} (x : FitsAt h as rs) : as.length = rs.length := by
  induction x with
  | nil => rfl
  | cons l _ ih => simp [ih]
theorem FitsAt.get {h : Heap} {as : List Addr} {rs : List (Int × Bool)} (x : FitsAt h as rs) : ∀ {i : Nat} {a : Addr}, as[i]? = some a → ∃ p t, rs[i]? = some p ∧ h.get? a = some (fitV p t) := by
  induction x with
  | nil => intro i a e; simp at e
  | cons l _ ih =>
    intro i a e
    cases i with
    | zero => simp at e; subst e; exact ⟨_, _, rfl, l⟩
    | succ i => simpa using ih (by simpa using e)
theorem FitsAt.mem {h : Heap} {as : List Addr} {rs : List (Int × Bool)} (x : FitsAt h as rs) : ∀ b ∈ as, ∃ o, h.get? b = some o := by
  induction x with
  | nil => intro b hb; cases hb
  | cons l _ ih =>
    intro b hb
    cases hb with
    | head => exact ⟨_, l⟩
    | tail _ hb => exact ih b hb
noncomputable def btOf (fs : List (Int × Bool)) (i j : Nat) : Bool := gt2 (fs.getD i (0, true)) (fs.getD j (0, true))
noncomputable def bestOf (fs : List (Int × Bool)) : Int × Bool := fs.getD (argBest (btOf fs) (fs.length - 1)) (0, true)
section
variable {prog : Program} {w : World} {A : Around} {R : Result → Shared → Prop} {I : Addr} {fp wr : List Addr} {n : Nat} {P : Nat → Value → Prop} {St : Nat → Heap → Prop}
noncomputable def CmpSt (prog : Program) (w : World) (A : Around) (St : Nat → Heap → Prop) (P : Nat → Value → Prop) (bt : Nat → Nat → Bool) : Prop :=
  ∀ k i j vi vj (s : Shared) (Q : Value → Shared → Prop) (E : Value → Shared → Prop), St k s.heap → P i vi → P j vj → Q (.bool (bt i j)) s → wpAny (model prog w) A (richCompare .Gt vi vj) Q E s
theorem max_loop (W : Walks prog w A.in1 I fp wr n P St) (bt : Nat → Nat → Bool) (hcmp : CmpSt prog w A.in1 St P bt) (S : Addr) (hSf : S ∉ fp) :
    ∀ (k j : Nat) (s : Shared) (vb : Value) (c : Nat), n - (j + 1) = k → j + 1 ≤ n → St (j + 1) s.heap → P (argBest bt j) vb →
    s.heap.get? S = some { cls := .type "list", dict := none, data := .seq #[vb, vb] c, slots := #[] } →
    (∀ v h' tk, P (argBest bt (n - 1)) v → (∀ b o, b ∉ wr → b ≠ S → s.heap.get? b = some o → h'.get? b = some o) → R (.ok (.ret v)) { s with heap := h', toks := tk }) →
    codeAny (model prog w) A (.builtin "max.loop" ⟨[.ref I, .none, .ref S], []⟩) R s := by
  have hSw : S ∉ wr := fun h => hSf (W.sub _ h)
  have hname : (toString "max" ++ toString ".loop" : String) = "max.loop" := by decide
  intro k
  induction k with
  | zero =>
    intro j s vb c hk hj hst hPb hS hR
    have hin : j + 1 = n := by omega
    refine codeAny_builtin F.entry_max_loop ?_
    rw [Around.under_plainId F.plain_max_loop _]
    show wpAny _ A.in1 (seqItems? (.ref S) >>= _) _ _ s
    refine wpAny_bind (wpAny_seqItems hS rfl ?_)
    show wpAny _ A.in1 (tryCatch (pyNext (.ref I)) _ >>= _) _ _ s
    refine wpAny_bind (wpAny_tryCatch (W.done s _ _ (hin ▸ hst) fun h' tk hk' => ?_))
    have hS' := hk' S _ hSw hS
    show wpAny _ A.in1 (updateSeq S (fun _ => #[]) >>= _) _ _ _
    refine wpAny_bind ?_
    refine wpAny_updateSeq hS' rfl (wpAny_bind (wpAny_letGo (wpAny_pure ?_)))
    refine hR vb _ tk (by rw [← hin]; exact hPb) fun b o hbw hbS e => (Heap.get?_update_other _ _ (Ne.symm hbS)).trans (hk' b o hbw e)
  | succ k ih =>
    intro j s vb c hk hj hst hPb hS hR
    have hlt : j + 1 < n := by omega
    refine codeAny_builtin F.entry_max_loop ?_
    rw [Around.under_plainId F.plain_max_loop _]
    show wpAny _ A.in1 (seqItems? (.ref S) >>= _) _ _ s
    refine wpAny_bind (wpAny_seqItems hS rfl ?_)
    show wpAny _ A.in1 (tryCatch (pyNext (.ref I)) _ >>= _) _ _ s
    refine wpAny_bind (wpAny_tryCatch (W.item (j + 1) s _ _ hlt hst fun v h' tk hP hst' hk' => ?_))
    have hS' := hk' S _ hSw hS
    show wpAny _ A.in1 (tryCatch (holding [v, v] (richCompare .Gt v vb >>= _)) _ >>= _) _ _ _
    refine wpAny_bind (wpAny_tryCatch (wpAny_holding (wpAny_bind (hcmp (j + 1 + 1) (j + 1) (argBest bt j) v vb _ _ _ hst' hP hPb ?_))))
    refine wpAny_bind (wpAny_holding (wpAny_truthy_bool ?_))
    refine wpAny_bind (wpAny_letGo (wpAny_pure ?_))
    cases hb : bt (j + 1) (argBest bt j) with
    | true =>
      simp only [if_true]
      refine wpAny_bind ?_
      refine wpAny_updateSeq hS' rfl (wpAny_bind (wpAny_letGo ?_))
      rw [hname]
      refine wpAny_pure ⟨plainId_quiet F.plain_max_loop _, ih (j + 1) _ v _ (by omega) hlt (W.frame _ _ _ hst' fun b hbf o e => ?_) (by simp only [argBest, hb, if_true]; exact hP) (Heap.get?_update_self _ hS' rfl)
        fun v' h'' tk'' hP' hk'' => ?_⟩
      · exact (Heap.get?_update_other _ _ (fun h : S = b => hSf (by rw [h]; exact hbf))).trans e
      · exact hR v' h'' tk'' hP' fun b o hbw hbS e => hk'' b o hbw hbS ((Heap.get?_update_other _ _ (Ne.symm hbS)).trans (hk' b o hbw e))
    | false =>
      simp only [Bool.false_eq_true, if_false]
      refine wpAny_bind (wpAny_letGo ?_)
      rw [hname]
      refine wpAny_pure ⟨plainId_quiet F.plain_max_loop _, ih (j + 1) _ vb c (by omega) hlt hst' (by simp only [argBest, hb, Bool.false_eq_true, if_false]; exact hPb) hS' fun v' h'' tk'' hP' hk'' => ?_⟩
      exact hR v' h'' tk'' hP' fun b o hbw hbS e => hk'' b o hbw hbS (hk' b o hbw e)
theorem call_max_st {E : Value → Shared → Prop} {s : Shared} {x : Value} {Q : Value → Shared → Prop}
    (h : wpAny (model prog w) A.in1 (pyIter x) (fun it s₂ => ∃ I fp wr n P St bt, it = .ref I ∧ Walks prog w A.in1 I fp wr n P St ∧ St 0 s₂.heap ∧ (∀ b ∈ fp, b < s₂.heap.objs.size) ∧ 0 < n ∧ CmpSt prog w A.in1 St P bt ∧
      ∀ v h' tk, P (argBest bt (n - 1)) v → (∀ b o, b ∉ wr → s₂.heap.get? b = some o → h'.get? b = some o) → Q v { s₂ with heap := h', toks := tk }) E s) :
    wpAny (model prog w) A (call (.builtin "max") [x]) Q E s := by
  have hname : (toString "max" ++ toString ".loop" : String) = "max.loop" := by decide
  refine call_function_tree F.kind_max F.plain_max F.entry_max (F.args_max1 _) ?_
  show wpAny _ A.in1 (Builtin.Builtins.bindParams "max" ["key", "default"] 0 ⟨[], []⟩ >>= _) _ _ s
  refine wpAny_bind (wpAny_of_eq (show Builtin.Builtins.bindParams "max" ["key", "default"] 0 ⟨[], []⟩ = pure [none, none] from rfl) ?_)
  refine wpAny_bind (wpAny_pure ?_)
  refine wpAny_bind (wpAny_mono h (fun it s₂ h₂ => ?_) fun _ _ e => e)
  obtain ⟨I, fp, wr, n, P, St, bt, rfl, W, hst, hfp, hn, hcmp, hQ⟩ := h₂
  refine wpAny_bind (wpAny_newObj_type ?_)
  have hSf : s₂.heap.objs.size ∉ fp := fun hm => Nat.lt_irrefl _ (hfp _ hm)
  have hSw : s₂.heap.objs.size ∉ wr := fun h => hSf (W.sub _ h)
  rw [hname]
  refine wpAny_pure ⟨plainId_quiet F.plain_max_loop _, ?_⟩
  refine codeAny_builtin F.entry_max_loop ?_
  rw [Around.under_plainId F.plain_max_loop _]
  show wpAny _ A.in1 (seqItems? (.ref s₂.heap.objs.size) >>= _) _ _ _
  refine wpAny_bind (wpAny_seqItems (Heap.get?_push_size _ rfl) rfl ?_)
  show wpAny _ A.in1 (tryCatch (pyNext (.ref I)) _ >>= _) _ _ _
  refine wpAny_bind (wpAny_tryCatch (W.item 0 _ _ _ hn (W.frame _ _ _ hst fun b _ o e => Heap.get?_push_of_some _ e) fun v h' tk hP hst' hk' => ?_))
  have hS' := hk' s₂.heap.objs.size _ hSw (Heap.get?_push_size _ rfl)
  show wpAny _ A.in1 (updateSeq s₂.heap.objs.size (fun _ => #[v, v]) >>= _) _ _ _
  refine wpAny_bind ?_
  refine wpAny_updateSeq hS' rfl ?_
  rw [hname]
  refine wpAny_pure ⟨plainId_quiet F.plain_max_loop _, max_loop W bt hcmp s₂.heap.objs.size hSf _ 0 _ v _ rfl hn (W.frame _ _ _ hst' fun b hbf o e => ?_) hP (Heap.get?_update_self _ hS' rfl) fun v' h'' tk'' hP' hk'' => ?_⟩
  · exact (Heap.get?_update_other _ _ (fun h : s₂.heap.objs.size = b => hSf (by rw [h]; exact hbf))).trans e
  · refine hQ v' h'' tk'' hP' fun b o hbw e => ?_
    have hbS : b ≠ s₂.heap.objs.size := Nat.ne_of_lt (Heap.lt_size e)
    exact hk'' b o hbw hbS ((Heap.get?_update_other _ _ (Ne.symm hbS)).trans (hk' b o hbw (Heap.get?_push_of_some _ e)))
end
section
variable {C : Cx} {A : Around} {h : Heap} {E : Value → Heap → Prop}
theorem argBest_le (bt : Nat → Nat → Bool) : ∀ k, argBest bt k ≤ k
  | 0 => Nat.le_refl _
  | k + 1 => by
    have := argBest_le bt k
    unfold argBest
    split <;> omega
theorem W_maxFits {l : Addr} {as : List Addr} {fs : List (Int × Bool)} {k : Nat} {Q : Value → Heap → Prop} {d : Nat} (r : Rm A d) (hl : h.get? l = some (listO (as.map .ref) k)) (fa : FitsAt h as fs) (hne : 0 < fs.length)
    (q : ∀ a t h', Kp h h' → h'.get? a = some (fitV (bestOf fs) t) → Q (.ref a) h') : WP C A (call (.builtin "max") [.ref l]) Q E h := fun k => by
  have hh : A.in1.handled = none := r.hd
  refine call_max_st (wpAny_pyIter_list (s := C.S h k) (isList_of hl) ?_)
  have hlt : l < h.objs.size := Heap.lt_size hl
  have hal : ∀ b ∈ as, b < h.objs.size := fun b hb => let ⟨o, e⟩ := fa.mem b hb; Heap.lt_size e
  have hne' : l ≠ h.objs.size := Nat.ne_of_lt hlt
  have W := Walks.list (prog := prg) (w := C.w) (A := A.in1) hh h.objs.size l hne' (as.map Value.ref).toArray
  refine ⟨h.objs.size, h.objs.size :: l :: as, [h.objs.size], _, fun i v => ∃ a, as[i]? = some a ∧ v = .ref a, fun i h' => (h'.IsListIter h.objs.size l i ∧ h'.IsList l (as.map Value.ref).toArray) ∧ FitsAt h' as fs, btOf fs, rfl, (?_ : Walks prg C.w A.in1 _ _ _ as.length _ _), ?_, ?_, ?_, ?_, ?_⟩
  · constructor
    · intro b hb; simp only [List.mem_cons, List.not_mem_nil, or_false] at hb; subst hb; exact .head _
    · rintro i h1 h2 ⟨s1, s2⟩ kk
      exact ⟨W.frame _ _ _ s1 fun b hb o e => kk b (by simp at hb ⊢; rcases hb with hb | hb <;> simp [hb]) o e, s2.at fun b hb o e => kk b (.tail _ (.tail _ hb)) o e⟩
    · rintro i s Q E hi ⟨s1, s2⟩ hQ
      refine W.item i s Q E (by simpa using hi) s1 fun v h' tk hP st' kk => ?_
      obtain ⟨a, ea⟩ : ∃ a, as[i]? = some a := ⟨_, List.getElem?_eq_getElem hi⟩
      refine hQ v h' tk ⟨a, ea, ?_⟩ ⟨st', s2.at fun b hb o e => kk b o (by simpa using Nat.ne_of_lt (hal b hb)) e⟩ kk
      have : (as.map Value.ref)[i]? = some v := by simpa using hP
      rw [List.getElem?_map, ea] at this
      exact (Option.some.inj this).symm
    · rintro s Q E ⟨s1, s2⟩ hQ
      exact W.done s Q E (by simpa using s1) hQ
    · rintro i s Q E ⟨s1, s2⟩ hQ
      exact W.self i s Q E s1 hQ
  · exact ⟨⟨⟨_, Heap.get?_push_size _ rfl, rfl, rfl⟩, (isList_of hl).at fun o e => Heap.get?_push_of_some _ e⟩, fa.at fun b _ o e => Heap.get?_push_of_some _ e⟩
  · intro b hb
    show b < (h.push _).objs.size
    rw [Heap.size_push]
    rcases List.mem_cons.mp hb with rfl | hb
    · exact Nat.lt_succ_self _
    · rcases List.mem_cons.mp hb with rfl | hb
      · exact Nat.lt_succ_of_lt hlt
      · exact Nat.lt_succ_of_lt (hal b hb)
  · rw [fa.length]; exact hne
  · rintro kk i j vi vj s Q E ⟨_, st⟩ ⟨a, ea, rfl⟩ ⟨b, eb, rfl⟩ hq
    obtain ⟨⟨m1, b1⟩, t1, e1, g1⟩ := st.get ea
    obtain ⟨⟨m2, b2⟩, t2, e2, g2⟩ := st.get eb
    refine richCompare_meets_room (op := .Gt) (T := "tuple") ⟨_, g1, rfl⟩ ⟨_, g2, rfl⟩ F.slot_tuple_gt F.entry_tuple_gt (F.args_tuple_gt_2 _ _) (tuple_gt2 a b m1 m2 t1 t2 b1 b2) ⟨g1, g2, ?_⟩ ?_
    · have : btOf fs i j = gt2 (m1, b1) (m2, b2) := by simp [btOf, List.getD, e1, e2]
      rw [← this]
      exact ⟨(fun x => nomatch x), hq⟩
    · have := r.un
      show A.units + 1 < 9900
      omega
  · rintro v h' tk ⟨a, ea, rfl⟩ kk
    have kp : Kp h h' := fun b o e => kk b o (by simpa using Nat.ne_of_lt (Heap.lt_size e)) (Heap.get?_push_of_some _ e)
    obtain ⟨p, t, e1, g1⟩ := fa.get ea
    have : bestOf fs = p := by unfold bestOf; rw [← fa.length]; simp [List.getD, e1]
    exact ⟨h', tk, rfl, q a t h' kp (by rw [this]; exact kp _ _ g1)⟩
end
end Mine
namespace Mine
open PySem PySem.W PySem.Calls PySem.Spec PyProof.Rows
section
variable {C : Cx} {A : Around} {h : Heap} {E : Value → Heap → Prop} {env : Env}
theorem W_subStrTo {value upper : Expr} {p pos : Pos} {Q : Value → Heap → Prop}
    (y : WP C A (eval value env) (fun o h₁ => WP C A (eval upper env) (fun u h₂ => ∃ x t j uj, o = .str x t ∧ u = .int j uj ∧ x.length ≤ 1000 ∧ ∀ t' h', Kp h₂ h' → Q (.str (PySem.Txt.slice x none (some j)) t') h') E h₁) E h) :
    WP C A (eval (.Subscript value (.Slice none (some upper) none p) pos) env) Q E h := by
  refine W_Sub (y.post fun o h₁ q => WP.of fun k => wpAny_Slice (wpAny_pure (wpAny_mono (q k) (fun u s q => ?_) fun _ _ e => e)))
  obtain ⟨h₂, k₂, rfl, x, t, j, uj, rfl, rfl, hl, q⟩ := q
  refine wpAny_pure ⟨_, k₂, rfl, fun k₃ => tail_any (typeIs_str _ x t) F.slot_str_getitem.lookup (wpAny_getItem_str_slice (l := none) (u := some (j, uj)) (st := none) ⟨_, Heap.get?_push_size _ rfl, rfl, rfl⟩ rfl (post_val_or_str ⟨Nat.le_trans (PySem.Txt.slice_le x _ _) (by rw [sizeLine_eq]; omega), fun t' k => ⟨_, k, rfl, q t' _ ((Kp.refl _).push _)⟩⟩)) rfl⟩
theorem W_addList {l b : Addr} {vs ws : List Value} {n m : Nat} {Q : Value → Heap → Prop} (hl : h.get? l = some (listO vs n)) (hb : h.get? b = some (listO ws m)) (hsz : vs.length + ws.length ≤ 1000) (q : Q (.ref h.objs.size) (h.push (listO (vs ++ ws)))) : WP C A (binaryOp .Add (.ref l) (.ref b)) Q E h := fun k => by
  refine concat_meets (s := C.S h k) ⟨_, hl, rfl⟩ ⟨_, hb, rfl⟩ noFill_list_add seq_list_add PySem.F.slot_list_add PySem.F.entry_list_add (PySem.F.args_list_add_2 _ _) (list_addW l b vs.toArray ws.toArray n m none none #[] #[] (by simp; rw [sizeLine_eq]; omega)) ⟨hl, hb, ?_⟩
  have e : vs.toArray ++ ws.toArray = (vs ++ ws).toArray := by simp
  rw [e]
  exact up1 q
theorem W_Aug {x pos' op value pos} {m : Str → Option Value} {v : Value} {Q : Flow → Heap → Prop} (hn : h.Ns env.locals m) (hv : m x = some v) (y : WP C A (eval value env) (fun u h₁ => WP C A (inplaceOp op v u) (fun r h₂ => WP C A (storeName env x r) (fun _ => Q .next) E h₂) E h₁) E h)
    (hk : env.scope.kind = .function := by rfl) (hl : env.kindOf x = some .local := by rfl) : WP C A (exec (.AugAssign (.Name x pos') op value pos) env) Q E h := fun k => by
  refine wpAny_AugAssign_Name (wpAny_loadName_local hk hl hn hv (wpAny_mono (y k) (fun u s q => wpAny_mono (go q) (fun _ _ q => ?_) fun _ _ e => e) fun _ _ e => e))
  obtain ⟨h, k, rfl, q⟩ := q
  exact q k
theorem W_iaddStr {x y : Str} {t u : Tok} {Q : Value → Heap → Prop} (hsz : x.length + y.length ≤ 1000) (q : ∀ t, Q (.str (x ++ y) t) h) : WP C A (inplaceOp .Add (.str x t) (.str y u)) Q E h := fun k => PyProof.Rows.iadd_str (fun t' tk => ⟨h, tk, rfl, q _⟩) (by rw [sizeLine_eq]; omega)
end
end Mine
namespace Mine
open PySem PySem.W PySem.Calls PySem.Spec PyProof.Rows
noncomputable def fitsOf (rs : List Rule) (name : Str) : List (Int × Bool) := (rs.filter fun r => PySem.Txt.slice name none (some (r.1.length : Int)) == r.1).map fun r => ((r.1.length : Int) + 1, r.2)
noncomputable def dueB (rs : List Rule) (name : Str) : Bool := (bestOf ((0, true) :: fitsOf rs name)).2
noncomputable def actsL : List Str := ["r", "w", "x", "r", "w", "x", "r", "w", "x"]
noncomputable def signK (rs : List Rule) (p : Str) : Nat → Str
  | 0 => "-"
  | k + 1 => signK rs p k ++ if dueB rs (nm p k) then actsL[k]?.getD "" else "-"
noncomputable def rowsD (rs : List Rule) : List (Str × Str) := paths.map fun p => (signK rs p 9, p)
inductive RulAt (h : Heap) : List Addr → List Rule → Prop
  | nil : RulAt h [] []
  | cons {a as r t rs} : h.get? a = some (tupO [.str r.1 t, .bool r.2]) → RulAt h as rs → RulAt h (a :: as) (r :: rs)
theorem RulAt.keeps {h h' : Heap} {as : List Addr} {rs : List Rule} (x : RulAt h as rs) (k : Kp h h') : RulAt h' as rs := by
  induction x with
  | nil => exact .nil
  | cons l _ ih => exact .cons (k _ _ l) ih
theorem RulAt.snoc {h : Heap} {as : List Addr} {rs : List Rule} (x : RulAt h as rs) {a : Addr} {r : Rule} {t : Tok} (e : h.get? a = some (tupO [.str r.1 t, .bool r.2])) : RulAt h (as ++ [a]) (rs ++ [r]) := by
  induction x with
  | nil => exact .cons e .nil
  | cons l _ ih => exact .cons l ih
theorem RulAt.length {h : Heap} {as : List Addr} {rs : List Rule} (x : RulAt h as rs) : as.length = rs.length := by
  induction x with
  | nil => rfl
  | cons l _ ih => simp [ih]
theorem RulAt.get {h : Heap} {as : List Addr} {rs : List Rule} (x : RulAt h as rs) : ∀ {i : Nat} {a : Addr}, as[i]? = some a → ∃ r t, rs[i]? = some r ∧ h.get? a = some (tupO [.str r.1 t, .bool r.2]) := by
  induction x with
  | nil => intro i a e; simp at e
  | cons l _ ih =>
    intro i a e
    cases i with
    | zero => simp at e; subst e; exact ⟨_, _, rfl, l⟩
    | succ i => simpa using ih (by simpa using e)
noncomputable def RulesAt (h : Heap) (l : Addr) (rs : List Rule) : Prop := ∃ as n, h.get? l = some (listO (as.map .ref) n) ∧ RulAt h as rs
theorem RulesAt.keeps {h h' : Heap} {l : Addr} {rs : List Rule} (x : RulesAt h l rs) (k : Kp h h') : RulesAt h' l rs := let ⟨as, n, e, t⟩ := x; ⟨as, n, k _ _ e, t.keeps k⟩
theorem fits_snoc {rs : List Rule} {r : Rule} {name : Str} : fitsOf (rs ++ [r]) name = fitsOf rs name ++ if (PySem.Txt.slice name none (some (r.1.length : Int)) == r.1) = true then [((r.1.length : Int) + 1, r.2)] else [] := by
  unfold fitsOf
  rw [List.filter_append, List.map_append]
  congr 1
  cases h : (PySem.Txt.slice name none (some (r.1.length : Int)) == r.1) <;> simp [h]
theorem act_at {i j d : Nat} (hi : i < 3) (hd : ("rwx" : Str).cps[j]? = some d) : actsL[3 * i + j]? = some ⟨#[d]⟩ := by
  have hj : j < 3 := (Array.getElem?_eq_some_iff.mp hd).1
  have h1 : i = 0 ∨ i = 1 ∨ i = 2 := by omega
  have h2 : j = 0 ∨ j = 1 ∨ j = 2 := by omega
  rcases h1 with rfl | rfl | rfl <;> rcases h2 with rfl | rfl | rfl <;> (cases hd; rfl)
theorem signK_len (rs : List Rule) (p : Str) : ∀ k, k ≤ 9 → (signK rs p k).length = k + 1
  | 0, _ => rfl
  | k + 1, h => by
    have ih := signK_len rs p k (by omega)
    have : (if dueB rs (nm p k) then actsL[k]?.getD "" else "-" : Str).length = 1 := by
      split
      · have h1 : k = 0 ∨ k = 1 ∨ k = 2 ∨ k = 3 ∨ k = 4 ∨ k = 5 ∨ k = 6 ∨ k = 7 ∨ k = 8 := by omega
        rcases h1 with rfl | rfl | rfl | rfl | rfl | rfl | rfl | rfl | rfl <;> rfl
      · rfl
    rw [signK, Str.length_append, ih, this]
/-- between the turns of the three loops -/
inductive DueO (G h : Heap) (rs : List Rule) (L lp I lr : Nat) (i : Nat) (h' : Heap) : Prop
  | mk (G' as n m vp vw va : _) (p1 : Kp G G') (p2 : Kp G' h') (p3 : (∀ b o, G'.get? b = some o → G.get? b = some o ∨ h.get? b = none)) (p4 : Kp h h') (p5 : (G'.get? L = none ∧ G'.get? (L + 1) = none ∧ G'.get? (L + 2) = none ∧ G'.get? (L + 3) = none ∧ G'.get? lp = none ∧ G'.get? I = none)) (p6 : h'.get? lp = some (listO (as.map .ref) n)) (p7 : TupsAt G' as ((rowsD rs).take i)) (p8 : h'.Ns L m) (p9 : m "rows" = some (.ref lp)) (p10 : m "rules" = some (.ref lr)) (p11 : h'.IsCell (L + 1) vp) (p12 : h'.IsCell (L + 2) vw) (p13 : h'.IsCell (L + 3) va) : DueO G h rs L lp I lr i h'
inductive DueM (h₅ : Heap) (rs : List Rule) (pth : Str) (L lp lr : Nat) (j : Nat) (h' : Heap) : Prop
  | mk (m t vw va : _) (p1 : KpW [L, L + 2, L + 3] h₅ h') (p2 : h'.Ns L m) (p3 : m "rows" = some (.ref lp)) (p4 : m "rules" = some (.ref lr)) (p5 : m "signs" = some (.str (signK rs pth (3 * j)) t)) (p6 : h'.IsCell (L + 2) vw) (p7 : h'.IsCell (L + 3) va) : DueM h₅ rs pth L lp lr j h'
inductive DueN (h₅ : Heap) (rs : List Rule) (pth : Str) (L lp lr : Nat) (vw : Option Value) (j : Nat) (S : Heap → Prop) (k : Nat) (h' : Heap) : Prop
  | mk (m t va : _) (p1 : KpW [L, L + 2, L + 3] h₅ h') (p2 : h'.Ns L m) (p3 : m "rows" = some (.ref lp)) (p4 : m "rules" = some (.ref lr)) (p5 : m "signs" = some (.str (signK rs pth (3 * j + k)) t)) (p6 : h'.IsCell (L + 2) vw) (p7 : h'.IsCell (L + 3) va) (p8 : S h') : DueN h₅ rs pth L lp lr vw j S k h'
section
variable {C : Cx} {A : Around} {h : Heap} {E : Value → Heap → Prop} {G : Heap}
theorem due_W (hG : Gd C G) (kp : Kp G h) (r : Rm A 40) {lr : Addr} {rs : List Rule} (ru : RulesAt G lr rs) (hlen : rs.length ≤ 100) (hfl : ∀ r ∈ rs, r.1.length ≤ 100) {Q : Value → Heap → Prop}
    (q : ∀ a h' G', Kp h h' → Grow G h G' h' → ListgAt G' a (rowsD rs) → Q (.ref a) h') : WP C A (call (.ref 148) [.ref lr]) Q E h := by
  have g := hG.keeps kp
  have r' : ∀ env, Rm (A.deeper env) 39 := fun env => r.deeper
  have hh : ∀ env, (A.deeper env).handled = none := fun env => (r' env).hd
  refine W_callFnC (binds := [("rules", .ref lr)]) g.nolimit (g.X 148 _ rfl) rfl rfl (codeRec_of g.X rfl) (by have := r.lim; omega) rfl rfl ?_ ?_
  · exact kindsX (binds := [("rules", .ref lr)]) rfl _
  intro h₁ n₁ k₁ c₁
  have cp : h₁.IsCell (h.objs.size + 1) none := c₁ "path" (h.objs.size + 1) rfl
  have cw : h₁.IsCell (h.objs.size + 2) none := c₁ "who" (h.objs.size + 2) rfl
  have ca : h₁.IsCell (h.objs.size + 3) none := c₁ "act" (h.objs.size + 3) rfl
  have n₁' : h₁.Ns h.objs.size (upd (fun _ => none) "rules" (.ref lr)) := n₁
  clear n₁ c₁
  generalize hL : h.objs.size = L at *
  have zn : ∀ b, L ≤ b → h.get? b = none := fun b hb => none_of_size (hL ▸ hb)
  have zL := zn L (Nat.le_refl _)
  have z1 := zn (L + 1) (Nat.le_add_right _ _)
  have z2 := zn (L + 2) (Nat.le_add_right _ _)
  have z3 := zn (L + 3) (Nat.le_add_right _ _)
  have dL1 : L + 1 ≠ L := by first | exact oa0 (by assumption) | exact ob0 (by assumption) | exact oc0 (by assumption) | exact od0 (by assumption) | exact oe0 (by assumption) (by assumption) | exact oa1 (by assumption) | exact ob1 (by assumption) | exact oc1 (by assumption) | exact od1 (by assumption) | exact oe1 (by assumption) (by assumption) | exact oa2 (by assumption) | exact ob2 (by assumption) | exact oc2 (by assumption) | exact od2 (by assumption) | exact oe2 (by assumption) (by assumption) | exact oa3 (by assumption) | exact ob3 (by assumption) | exact oc3 (by assumption) | exact oe3 (by assumption) (by assumption) | exact of0 (by assumption) | exact of1 (by assumption) | exact og0 (by assumption) | exact og1 (by assumption) | exact og2 (by assumption) | exact og3 (by assumption) (by assumption) | exact og4 (by assumption) (by assumption) | exact oz01 _ | exact oz02 _ | exact oz03 _ | exact oz10 _ | exact oz12 _ | exact oz13 _ | exact oz20 _ | exact oz21 _ | exact oz23 _ | exact oz30 _ | exact oz31 _ | exact oz32 _ | omega
  have dL2 : L + 2 ≠ L := by first | exact oa0 (by assumption) | exact ob0 (by assumption) | exact oc0 (by assumption) | exact od0 (by assumption) | exact oe0 (by assumption) (by assumption) | exact oa1 (by assumption) | exact ob1 (by assumption) | exact oc1 (by assumption) | exact od1 (by assumption) | exact oe1 (by assumption) (by assumption) | exact oa2 (by assumption) | exact ob2 (by assumption) | exact oc2 (by assumption) | exact od2 (by assumption) | exact oe2 (by assumption) (by assumption) | exact oa3 (by assumption) | exact ob3 (by assumption) | exact oc3 (by assumption) | exact oe3 (by assumption) (by assumption) | exact of0 (by assumption) | exact of1 (by assumption) | exact og0 (by assumption) | exact og1 (by assumption) | exact og2 (by assumption) | exact og3 (by assumption) (by assumption) | exact og4 (by assumption) (by assumption) | exact oz01 _ | exact oz02 _ | exact oz03 _ | exact oz10 _ | exact oz12 _ | exact oz13 _ | exact oz20 _ | exact oz21 _ | exact oz23 _ | exact oz30 _ | exact oz31 _ | exact oz32 _ | omega
  have dL3 : L + 3 ≠ L := by first | exact oa0 (by assumption) | exact ob0 (by assumption) | exact oc0 (by assumption) | exact od0 (by assumption) | exact oe0 (by assumption) (by assumption) | exact oa1 (by assumption) | exact ob1 (by assumption) | exact oc1 (by assumption) | exact od1 (by assumption) | exact oe1 (by assumption) (by assumption) | exact oa2 (by assumption) | exact ob2 (by assumption) | exact oc2 (by assumption) | exact od2 (by assumption) | exact oe2 (by assumption) (by assumption) | exact oa3 (by assumption) | exact ob3 (by assumption) | exact oc3 (by assumption) | exact oe3 (by assumption) (by assumption) | exact of0 (by assumption) | exact of1 (by assumption) | exact og0 (by assumption) | exact og1 (by assumption) | exact og2 (by assumption) | exact og3 (by assumption) (by assumption) | exact og4 (by assumption) (by assumption) | exact oz01 _ | exact oz02 _ | exact oz03 _ | exact oz10 _ | exact oz12 _ | exact oz13 _ | exact oz20 _ | exact oz21 _ | exact oz23 _ | exact oz30 _ | exact oz31 _ | exact oz32 _ | omega
  have d12 : L + 1 ≠ L + 2 := by first | exact oa0 (by assumption) | exact ob0 (by assumption) | exact oc0 (by assumption) | exact od0 (by assumption) | exact oe0 (by assumption) (by assumption) | exact oa1 (by assumption) | exact ob1 (by assumption) | exact oc1 (by assumption) | exact od1 (by assumption) | exact oe1 (by assumption) (by assumption) | exact oa2 (by assumption) | exact ob2 (by assumption) | exact oc2 (by assumption) | exact od2 (by assumption) | exact oe2 (by assumption) (by assumption) | exact oa3 (by assumption) | exact ob3 (by assumption) | exact oc3 (by assumption) | exact oe3 (by assumption) (by assumption) | exact of0 (by assumption) | exact of1 (by assumption) | exact og0 (by assumption) | exact og1 (by assumption) | exact og2 (by assumption) | exact og3 (by assumption) (by assumption) | exact og4 (by assumption) (by assumption) | exact oz01 _ | exact oz02 _ | exact oz03 _ | exact oz10 _ | exact oz12 _ | exact oz13 _ | exact oz20 _ | exact oz21 _ | exact oz23 _ | exact oz30 _ | exact oz31 _ | exact oz32 _ | omega
  have d13 : L + 1 ≠ L + 3 := by first | exact oa0 (by assumption) | exact ob0 (by assumption) | exact oc0 (by assumption) | exact od0 (by assumption) | exact oe0 (by assumption) (by assumption) | exact oa1 (by assumption) | exact ob1 (by assumption) | exact oc1 (by assumption) | exact od1 (by assumption) | exact oe1 (by assumption) (by assumption) | exact oa2 (by assumption) | exact ob2 (by assumption) | exact oc2 (by assumption) | exact od2 (by assumption) | exact oe2 (by assumption) (by assumption) | exact oa3 (by assumption) | exact ob3 (by assumption) | exact oc3 (by assumption) | exact oe3 (by assumption) (by assumption) | exact of0 (by assumption) | exact of1 (by assumption) | exact og0 (by assumption) | exact og1 (by assumption) | exact og2 (by assumption) | exact og3 (by assumption) (by assumption) | exact og4 (by assumption) (by assumption) | exact oz01 _ | exact oz02 _ | exact oz03 _ | exact oz10 _ | exact oz12 _ | exact oz13 _ | exact oz20 _ | exact oz21 _ | exact oz23 _ | exact oz30 _ | exact oz31 _ | exact oz32 _ | omega
  have d23 : L + 2 ≠ L + 3 := by first | exact oa0 (by assumption) | exact ob0 (by assumption) | exact oc0 (by assumption) | exact od0 (by assumption) | exact oe0 (by assumption) (by assumption) | exact oa1 (by assumption) | exact ob1 (by assumption) | exact oc1 (by assumption) | exact od1 (by assumption) | exact oe1 (by assumption) (by assumption) | exact oa2 (by assumption) | exact ob2 (by assumption) | exact oc2 (by assumption) | exact od2 (by assumption) | exact oe2 (by assumption) (by assumption) | exact oa3 (by assumption) | exact ob3 (by assumption) | exact oc3 (by assumption) | exact oe3 (by assumption) (by assumption) | exact of0 (by assumption) | exact of1 (by assumption) | exact og0 (by assumption) | exact og1 (by assumption) | exact og2 (by assumption) | exact og3 (by assumption) (by assumption) | exact og4 (by assumption) (by assumption) | exact oz01 _ | exact oz02 _ | exact oz03 _ | exact oz10 _ | exact oz12 _ | exact oz13 _ | exact oz20 _ | exact oz21 _ | exact oz23 _ | exact oz30 _ | exact oz31 _ | exact oz32 _ | omega
  refine W_cons (W_Assign (W_List (W_items0 (W_newList (by simp) (W_store (n₁'.push _) fun h₂ n₂ s₂ => ?_)))))
  have lc3 : L + 3 < h₁.objs.size := let ⟨o, e, _⟩ := ca; Heap.lt_size e
  have p₂ : h₂.get? h₁.objs.size = some (listO []) := (s₂.2 _ (show h₁.objs.size ≠ L by first | exact oa0 (by assumption) | exact ob0 (by assumption) | exact oc0 (by assumption) | exact od0 (by assumption) | exact oe0 (by assumption) (by assumption) | exact oa1 (by assumption) | exact ob1 (by assumption) | exact oc1 (by assumption) | exact od1 (by assumption) | exact oe1 (by assumption) (by assumption) | exact oa2 (by assumption) | exact ob2 (by assumption) | exact oc2 (by assumption) | exact od2 (by assumption) | exact oe2 (by assumption) (by assumption) | exact oa3 (by assumption) | exact ob3 (by assumption) | exact oc3 (by assumption) | exact oe3 (by assumption) (by assumption) | exact of0 (by assumption) | exact of1 (by assumption) | exact og0 (by assumption) | exact og1 (by assumption) | exact og2 (by assumption) | exact og3 (by assumption) (by assumption) | exact og4 (by assumption) (by assumption) | exact oz01 _ | exact oz02 _ | exact oz03 _ | exact oz10 _ | exact oz12 _ | exact oz13 _ | exact oz20 _ | exact oz21 _ | exact oz23 _ | exact oz30 _ | exact oz31 _ | exact oz32 _ | omega)).trans (Heap.get?_push_size _ rfl)
  have k₂ : Kp h h₂ := (k₁.push _).same s₂ zL
  have cp₂ := cellA cp fun o x => (s₂.2 _ dL1).trans (Heap.get?_push_of_some (listO []) x)
  have cw₂ := cellA cw fun o x => (s₂.2 _ dL2).trans (Heap.get?_push_of_some (listO []) x)
  have ca₂ := cellA ca fun o x => (s₂.2 _ dL3).trans (Heap.get?_push_of_some (listO []) x)
  generalize hlp : h₁.objs.size = lp at *
  have zp := zn lp (by first | exact oa0 (by assumption) | exact ob0 (by assumption) | exact oc0 (by assumption) | exact od0 (by assumption) | exact oe0 (by assumption) (by assumption) | exact oa1 (by assumption) | exact ob1 (by assumption) | exact oc1 (by assumption) | exact od1 (by assumption) | exact oe1 (by assumption) (by assumption) | exact oa2 (by assumption) | exact ob2 (by assumption) | exact oc2 (by assumption) | exact od2 (by assumption) | exact oe2 (by assumption) (by assumption) | exact oa3 (by assumption) | exact ob3 (by assumption) | exact oc3 (by assumption) | exact oe3 (by assumption) (by assumption) | exact of0 (by assumption) | exact of1 (by assumption) | exact og0 (by assumption) | exact og1 (by assumption) | exact og2 (by assumption) | exact og3 (by assumption) (by assumption) | exact og4 (by assumption) (by assumption) | exact oz01 _ | exact oz02 _ | exact oz03 _ | exact oz10 _ | exact oz12 _ | exact oz13 _ | exact oz20 _ | exact oz21 _ | exact oz23 _ | exact oz30 _ | exact oz31 _ | exact oz32 _ | omega)
  refine W_cons (W_For (W_List (W_items (W_str fun ta => W_items (W_str fun tb => W_items (W_str fun tc => W_items0 (W_newList (by simp) ?_)))))))
  have hps : (h₂.push (listO [.str "/a" ta, .str "/a/b" tb, .str "/b" tc])).get? h₂.objs.size = some _ := Heap.get?_push_size _ rfl
  refine walk_list' (vs := [.str "/a" ta, .str "/a/b" tb, .str "/b" tc]) (hh _) (isList_of hps) fun St h₃ w => ?_
  have sz2 : (h₂.push (listO [.str "/a" ta, .str "/a/b" tb, .str "/b" tc])).objs.size = h₂.objs.size + 1 := Heap.size_push _ _
  rw [sz2] at w ⊢
  have k₃ : Kp h₂ h₃ := ((Kp.refl h₂).push _).trans w.kp
  have lp2 : lp < h₂.objs.size := Heap.lt_size p₂
  have l3h : L + 3 < h₂.objs.size := Nat.lt_trans lc3 lp2
  have gz : ∀ {b}, h.get? b = none → G.get? b = none := fun hb => kp.off hb
  have zI := zn (h₂.objs.size + 1) (by first | exact oa0 (by assumption) | exact ob0 (by assumption) | exact oc0 (by assumption) | exact od0 (by assumption) | exact oe0 (by assumption) (by assumption) | exact oa1 (by assumption) | exact ob1 (by assumption) | exact oc1 (by assumption) | exact od1 (by assumption) | exact oe1 (by assumption) (by assumption) | exact oa2 (by assumption) | exact ob2 (by assumption) | exact oc2 (by assumption) | exact od2 (by assumption) | exact oe2 (by assumption) (by assumption) | exact oa3 (by assumption) | exact ob3 (by assumption) | exact oc3 (by assumption) | exact oe3 (by assumption) (by assumption) | exact of0 (by assumption) | exact of1 (by assumption) | exact og0 (by assumption) | exact og1 (by assumption) | exact og2 (by assumption) | exact og3 (by assumption) (by assumption) | exact og4 (by assumption) (by assumption) | exact oz01 _ | exact oz02 _ | exact oz03 _ | exact oz10 _ | exact oz12 _ | exact oz13 _ | exact oz20 _ | exact oz21 _ | exact oz23 _ | exact oz30 _ | exact oz31 _ | exact oz32 _ | omega)
  have nfp : ∀ {b : Nat}, b < h₂.objs.size → b ∉ [h₂.objs.size + 1, h₂.objs.size] := fun hb x => by
    simp only [List.mem_cons, List.not_mem_nil, or_false] at x
    rcases x with x | x <;> (have y : @Eq Nat _ _ := x; omega)
  obtain ⟨ras, rn, erl, rat⟩ := ru
  refine C_forW w (DueO G h rs L lp (h₂.objs.size + 1) lr)
    ⟨G, [], 0, _, _, _, _, Kp.refl _, kp.trans (k₂.trans k₃), fun b o e => .inl e, k₂.trans k₃, ⟨gz zL, gz z1, gz z2, gz z3, gz zp, gz zI⟩, k₃ _ _ p₂, .nil, n₂.keeps k₃, upd_eq, upd_ne upd_eq, cellA cp₂ fun o => k₃ _ o, cellA cw₂ fun o => k₃ _ o, cellA ca₂ fun o => k₃ _ o⟩ ?_ ?_
  · rintro i v h' h₄ hi ⟨G', as, n, m, vp, vw, va, kG, kG', new, kh, ⟨oL, o1, o2, o3, op, oI⟩, el, tups, nL, mr, mru, cp', cw', ca'⟩ p st st' kw
    obtain ⟨pth, tp, rfl, epth⟩ : ∃ pth t, v = .str pth t ∧ paths[i]? = some pth := by
      have h3 : i = 0 ∨ i = 1 ∨ i = 2 := by have : i < 3 := hi; omega
      rcases h3 with rfl | rfl | rfl <;> (cases p; exact ⟨_, _, rfl, rfl⟩)
    have kwI : ∀ {b : Nat} {o}, b ≠ h₂.objs.size + 1 → h'.get? b = some o → h₄.get? b = some o := fun hb e => kw _ _ (by simpa using hb) e
    refine W_aName (W_storeC rfl (cellA cp' fun o => kwI (by first | exact oa0 (by assumption) | exact ob0 (by assumption) | exact oc0 (by assumption) | exact od0 (by assumption) | exact oe0 (by assumption) (by assumption) | exact oa1 (by assumption) | exact ob1 (by assumption) | exact oc1 (by assumption) | exact od1 (by assumption) | exact oe1 (by assumption) (by assumption) | exact oa2 (by assumption) | exact ob2 (by assumption) | exact oc2 (by assumption) | exact od2 (by assumption) | exact oe2 (by assumption) (by assumption) | exact oa3 (by assumption) | exact ob3 (by assumption) | exact oc3 (by assumption) | exact oe3 (by assumption) (by assumption) | exact of0 (by assumption) | exact of1 (by assumption) | exact og0 (by assumption) | exact og1 (by assumption) | exact og2 (by assumption) | exact og3 (by assumption) (by assumption) | exact og4 (by assumption) (by assumption) | exact oz01 _ | exact oz02 _ | exact oz03 _ | exact oz10 _ | exact oz12 _ | exact oz13 _ | exact oz20 _ | exact oz21 _ | exact oz23 _ | exact oz30 _ | exact oz31 _ | exact oz32 _ | omega)) fun hx cpx sx => WP.gen fun Qi kQi => ?_)
    have nx := nsA nL fun o x => (sx.2 _ (Ne.symm dL1)).trans (kwI (by first | exact oa0 (by assumption) | exact ob0 (by assumption) | exact oc0 (by assumption) | exact od0 (by assumption) | exact oe0 (by assumption) (by assumption) | exact oa1 (by assumption) | exact ob1 (by assumption) | exact oc1 (by assumption) | exact od1 (by assumption) | exact oe1 (by assumption) (by assumption) | exact oa2 (by assumption) | exact ob2 (by assumption) | exact oc2 (by assumption) | exact od2 (by assumption) | exact oe2 (by assumption) (by assumption) | exact oa3 (by assumption) | exact ob3 (by assumption) | exact oc3 (by assumption) | exact oe3 (by assumption) (by assumption) | exact of0 (by assumption) | exact of1 (by assumption) | exact og0 (by assumption) | exact og1 (by assumption) | exact og2 (by assumption) | exact og3 (by assumption) (by assumption) | exact og4 (by assumption) (by assumption) | exact oz01 _ | exact oz02 _ | exact oz03 _ | exact oz10 _ | exact oz12 _ | exact oz13 _ | exact oz20 _ | exact oz21 _ | exact oz23 _ | exact oz30 _ | exact oz31 _ | exact oz32 _ | omega) x)
    refine W_cons (W_Assign (W_str fun ts => W_store nx fun h₅ n₅ s₅ => ?_))
    have s₅ : Heap.SameBut L hx h₅ := s₅
    have n₅ : h₅.Ns L _ := n₅
    have up5 : ∀ {b : Nat} {o}, b ≠ L → b ≠ L + 1 → b ≠ h₂.objs.size + 1 → h'.get? b = some o → h₅.get? b = some o := fun h1 h2 h3 x => (s₅.2 _ h1).trans ((sx.2 _ h2).trans (kwI h3 x))
    have cp₅ := cellA cpx fun o x => (s₅.2 _ dL1).trans x
    have cw₅ := cellA cw' fun o => up5 dL2 (Ne.symm d12) (by first | exact oa0 (by assumption) | exact ob0 (by assumption) | exact oc0 (by assumption) | exact od0 (by assumption) | exact oe0 (by assumption) (by assumption) | exact oa1 (by assumption) | exact ob1 (by assumption) | exact oc1 (by assumption) | exact od1 (by assumption) | exact oe1 (by assumption) (by assumption) | exact oa2 (by assumption) | exact ob2 (by assumption) | exact oc2 (by assumption) | exact od2 (by assumption) | exact oe2 (by assumption) (by assumption) | exact oa3 (by assumption) | exact ob3 (by assumption) | exact oc3 (by assumption) | exact oe3 (by assumption) (by assumption) | exact of0 (by assumption) | exact of1 (by assumption) | exact og0 (by assumption) | exact og1 (by assumption) | exact og2 (by assumption) | exact og3 (by assumption) (by assumption) | exact og4 (by assumption) (by assumption) | exact oz01 _ | exact oz02 _ | exact oz03 _ | exact oz10 _ | exact oz12 _ | exact oz13 _ | exact oz20 _ | exact oz21 _ | exact oz23 _ | exact oz30 _ | exact oz31 _ | exact oz32 _ | omega)
    have ca₅ := cellA ca' fun o => up5 dL3 (Ne.symm d13) (by first | exact oa0 (by assumption) | exact ob0 (by assumption) | exact oc0 (by assumption) | exact od0 (by assumption) | exact oe0 (by assumption) (by assumption) | exact oa1 (by assumption) | exact ob1 (by assumption) | exact oc1 (by assumption) | exact od1 (by assumption) | exact oe1 (by assumption) (by assumption) | exact oa2 (by assumption) | exact ob2 (by assumption) | exact oc2 (by assumption) | exact od2 (by assumption) | exact oe2 (by assumption) (by assumption) | exact oa3 (by assumption) | exact ob3 (by assumption) | exact oc3 (by assumption) | exact oe3 (by assumption) (by assumption) | exact of0 (by assumption) | exact of1 (by assumption) | exact og0 (by assumption) | exact og1 (by assumption) | exact og2 (by assumption) | exact og3 (by assumption) (by assumption) | exact og4 (by assumption) (by assumption) | exact oz01 _ | exact oz02 _ | exact oz03 _ | exact oz10 _ | exact oz12 _ | exact oz13 _ | exact oz20 _ | exact oz21 _ | exact oz23 _ | exact oz30 _ | exact oz31 _ | exact oz32 _ | omega)
    have e₅ : h₅.get? lp = _ := up5 (by first | exact oa0 (by assumption) | exact ob0 (by assumption) | exact oc0 (by assumption) | exact od0 (by assumption) | exact oe0 (by assumption) (by assumption) | exact oa1 (by assumption) | exact ob1 (by assumption) | exact oc1 (by assumption) | exact od1 (by assumption) | exact oe1 (by assumption) (by assumption) | exact oa2 (by assumption) | exact ob2 (by assumption) | exact oc2 (by assumption) | exact od2 (by assumption) | exact oe2 (by assumption) (by assumption) | exact oa3 (by assumption) | exact ob3 (by assumption) | exact oc3 (by assumption) | exact oe3 (by assumption) (by assumption) | exact of0 (by assumption) | exact of1 (by assumption) | exact og0 (by assumption) | exact og1 (by assumption) | exact og2 (by assumption) | exact og3 (by assumption) (by assumption) | exact og4 (by assumption) (by assumption) | exact oz01 _ | exact oz02 _ | exact oz03 _ | exact oz10 _ | exact oz12 _ | exact oz13 _ | exact oz20 _ | exact oz21 _ | exact oz23 _ | exact oz30 _ | exact oz31 _ | exact oz32 _ | omega) (by first | exact oa0 (by assumption) | exact ob0 (by assumption) | exact oc0 (by assumption) | exact od0 (by assumption) | exact oe0 (by assumption) (by assumption) | exact oa1 (by assumption) | exact ob1 (by assumption) | exact oc1 (by assumption) | exact od1 (by assumption) | exact oe1 (by assumption) (by assumption) | exact oa2 (by assumption) | exact ob2 (by assumption) | exact oc2 (by assumption) | exact od2 (by assumption) | exact oe2 (by assumption) (by assumption) | exact oa3 (by assumption) | exact ob3 (by assumption) | exact oc3 (by assumption) | exact oe3 (by assumption) (by assumption) | exact of0 (by assumption) | exact of1 (by assumption) | exact og0 (by assumption) | exact og1 (by assumption) | exact og2 (by assumption) | exact og3 (by assumption) (by assumption) | exact og4 (by assumption) (by assumption) | exact oz01 _ | exact oz02 _ | exact oz03 _ | exact oz10 _ | exact oz12 _ | exact oz13 _ | exact oz20 _ | exact oz21 _ | exact oz23 _ | exact oz30 _ | exact oz31 _ | exact oz32 _ | omega) (by first | exact oa0 (by assumption) | exact ob0 (by assumption) | exact oc0 (by assumption) | exact od0 (by assumption) | exact oe0 (by assumption) (by assumption) | exact oa1 (by assumption) | exact ob1 (by assumption) | exact oc1 (by assumption) | exact od1 (by assumption) | exact oe1 (by assumption) (by assumption) | exact oa2 (by assumption) | exact ob2 (by assumption) | exact oc2 (by assumption) | exact od2 (by assumption) | exact oe2 (by assumption) (by assumption) | exact oa3 (by assumption) | exact ob3 (by assumption) | exact oc3 (by assumption) | exact oe3 (by assumption) (by assumption) | exact of0 (by assumption) | exact of1 (by assumption) | exact og0 (by assumption) | exact og1 (by assumption) | exact og2 (by assumption) | exact og3 (by assumption) (by assumption) | exact og4 (by assumption) (by assumption) | exact oz01 _ | exact oz02 _ | exact oz03 _ | exact oz10 _ | exact oz12 _ | exact oz13 _ | exact oz20 _ | exact oz21 _ | exact oz23 _ | exact oz30 _ | exact oz31 _ | exact oz32 _ | omega) el
    have kG₅ : Kp G' h₅ := fun b o x => up5 (fun z => by have z' : b = L := z; rw [z', oL] at x; cases x) (fun z => by have z' : b = L + 1 := z; rw [z', o1] at x; cases x) (fun z => by have z' : b = h₂.objs.size + 1 := z; rw [z', oI] at x; cases x) (kG' b o x)
    have kh₅ : Kp h h₅ := fun b o x => up5 (fun z => by have z' : b = L := z; rw [z', zL] at x; cases x) (fun z => by have z' : b = L + 1 := z; rw [z', z1] at x; cases x) (fun z => by have z' : b = h₂.objs.size + 1 := z; rw [z', zI] at x; cases x) (kh b o x)
    have st₅ : St (i + 1) h₅ := w.W.frame _ _ _ st' fun b hb o x => (s₅.2 b (fun z => nfp (show L < h₂.objs.size by first | exact oa0 (by assumption) | exact ob0 (by assumption) | exact oc0 (by assumption) | exact od0 (by assumption) | exact oe0 (by assumption) (by assumption) | exact oa1 (by assumption) | exact ob1 (by assumption) | exact oc1 (by assumption) | exact od1 (by assumption) | exact oe1 (by assumption) (by assumption) | exact oa2 (by assumption) | exact ob2 (by assumption) | exact oc2 (by assumption) | exact od2 (by assumption) | exact oe2 (by assumption) (by assumption) | exact oa3 (by assumption) | exact ob3 (by assumption) | exact oc3 (by assumption) | exact oe3 (by assumption) (by assumption) | exact of0 (by assumption) | exact of1 (by assumption) | exact og0 (by assumption) | exact og1 (by assumption) | exact og2 (by assumption) | exact og3 (by assumption) (by assumption) | exact og4 (by assumption) (by assumption) | exact oz01 _ | exact oz02 _ | exact oz03 _ | exact oz10 _ | exact oz12 _ | exact oz13 _ | exact oz20 _ | exact oz21 _ | exact oz23 _ | exact oz30 _ | exact oz31 _ | exact oz32 _ | omega) (z ▸ hb))).trans ((sx.2 b (fun z => nfp (show L + 1 < h₂.objs.size by first | exact oa0 (by assumption) | exact ob0 (by assumption) | exact oc0 (by assumption) | exact od0 (by assumption) | exact oe0 (by assumption) (by assumption) | exact oa1 (by assumption) | exact ob1 (by assumption) | exact oc1 (by assumption) | exact od1 (by assumption) | exact oe1 (by assumption) (by assumption) | exact oa2 (by assumption) | exact ob2 (by assumption) | exact oc2 (by assumption) | exact od2 (by assumption) | exact oe2 (by assumption) (by assumption) | exact oa3 (by assumption) | exact ob3 (by assumption) | exact oc3 (by assumption) | exact oe3 (by assumption) (by assumption) | exact of0 (by assumption) | exact of1 (by assumption) | exact og0 (by assumption) | exact og1 (by assumption) | exact og2 (by assumption) | exact og3 (by assumption) (by assumption) | exact og4 (by assumption) (by assumption) | exact oz01 _ | exact oz02 _ | exact oz03 _ | exact oz10 _ | exact oz12 _ | exact oz13 _ | exact oz20 _ | exact oz21 _ | exact oz23 _ | exact oz30 _ | exact oz31 _ | exact oz32 _ | omega) (z ▸ hb))).trans x)
    have plen : pth.length ≤ 4 := by
      have h3 : i = 0 ∨ i = 1 ∨ i = 2 := by have : i < 3 := hi; omega
      rcases h3 with rfl | rfl | rfl <;> (cases epth; decide)
    have l5 : ∀ {b : Nat} {o}, h₅.get? b = some o → b < h₅.objs.size := fun x => Heap.lt_size x
    have L5 : L < h₅.objs.size := n₅.lt
    have c25 : L + 2 < h₅.objs.size := let ⟨o, x, _⟩ := cw₅; Heap.lt_size x
    have c35 : L + 3 < h₅.objs.size := let ⟨o, x, _⟩ := ca₅; Heap.lt_size x
    refine W_cons (W_For (W_str fun tu => walk_str' (hh _) fun St₁ h₆ w₁ => C_forW w₁ (DueM h₅ rs pth L lp lr)
      ⟨_, ts, _, _, fun b o _ x => w₁.kp b o x, n₅.keeps w₁.kp, upd_ne mr, upd_ne mru, upd_eq, cellA cw₅ fun o => w₁.kp _ o, cellA ca₅ fun o => w₁.kp _ o⟩ ?_ ?_))
    · rintro j v ha hb hj ⟨m, t, vw, va, kW, nA, ma, mb, ms, cwA, caA⟩ ⟨c, u, hc, rfl⟩ stA stB kwB
      have hj3 : j < 3 := hj
      have kwB' : ∀ {b : Nat} {o}, b ≠ h₅.objs.size → ha.get? b = some o → hb.get? b = some o := fun hb e => kwB _ _ (by simpa using hb) e
      refine W_aName (W_storeC rfl (cellA cwA fun o => kwB' (by first | exact oa0 (by assumption) | exact ob0 (by assumption) | exact oc0 (by assumption) | exact od0 (by assumption) | exact oe0 (by assumption) (by assumption) | exact oa1 (by assumption) | exact ob1 (by assumption) | exact oc1 (by assumption) | exact od1 (by assumption) | exact oe1 (by assumption) (by assumption) | exact oa2 (by assumption) | exact ob2 (by assumption) | exact oc2 (by assumption) | exact od2 (by assumption) | exact oe2 (by assumption) (by assumption) | exact oa3 (by assumption) | exact ob3 (by assumption) | exact oc3 (by assumption) | exact oe3 (by assumption) (by assumption) | exact of0 (by assumption) | exact of1 (by assumption) | exact og0 (by assumption) | exact og1 (by assumption) | exact og2 (by assumption) | exact og3 (by assumption) (by assumption) | exact og4 (by assumption) (by assumption) | exact oz01 _ | exact oz02 _ | exact oz03 _ | exact oz10 _ | exact oz12 _ | exact oz13 _ | exact oz20 _ | exact oz21 _ | exact oz23 _ | exact oz30 _ | exact oz31 _ | exact oz32 _ | omega)) fun hc_ cwc sc => WP.gen fun Qj kQj => ?_)
      have sc : Heap.SameBut (L + 2) hb hc_ := sc
      have kc : KpW [L, L + 2, L + 3] h₅ hc_ := fun b o hb' x => (sc.2 b (fun z => hb' (by simp [z]))).trans (kwB' (Nat.ne_of_lt (l5 x)) (kW b o hb' x))
      have nc := nsA nA fun o x => (sc.2 _ (Ne.symm dL2)).trans (kwB' (by first | exact oa0 (by assumption) | exact ob0 (by assumption) | exact oc0 (by assumption) | exact od0 (by assumption) | exact oe0 (by assumption) (by assumption) | exact oa1 (by assumption) | exact ob1 (by assumption) | exact oc1 (by assumption) | exact od1 (by assumption) | exact oe1 (by assumption) (by assumption) | exact oa2 (by assumption) | exact ob2 (by assumption) | exact oc2 (by assumption) | exact od2 (by assumption) | exact oe2 (by assumption) (by assumption) | exact oa3 (by assumption) | exact ob3 (by assumption) | exact oc3 (by assumption) | exact oe3 (by assumption) (by assumption) | exact of0 (by assumption) | exact of1 (by assumption) | exact og0 (by assumption) | exact og1 (by assumption) | exact og2 (by assumption) | exact og3 (by assumption) (by assumption) | exact og4 (by assumption) (by assumption) | exact oz01 _ | exact oz02 _ | exact oz03 _ | exact oz10 _ | exact oz12 _ | exact oz13 _ | exact oz20 _ | exact oz21 _ | exact oz23 _ | exact oz30 _ | exact oz31 _ | exact oz32 _ | omega) x)
      have cac := cellA caA fun o x => (sc.2 _ (Ne.symm d23)).trans (kwB' (by first | exact oa0 (by assumption) | exact ob0 (by assumption) | exact oc0 (by assumption) | exact od0 (by assumption) | exact oe0 (by assumption) (by assumption) | exact oa1 (by assumption) | exact ob1 (by assumption) | exact oc1 (by assumption) | exact od1 (by assumption) | exact oe1 (by assumption) (by assumption) | exact oa2 (by assumption) | exact ob2 (by assumption) | exact oc2 (by assumption) | exact od2 (by assumption) | exact oe2 (by assumption) (by assumption) | exact oa3 (by assumption) | exact ob3 (by assumption) | exact oc3 (by assumption) | exact oe3 (by assumption) (by assumption) | exact of0 (by assumption) | exact of1 (by assumption) | exact og0 (by assumption) | exact og1 (by assumption) | exact og2 (by assumption) | exact og3 (by assumption) (by assumption) | exact og4 (by assumption) (by assumption) | exact oz01 _ | exact oz02 _ | exact oz03 _ | exact oz10 _ | exact oz12 _ | exact oz13 _ | exact oz20 _ | exact oz21 _ | exact oz23 _ | exact oz30 _ | exact oz31 _ | exact oz32 _ | omega) x)
      have stc : St₁ (j + 1) hc_ := w₁.W.frame _ _ _ stB fun b hb o x => (sc.2 b (fun z => by
        simp only [List.mem_cons, List.not_mem_nil, or_false] at hb
        have e1 : @Eq Nat b h₅.objs.size := hb
        have e2 : @Eq Nat b (L + 2) := z
        omega)).trans x
      have h5c : h₅.objs.size < hc_.objs.size := by
        obtain ⟨o, x⟩ := w₁.pr _ _ stc h₅.objs.size (by simp)
        exact Heap.lt_size x
      have l3c : L + 3 < hc_.objs.size := Nat.lt_trans c35 h5c
      refine W_cons (W_For (W_str fun tr => walk_str' (hh _) fun St₂ hd w₂ => C_forW w₂ (DueN h₅ rs pth L lp lr (some (.str ⟨#[c]⟩ u)) j (St₁ (j + 1)))
        ⟨_, t, _, fun b o hb' x => w₂.kp b o (kc b o hb' x), nc.keeps w₂.kp, ma, mb, ms, cellA cwc fun o => w₂.kp _ o, cellA cac fun o => w₂.kp _ o, w₁.W.frame _ _ _ stc fun b _ o x => w₂.kp b o x⟩ ?_ ?_))
      · rintro k v hx hy hk ⟨m, t, va, kX, nX, ma, mb, ms, cwX, caX, sX⟩ ⟨d, ud, hd', rfl⟩ stx sty kwy
        have hk3 : k < 3 := hk
        have kwy' : ∀ {b : Nat} {o}, b ≠ hc_.objs.size → hx.get? b = some o → hy.get? b = some o := fun hb e => kwy _ _ (by simpa using hb) e
        refine W_aName (W_storeC rfl (cellA caX fun o => kwy' (by first | exact oa0 (by assumption) | exact ob0 (by assumption) | exact oc0 (by assumption) | exact od0 (by assumption) | exact oe0 (by assumption) (by assumption) | exact oa1 (by assumption) | exact ob1 (by assumption) | exact oc1 (by assumption) | exact od1 (by assumption) | exact oe1 (by assumption) (by assumption) | exact oa2 (by assumption) | exact ob2 (by assumption) | exact oc2 (by assumption) | exact od2 (by assumption) | exact oe2 (by assumption) (by assumption) | exact oa3 (by assumption) | exact ob3 (by assumption) | exact oc3 (by assumption) | exact oe3 (by assumption) (by assumption) | exact of0 (by assumption) | exact of1 (by assumption) | exact og0 (by assumption) | exact og1 (by assumption) | exact og2 (by assumption) | exact og3 (by assumption) (by assumption) | exact og4 (by assumption) (by assumption) | exact oz01 _ | exact oz02 _ | exact oz03 _ | exact oz10 _ | exact oz12 _ | exact oz13 _ | exact oz20 _ | exact oz21 _ | exact oz23 _ | exact oz30 _ | exact oz31 _ | exact oz32 _ | omega)) fun hz caz sz => WP.gen fun Qk kQk => ?_)
        have sz : Heap.SameBut (L + 3) hy hz := sz
        have upz : ∀ {b : Nat} {o}, b ≠ L + 3 → b ≠ hc_.objs.size → hx.get? b = some o → hz.get? b = some o := fun h1 h2 x => (sz.2 _ h1).trans (kwy' h2 x)
        have nz := nsA nX fun o => upz (Ne.symm dL3) (by first | exact oa0 (by assumption) | exact ob0 (by assumption) | exact oc0 (by assumption) | exact od0 (by assumption) | exact oe0 (by assumption) (by assumption) | exact oa1 (by assumption) | exact ob1 (by assumption) | exact oc1 (by assumption) | exact od1 (by assumption) | exact oe1 (by assumption) (by assumption) | exact oa2 (by assumption) | exact ob2 (by assumption) | exact oc2 (by assumption) | exact od2 (by assumption) | exact oe2 (by assumption) (by assumption) | exact oa3 (by assumption) | exact ob3 (by assumption) | exact oc3 (by assumption) | exact oe3 (by assumption) (by assumption) | exact of0 (by assumption) | exact of1 (by assumption) | exact og0 (by assumption) | exact og1 (by assumption) | exact og2 (by assumption) | exact og3 (by assumption) (by assumption) | exact og4 (by assumption) (by assumption) | exact oz01 _ | exact oz02 _ | exact oz03 _ | exact oz10 _ | exact oz12 _ | exact oz13 _ | exact oz20 _ | exact oz21 _ | exact oz23 _ | exact oz30 _ | exact oz31 _ | exact oz32 _ | omega)
        have cwz := cellA cwX fun o => upz d23 (by first | exact oa0 (by assumption) | exact ob0 (by assumption) | exact oc0 (by assumption) | exact od0 (by assumption) | exact oe0 (by assumption) (by assumption) | exact oa1 (by assumption) | exact ob1 (by assumption) | exact oc1 (by assumption) | exact od1 (by assumption) | exact oe1 (by assumption) (by assumption) | exact oa2 (by assumption) | exact ob2 (by assumption) | exact oc2 (by assumption) | exact od2 (by assumption) | exact oe2 (by assumption) (by assumption) | exact oa3 (by assumption) | exact ob3 (by assumption) | exact oc3 (by assumption) | exact oe3 (by assumption) (by assumption) | exact of0 (by assumption) | exact of1 (by assumption) | exact og0 (by assumption) | exact og1 (by assumption) | exact og2 (by assumption) | exact og3 (by assumption) (by assumption) | exact og4 (by assumption) (by assumption) | exact oz01 _ | exact oz02 _ | exact oz03 _ | exact oz10 _ | exact oz12 _ | exact oz13 _ | exact oz20 _ | exact oz21 _ | exact oz23 _ | exact oz30 _ | exact oz31 _ | exact oz32 _ | omega)
        have kz : KpW [L, L + 2, L + 3] h₅ hz := fun b o hb' x => upz (fun z => hb' (by simp [z])) (Nat.ne_of_lt (Nat.lt_trans (l5 x) h5c)) (kX b o hb' x)
        have cpz := cellA cp₅ fun o => kz _ o (by simp)
        have s1z : St₁ (j + 1) hz := w₁.W.frame _ _ _ sX fun b hb o x => upz (by
          simp only [List.mem_cons, List.not_mem_nil, or_false] at hb
          have e1 : @Eq Nat b h₅.objs.size := hb
          omega) (by
          simp only [List.mem_cons, List.not_mem_nil, or_false] at hb
          have e1 : @Eq Nat b h₅.objs.size := hb
          omega) x
        have s2z : St₂ (k + 1) hz := w₂.W.frame _ _ _ sty fun b hb o x => (sz.2 _ (by
          simp only [List.mem_cons, List.not_mem_nil, or_false] at hb
          have e1 : @Eq Nat b hc_.objs.size := hb
          show @Ne Nat b (L + 3)
          omega)).trans x
        have kGz : Kp G' hz := fun b o x => kz b o (fun z => by
          simp only [List.mem_cons, List.not_mem_nil, or_false] at z
          rcases z with z | z | z <;> rw [z] at x
          · rw [oL] at x; cases x
          · rw [o2] at x; cases x
          · rw [o3] at x; cases x) (kG₅ b o x)
        have gG' := hG.keeps kG
        refine W_cons (W_Assign (W_BinOp (W_List (W_items (W_Tuple (W_items (W_int fun t0 => W_items (W_bool (W_items0 (W_newTuple (by simp) (W_items0 (W_newList (by simp) ?_))))))))))))
        have kT : Kp hz ((hz.push (tupO [.int 0 t0, .bool true])).push (listO [.ref hz.objs.size])) := ((Kp.refl hz).push _).push _
        have lT : ((hz.push (tupO [.int 0 t0, .bool true])).push (listO [.ref hz.objs.size])).get? (hz.push (tupO [.int 0 t0, .bool true])).objs.size = some (listO [.ref hz.objs.size]) := Heap.get?_push_size _ rfl
        have tT : ((hz.push (tupO [.int 0 t0, .bool true])).push (listO [.ref hz.objs.size])).get? hz.objs.size = some (fitV (0, true) t0) := Heap.get?_push_of_some _ (Heap.get?_push_size _ rfl)
        generalize ((hz.push (tupO [.int 0 t0, .bool true])).push (listO [.ref hz.objs.size])) = hT at kT lT tT ⊢
        generalize (hz.push (tupO [.int 0 t0, .bool true])).objs.size = l0 at lT ⊢
        generalize hz.objs.size = a0 at lT tT
        have gT := gG'.keeps (kGz.trans kT)
        have rT := rat.keeps (kG.trans (kGz.trans kT))
        have erT := (kG.trans (kGz.trans kT)) _ _ erl
        have nmk : nm pth (3 * j + k) = ⟨#[d]⟩ ++ ⟨#[c]⟩ ++ pth := by unfold nm; rw [name_at hc hd']; rfl
        refine W_comp (cl := [("who", L + 2), ("path", L + 1), ("act", L + 3)]) rfl (W_local (nz.keeps kT) mb ⟨_, _, walk_list (hh _) (isList_of erT), by rw [List.length_map, rat.length]; omega, hT, fun i ys G => ∃ as, ys = as.map .ref ∧ FitsAt G as (fitsOf (rs.take i) (nm pth (3 * j + k))), Kp.refl _, ⟨[], rfl, .nil⟩, ?_, ?_⟩)
        · rintro Lk i v ys G2 hB m2 hi pv ⟨as2, rfl, fa⟩ kG2 kGB kAB oA gLk nB
          have hi' : i < ras.length := by simpa using hi
          obtain ⟨ra, era⟩ : ∃ a, ras[i]? = some a := ⟨_, List.getElem?_eq_getElem hi'⟩
          obtain ⟨rr, rt, err, ert⟩ := rT.get era
          have ev : v = .ref ra := by rw [List.getElem?_map, era] at pv; exact (Option.some.inj pv).symm
          subst ev
          have hrl : rr.1.length ≤ 100 := hfl rr (List.mem_of_getElem? err)
          refine W_aPair (hh _) (kAB _ _ ert) fun hC xC => ?_
          have kBC : Kp hB hC := fun b o x => xC b o (Nat.ne_of_lt (Heap.lt_size x)) x
          refine W_store (nsA nB fun o => kBC _ o) fun hD nD sD => W_store nD fun hF nF sF => ?_
          have sD : Heap.SameBut Lk hC hD := sD
          have sF : Heap.SameBut Lk hD hF := sF
          have nF : hF.Ns Lk _ := nF
          have upF : ∀ {b : Addr} {o}, b ≠ Lk → hB.get? b = some o → hF.get? b = some o := fun hb x => (sF.2 _ hb).trans ((sD.2 _ hb).trans (kBC _ _ x))
          have kTF : Kp hT hF := fun b o x => upF (fun z => by rw [z, oA] at x; cases x) (kAB b o x)
          have k2F : Kp G2 hF := fun b o x => upF (fun z => by rw [z, gLk] at x; cases x) (kGB b o x)
          have gF := gT.keeps kTF
          have caF := cellA caz fun o x => kTF _ o (kT _ o x)
          have cwF := cellA cwz fun o x => kTF _ o (kT _ o x)
          have cpF := cellA cpz fun o x => kTF _ o (kT _ o x)
          refine W_tests1 (W_tCompare (W_subStrTo (W_BinOp (W_BinOp (W_cell rfl caF (W_cell rfl cwF (W_addStr (by rw [sizeLine_eq]; show 1 + 1 ≤ _; decide) fun t1 => W_cell rfl cpF (W_addStr (by rw [sizeLine_eq, Str.length_append]; show 1 + 1 + pth.length ≤ _; omega) fun t2 => W_Call (W_builtin gF rfl boot_len (W_with (W_items (W_local nF (upd_ne upd_eq) (W_items0 ⟨Kept.builtin, ?_⟩)))))))))))))
          refine WP.of (fun kk => P.len_str (by first | exact oa0 (by assumption) | exact ob0 (by assumption) | exact oc0 (by assumption) | exact od0 (by assumption) | exact oe0 (by assumption) (by assumption) | exact oa1 (by assumption) | exact ob1 (by assumption) | exact oc1 (by assumption) | exact od1 (by assumption) | exact oe1 (by assumption) (by assumption) | exact oa2 (by assumption) | exact ob2 (by assumption) | exact oc2 (by assumption) | exact od2 (by assumption) | exact oe2 (by assumption) (by assumption) | exact oa3 (by assumption) | exact ob3 (by assumption) | exact oc3 (by assumption) | exact oe3 (by assumption) (by assumption) | exact of0 (by assumption) | exact of1 (by assumption) | exact og0 (by assumption) | exact og1 (by assumption) | exact og2 (by assumption) | exact og3 (by assumption) (by assumption) | exact og4 (by assumption) (by assumption) | exact oz01 _ | exact oz02 _ | exact oz03 _ | exact oz10 _ | exact oz12 _ | exact oz13 _ | exact oz20 _ | exact oz21 _ | exact oz23 _ | exact oz30 _ | exact oz31 _ | exact oz32 _ | omega) ⟨_, _, rfl, _, _, _, _, rfl, rfl, ?_, fun t3 hH kH => W_local (nF.keeps kH) (upd_ne upd_eq) (W_eqStr (W_tbool ?_))⟩)
          · rw [Str.length_append, Str.length_append]; show 1 + 1 + pth.length ≤ _; omega
          rw [← nmk]
          have nH := nF.keeps kH
          have gH := gF.keeps kH
          have htake : rs.take (i + 1) = rs.take i ++ [rr] := by rw [List.take_add_one, err]; rfl
          have ou : Out Lk hB hH := ⟨fun b o hb x => kH _ _ (upF hb x), _, nH⟩
          cases hv : (PySem.Txt.slice (nm pth (3 * j + k)) none (some (rr.1.length : Int)) == rr.1) with
          | false =>
            refine ⟨ou, as2, rfl, ?_⟩
            rw [htake, fits_snoc, hv]
            simpa using fa
          | true =>
            refine W_Tuple (W_items (W_BinOp (W_Call (W_builtin gH rfl boot_len (W_with (W_items (W_local nH (upd_ne upd_eq) (W_items0 ⟨Kept.builtin, ?_⟩))))))))
            refine WP.of fun kk => P.len_str (by first | exact oa0 (by assumption) | exact ob0 (by assumption) | exact oc0 (by assumption) | exact od0 (by assumption) | exact oe0 (by assumption) (by assumption) | exact oa1 (by assumption) | exact ob1 (by assumption) | exact oc1 (by assumption) | exact od1 (by assumption) | exact oe1 (by assumption) (by assumption) | exact oa2 (by assumption) | exact ob2 (by assumption) | exact oc2 (by assumption) | exact od2 (by assumption) | exact oe2 (by assumption) (by assumption) | exact oa3 (by assumption) | exact ob3 (by assumption) | exact oc3 (by assumption) | exact oe3 (by assumption) (by assumption) | exact of0 (by assumption) | exact of1 (by assumption) | exact og0 (by assumption) | exact og1 (by assumption) | exact og2 (by assumption) | exact og3 (by assumption) (by assumption) | exact og4 (by assumption) (by assumption) | exact oz01 _ | exact oz02 _ | exact oz03 _ | exact oz10 _ | exact oz12 _ | exact oz13 _ | exact oz20 _ | exact oz21 _ | exact oz23 _ | exact oz30 _ | exact oz31 _ | exact oz32 _ | omega) ⟨_, _, rfl, W_int fun _ => W_addInt fun t4 => W_items (W_local nH upd_eq (W_items0 (W_newTuple (by simp) ?_)))⟩
            have k2H : Kp G2 (hH.push (tupO [.int ((rr.1.length : Int) + 1) t4, .bool rr.2])) := (k2F.trans kH).push _
            have hno : hB.get? hH.objs.size = none := by
              cases x : hB.get? hH.objs.size with
              | none => rfl
              | some o =>
                by_cases z : hH.objs.size = Lk
                · have := nH.lt
                  have z' : @Eq Nat hH.objs.size Lk := z
                  have y : @LT.lt Nat _ Lk hH.objs.size := this
                  omega
                · exact absurd (Heap.lt_size (kH _ _ (upF z x))) (Nat.lt_irrefl _)
            refine ⟨⟨fun b o hb x => Heap.get?_push_of_some _ (ou.1 b o hb x), _, nH.push _⟩, grow G2 hB (hH.push (tupO [.int ((rr.1.length : Int) + 1) t4, .bool rr.2])), grow_is k2H, as2 ++ [hH.objs.size], by rw [List.map_append]; rfl, ?_⟩
            rw [htake, fits_snoc, hv]
            exact (fa.keeps (grow_is k2H).old).append (.cons (t := t4) (grow_new (Heap.get?_push_size _ rfl) hno) .nil)
        · rintro Dk ys G2 hB nk ⟨as2, rfl, fa⟩ gr kAB eDk oDk gDk
          have hn : (ras.map Value.ref).length = rs.length := by rw [List.length_map, rat.length]
          rw [hn, List.take_length] at fa
          have f100 : (fitsOf rs (nm pth (3 * j + k))).length ≤ 100 := by
            unfold fitsOf; rw [List.length_map]; exact Nat.le_trans (List.length_filter_le _ _) hlen
          refine W_addList (kAB _ _ lT) eDk (by rw [List.length_map, fa.length, List.length_singleton]; omega) ?_
          have kzB : Kp hz hB := kT.trans kAB
          have kzP : Kp hz (hB.push (listO ([.ref a0] ++ as2.map .ref))) := kzB.push _
          have lP : (hB.push (listO ([.ref a0] ++ as2.map .ref))).get? hB.objs.size = some (listO ((a0 :: as2).map .ref)) := Heap.get?_push_size _ rfl
          have fP : FitsAt (hB.push (listO ([.ref a0] ++ as2.map .ref))) (a0 :: as2) ((0, true) :: fitsOf rs (nm pth (3 * j + k))) := .cons (Heap.get?_push_of_some _ (kAB _ _ tT)) (fa.keeps (gr.now.push _))
          have gP := gT.keeps (kAB.push (listO ([.ref a0] ++ as2.map .ref)))
          generalize hB.push (listO ([.ref a0] ++ as2.map .ref)) = hP at kzP lP fP gP ⊢
          generalize hB.objs.size = lf at lP ⊢
          refine W_store (nz.keeps kzP) fun hF nF sF => ?_
          have sF : Heap.SameBut L hP hF := sF
          have nF : hF.Ns L _ := nF
          obtain ⟨oPL, xPL⟩ := ns_there (nz.keeps kzP)
          have dictL : ∀ {b : Addr} {o : Obj}, hP.get? b = some o → (∃ vs n, o.data = .seq vs n) → b ≠ L := fun {b o} x y z => by
            obtain ⟨o', es, ep, x', d', _⟩ := nz.keeps kzP
            rw [z, x'] at x; cases x
            obtain ⟨vs, n, y⟩ := y
            rw [d'] at y; cases y
          have lF : hF.get? lf = some (listO ((a0 :: as2).map .ref)) := (sF.2 _ (dictL lP ⟨_, _, rfl⟩)).trans lP
          have fF : FitsAt hF (a0 :: as2) ((0, true) :: fitsOf rs (nm pth (3 * j + k))) := fP.at fun b hb o x => (sF.2 _ (by
            obtain ⟨ii, hii, eii⟩ := List.getElem_of_mem hb
            obtain ⟨p, t, _, y⟩ := fP.get (i := ii) (a := b) (by rw [List.getElem?_eq_getElem hii, eii])
            exact dictL y ⟨_, _, rfl⟩)).trans x
          have gF : Gd C hF := gG'.keeps ((kGz.trans kzP).same sF oL)
          refine W_cons (W_Aug nF (upd_ne ms) (W_IfExp (W_tplain (W_Sub (W_Call (W_builtin gF rfl boot_max (W_with (W_items (W_local nF upd_eq (W_items0 ⟨Kept.builtin, ?_⟩))))))))))
          refine W_maxFits (r' _) lF fF (by simp) fun aM tM hM kM eM => W_int fun _ => W_subTup (i := 1) (isTup_of eM) (by decide) rfl (W_tbool ?_)
          have nM := nF.keeps kM
          have up : ∀ {b : Nat} {o}, b ≠ L → hz.get? b = some o → hM.get? b = some o := fun hb x => kM _ _ ((sF.2 _ hb).trans (kzP _ _ x))
          have slen := signK_len rs pth (3 * j + k) (by first | exact oa0 (by assumption) | exact ob0 (by assumption) | exact oc0 (by assumption) | exact od0 (by assumption) | exact oe0 (by assumption) (by assumption) | exact oa1 (by assumption) | exact ob1 (by assumption) | exact oc1 (by assumption) | exact od1 (by assumption) | exact oe1 (by assumption) (by assumption) | exact oa2 (by assumption) | exact ob2 (by assumption) | exact oc2 (by assumption) | exact od2 (by assumption) | exact oe2 (by assumption) (by assumption) | exact oa3 (by assumption) | exact ob3 (by assumption) | exact oc3 (by assumption) | exact oe3 (by assumption) (by assumption) | exact of0 (by assumption) | exact of1 (by assumption) | exact og0 (by assumption) | exact og1 (by assumption) | exact og2 (by assumption) | exact og3 (by assumption) (by assumption) | exact og4 (by assumption) (by assumption) | exact oz01 _ | exact oz02 _ | exact oz03 _ | exact oz10 _ | exact oz12 _ | exact oz13 _ | exact oz20 _ | exact oz21 _ | exact oz23 _ | exact oz30 _ | exact oz31 _ | exact oz32 _ | omega)
          have fin : ∀ (tN : Tok) (hS : Heap), hS.Ns L (upd (upd m "fits" (.ref lf)) "signs" (.str (signK rs pth (3 * j + (k + 1))) tN)) → Heap.SameBut L hM hS →
              St₂ (k + 1) hS ∧ DueN h₅ rs pth L lp lr (some (.str ⟨#[c]⟩ u)) j (St₁ (j + 1)) (k + 1) hS := by
            intro tN hS nS sS
            have upS : ∀ {b : Nat} {o}, b ≠ L → hz.get? b = some o → hS.get? b = some o := fun hb x => (sS.2 _ hb).trans (up hb x)
            refine ⟨w₂.W.frame _ _ _ s2z fun b hb o x => upS (by
              simp only [List.mem_cons, List.not_mem_nil, or_false] at hb
              have e1 : @Eq Nat b hc_.objs.size := hb
              omega) x, _, tN, _, fun b o hb' x => upS (fun z => hb' (by simp [z])) (kz b o hb' x), nS, upd_ne (upd_ne ma), upd_ne (upd_ne mb), upd_eq, cellA cwz fun o => upS dL2, cellA caz fun o => upS dL3, w₁.W.frame _ _ _ s1z fun b hb o x => upS (by
              simp only [List.mem_cons, List.not_mem_nil, or_false] at hb
              have e1 : @Eq Nat b h₅.objs.size := hb
              omega) x⟩
          have es : signK rs pth (3 * j + (k + 1)) = signK rs pth (3 * j + k) ++ if dueB rs (nm pth (3 * j + k)) then actsL[3 * j + k]?.getD "" else "-" := rfl
          have ed : dueB rs (nm pth (3 * j + k)) = (bestOf ((0, true) :: fitsOf rs (nm pth (3 * j + k)))).2 := rfl
          rw [← ed]
          rw [act_at hj3 hd'] at es
          cases hv : dueB rs (nm pth (3 * j + k)) with
          | true =>
            rw [hv] at es
            refine W_cell rfl (cellA caz fun o => up dL3) (W_iaddStr (by rw [slen]; show _ + 1 ≤ _; omega) fun tN => W_store nM fun hS nS sS => W_nil (kQk _ _ (fin tN hS ?_ sS)))
            rw [es]; exact nS
          | false =>
            rw [hv] at es
            refine W_str fun tx => W_iaddStr (by rw [slen]; show _ + 1 ≤ _; omega) fun tN => W_store nM fun hS nS sS => W_nil (kQk _ _ (fin tN hS ?_ sS))
            rw [es]; exact nS
      · rintro hx hy ⟨m, t, va, kX, nX, ma, mb, ms, cwX, caX, sX⟩ stx kwy
        have kwy' : ∀ {b : Nat} {o}, b ≠ hc_.objs.size → hx.get? b = some o → hy.get? b = some o := fun hb e => kwy _ _ (by simpa using hb) e
        refine W_nil (W_nil (kQj _ _ ⟨w₁.W.frame _ _ _ sX fun b hb o x => kwy' (by
          simp only [List.mem_cons, List.not_mem_nil, or_false] at hb
          have e1 : @Eq Nat b h₅.objs.size := hb
          omega) x, m, t, _, _, fun b o hb' x => kwy' (Nat.ne_of_lt (Nat.lt_trans (l5 x) h5c)) (kX b o hb' x), nsA nX fun o => kwy' (by first | exact oa0 (by assumption) | exact ob0 (by assumption) | exact oc0 (by assumption) | exact od0 (by assumption) | exact oe0 (by assumption) (by assumption) | exact oa1 (by assumption) | exact ob1 (by assumption) | exact oc1 (by assumption) | exact od1 (by assumption) | exact oe1 (by assumption) (by assumption) | exact oa2 (by assumption) | exact ob2 (by assumption) | exact oc2 (by assumption) | exact od2 (by assumption) | exact oe2 (by assumption) (by assumption) | exact oa3 (by assumption) | exact ob3 (by assumption) | exact oc3 (by assumption) | exact oe3 (by assumption) (by assumption) | exact of0 (by assumption) | exact of1 (by assumption) | exact og0 (by assumption) | exact og1 (by assumption) | exact og2 (by assumption) | exact og3 (by assumption) (by assumption) | exact og4 (by assumption) (by assumption) | exact oz01 _ | exact oz02 _ | exact oz03 _ | exact oz10 _ | exact oz12 _ | exact oz13 _ | exact oz20 _ | exact oz21 _ | exact oz23 _ | exact oz30 _ | exact oz31 _ | exact oz32 _ | omega), ma, mb, ms, cellA cwX fun o => kwy' (by first | exact oa0 (by assumption) | exact ob0 (by assumption) | exact oc0 (by assumption) | exact od0 (by assumption) | exact oe0 (by assumption) (by assumption) | exact oa1 (by assumption) | exact ob1 (by assumption) | exact oc1 (by assumption) | exact od1 (by assumption) | exact oe1 (by assumption) (by assumption) | exact oa2 (by assumption) | exact ob2 (by assumption) | exact oc2 (by assumption) | exact od2 (by assumption) | exact oe2 (by assumption) (by assumption) | exact oa3 (by assumption) | exact ob3 (by assumption) | exact oc3 (by assumption) | exact oe3 (by assumption) (by assumption) | exact of0 (by assumption) | exact of1 (by assumption) | exact og0 (by assumption) | exact og1 (by assumption) | exact og2 (by assumption) | exact og3 (by assumption) (by assumption) | exact og4 (by assumption) (by assumption) | exact oz01 _ | exact oz02 _ | exact oz03 _ | exact oz10 _ | exact oz12 _ | exact oz13 _ | exact oz20 _ | exact oz21 _ | exact oz23 _ | exact oz30 _ | exact oz31 _ | exact oz32 _ | omega), cellA caX fun o => kwy' (by first | exact oa0 (by assumption) | exact ob0 (by assumption) | exact oc0 (by assumption) | exact od0 (by assumption) | exact oe0 (by assumption) (by assumption) | exact oa1 (by assumption) | exact ob1 (by assumption) | exact oc1 (by assumption) | exact od1 (by assumption) | exact oe1 (by assumption) (by assumption) | exact oa2 (by assumption) | exact ob2 (by assumption) | exact oc2 (by assumption) | exact od2 (by assumption) | exact oe2 (by assumption) (by assumption) | exact oa3 (by assumption) | exact ob3 (by assumption) | exact oc3 (by assumption) | exact oe3 (by assumption) (by assumption) | exact of0 (by assumption) | exact of1 (by assumption) | exact og0 (by assumption) | exact og1 (by assumption) | exact og2 (by assumption) | exact og3 (by assumption) (by assumption) | exact og4 (by assumption) (by assumption) | exact oz01 _ | exact oz02 _ | exact oz03 _ | exact oz10 _ | exact oz12 _ | exact oz13 _ | exact oz20 _ | exact oz21 _ | exact oz23 _ | exact oz30 _ | exact oz31 _ | exact oz32 _ | omega)⟩))
    · rintro ha hb ⟨m, t, vw, va, kW, nA, ma, mb, ms, cwA, caA⟩ stA kwB
      have kwB' : ∀ {b : Nat} {o}, b ≠ h₅.objs.size → ha.get? b = some o → hb.get? b = some o := fun hb e => kwB _ _ (by simpa using hb) e
      have nB := nsA nA fun o => kwB' (by first | exact oa0 (by assumption) | exact ob0 (by assumption) | exact oc0 (by assumption) | exact od0 (by assumption) | exact oe0 (by assumption) (by assumption) | exact oa1 (by assumption) | exact ob1 (by assumption) | exact oc1 (by assumption) | exact od1 (by assumption) | exact oe1 (by assumption) (by assumption) | exact oa2 (by assumption) | exact ob2 (by assumption) | exact oc2 (by assumption) | exact od2 (by assumption) | exact oe2 (by assumption) (by assumption) | exact oa3 (by assumption) | exact ob3 (by assumption) | exact oc3 (by assumption) | exact oe3 (by assumption) (by assumption) | exact of0 (by assumption) | exact of1 (by assumption) | exact og0 (by assumption) | exact og1 (by assumption) | exact og2 (by assumption) | exact og3 (by assumption) (by assumption) | exact og4 (by assumption) (by assumption) | exact oz01 _ | exact oz02 _ | exact oz03 _ | exact oz10 _ | exact oz12 _ | exact oz13 _ | exact oz20 _ | exact oz21 _ | exact oz23 _ | exact oz30 _ | exact oz31 _ | exact oz32 _ | omega)
      have kB : KpW [L, L + 2, L + 3] h₅ hb := fun b o hb' x => kwB' (Nat.ne_of_lt (l5 x)) (kW b o hb' x)
      have kB' : ∀ {b : Nat} {o}, b ≠ L → b ≠ L + 2 → b ≠ L + 3 → h₅.get? b = some o → hb.get? b = some o := fun h1 h2 h3 x => kB _ _ (by simp [h1, h2, h3]) x
      have kGB : Kp G' hb := fun b o x => kB b o (fun z => by
        simp only [List.mem_cons, List.not_mem_nil, or_false] at z
        rcases z with z | z | z <;> rw [z] at x
        · rw [oL] at x; cases x
        · rw [o2] at x; cases x
        · rw [o3] at x; cases x) (kG₅ b o x)
      have khB : Kp h hb := fun b o x => kB b o (fun z => by
        simp only [List.mem_cons, List.not_mem_nil, or_false] at z
        rcases z with z | z | z <;> rw [z] at x
        · rw [zL] at x; cases x
        · rw [z2] at x; cases x
        · rw [z3] at x; cases x) (kh₅ b o x)
      have eB := kB' (show lp ≠ L by first | exact oa0 (by assumption) | exact ob0 (by assumption) | exact oc0 (by assumption) | exact od0 (by assumption) | exact oe0 (by assumption) (by assumption) | exact oa1 (by assumption) | exact ob1 (by assumption) | exact oc1 (by assumption) | exact od1 (by assumption) | exact oe1 (by assumption) (by assumption) | exact oa2 (by assumption) | exact ob2 (by assumption) | exact oc2 (by assumption) | exact od2 (by assumption) | exact oe2 (by assumption) (by assumption) | exact oa3 (by assumption) | exact ob3 (by assumption) | exact oc3 (by assumption) | exact oe3 (by assumption) (by assumption) | exact of0 (by assumption) | exact of1 (by assumption) | exact og0 (by assumption) | exact og1 (by assumption) | exact og2 (by assumption) | exact og3 (by assumption) (by assumption) | exact og4 (by assumption) (by assumption) | exact oz01 _ | exact oz02 _ | exact oz03 _ | exact oz10 _ | exact oz12 _ | exact oz13 _ | exact oz20 _ | exact oz21 _ | exact oz23 _ | exact oz30 _ | exact oz31 _ | exact oz32 _ | omega) (by first | exact oa0 (by assumption) | exact ob0 (by assumption) | exact oc0 (by assumption) | exact od0 (by assumption) | exact oe0 (by assumption) (by assumption) | exact oa1 (by assumption) | exact ob1 (by assumption) | exact oc1 (by assumption) | exact od1 (by assumption) | exact oe1 (by assumption) (by assumption) | exact oa2 (by assumption) | exact ob2 (by assumption) | exact oc2 (by assumption) | exact od2 (by assumption) | exact oe2 (by assumption) (by assumption) | exact oa3 (by assumption) | exact ob3 (by assumption) | exact oc3 (by assumption) | exact oe3 (by assumption) (by assumption) | exact of0 (by assumption) | exact of1 (by assumption) | exact og0 (by assumption) | exact og1 (by assumption) | exact og2 (by assumption) | exact og3 (by assumption) (by assumption) | exact og4 (by assumption) (by assumption) | exact oz01 _ | exact oz02 _ | exact oz03 _ | exact oz10 _ | exact oz12 _ | exact oz13 _ | exact oz20 _ | exact oz21 _ | exact oz23 _ | exact oz30 _ | exact oz31 _ | exact oz32 _ | omega) (by first | exact oa0 (by assumption) | exact ob0 (by assumption) | exact oc0 (by assumption) | exact od0 (by assumption) | exact oe0 (by assumption) (by assumption) | exact oa1 (by assumption) | exact ob1 (by assumption) | exact oc1 (by assumption) | exact od1 (by assumption) | exact oe1 (by assumption) (by assumption) | exact oa2 (by assumption) | exact ob2 (by assumption) | exact oc2 (by assumption) | exact od2 (by assumption) | exact oe2 (by assumption) (by assumption) | exact oa3 (by assumption) | exact ob3 (by assumption) | exact oc3 (by assumption) | exact oe3 (by assumption) (by assumption) | exact of0 (by assumption) | exact of1 (by assumption) | exact og0 (by assumption) | exact og1 (by assumption) | exact og2 (by assumption) | exact og3 (by assumption) (by assumption) | exact og4 (by assumption) (by assumption) | exact oz01 _ | exact oz02 _ | exact oz03 _ | exact oz10 _ | exact oz12 _ | exact oz13 _ | exact oz20 _ | exact oz21 _ | exact oz23 _ | exact oz30 _ | exact oz31 _ | exact oz32 _ | omega) e₅
      have cpB := cellA cp₅ fun o => kB' dL1 d12 d13
      have cwB := cellA cwA fun o => kwB' (by first | exact oa0 (by assumption) | exact ob0 (by assumption) | exact oc0 (by assumption) | exact od0 (by assumption) | exact oe0 (by assumption) (by assumption) | exact oa1 (by assumption) | exact ob1 (by assumption) | exact oc1 (by assumption) | exact od1 (by assumption) | exact oe1 (by assumption) (by assumption) | exact oa2 (by assumption) | exact ob2 (by assumption) | exact oc2 (by assumption) | exact od2 (by assumption) | exact oe2 (by assumption) (by assumption) | exact oa3 (by assumption) | exact ob3 (by assumption) | exact oc3 (by assumption) | exact oe3 (by assumption) (by assumption) | exact of0 (by assumption) | exact of1 (by assumption) | exact og0 (by assumption) | exact og1 (by assumption) | exact og2 (by assumption) | exact og3 (by assumption) (by assumption) | exact og4 (by assumption) (by assumption) | exact oz01 _ | exact oz02 _ | exact oz03 _ | exact oz10 _ | exact oz12 _ | exact oz13 _ | exact oz20 _ | exact oz21 _ | exact oz23 _ | exact oz30 _ | exact oz31 _ | exact oz32 _ | omega)
      have caB := cellA caA fun o => kwB' (by first | exact oa0 (by assumption) | exact ob0 (by assumption) | exact oc0 (by assumption) | exact od0 (by assumption) | exact oe0 (by assumption) (by assumption) | exact oa1 (by assumption) | exact ob1 (by assumption) | exact oc1 (by assumption) | exact od1 (by assumption) | exact oe1 (by assumption) (by assumption) | exact oa2 (by assumption) | exact ob2 (by assumption) | exact oc2 (by assumption) | exact od2 (by assumption) | exact oe2 (by assumption) (by assumption) | exact oa3 (by assumption) | exact ob3 (by assumption) | exact oc3 (by assumption) | exact oe3 (by assumption) (by assumption) | exact of0 (by assumption) | exact of1 (by assumption) | exact og0 (by assumption) | exact og1 (by assumption) | exact og2 (by assumption) | exact og3 (by assumption) (by assumption) | exact og4 (by assumption) (by assumption) | exact oz01 _ | exact oz02 _ | exact oz03 _ | exact oz10 _ | exact oz12 _ | exact oz13 _ | exact oz20 _ | exact oz21 _ | exact oz23 _ | exact oz30 _ | exact oz31 _ | exact oz32 _ | omega)
      have stB : St (i + 1) hb := w.W.frame _ _ _ st₅ fun b hb o x => kB' (fun z => nfp (show L < h₂.objs.size by first | exact oa0 (by assumption) | exact ob0 (by assumption) | exact oc0 (by assumption) | exact od0 (by assumption) | exact oe0 (by assumption) (by assumption) | exact oa1 (by assumption) | exact ob1 (by assumption) | exact oc1 (by assumption) | exact od1 (by assumption) | exact oe1 (by assumption) (by assumption) | exact oa2 (by assumption) | exact ob2 (by assumption) | exact oc2 (by assumption) | exact od2 (by assumption) | exact oe2 (by assumption) (by assumption) | exact oa3 (by assumption) | exact ob3 (by assumption) | exact oc3 (by assumption) | exact oe3 (by assumption) (by assumption) | exact of0 (by assumption) | exact of1 (by assumption) | exact og0 (by assumption) | exact og1 (by assumption) | exact og2 (by assumption) | exact og3 (by assumption) (by assumption) | exact og4 (by assumption) (by assumption) | exact oz01 _ | exact oz02 _ | exact oz03 _ | exact oz10 _ | exact oz12 _ | exact oz13 _ | exact oz20 _ | exact oz21 _ | exact oz23 _ | exact oz30 _ | exact oz31 _ | exact oz32 _ | omega) (z ▸ hb)) (fun z => nfp (show L + 2 < h₂.objs.size by first | exact oa0 (by assumption) | exact ob0 (by assumption) | exact oc0 (by assumption) | exact od0 (by assumption) | exact oe0 (by assumption) (by assumption) | exact oa1 (by assumption) | exact ob1 (by assumption) | exact oc1 (by assumption) | exact od1 (by assumption) | exact oe1 (by assumption) (by assumption) | exact oa2 (by assumption) | exact ob2 (by assumption) | exact oc2 (by assumption) | exact od2 (by assumption) | exact oe2 (by assumption) (by assumption) | exact oa3 (by assumption) | exact ob3 (by assumption) | exact oc3 (by assumption) | exact oe3 (by assumption) (by assumption) | exact of0 (by assumption) | exact of1 (by assumption) | exact og0 (by assumption) | exact og1 (by assumption) | exact og2 (by assumption) | exact og3 (by assumption) (by assumption) | exact og4 (by assumption) (by assumption) | exact oz01 _ | exact oz02 _ | exact oz03 _ | exact oz10 _ | exact oz12 _ | exact oz13 _ | exact oz20 _ | exact oz21 _ | exact oz23 _ | exact oz30 _ | exact oz31 _ | exact oz32 _ | omega) (z ▸ hb)) (fun z => nfp (show L + 3 < h₂.objs.size by first | exact oa0 (by assumption) | exact ob0 (by assumption) | exact oc0 (by assumption) | exact od0 (by assumption) | exact oe0 (by assumption) (by assumption) | exact oa1 (by assumption) | exact ob1 (by assumption) | exact oc1 (by assumption) | exact od1 (by assumption) | exact oe1 (by assumption) (by assumption) | exact oa2 (by assumption) | exact ob2 (by assumption) | exact oc2 (by assumption) | exact od2 (by assumption) | exact oe2 (by assumption) (by assumption) | exact oa3 (by assumption) | exact ob3 (by assumption) | exact oc3 (by assumption) | exact oe3 (by assumption) (by assumption) | exact of0 (by assumption) | exact of1 (by assumption) | exact og0 (by assumption) | exact og1 (by assumption) | exact og2 (by assumption) | exact og3 (by assumption) (by assumption) | exact og4 (by assumption) (by assumption) | exact oz01 _ | exact oz02 _ | exact oz03 _ | exact oz10 _ | exact oz12 _ | exact oz13 _ | exact oz20 _ | exact oz21 _ | exact oz23 _ | exact oz30 _ | exact oz31 _ | exact oz32 _ | omega) (z ▸ hb)) x
      refine W_nil (W_cons (W_Expr (W_Meth (W_local nB ma fun pl => W_methAppend eB (W_with (W_items (W_Tuple (W_items (W_local nB ms (W_items (W_cell rfl cpB (W_items0 (W_newTuple (by simp) (W_items0 ⟨Kept.builtin, W_append (Heap.get?_push_of_some _ eB) ?_ fun hE nE eE sE => ⟨fun a z => (by cases z), W_nil (kQi _ _ ?_)⟩⟩))))))))))))))
      · have := tups.length
        simp at this ⊢
        have e3 : (rowsD rs).length = 3 := rfl
        omega
      · have kGE : Kp G' hE := (kGB.push _).same sE op
        have gr := grow_is (h := hb) kGE
        have lpD : lp < hb.objs.size := Heap.lt_size eB
        have ea : hE.get? hb.objs.size = some (tupO [.str (signK rs pth 9) t, .str pth tp]) := (sE.2 _ (show hb.objs.size ≠ lp by first | exact oa0 (by assumption) | exact ob0 (by assumption) | exact oc0 (by assumption) | exact od0 (by assumption) | exact oe0 (by assumption) (by assumption) | exact oa1 (by assumption) | exact ob1 (by assumption) | exact oc1 (by assumption) | exact od1 (by assumption) | exact oe1 (by assumption) (by assumption) | exact oa2 (by assumption) | exact ob2 (by assumption) | exact oc2 (by assumption) | exact od2 (by assumption) | exact oe2 (by assumption) (by assumption) | exact oa3 (by assumption) | exact ob3 (by assumption) | exact oc3 (by assumption) | exact oe3 (by assumption) (by assumption) | exact of0 (by assumption) | exact of1 (by assumption) | exact og0 (by assumption) | exact og1 (by assumption) | exact og2 (by assumption) | exact og3 (by assumption) (by assumption) | exact og4 (by assumption) (by assumption) | exact oz01 _ | exact oz02 _ | exact oz03 _ | exact oz10 _ | exact oz12 _ | exact oz13 _ | exact oz20 _ | exact oz21 _ | exact oz23 _ | exact oz30 _ | exact oz31 _ | exact oz32 _ | omega)).trans (Heap.get?_push_size _ rfl)
        have tup' := (tups.keeps gr.old).snoc (grow_new (G := G') ea (none_of_size (Nat.le_refl _)))
        have er : (rowsD rs)[i]? = some (signK rs pth 9, pth) := by unfold rowsD; rw [List.getElem?_map, epth]; rfl
        obtain ⟨oN, xN⟩ := ns_there nB
        obtain ⟨oI', xI⟩ := w.pr _ _ stB (h₂.objs.size + 1) (by simp)
        obtain ⟨oc1, xc1, _⟩ := id cpB
        obtain ⟨oc2, xc2, _⟩ := id cwB
        obtain ⟨oc3, xc3, _⟩ := id caB
        have upE : ∀ {b : Nat} {o}, b ≠ lp → hb.get? b = some o → hE.get? b = some o := fun hb x => (sE.2 _ hb).trans (Heap.get?_push_of_some _ x)
        refine ⟨w.W.frame _ _ _ stB fun b hb o x => upE (fun z => nfp lp2 (z ▸ hb)) x, grow G' hb hE, as ++ [hb.objs.size], nE, _, _, _, _, kG.trans gr.old, gr.now, fun b o x => ?_, (khB.push _).same sE zp, ⟨gr.off oL xN, gr.off o1 xc1, gr.off o2 xc2, gr.off o3 xc3, gr.off op eB, gr.off oI xI⟩, ?_, ?_, nsA nB fun o => upE (show L ≠ lp by first | exact oa0 (by assumption) | exact ob0 (by assumption) | exact oc0 (by assumption) | exact od0 (by assumption) | exact oe0 (by assumption) (by assumption) | exact oa1 (by assumption) | exact ob1 (by assumption) | exact oc1 (by assumption) | exact od1 (by assumption) | exact oe1 (by assumption) (by assumption) | exact oa2 (by assumption) | exact ob2 (by assumption) | exact oc2 (by assumption) | exact od2 (by assumption) | exact oe2 (by assumption) (by assumption) | exact oa3 (by assumption) | exact ob3 (by assumption) | exact oc3 (by assumption) | exact oe3 (by assumption) (by assumption) | exact of0 (by assumption) | exact of1 (by assumption) | exact og0 (by assumption) | exact og1 (by assumption) | exact og2 (by assumption) | exact og3 (by assumption) (by assumption) | exact og4 (by assumption) (by assumption) | exact oz01 _ | exact oz02 _ | exact oz03 _ | exact oz10 _ | exact oz12 _ | exact oz13 _ | exact oz20 _ | exact oz21 _ | exact oz23 _ | exact oz30 _ | exact oz31 _ | exact oz32 _ | omega), ma, mb, cellA cpB fun o => upE (show L + 1 ≠ lp by first | exact oa0 (by assumption) | exact ob0 (by assumption) | exact oc0 (by assumption) | exact od0 (by assumption) | exact oe0 (by assumption) (by assumption) | exact oa1 (by assumption) | exact ob1 (by assumption) | exact oc1 (by assumption) | exact od1 (by assumption) | exact oe1 (by assumption) (by assumption) | exact oa2 (by assumption) | exact ob2 (by assumption) | exact oc2 (by assumption) | exact od2 (by assumption) | exact oe2 (by assumption) (by assumption) | exact oa3 (by assumption) | exact ob3 (by assumption) | exact oc3 (by assumption) | exact oe3 (by assumption) (by assumption) | exact of0 (by assumption) | exact of1 (by assumption) | exact og0 (by assumption) | exact og1 (by assumption) | exact og2 (by assumption) | exact og3 (by assumption) (by assumption) | exact og4 (by assumption) (by assumption) | exact oz01 _ | exact oz02 _ | exact oz03 _ | exact oz10 _ | exact oz12 _ | exact oz13 _ | exact oz20 _ | exact oz21 _ | exact oz23 _ | exact oz30 _ | exact oz31 _ | exact oz32 _ | omega), cellA cwB fun o => upE (show L + 2 ≠ lp by first | exact oa0 (by assumption) | exact ob0 (by assumption) | exact oc0 (by assumption) | exact od0 (by assumption) | exact oe0 (by assumption) (by assumption) | exact oa1 (by assumption) | exact ob1 (by assumption) | exact oc1 (by assumption) | exact od1 (by assumption) | exact oe1 (by assumption) (by assumption) | exact oa2 (by assumption) | exact ob2 (by assumption) | exact oc2 (by assumption) | exact od2 (by assumption) | exact oe2 (by assumption) (by assumption) | exact oa3 (by assumption) | exact ob3 (by assumption) | exact oc3 (by assumption) | exact oe3 (by assumption) (by assumption) | exact of0 (by assumption) | exact of1 (by assumption) | exact og0 (by assumption) | exact og1 (by assumption) | exact og2 (by assumption) | exact og3 (by assumption) (by assumption) | exact og4 (by assumption) (by assumption) | exact oz01 _ | exact oz02 _ | exact oz03 _ | exact oz10 _ | exact oz12 _ | exact oz13 _ | exact oz20 _ | exact oz21 _ | exact oz23 _ | exact oz30 _ | exact oz31 _ | exact oz32 _ | omega), cellA caB fun o => upE (show L + 3 ≠ lp by first | exact oa0 (by assumption) | exact ob0 (by assumption) | exact oc0 (by assumption) | exact od0 (by assumption) | exact oe0 (by assumption) (by assumption) | exact oa1 (by assumption) | exact ob1 (by assumption) | exact oc1 (by assumption) | exact od1 (by assumption) | exact oe1 (by assumption) (by assumption) | exact oa2 (by assumption) | exact ob2 (by assumption) | exact oc2 (by assumption) | exact od2 (by assumption) | exact oe2 (by assumption) (by assumption) | exact oa3 (by assumption) | exact ob3 (by assumption) | exact oc3 (by assumption) | exact oe3 (by assumption) (by assumption) | exact of0 (by assumption) | exact of1 (by assumption) | exact og0 (by assumption) | exact og1 (by assumption) | exact og2 (by assumption) | exact og3 (by assumption) (by assumption) | exact og4 (by assumption) (by assumption) | exact oz01 _ | exact oz02 _ | exact oz03 _ | exact oz10 _ | exact oz12 _ | exact oz13 _ | exact oz20 _ | exact oz21 _ | exact oz23 _ | exact oz30 _ | exact oz31 _ | exact oz32 _ | omega)⟩
        · rcases gr.new b o x with z | z
          · exact new b o z
          · exact .inr (khB.off z)
        · rw [eE]; simp
        · rw [List.take_add_one, er]; exact tup'
  · rintro h' h₄ ⟨G', as, n, m, vp, vw, va, kG, kG', new, kh, ⟨oL, o1, o2, o3, op, oI⟩, el, tups, nL, mr, mru, cp', cw', ca'⟩ st kw
    have kwI : ∀ {b : Nat} {o}, b ≠ h₂.objs.size + 1 → h'.get? b = some o → h₄.get? b = some o := fun hb e => kw _ _ (by simpa using hb) e
    have kG₄ : Kp G' h₄ := fun b o x => kwI (fun z => by have z' : b = h₂.objs.size + 1 := z; rw [z', oI] at x; cases x) (kG' b o x)
    have kh₄ : Kp h h₄ := fun b o x => kwI (fun z => by have z' : b = h₂.objs.size + 1 := z; rw [z', zI] at x; cases x) (kh b o x)
    refine W_nil (W_cons (W_Return (W_local (nsA nL fun o => kwI (show L ≠ h₂.objs.size + 1 by first | exact oa0 (by assumption) | exact ob0 (by assumption) | exact oc0 (by assumption) | exact od0 (by assumption) | exact oe0 (by assumption) (by assumption) | exact oa1 (by assumption) | exact ob1 (by assumption) | exact oc1 (by assumption) | exact od1 (by assumption) | exact oe1 (by assumption) (by assumption) | exact oa2 (by assumption) | exact ob2 (by assumption) | exact oc2 (by assumption) | exact od2 (by assumption) | exact oe2 (by assumption) (by assumption) | exact oa3 (by assumption) | exact ob3 (by assumption) | exact oc3 (by assumption) | exact oe3 (by assumption) (by assumption) | exact of0 (by assumption) | exact of1 (by assumption) | exact og0 (by assumption) | exact og1 (by assumption) | exact og2 (by assumption) | exact og3 (by assumption) (by assumption) | exact og4 (by assumption) (by assumption) | exact oz01 _ | exact oz02 _ | exact oz03 _ | exact oz10 _ | exact oz12 _ | exact oz13 _ | exact oz20 _ | exact oz21 _ | exact oz23 _ | exact oz30 _ | exact oz31 _ | exact oz32 _ | omega)) mr ?_)))
    refine q lp h₄ (grow G h h₄) kh₄ (grow_is (kp.trans kh₄)) ⟨as, n, grow_new (kwI (by first | exact oa0 (by assumption) | exact ob0 (by assumption) | exact oc0 (by assumption) | exact od0 (by assumption) | exact oe0 (by assumption) (by assumption) | exact oa1 (by assumption) | exact ob1 (by assumption) | exact oc1 (by assumption) | exact od1 (by assumption) | exact oe1 (by assumption) (by assumption) | exact oa2 (by assumption) | exact ob2 (by assumption) | exact oc2 (by assumption) | exact od2 (by assumption) | exact oe2 (by assumption) (by assumption) | exact oa3 (by assumption) | exact ob3 (by assumption) | exact oc3 (by assumption) | exact oe3 (by assumption) (by assumption) | exact of0 (by assumption) | exact of1 (by assumption) | exact og0 (by assumption) | exact og1 (by assumption) | exact og2 (by assumption) | exact og3 (by assumption) (by assumption) | exact og4 (by assumption) (by assumption) | exact oz01 _ | exact oz02 _ | exact oz03 _ | exact oz10 _ | exact oz12 _ | exact oz13 _ | exact oz20 _ | exact oz21 _ | exact oz23 _ | exact oz30 _ | exact oz31 _ | exact oz32 _ | omega) el) zp, (tups.keeps (grow_into kG₄ new))⟩
end
end Mine
namespace Mine
open PySem PySem.W PySem.Calls PySem.Spec PyProof.Rows
theorem slot_filter_next : Slot "filter" "__next__" "filter.__next__" :=
  .of (owner := "filter") (n := "__next__") (by rw [typeLookup_type, builtinLookup_eq_fast]; kernel_rfl) (by decide +kernel) (by decide +kernel) (by decide +kernel)
    (by first | exact .inl (by decide +kernel) | exact .inr (by decide +kernel)) (by rw [isSubtype_type]; kernel_rfl)
theorem slot_filter_iter : Slot "filter" "__iter__" "filter.__iter__" :=
  .of (owner := "filter") (n := "__iter__") (by rw [typeLookup_type, builtinLookup_eq_fast]; kernel_rfl) (by decide +kernel) (by decide +kernel) (by decide +kernel)
    (by first | exact .inl (by decide +kernel) | exact .inr (by decide +kernel)) (by rw [isSubtype_type]; kernel_rfl)
theorem entry_filter_next : entryFor table "filter.__next__" = some Builtin.«filter.__next__» := entryFor_of_tree (by kernel_rfl)
theorem entry_filter_iter : entryFor table "filter.__iter__" = some Builtin.«dict_keyiterator.__iter__» := entryFor_alias (id' := "dict_keyiterator.__iter__") (by rw [fastTable_eq_tree]; kernel_rfl) rfl (by rw [PySem.W.S.canonicalZ_eq]; decide +kernel) (by rw [fastTable_eq_tree]; kernel_rfl)
theorem args_filter_next (a : Value) : argsOk "filter.__next__" ⟨[a], []⟩ := by unfold argsOk; kernel_rfl
theorem args_filter_iter (a : Value) : argsOk "filter.__iter__" ⟨[a], []⟩ := by unfold argsOk; kernel_rfl
theorem filter_no_len : typeLookup (.type "filter") "__len__" = pure none := by rw [typeLookup_type, builtinLookup_eq_fast]; kernel_rfl
theorem filter_no_hint : typeLookup (.type "filter") "__length_hint__" = pure none := by rw [typeLookup_type, builtinLookup_eq_fast]; kernel_rfl
section
variable {prog : Program} {w : World} {A : Around} {E : Value → Shared → Prop} {s : Shared}
theorem filter_end {f fn it l : Addr} {Q : Option Value → Shared → Prop} (hh : A.handled = none) (hf : s.heap.get? f = some (flO fn it)) (hit : s.heap.IsListIter it l 0) (hl : s.heap.IsList l #[])
    (hQ : ∀ h', Heap.ExtBut it s.heap h' → Q none { s with heap := h' }) : wpAny (model prog w) A (pyNext (.ref f)) Q E s := by
  have hT : s.TypeIs (.ref f) "filter" := ⟨_, hf, rfl⟩
  obtain ⟨o, ho, hc, hd⟩ := id hit
  obtain ⟨ol, hol, _, nl, hdl⟩ := hl
  unfold pyNext
  refine wpAny_bind (wpAny_attempt (wpAny_callSpecial?_slot (name := Str.ofString "__next__") hT slot_filter_next (wpAny_call_entry slot_filter_next hT entry_filter_next ?_ (args_filter_next _))))
  show wpAny _ _ (field (.ref f) 0 >>= _) _ _ s
  refine wpAny_bind (wpAny_field hf rfl (x := .ref fn) rfl ?_)
  show wpAny _ _ (field (.ref f) 1 >>= _) _ _ s
  refine wpAny_bind (wpAny_field hf rfl (x := .ref it) rfl ?_)
  refine wpAny_bind (wpAny_callSpecial?_slot (name := Str.ofString "__next__") hit.typeIs slot_listiter_next (wpAny_call_entry slot_listiter_next hit.typeIs entry_listiter_next ?_ (args_listiter_next _)))
  show wpAny _ _ (field (.ref it) 0 >>= _) _ _ s
  refine wpAny_bind (wpAny_field ho hd (x := .ref l) rfl ?_)
  show wpAny _ _ (if (Value.ref l == Value.none) = true then _ else _) _ _ s
  rw [if_neg (show ¬ ((Value.ref l == Value.none) = true) from Bool.false_ne_true)]
  show wpAny _ _ (field (.ref it) 1 >>= _) _ _ s
  refine wpAny_bind (wpAny_field ho hd (x := .int 0 0) rfl ?_)
  show wpAny _ _ (seqItems? (.ref l) >>= _) _ _ s
  refine wpAny_bind (wpAny_seqItems hol hdl ?_)
  refine wpAny_bind (wpAny_rule (wpAny_bind (wpAny_setField ho hd (by simp) ?_)))
  show wpAny _ _ (newExc (.type "StopIteration") [] >>= _) _ _ _
  refine wpAny_bind ?_
  simp only [newExc, newTuple]
  refine wpAny_bind (wpAny_newObj_type ?_ (by size_fits))
  refine wpAny_bind (m := firstArgMember _ _) (wpAny_of_eq (a := Value.none) (by first | rfl | (simp only [firstArgMember]; rfl)) ?_)
  refine wpAny_newObj_type ?_ (by size_fits)
  simp only [raiseNew]
  refine wpAny_bind (wpAny_handled ?_)
  rw [show A.in1.in1.handled = none from hh]
  refine wpAny_bind (wpAny_pure (wpAny_throw ?_))
  refine wpAny_bind (wpAny_isInstance (T := "StopIteration") (b := true) ⟨_, Heap.get?_push_size _ rfl, rfl⟩ isSubtype_stop ?_)
  exact wpAny_pure (hQ _ (((Heap.SameBut.update ..).extBut.push _).push _))
theorem filter_self {f fn it : Addr} {Q : Value → Shared → Prop} (hf : s.heap.get? f = some (flO fn it)) (h : Q (.ref f) s) : wpAny (model prog w) A (pyIter (.ref f)) Q E s := by
  have hT : s.TypeIs (.ref f) "filter" := ⟨_, hf, rfl⟩
  refine wpAny_pyIter_slot hT slot_filter_iter (wpAny_call_entry slot_filter_iter hT entry_filter_iter ?_ (args_filter_iter _))
  show wpAny _ _ (ret (.ref f)) _ _ s
  exact wpAny_pure ⟨_, rfl, "filter", _, hT, slot_filter_next.lookup, h⟩
theorem filter_walks {f fn it l : Addr} (hh : A.handled = none) (h1 : f ≠ it) (h2 : l ≠ it) : Walks prog w A f [f, it, l] [it] 0 (fun _ _ => False) (fun i h => i = 0 ∧ h.get? f = some (flO fn it) ∧ h.IsListIter it l 0 ∧ h.IsList l #[]) where
  sub := fun b hb => by simp at hb; simp [hb]
  frame := fun _ _ _ st hk => ⟨st.1, hk f (by simp) _ st.2.1, st.2.2.1.at fun o e => hk it (by simp) o e, st.2.2.2.at fun o e => hk l (by simp) o e⟩
  item := fun i s Q E hi => absurd hi (Nat.not_lt_zero _)
  done := fun s Q E st hQ => filter_end hh st.2.1 st.2.2.1 st.2.2.2 fun h' he' => hQ h' s.toks fun b o hb e => he' b o (fun h => hb (by simp [h])) e
  self := fun i s Q E st h => filter_self st.2.1 h
end
end Mine
namespace Mine
open PySem PySem.W PySem.Calls PySem.Spec PyProof.Rows
section
variable {prog : Program} {w : World} {A : Around} {s : Shared} {R : Result → Shared → Prop}
variable {I : Addr} {fp wr : List Addr} {G : Array GenState → Array GenState → Prop} {n : Nat} {P : Nat → Value → Prop} {St : Nat → Shared → Prop}
theorem extend_filter (W : WalksS prog w A.in1 I fp wr G n P St) (hT : ∀ i s, St i s → s.TypeIs (.ref I) "filter") (S : Addr) (res : Value) (c₀ : Nat) (hst : St 0 s) (hSf : S ∉ fp) (hI : I ∈ fp)
    (hS : s.heap.get? S = some { cls := .type "list", data := .seq #[] c₀ })
    (hR : ∀ s' acc' c', Moved (S :: wr) G s s' → s'.heap.get? S = some { cls := .type "list", dict := none, data := .seq acc' c', slots := #[] } → ItemsOf P acc' n → R (.ok (.ret res)) s') (hn : n ≤ sizeLine := by size_fits) :
    wpAny (model prog w) A.in1 (Builtin.List.listExtendWith (.ref S) (.ref I) res)
      (fun fin s' => match fin with | .done f => R (.ok f) s' | .again c' => c'.quiet = true ∧ codeAny (model prog w) A c' R s') (fun e s' => R (.error e) s') s := by
  have hSI : S ≠ I := fun e => hSf (e ▸ hI)
  unfold Builtin.List.listExtendWith
  refine wpAny_bind (wpAny_typeOf (hT 0 _ hst) ?_)
  have h1 : Builtin.List.listSameRef (.ref S) (.ref I) = false := by simp [Builtin.List.listSameRef, hSI]
  have h2 : (Value.type "filter" == Value.type "list") = false := by decide
  have h3 : (Value.type "filter" == Value.type "tuple") = false := by decide
  simp only [h1, h2, h3, Bool.or_false, Bool.false_eq_true, if_false]
  refine wpAny_bind (W.self 0 _ _ _ hst ?_)
  refine wpAny_bind (wpAny_holding ?_)
  unfold Builtin.List.listLengthHint
  refine wpAny_bind (wpAny_specialOf (hT 0 _ hst) filter_no_len ?_)
  show wpAny _ A.in1 (specialOf (Value.ref I) (Str.ofString "__length_hint__") >>= _) _ _ _
  refine wpAny_bind (wpAny_specialOf (hT 0 _ hst) filter_no_hint ?_)
  refine wpAny_pure ?_
  show wpAny _ A.in1 (rule "list.extend.makes-room" >>= fun _ => Builtin.List.listTouch (.ref S) >>= fun _ =>
    again (.builtin "list.extend.loop" ⟨[.ref S, .ref I, res], []⟩)) _ _ _
  refine wpAny_bind (wpAny_rule ?_)
  refine wpAny_bind ?_
  show wpAny _ A.in1 (updateSeq S (·.push .none) >>= fun _ => updateSeq S (·.pop)) _ _ _
  refine wpAny_bind (wpAny_updateSeq hS rfl ?_)
  have hS₂ := Heap.get?_update_self (Obj.mapSeq (·.push Value.none)) hS rfl
  refine wpAny_updateSeq (hz := by seq_fits) hS₂ rfl ?_
  have hS₃ := Heap.get?_update_self (Obj.mapSeq (·.pop)) hS₂ rfl
  have oth : ∀ b o, b ≠ S → s.heap.get? b = some o → ((s.heap.update S (Obj.mapSeq (·.push Value.none))).update S (Obj.mapSeq (·.pop))).get? b = some o :=
    fun b o hb e => (Heap.get?_update_other _ _ (Ne.symm hb)).trans ((Heap.get?_update_other _ _ (Ne.symm hb)).trans e)
  refine wpAny_pure ⟨plainId_quiet F.plain_extend_loop _, codeAny_extend_loopS W hn _ hSf _ n 0 _ _ _ rfl (Nat.zero_le _)
    (W.frame 0 s _ s.toks hst (Nat.le_refl _) fun b hb o e => oth b o (fun h => hSf (h ▸ hb)) e) hS₃ (ItemsOf.nil P) fun s' acc' c' hm hS' hacc => ?_⟩
  exact hR s' acc' c' (Moved.trans W.gtrans ((Moved.refl W.grefl).then_heap (Nat.le_refl _) fun b o hb e => oth b o (fun h => hb (h ▸ List.mem_cons_self)) e) hm) hS' hacc
end
section
variable {C : Cx} {A : Around} {h : Heap} {E : Value → Heap → Prop}
theorem lf_W {f fn it l : Addr} {nl : Nat} {Q : Value → Heap → Prop} (hh : A.handled = none) (hf : h.get? f = some (flO fn it)) (hit : h.get? it = some { cls := .type "list_iterator", data := .fields #[.ref l, .int 0 0] }) (hl : h.get? l = some (listO [] nl)) (h1 : f ≠ it)
    (q : ∀ D c h', KpW [it] h h' → h.get? D = none → h'.get? D = some (listO [] c) → Q (.ref D) h') : WP C A (call (.type "list") [.ref f]) Q E h := fun k => by
  have h2 : l ≠ it := fun z => by
    rw [z, hit] at hl
    have e := congrArg Obj.data (Option.some.inj hl)
    cases e
  have W := (filter_walks (prog := prg) (w := C.w) (A := A.in1.in1) (f := f) (fn := fn) (it := it) (l := l) hh h1 h2).toS
  have hlt : ∀ b ∈ [f, it, l], b < h.objs.size := fun b hb => by
    simp only [List.mem_cons, List.not_mem_nil, or_false] at hb
    rcases hb with rfl | rfl | rfl
    · exact Heap.lt_size hf
    · exact Heap.lt_size hit
    · exact Heap.lt_size hl
  have hSf : h.objs.size ∉ [f, it, l] := fun hm => Nat.lt_irrefl _ (hlt _ hm)
  refine callType_codes (s := C.S h k) (Q₁ := fun obj s₁ => obj = .ref h.objs.size ∧ s₁ = C.S (h.push { cls := .type "list", data := .seq #[] }) k) F.called_list (F.typeCall_list_1 _) F.entry_list_init
    (code_list_new _ ⟨rfl, rfl⟩) fun obj s₁ h₁ => ?_
  obtain ⟨rfl, rfl⟩ := h₁
  have hS : (h.push { cls := .type "list", data := .seq #[] }).get? h.objs.size = some { cls := .type "list", data := .seq #[] } := Heap.get?_push_size _ rfl
  refine ⟨⟨_, hS, rfl⟩, F.args_list_init_2 _ _, ?_⟩
  show wpAny _ A.in1.in1 (do let old ← Builtin.List.listItems (.ref h.objs.size); Builtin.List.listUpdate (.ref h.objs.size) (fun _ => #[]); letGo old.toList.reverse; Builtin.List.listExtendWith (.ref h.objs.size) (.ref f) .none) _ _ _
  refine wpAny_bind ?_
  unfold Builtin.List.listItems
  refine wpAny_bind (wpAny_seqItems (s := C.S (h.push { cls := .type "list", data := .seq #[] }) k) hS rfl (wpAny_pure ?_))
  show wpAny _ A.in1.in1 (updateSeq h.objs.size (fun _ => #[]) >>= fun _ => letGo (#[] : Array Value).toList.reverse >>= fun _ => Builtin.List.listExtendWith (.ref h.objs.size) (.ref f) .none) _ _ _
  refine wpAny_bind (wpAny_updateSeq (s := C.S (h.push { cls := .type "list", data := .seq #[] }) k) hS rfl ?_)
  have hS₂ := Heap.get?_update_self (Obj.mapSeq (fun _ => (#[] : Array Value))) hS rfl
  have oth : ∀ b o, h.get? b = some o → ((h.push { cls := .type "list", data := .seq #[] }).update h.objs.size (Obj.mapSeq (fun _ => (#[] : Array Value)))).get? b = some o :=
    fun b o e => (Heap.get?_update_other _ _ (Nat.ne_of_gt (Heap.lt_size e))).trans (Heap.get?_push_of_some _ e)
  refine wpAny_bind (wpAny_letGo ?_)
  refine extend_filter W (fun i s st => ⟨_, st.2.1, rfl⟩) h.objs.size .none _ ⟨rfl, oth _ _ hf, ⟨_, oth _ _ hit, rfl, rfl⟩, ⟨_, oth _ _ hl, rfl, _, rfl⟩⟩ hSf (by simp) hS₂ fun s' acc' c' hm hS' hacc => ?_
  have ha : acc' = #[] := Array.eq_empty_of_size_eq_zero hacc.1
  subst ha
  obtain ⟨h', g', d', t', o'⟩ := s'
  obtain ⟨m1, m2, m3, m4, m5⟩ := hm
  dsimp only at m1 m2 m3 m4 hS'
  subst m2 m3 m4
  refine ⟨rfl, h', t', rfl, q _ c' h' (fun b o hb e => m1 b o (fun z => ?_) (oth b o e)) (none_of_size (Nat.le_refl _)) hS'⟩
  rcases List.mem_cons.mp z with z | z
  · exact Nat.lt_irrefl _ (z ▸ Heap.lt_size e)
  · exact hb z
end
end Mine
namespace Mine
open PySem PySem.W PySem.Calls PySem.Spec PyProof.Rows
section
variable {C : Cx} {A : Around} {h : Heap} {E : Value → Heap → Prop}
theorem W_setContains {s : Addr} {t : SetTable} {d : Nat} {Q : Value → Heap → Prop} (g : Gd C h) (r : Rm A d) (hs : h.get? s = some (setO t)) (q : ∀ a h', Kp h h' → h'.get? a = some (bmO s) → Q (.ref a) h') : WP C A (getAttr (.ref s) "__contains__" true) Q E h := fun k => by
  have hT : (C.S h (k + 1)).TypeIs (.ref s) "set" := ⟨_, hs, rfl⟩
  unfold getAttr getAttrBy
  refine wpAny_bind (wpAny_mkText ?_)
  refine wpAny_holding ?_
  refine wpAny_bind (wpAny_typeOf hT ?_)
  refine wpAny_bind (wpAny_of_eq F.slot_set_getattribute.lookup ?_)
  show wpAny _ _ (getAttrByItsOwn _ _ _ _ _ _) _ _ _
  unfold getAttrByItsOwn
  refine wpAny_bind (wpAny_of_eq (a := none) rfl ?_)
  refine wpAny_bind (wpAny_attempt (wpAny_holding ?_))
  show wpAny _ _ (boundAndCalled _ _ _) _ _ _
  unfold boundAndCalled
  refine wpAny_bind (wpAny_of_eq (F.slot_set_getattribute.bind (.ref s)) ?_)
  have x : WP C A (call (.builtin "set.__getattribute__") [.ref s, .str "__contains__" k]) (fun v h' => (∃ a, v = .ref a) ∧ Q v h') NoE h := con_W g r hs fun a h' x y => ⟨⟨a, rfl⟩, q a h' x y⟩
  refine wpAny_mono (x (k + 1)) (fun v s' q' => ?_) fun e s' q' => noE q'
  obtain ⟨h', k', rfl, ⟨a, rfl⟩, q'⟩ := q'
  exact wpAny_pure (up1 q')
end
end Mine
namespace Mine
open PySem PySem.W PySem.Calls PySem.Spec PyProof.Rows
theorem boot_list : bootBuiltins "list" = some (.type "list") := PyProof.Rows.boot_list
theorem boot_set : bootBuiltins "set" = some (.type "set") := PyProof.Rows.boot_set
theorem boot_filter' : bootBuiltins "filter" = some (.type "filter") := PyProof.Rows.boot_filter
section
variable {C : Cx} {A : Around} {h : Heap} {E : Value → Heap → Prop} {G : Heap} {env : Env}
theorem W_isNone {Q : Value → Heap → Prop} (q : Q (.bool true) h) : WP C A (compareOp .Is .none .none) Q E h := fun k => by
  refine wpAny_of_eq (a := .bool true) ?_ (up1 q)
  rfl
theorem merge_W (hG : Gd C G) (kp : Kp G h) (r : Rm A 20) {e1 e2 : Addr} {rs1 rs2 : List Rule} (en1 : EntryAt C G e1 rs1) (en2 : EntryAt C G e2 rs2) (hlen : rs1.length + rs2.length ≤ 200) {Q : Value → Heap → Prop}
    (q : ∀ e h' G', Kp h h' → Grow G h G' h' → EntryAt C G' e (rs1 ++ rs2) → Q (.ref e) h') : WP C A (call (.ref 63) [.ref e1, .ref e2]) Q E h := by
  have g := hG.keeps kp
  have r' : ∀ env, Rm (A.deeper env) 19 := fun env => r.deeper
  have hh : ∀ env, (A.deeper env).handled = none := fun env => (r' env).hd
  obtain ⟨d1, od1, sl1, lr1, n1, lu1, as1, x1, y1, a1, b1, c1, u1, v1, ⟨nu1, w1⟩, z1, l1⟩ := en1
  obtain ⟨d2, od2, sl2, lr2, n2, lu2, as2, x2, y2, a2, b2, c2, u2, v2, ⟨nu2, w2⟩, z2, l2⟩ := en2
  refine W_callFn (binds := [("e1", .ref e1), ("e2", .ref e2)]) g.nolimit (g.X 63 _ rfl) rfl rfl (codeRec_of g.X rfl) (by have := r.lim; omega) rfl (locs rfl) fun h₁ n₁ k₁ z₁ => ?_
  have zn : h.get? h.objs.size = none := none_of_size (Nat.le_refl _)
  generalize hL : h.objs.size = L at *
  have g₁ := g.keeps k₁
  refine W_cons (W_Assign (W_Call (W_global g₁ rfl (W_with0 (Kept.top g₁.X rfl) (ent_W g₁ (r' _) fun e h₂ ne => ?_)))))
  obtain ⟨de, od, lr, lu, k₂, i1, i2, i3, i4, i5, i6, i7, i8, i9, f1, f2, f3, f4, _, _, _, ⟨es, nn, rfl, hes⟩, ede, lude, elu⟩ := ne
  obtain ⟨oL, xL⟩ := ns_there n₁
  have eL : e ≠ L := ne_some f1 xL
  have dL : de ≠ L := ne_some f2 xL
  have no : ∀ {b}, h₁.get? b = none → h.get? b = none := fun hb => k₁.off hb
  have gz : ∀ {b}, h.get? b = none → G.get? b = none := fun hb => kp.off hb
  refine W_store (n₁.keeps k₂) fun h₃ n₃ s₃ => ?_
  have s₃ : Heap.SameBut L h₂ h₃ := s₃
  have n₃ : h₃.Ns L _ := n₃
  have k₃ : Kp h h₃ := (k₁.trans k₂).same s₃ zn
  have i1₃ := (s₃.2 _ eL).trans i1
  have i2₃ := (s₃.2 _ dL).trans i2
  have hde : h.get? de = none := no f2
  have gde : G.get? de = none := gz hde
  obtain ⟨m, n₃, me, m1, m2⟩ : ∃ m, h₃.Ns L m ∧ m "entry" = some (.ref e) ∧ m "e1" = some (.ref e1) ∧ m "e2" = some (.ref e2) := ⟨_, n₃, rfl, rfl, rfl⟩
  have kG₃ := kp.trans k₃
  have g₃ := hG.keeps kG₃
  -- the agents
  refine W_cons (W_AssignAttr (W_Call (W_builtin g₃ rfl boot_list (W_with (W_items (W_Call (W_builtin g₃ rfl boot_filter' (W_with (W_items (W_Attr (W_Call (W_builtin g₃ rfl boot_set (W_with (W_items (W_Attr (W_local n₃ m2 (W_instAttr g₃ (kG₃ _ _ x2) (kG₃ _ _ y2) c2 (W_items0 ⟨Kept.type, ?_⟩))))))))))))))))))
  refine set_W (hh _) (kG₃ _ _ w2) fun sA tA h₄ k₄ e₄ => ?_
  refine W_setContains (g₃.keeps k₄) (r' _) e₄ fun bA h₅ k₅ e₅ => ?_
  have k35 := k₄.trans k₅
  have g₅ := g₃.keeps k35
  refine W_items (W_Attr (W_local (n₃.keeps k35) m1 (W_instAttr g₅ (k35 _ _ (kG₃ _ _ x1)) (k35 _ _ (kG₃ _ _ y1)) c1 (W_items0 ⟨Kept.type, ?_⟩))))
  refine fil_W g₅ (r' _) e₅ (k35 _ _ (kG₃ _ _ w1)) fun fA iA h₆ k₆ e₆ it₆ fn fi fne => ?_
  have k36 := k35.trans k₆
  refine W_items0 ⟨Kept.type, lf_W (hh _) e₆ it₆ (k36 _ _ (kG₃ _ _ w1)) fne fun D c h₇ k₇ D6 eD => ?_⟩
  have k37 : Kp h₃ h₇ := fun b o x => k₇ b o (fun z => by
    simp only [List.mem_cons, List.not_mem_nil, or_false] at z
    have := k35.off fi
    rw [z, this] at x; cases x) (k36 b o x)
  have n₇ := n₃.keeps k37
  refine W_local n₇ me (W_instSet (hG.keeps (kG₃.trans k37)) (k37 _ _ i1₃) (k37 _ _ i2₃) (by show (lookIn "useragents" (dictOf es nn)).isSome = true; rw [i5]; rfl) (by omega) fun h₈ es₁ nn₁ j₈ s₈ q₁ o₁ ln₁ => ?_)
  have de7 : ∀ {b}, h₇.get? b = none → True := fun _ => trivial
  have Dde : D ≠ de := ne_some D6 (k36 _ _ i2₃)
  have D8 := (s₈.2 _ Dde).trans eD
  have i1₈ := (s₈.2 _ ede).trans (k37 _ _ i1₃)
  have n₈ := n₇.sameBut s₈ (Ne.symm dL)
  have k₈ : Kp h h₈ := (k₃.trans k37).same s₈ hde
  have kG₈ := kp.trans k₈
  have g₈ := hG.keeps kG₈
  -- the rules
  refine W_cons (W_AssignAttr (W_BinOp (W_Attr (W_local n₈ m1 (W_instAttr g₈ (kG₈ _ _ x1) (kG₈ _ _ y1) a1 (W_Attr (W_local n₈ m2 (W_instAttr g₈ (kG₈ _ _ x2) (kG₈ _ _ y2) a2 (W_addList (kG₈ _ _ z1) (kG₈ _ _ z2) (by rw [List.length_map, List.length_map, l1.length, l2.length]; omega) ?_)))))))))
  have lP : (h₈.push (listO (as1.map .ref ++ as2.map .ref))).get? h₈.objs.size = some (listO ((as1 ++ as2).map .ref)) := by rw [List.map_append]; exact Heap.get?_push_size _ rfl
  have kP : Kp h₈ (h₈.push (listO (as1.map .ref ++ as2.map .ref))) := (Kp.refl _).push _
  have lf : h₈.get? h₈.objs.size = none := none_of_size (Nat.le_refl _)
  generalize h₈.push (listO (as1.map .ref ++ as2.map .ref)) = h₉ at lP kP ⊢
  generalize h₈.objs.size = lq at lP lf ⊢
  have lqde : lq ≠ de := ne_some lf j₈
  have lqh : h.get? lq = none := k₈.off lf
  refine W_local (n₈.keeps kP) me (W_instSet (hG.keeps (kG₈.trans kP)) (kP _ _ i1₈) (kP _ _ j₈) (by rw [o₁ _ (by decide)]; show (lookIn "rulelines" (dictOf es nn)).isSome = true; rw [i3]; rfl) (by omega) fun hA es₂ nn₂ jA sA' q₂ o₂ ln₂ => ?_)
  have lA := (sA'.2 _ lqde).trans lP
  have DA := (sA'.2 _ Dde).trans (kP _ _ D8)
  have i1A := (sA'.2 _ ede).trans (kP _ _ i1₈)
  have nA := (n₈.keeps kP).sameBut sA' (Ne.symm dL)
  have kA : Kp h hA := (k₈.trans kP).same sA' hde
  have kGA := kp.trans kA
  have gA := hG.keeps kGA
  -- the delay
  refine W_cons (W_AssignAttr (W_IfExp (W_tCompare (W_Attr (W_local nA m2 (W_instAttr gA (kGA _ _ x2) (kGA _ _ y2) u2 (W_none (W_isNone (W_tbool ?_)))))))))
  refine W_Attr (W_local nA m1 (W_instAttr gA (kGA _ _ x1) (kGA _ _ y1) u1 (W_local nA me (W_instSet gA i1A jA (by rw [o₂ _ (by decide), o₁ _ (by decide)]; show (lookIn "delay" (dictOf es nn)).isSome = true; rw [i6]; rfl) (by omega) fun hB es₃ nn₃ jB sB q₃ o₃ ln₃ => ?_))))
  have lB := (sB.2 _ lqde).trans lA
  have DB := (sB.2 _ Dde).trans DA
  have i1B := (sB.2 _ ede).trans i1A
  have nB := nA.sameBut sB (Ne.symm dL)
  have kB : Kp h hB := kA.same sB hde
  have kGB := kp.trans kB
  have gB := hG.keeps kGB
  -- the rate
  refine W_cons (W_AssignAttr (W_IfExp (W_tCompare (W_Attr (W_local nB m2 (W_instAttr gB (kGB _ _ x2) (kGB _ _ y2) v2 (W_none (W_isNone (W_tbool ?_)))))))))
  refine W_Attr (W_local nB m1 (W_instAttr gB (kGB _ _ x1) (kGB _ _ y1) v1 (W_local nB me (W_instSet gB i1B jB (by rw [o₃ _ (by decide), o₂ _ (by decide), o₁ _ (by decide)]; show (lookIn "req_rate" (dictOf es nn)).isSome = true; rw [i7]; rfl) (by omega) fun hC es₄ nn₄ jC sC q₄ o₄ ln₄ => ?_))))
  have lC := (sC.2 _ lqde).trans lB
  have DC := (sC.2 _ Dde).trans DB
  have i1C := (sC.2 _ ede).trans i1B
  have nC := nB.sameBut sC (Ne.symm dL)
  have kC : Kp h hC := kB.same sC hde
  refine W_cons (W_Return (W_local nC me ?_))
  have into : Kp G (grow G h hC) := (grow_is (kp.trans kC)).old
  have Dh : h.get? D = none := k₃.off (k36.off D6)
  refine q e hC (grow G h hC) kC (grow_is (kp.trans kC)) ⟨de, dictOf es₄ nn₄, #[], lq, 0, D, as1 ++ as2, grow_new i1C (no f1), grow_new jC hde, ?_, ?_, ?_, ?_, ?_, ⟨c, grow_new DC Dh⟩, grow_new lC lqh, (l1.keeps into).append (l2.keeps into)⟩
  · show getL "rulelines" es₄ = _; rw [o₄ _ (by decide), o₃ _ (by decide), q₂]
  · show getL "allowance" es₄ = _; rw [o₄ _ (by decide), o₃ _ (by decide), o₂ _ (by decide), o₁ _ (by decide)]; exact i4
  · show getL "useragents" es₄ = _; rw [o₄ _ (by decide), o₃ _ (by decide), o₂ _ (by decide), q₁]
  · show getL "delay" es₄ = _; rw [o₄ _ (by decide), q₃]
  · show getL "req_rate" es₄ = _; rw [q₄]
end
end Mine
namespace Mine
open PySem PySem.W PySem.Calls PySem.Spec PyProof.Rows PySem.SeqAt PySem.MeetsSeq
open AutoSeq1 (wpAny_loadPart')
theorem rem_loop (l : Addr) (items : Array Value) (n : Nat) (x : Value) (e : Value → Bool) (j : Nat) (hj : j < items.size) (hit : e items[j] = true) (k : Nat) (hs1 : items.size ≤ sizeLine) :
    ∀ i : Nat, j - i = k → i ≤ j → (∀ m (hm : m < items.size), i ≤ m → m < j → e items[m] = false) → Meets (Builtin.«list.remove.loop» ⟨[.ref l, x, rawInt i], []⟩)
      (fun A R s => s.heap.get? l = some { cls := .type "list", dict := none, data := .seq items n, slots := #[] } ∧ (∀ y, y ∈ items → EqAt A.in1 s y x (e y)) ∧ R (.ok (.ret .none)) { s with heap := s.heap.update l (Obj.mapSeq fun xs => xs.eraseIdxIfInBounds j) }) := by
  induction k with
  | zero =>
    intro i hk hij hno prog w A R s h
    obtain ⟨hp, g, d, tk, os⟩ := s; obtain ⟨hl, he, h⟩ := h
    have hij' : i = j := by omega
    subst hij'
    wp_walk using wpAny_loadPart' hl
    have hi : items[((i : Nat) : Int).toNat]? = some items[i] := by simp [hj]
    rw [hi]
    refine wpAny_bind (he _ (Array.getElem_mem hj) prog w _ _ ?_)
    rw [hit]
    have hz' : (items.eraseIdxIfInBounds i).size ≤ sizeLine + 1 := Nat.le_trans (size_erased items _) (Nat.le_succ_of_le hs1)
    wp_walk using (wpAny_updateSeq hl rfl (hz := hs1) (_hz' := hz')), wpAny_loadPart' hl
    simpa using h
  | succ k ih =>
    intro i hk hij hno prog w A R s h
    obtain ⟨hp, g, d, tk, os⟩ := s; obtain ⟨hl, he, h⟩ := h
    have hlt : i < items.size := by omega
    wp_walk using wpAny_loadPart' hl
    have hi : items[((i : Nat) : Int).toNat]? = some items[i] := by simp [hlt]
    have hc : ((i : Int) + 1) = ((i + 1 : Nat) : Int) := by push_cast; rfl
    rw [hi]
    refine wpAny_bind (he _ (Array.getElem_mem hlt) prog w _ _ ?_)
    rw [hno i hlt (Nat.le_refl _) (by omega)]
    wp_walk
    rw [hc]
    exact ⟨plainId_quiet plain_remove_loop _, codeAny_builtin entry_remove_loop (by
      rw [Around.under_plainId plain_remove_loop _]
      exact ih (i + 1) (by omega) (by omega) (fun m hm h1 h2 => hno m hm (by omega) h2) prog w A R _ ⟨hl, he, h⟩)⟩
theorem rem_at (l : Addr) (items : Array Value) (n : Nat) (x : Value) (e : Value → Bool) (j : Nat) (hj : j < items.size)
    (hit : e items[j] = true) (hno : ∀ m (hm : m < items.size), m < j → e items[m] = false) (hs1 : items.size ≤ sizeLine := by size_fits) :
    Meets (Builtin.«list.remove» ⟨[.ref l, x], []⟩)
      (fun A R s => s.heap.get? l = some { cls := .type "list", dict := none, data := .seq items n, slots := #[] } ∧ (∀ y, y ∈ items → EqAt A.in1 s y x (e y)) ∧ R (.ok (.ret .none)) { s with heap := s.heap.update l (Obj.mapSeq fun xs => xs.eraseIdxIfInBounds j) }) := by
  intro prog w A R s h
  obtain ⟨hp, g, d, tk, os⟩ := s; obtain ⟨hl, he, h⟩ := h
  wp_walk using wpAny_loadPart' hl
  exact ⟨plainId_quiet plain_remove_loop _, codeAny_builtin entry_remove_loop (by
    rw [Around.under_plainId plain_remove_loop _]
    exact rem_loop l items n x e j hj hit _ hs1 0 rfl (Nat.zero_le _) (fun m hm _ h2 => hno m hm h2) prog w A R _ ⟨hl, he, h⟩)⟩
theorem rem_loop_none (l : Addr) (items : Array Value) (n : Nat) (x : Value) (hno : ∀ y, y ∈ items → True) (k : Nat) :
    ∀ i : Nat, items.size - i = k → Meets (Builtin.«list.remove.loop» ⟨[.ref l, x, rawInt i], []⟩)
      (fun A R s => s.heap.get? l = some { cls := .type "list", dict := none, data := .seq items n, slots := #[] } ∧ (∀ y, y ∈ items → EqAt A.in1 s y x false) ∧ raisesNew "ValueError" A R s) := by
  induction k with
  | zero =>
    intro i hk prog w A R s h
    obtain ⟨hp, g, d, tk, os⟩ := s; obtain ⟨hl, he, h⟩ := h
    wp_walk using wpAny_loadPart' hl
    have hi : items[((i : Nat) : Int).toNat]? = none := by simp; omega
    rw [hi]
    wp_walk
    exact_raiseError plainExc_ValueError h.1 h.2
  | succ k ih =>
    intro i hk prog w A R s h
    obtain ⟨hp, g, d, tk, os⟩ := s; obtain ⟨hl, he, h⟩ := h
    have hlt : i < items.size := by omega
    wp_walk using wpAny_loadPart' hl
    have hi : items[((i : Nat) : Int).toNat]? = some items[i] := by simp [hlt]
    have hc : ((i : Int) + 1) = ((i + 1 : Nat) : Int) := by push_cast; rfl
    rw [hi]
    refine wpAny_bind (he _ (Array.getElem_mem hlt) prog w _ _ ?_)
    wp_walk
    rw [hc]
    exact ⟨plainId_quiet plain_remove_loop _, codeAny_builtin entry_remove_loop (by
      rw [Around.under_plainId plain_remove_loop _]
      exact ih (i + 1) (by omega) prog w A R _ ⟨hl, he, h⟩)⟩
theorem rem_none (l : Addr) (items : Array Value) (n : Nat) (x : Value) :
    Meets (Builtin.«list.remove» ⟨[.ref l, x], []⟩)
      (fun A R s => s.heap.get? l = some { cls := .type "list", dict := none, data := .seq items n, slots := #[] } ∧ (∀ y, y ∈ items → EqAt A.in1 s y x false) ∧ raisesNew "ValueError" A R s) := by
  intro prog w A R s h
  obtain ⟨hp, g, d, tk, os⟩ := s; obtain ⟨hl, he, h⟩ := h
  wp_walk using wpAny_loadPart' hl
  exact ⟨plainId_quiet plain_remove_loop _, codeAny_builtin entry_remove_loop (by
    rw [Around.under_plainId plain_remove_loop _]
    exact rem_loop_none l items n x (fun _ _ => trivial) _ 0 rfl prog w A R _ ⟨hl, he, h⟩)⟩
end Mine
namespace Mine
open PySem PySem.W PySem.Calls PySem.Spec PyProof.Rows PySem.SeqAt
theorem boot_VE : bootBuiltins "ValueError" = some (.type "ValueError") := (PyProof.Rows.excClass_ValueError).boot
theorem ve_exc : isSubtype (.type "ValueError") (.type "BaseException") = pure true := by rw [isSubtype_type]; kernel_rfl
theorem ve_tup : isSubtype (.type ((Manifest.find? "ValueError").elim "type" fun x => x.metatype)) (.type "tuple") = pure false := by
  have : ((Manifest.find? "ValueError").elim "type" fun x => x.metatype) = "type" := by decide +kernel
  rw [this, isSubtype_type]; kernel_rfl
theorem ve_ve : isSubtype (.type "ValueError") (.type "ValueError") = pure true := by rw [isSubtype_type]; kernel_rfl
section
variable {C : Cx} {A : Around} {h : Heap} {E : Value → Heap → Prop} {env : Env}
theorem W_listMeth {l : Addr} {vs : List Value} {n : Nat} {name : Str} {id : String} {pl : Sem Bool} {Q : Value × List Value → Heap → Prop} (hl : h.get? l = some (listO vs n)) (slot : Slot "list" name id) (hty : typeOf (.builtin id) = pure (.type "method_descriptor")) (q : Q (.builtin id, [.ref l]) h) :
    WP C A (getMethod (.ref l) name pl) Q E h := fun k => getMethod_builtin (s := C.S h k) ⟨_, hl, rfl⟩ PySem.F.plainAttrs_list slot hty (fun a e => by cases e; exact ⟨_, hl, rfl⟩) (up1 q)
theorem W_pop {l : Addr} {p : List Value} {y : Value} {n : Nat} {Q : Value → Heap → Prop} (hl : h.get? l = some (listO (p ++ [y]) n)) (hz : p.length ≤ 900) (q : ∀ h' n', h'.get? l = some (listO p n') → Heap.SameBut l h h' → Q y h') : WP C A (call (.builtin "list.pop") [.ref l]) Q E h := fun k => by
  have hz' : (p ++ [y]).toArray.size ≤ sizeLine := by rw [List.size_toArray, List.length_append, List.length_singleton, sizeLine_eq]; omega
  have hk : (p ++ [y]).toArray.size - 1 = p.length := by rw [List.size_toArray, List.length_append]; rfl
  have hy : (p ++ [y]).toArray[(p ++ [y]).toArray.size - 1]? = some y := by rw [hk]; simp
  refine call_meets (s := C.S h k) PySem.F.slot_list_pop ⟨_, hl, rfl⟩ PySem.F.entry_list_pop (PySem.F.args_list_pop_1 _) (PySem.MeetsSeq.list_pop_last l _ n y hy hz') ⟨hl, _, k, rfl, ?_⟩
  have e := PySem.IsL.update hl fun xs => xs.eraseIdxIfInBounds ((p ++ [y]).toArray.size - 1)
  have e2 : (p ++ [y]).toArray.eraseIdxIfInBounds ((p ++ [y]).toArray.size - 1) = p.toArray := by rw [hk, kl_erase, List.append_nil]
  rw [e2] at e
  exact q _ _ e (Heap.SameBut.update ..)
theorem W_remove {l : Addr} {p r : List Value} {y x : Value} {n : Nat} (e : Value → Bool) {Q : Value → Heap → Prop} (hl : h.get? l = some (listO (p ++ y :: r) n)) (hz : p.length + r.length ≤ 900) (he : ∀ k, ∀ z ∈ p ++ y :: r, EqAt A.in1 (C.S h k) z x (e z)) (hp : ∀ z ∈ p, e z = false) (hy : e y = true)
    (q : ∀ h' n', h'.get? l = some (listO (p ++ r) n') → Heap.SameBut l h h' → Q .none h') : WP C A (call (.builtin "list.remove") [.ref l, x]) Q E h := fun k => by
  have hs : (p ++ y :: r).toArray.size ≤ sizeLine := by rw [List.size_toArray, List.length_append, List.length_cons, sizeLine_eq]; omega
  have hj : p.length < (p ++ y :: r).toArray.size := by rw [List.size_toArray, List.length_append, List.length_cons]; omega
  refine call_meets (s := C.S h k) PySem.F.slot_list_remove ⟨_, hl, rfl⟩ PySem.F.entry_list_remove (PySem.F.args_list_remove_2 _ _) (rem_at l (p ++ y :: r).toArray n x e p.length hj (by simpa using hy) (fun m hm hlt => ?_) hs) ⟨hl, fun z hz => he k z (by simpa using hz), _, k, rfl, ?_⟩
  · rw [List.getElem_toArray, List.getElem_append_left hlt]
    exact hp _ (List.getElem_mem hlt)
  · have e' := PySem.IsL.update hl fun xs => xs.eraseIdxIfInBounds p.length
    rw [kl_erase] at e'
    exact q _ _ e' (Heap.SameBut.update ..)
theorem W_removeNone {l : Addr} {vs : List Value} {x : Value} {n : Nat} {Q : Value → Heap → Prop} (hh : A.handled = none) (hl : h.get? l = some (listO vs n)) (hp : ∀ k, ∀ z ∈ vs, EqAt A.in1 (C.S h k) z x false)
    (q : ∀ h' e, Heap.NewExc h h' e "ValueError" → E (.ref e) h') : WP C A (call (.builtin "list.remove") [.ref l, x]) Q E h := fun k => by
  exact call_meets (s := C.S h k) PySem.F.slot_list_remove ⟨_, hl, rfl⟩ PySem.F.entry_list_remove (PySem.F.args_list_remove_2 _ _) (rem_none l vs.toArray n x) ⟨hl, fun y hy => hp k y (by simpa using hy), hh, fun h' tk e x => ⟨h', tk, rfl, q h' e x⟩⟩
theorem W_tList {l : Addr} {vs : List Value} {n : Nat} {Q : Bool → Heap → Prop} (hl : h.get? l = some (listO vs n)) (hz : vs.length ≤ 1000) (q : Q (!vs.isEmpty) h) : WP C A (truthy (.ref l)) Q E h := fun k =>
  wpAny_truthy_list (s := C.S h k) (isList_of hl) (by rw [List.size_toArray]; omega) ⟨h, k + 1 + 1, rfl, by simpa using q⟩
theorem W_While {test body orelse pos} {Q : Flow → Heap → Prop} (I : Nat → Heap → Prop)
    (turn : ∀ n h, I n h → WP C A (isTrue test env (eval test env)) (fun b h₁ => if b then WP C A (execs body env) (fun f h₂ => match f with
      | .next | .cont => ∃ m, m < n ∧ I m h₂
      | .brk => Q .next h₂
      | .ret v => Q (.ret v) h₂) NoE h₁ else WP C A (execs orelse env) Q NoE h₁) NoE h) (n : Nat) (hI : I n h) : WP C A (exec (.While test body orelse pos) env) Q E h := fun k => by
  refine wpAny_While (codeAny_whileLoop (fun n s => ∃ h k, s = C.S h k ∧ I n h) (fun n s hs => ?_) n ⟨h, k, rfl, hI⟩)
  obtain ⟨h, k, rfl, hI⟩ := hs
  refine wpAny_mono (turn n h hI k) (fun b s q => ?_) fun _ _ e => noE e
  obtain ⟨h₁, k₁, rfl, q⟩ := q
  cases b with
  | true =>
    refine wpAny_mono (q k₁) (fun f s q => ?_) fun _ _ e => noE e
    obtain ⟨h₂, k₂, rfl, q⟩ := q
    cases f with
    | next => obtain ⟨m, hm, hI⟩ := q; exact ⟨m, hm, h₂, k₂, rfl, hI⟩
    | cont => obtain ⟨m, hm, hI⟩ := q; exact ⟨m, hm, h₂, k₂, rfl, hI⟩
    | brk => exact up1 q
    | ret v => exact up1 q
  | false => exact wpAny_mono (q k₁) (fun f s q => q) fun _ _ e => noE e
theorem W_tryVE {body suite : List Stmt} {b₀ : Stmt} {p hp pos : Pos} {Q : Flow → Heap → Prop} {outer : List Env} {L : Addr} (hfr : A.frames = some (env :: outer)) (hf : env.frame = some L)
    (y : WP C A (execs body env) Q (fun e h₁ => ∃ a hR base, e = .ref a ∧ Heap.NewExc hR h₁ a "ValueError" ∧ Kp base hR ∧ Gd C base ∧ hR.FunFrames base (env :: outer) ∧
      ∀ h₂, Kp base h₂ → hR.UpToSlots h₂ → WP C (A.mark (some (.ref a))) (execs (b₀ :: suite) env) Q NoE h₂) h)
    (hk : env.scope.kind = .function := by rfl) (hx : env.kindOf "ValueError" = some .globalImplicit := by rfl) (hge : env.globals = mainGlobals := by rfl) (hb : env.builtins = builtinsNs := by rfl) :
    WP C A (exec (.Try body [.ExceptHandler (some (.Name "ValueError" p)) none (b₀ :: suite) hp] [] [] pos) env) Q E h := fun k => by
  refine wpAny_Try_except (wpAny_mono (y k) (fun f s q => ?_) fun e s q => ?_)
  · obtain ⟨h₁, k₁, rfl, q⟩ := q
    cases f with
    | next => exact wpAny_execs_nil (up1 q)
    | _ => exact up1 q
  · obtain ⟨h₁, k₁, rfl, a, hR, base, rfl, nx, kb, gb, ff, q⟩ := q
    obtain ⟨ob, t, he, hc, hd⟩ := nx.there
    have kR : Kp hR h₁ := nx.keeps
    have kb₁ : Kp base h₁ := kb.trans kR
    have ba : base.get? a = none := kb.off nx.new
    have ff₁ : h₁.FunFrames base (env :: outer) := ff.of_keeps fun b o x _ => ⟨o, kR b o x, rfl⟩
    have ff0 : (C.S h₁ k₁).heap.FunFrames base (env :: outer) := ff₁
    unfold noteFrame
    simp only [hf]
    refine wpAny_bind (wpAny_field (s := C.S h₁ k₁) he hd (x := .none) rfl ?_)
    rw [if_neg (by simp)]
    refine wpAny_mono (Q := fun _ s₂ => ∃ h₂, s₂ = C.S h₂ k₁ ∧ Heap.NotedW base (env :: outer) a ob.cls t (rawInt L) h₁ h₂) (wpAny_entryW (s := C.S h₁ k₁) (head := .none) (hadNext := false) hfr ff0 hf he kb₁ ba hd (by simp) rfl fun h₂ n₂ => ⟨h₂, rfl, n₂⟩) (fun _ s₂ q₂ => ?_) fun _ _ e => e
    obtain ⟨h₂, rfl, k₂, ff₂, tr₂, up₂⟩ := q₂
    refine wpAny_setFlight_noneW (s := C.S h₂ k₁) k₂ ff₂ tr₂ fun h₃ k₃ ff₃ tr₃ eq₃ => ?_
    have u13 : h₁.UpToSlots h₃ := Heap.UpToSlots.trans up₂ fun b o x n => ⟨o.slots, eq₃ b o x n⟩
    refine wpAny_handleBy_builtin (X := "ValueError") (T := "ValueError") (b := true) ve_exc ve_tup ve_ve ?_
    obtain ⟨oe, ve, T, oT, ts, g1, g2, _⟩ := id tr₃
    refine wpAny_mono (W_builtin (C := C) (A := A.mark (some (.ref a))) (h := h₃) (E := NoE) (Q := fun v h' => v = .type "ValueError" ∧ h' = h₃) (gb.keeps k₃) rfl boot_VE ⟨rfl, rfl⟩ hk hx hge hb (by decide) (by decide) k₁) (fun v s₄ q₄ => ?_) fun _ _ e => noE e
    obtain ⟨h₃', k₄, rfl, rfl, e3⟩ := q₄
    subst e3
    refine ⟨rfl, ⟨oe, g1, g2.1.trans hc⟩, ?_⟩
    rw [if_pos rfl]
    refine wpAny_setFlight_noneW (s := C.S h₃' k₄) k₃ ff₃ tr₃.at fun h₅ k₅ ff₅ tr₅ eq₅ => ?_
    have u15 : hR.UpToSlots h₅ := Heap.UpToSlots.trans (Heap.UpToSlots.of_keeps kR) (Heap.UpToSlots.trans u13 fun b o x n => ⟨o.slots, eq₅ b o x n⟩)
    exact wpAny_mono (q h₅ k₅ u15 k₄) (fun _ _ z => z) fun _ _ e => noE e
end
end Mine
namespace Mine
open PySem PySem.W PySem.Calls PySem.Spec PyProof.Rows PySem.SeqAt
abbrev Row2 := Str × Str
abbrev Cell2 := Addr × Row2
noncomputable def rem1 (x : Row2) : List Cell2 → Option (List Cell2)
  | [] => none
  | y :: r => if y.2 == x then some r else (rem1 x r).map (y :: ·)
noncomputable def diffL : List Cell2 → List Cell2 → List Cell2 → List Cell2 × List Cell2
  | [], m, a => (m, a)
  | x :: xs, m, a => match rem1 x.2 a with
    | some a' => diffL xs m a'
    | none => diffL xs (m ++ [x]) a
theorem rem1_some {x : Row2} : ∀ {l l' : List Cell2}, rem1 x l = some l' → ∃ p y r, l = p ++ y :: r ∧ l' = p ++ r ∧ y.2 = x ∧ ∀ z ∈ p, z.2 ≠ x
  | [], _, h => by cases h
  | y :: r, l', h => by
    unfold rem1 at h
    by_cases e : (y.2 == x) = true
    · rw [if_pos e] at h
      cases h
      exact ⟨[], y, _, rfl, rfl, by simpa using e, by simp⟩
    · rw [if_neg e] at h
      cases hr : rem1 x r with
      | none => rw [hr] at h; cases h
      | some r' =>
        rw [hr] at h
        cases h
        obtain ⟨p, z, q, rfl, rfl, hz, hp⟩ := rem1_some hr
        exact ⟨y :: p, z, q, rfl, rfl, hz, fun w hw => by
          rcases List.mem_cons.mp hw with rfl | hw
          · simpa using e
          · exact hp w hw⟩
theorem rem1_none {x : Row2} : ∀ {l : List Cell2}, rem1 x l = none → ∀ z ∈ l, z.2 ≠ x
  | [], _ => by simp
  | y :: r, h => by
    unfold rem1 at h
    by_cases e : (y.2 == x) = true
    · rw [if_pos e] at h; cases h
    · rw [if_neg e] at h
      cases hr : rem1 x r with
      | some r' => rw [hr] at h; cases h
      | none =>
        intro z hz
        rcases List.mem_cons.mp hz with rfl | hz
        · simpa using e
        · exact rem1_none hr z hz
noncomputable def RowIs (G : Heap) (c : Cell2) : Prop := ∃ t t', G.get? c.1 = some (tupO [.str c.2.1 t, .str c.2.2 t'])
noncomputable def refsOf (l : List Cell2) : List Value := l.map fun c => .ref c.1
noncomputable def strOf : Option Value → Str
  | some (.str s _) => s
  | _ => ""
noncomputable def dataRow : Data → Row2
  | .seq vs _ => (strOf vs[0]?, strOf vs[1]?)
  | _ => ("", "")
noncomputable def rowE (G : Heap) (x : Row2) : Value → Bool
  | .ref b => match G.get? b with
    | some o => dataRow o.data == x
    | none => false
  | _ => false
theorem rowE_is {G : Heap} {c : Cell2} {x : Row2} (h : RowIs G c) : rowE G x (.ref c.1) = (c.2 == x) := by
  obtain ⟨t, t', e⟩ := h
  unfold rowE
  simp only [e]
  rfl
section
variable {C : Cx} {A : Around} {h : Heap} {E : Value → Heap → Prop} {G : Heap} {env : Env}
theorem eq_row {d k : Nat} (r : Rm A (d + 1)) (kp : Kp G h) {b a : Cell2} (hb : RowIs G b) (ha : RowIs G a) : EqAt A.in1 (C.S h k) (.ref b.1) (.ref a.1) (b.2 == a.2) := by
  obtain ⟨bi, s, p⟩ := b
  obtain ⟨ai, s', p'⟩ := a
  obtain ⟨t1, t2, e1⟩ := hb
  obtain ⟨t3, t4, e2⟩ := ha
  dsimp only at e1 e2 ⊢
  by_cases hne : bi = ai
  · subst hne
    rw [e1] at e2
    have e3 := congrArg (fun o => (o.map fun o => dataRow o.data)) e2
    have e4 : (s, p) = (s', p') := Option.some.inj e3
    rw [e4, beq_self_eq_true]
    exact EqAt.same _
  · have rc := RcAt.tuples (A := A.in1) (s := C.S h k) (l := bi) (b := ai) (items := #[.str s t1, .str p t2]) (items2 := #[.str s' t3, .str p' t4]) (e := fun j => if j = 0 then s == s' else p == p') ⟨_, kp _ _ e1, rfl, 0, rfl⟩ ⟨_, kp _ _ e2, rfl, 0, rfl⟩
      (by have := r.un; show A.units + 1 < 9900; omega) (fun j h1 h2 => by
        have hj : j = 0 ∨ j = 1 := by simp at h1; omega
        rcases hj with rfl | rfl
        · exact (eqGives_str s s' t1 t3).at _ _
        · exact (eqGives_str p p' t2 t4).at _ _)
    have ev : ((List.range (min (#[Value.str s t1, .str p t2]).size (#[Value.str s' t3, .str p' t4]).size)).all (fun j => if j = 0 then s == s' else p == p') && (#[Value.str s t1, .str p t2]).size == (#[Value.str s' t3, .str p' t4]).size) = ((s, p) == (s', p')) := by
      show ((List.range 2).all _ && true) = _
      simp only [List.range, List.range.loop, List.all_cons, List.all_nil, Bool.and_true]
      rfl
    rw [ev] at rc
    exact EqAt.of_refs hne rc
theorem diffL_cons {x : Cell2} {xs m a : List Cell2} : diffL (x :: xs) m a = match rem1 x.2 a with | some a' => diffL xs m a' | none => diffL xs (m ++ [x]) a := rfl
/-- between the turns -/
inductive DiffI (G h : Heap) (xs bs : List Cell2) (la lb lm L₀ L : Addr) (m₀ : Str → Option Value) (n : Nat) (h' : Heap) : Prop
  | mk (xs' miss act n1 n2 n3 m : _) (p1 : n = xs'.length) (p2 : diffL xs' miss act = diffL xs [] bs) (p3 : (∀ c ∈ xs', RowIs G c)) (p4 : (∀ c ∈ act, RowIs G c)) (p5 : xs'.length ≤ 100) (p6 : miss.length + xs'.length ≤ 100) (p7 : act.length ≤ 100) (p8 : Kp G h') (p9 : (∀ b o, b ≠ la → b ≠ lb → b ≠ L₀ → h.get? b = some o → h'.get? b = some o)) (p10 : h'.Ns L₀ m₀) (p11 : h'.get? la = some (listO (refsOf xs'.reverse) n1)) (p12 : h'.get? lb = some (listO (refsOf act) n2)) (p13 : h'.get? lm = some (listO (refsOf miss) n3)) (p14 : h'.Ns L m) (p15 : m "expected" = some (.ref la)) (p16 : m "actual" = some (.ref lb)) (p17 : m "missing" = some (.ref lm)) : DiffI G h xs bs la lb lm L₀ L m₀ n h'
theorem diff_W (hG : Gd C G) (kp : Kp G h) (r : Rm A 20) {lenv : Env} {L₀ : Addr} {m₀ : Str → Option Value} (hfr : A.frames = some [lenv]) (hlf : lenv.frame = some L₀) (hlk : lenv.scope.kind ≠ .module) (nL₀ : h.Ns L₀ m₀) (gL₀ : G.get? L₀ = none)
    {la lb : Addr} {na nb : Nat} {xs bs : List Cell2} (hla : h.get? la = some (listO (refsOf xs.reverse) na)) (hlb : h.get? lb = some (listO (refsOf bs) nb)) (gla : G.get? la = none) (glb : G.get? lb = none) (hab : la ≠ lb) (rx : ∀ c ∈ xs, RowIs G c) (rb : ∀ c ∈ bs, RowIs G c) (lx : xs.length ≤ 100) (lbs : bs.length ≤ 100) {Q : Value → Heap → Prop}
    (q : ∀ t lm n1 n2 h', Kp G h' → (∀ b o, b ≠ la → b ≠ lb → b ≠ L₀ → h.get? b = some o → h'.get? b = some o) → h'.Ns L₀ m₀ → h'.get? t = some (tupO [.ref lm, .ref lb]) → h'.get? lm = some (listO (refsOf (diffL xs [] bs).1) n1) → h'.get? lb = some (listO (refsOf (diffL xs [] bs).2) n2) → h.get? t = none → h.get? lm = none → Q (.ref t) h') :
    WP C A (call (.ref 117) [.ref la, .ref lb]) Q E h := by
  have g := hG.keeps kp
  have r' : ∀ env, Rm (A.deeper env) 19 := fun env => r.deeper
  have hh : ∀ env, (A.deeper env).handled = none := fun env => (r' env).hd
  refine W_callFn (binds := [("expected", .ref la), ("actual", .ref lb)]) g.nolimit (g.X 117 _ rfl) rfl rfl (codeRec_of g.X rfl) (by have := r.lim; omega) rfl (locs rfl) fun h₁ n₁ k₁ z₁ => ?_
  have zn : ∀ b, h.objs.size ≤ b → h.get? b = none := fun b hb => none_of_size hb
  refine W_cons (W_Assign (W_List (W_items0 (W_newList (by simp) (W_store (n₁.push _) fun h₂ n₂ s₂ => ?_)))))
  generalize hL : h.objs.size = L at *
  have s₂ : Heap.SameBut L (h₁.push (listO [])) h₂ := s₂
  have n₂ : h₂.Ns L _ := n₂
  have zL := zn L (Nat.le_refl _)
  have l₁ : L < h₁.objs.size := n₁.lt
  have p₂ : h₂.get? h₁.objs.size = some (listO []) := (s₂.2 _ (show h₁.objs.size ≠ L by omega)).trans (Heap.get?_push_size _ rfl)
  have k₂ : Kp h h₂ := (k₁.push _).same s₂ zL
  generalize hlm : h₁.objs.size = lm at *
  have zm := zn lm (by omega)
  have ne : ∀ {b c : Addr} {o : Obj}, h.get? b = some o → h.get? c = none → b ≠ c := fun x y z => by rw [z, y] at x; cases x
  obtain ⟨oL0, xL0⟩ := ns_there nL₀
  have aL := ne hla zL
  have bL := ne hlb zL
  have L0L := ne xL0 zL
  have am := ne hla zm
  have bm := ne hlb zm
  have L0m := ne xL0 zm
  have Lm : L ≠ lm := by omega
  have dictNe : ∀ {b : Addr} {vs : List Value} {n : Nat} {hx : Heap} {c : Addr} {mm : Str → Option Value}, hx.get? b = some (listO vs n) → hx.Ns c mm → b ≠ c := fun {b vs n hx c mm} x y z => by
    obtain ⟨o', es, ep, x', d', _⟩ := y
    rw [z, x'] at x
    have := congrArg Obj.data (Option.some.inj x)
    rw [d'] at this; cases this
  have aL0 := dictNe hla nL₀
  have bL0 := dictNe hlb nL₀
  have gz : ∀ {b}, h.get? b = none → G.get? b = none := fun hb => kp.off hb
  obtain ⟨m, n₂, me, ma, mm⟩ : ∃ m, h₂.Ns L m ∧ m "expected" = some (.ref la) ∧ m "actual" = some (.ref lb) ∧ m "missing" = some (.ref lm) := ⟨_, n₂, rfl, rfl, rfl⟩
  refine W_cons (W_While (DiffI G h xs bs la lb lm L₀ L m₀) ?_ xs.length
    ⟨xs, [], bs, _, _, _, m, rfl, rfl, rx, rb, lx, by simpa using lx, lbs, kp.trans k₂, fun b o _ _ _ x => k₂ b o x, nL₀.keeps k₂, k₂ _ _ hla, k₂ _ _ hlb, p₂, n₂, me, ma, mm⟩)
  rintro n h' ⟨xs', miss, act, n1, n2, n3, m, rfl, hd, rx', ra, lx', lm', la', kG, kO, n0, ea, eb, em, nL, me, ma, mm⟩
  have hL' : ∀ {b : Addr} {o : Obj}, h.get? b = some o → ∃ o', h'.get? b = some o' := fun {b o} x => by
    by_cases h1 : b = la
    · subst h1; exact ⟨_, ea⟩
    by_cases h2 : b = lb
    · subst h2; exact ⟨_, eb⟩
    by_cases h3 : b = L₀
    · subst h3; exact ns_there n0
    exact ⟨o, kO b o h1 h2 h3 x⟩
  refine W_tplain (W_local nL me (W_tList ea (by simp [refsOf]; omega) ?_))
  cases xs' with
  | nil =>
    refine W_nil (W_cons (W_Return (W_Tuple (W_items (W_local nL mm (W_items (W_local nL ma (W_items0 (W_newTuple (by simp) ?_)))))))))
    have hd' : (miss, act) = diffL xs [] bs := hd
    refine q h'.objs.size lm n3 n2 _ (kG.push _) (fun b o h1 h2 h3 x => Heap.get?_push_of_some _ (kO b o h1 h2 h3 x)) (n0.push _) (Heap.get?_push_size _ rfl) (by rw [← hd']; exact Heap.get?_push_of_some _ em) (by rw [← hd']; exact Heap.get?_push_of_some _ eb) ?_ zm
    cases x : h.get? h'.objs.size with
    | none => rfl
    | some o => obtain ⟨o', x'⟩ := hL' x; exact absurd (Heap.lt_size x') (Nat.lt_irrefl _)
  | cons x xs'' =>
    have hrev : refsOf (x :: xs'').reverse = refsOf xs''.reverse ++ [.ref x.1] := by simp [refsOf]
    rw [hrev] at ea ⊢
    have hne : (!(refsOf xs''.reverse ++ [Value.ref x.1]).isEmpty) = true := by simp
    rw [hne]
    refine WP.gen fun Qw kQw => ?_
    refine W_cons (W_Assign (W_Meth (W_local nL me fun pl => W_listMeth ea PySem.F.slot_list_pop PySem.F.type_list_pop (W_with0 Kept.builtin (W_pop ea (by simp [refsOf]; simp at lx'; omega) fun h₃ n3' e₃ s₃ => W_store (nL.sameBut s₃ (Ne.symm aL)) fun h₄ n₄ s₄ => ?_)))))
    have s₄ : Heap.SameBut L h₃ h₄ := s₄
    have n₄ : h₄.Ns L _ := n₄
    have up4 : ∀ {b : Addr} {o : Obj}, b ≠ la → b ≠ L → h'.get? b = some o → h₄.get? b = some o := fun h1 h2 x => (s₄.2 _ h2).trans ((s₃.2 _ h1).trans x)
    have ea₄ := (s₄.2 _ aL).trans e₃
    have eb₄ := up4 (Ne.symm hab) bL eb
    have em₄ := up4 (Ne.symm am) (Ne.symm Lm) em
    have n0₄ := nsA n0 fun o => up4 (Ne.symm aL0) L0L
    have kG₄ : Kp G h₄ := fun b o y => up4 (fun z => by rw [z, gla] at y; cases y) (fun z => by rw [z, gz zL] at y; cases y) (kG b o y)
    have kO₄ : ∀ b o, b ≠ la → b ≠ lb → b ≠ L₀ → h.get? b = some o → h₄.get? b = some o := fun b o h1 h2 h3 y => up4 h1 (fun z => by rw [z, zL] at y; cases y) (kO b o h1 h2 h3 y)
    obtain ⟨m4, n₄, me4, ma4, mm4, mi4⟩ : ∃ m4, h₄.Ns L m4 ∧ m4 "expected" = some (.ref la) ∧ m4 "actual" = some (.ref lb) ∧ m4 "missing" = some (.ref lm) ∧ m4 "item" = some (.ref x.1) := ⟨_, n₄, upd_ne me, upd_ne ma, upd_ne mm, upd_eq⟩
    have fin : ∀ (h₅ : Heap) (miss' act' : List Cell2) (n2' n3'' : Nat), diffL xs'' miss' act' = diffL xs [] bs → (∀ c ∈ act', RowIs G c) → miss'.length + xs''.length ≤ 100 → act'.length ≤ 100 → Kp G h₅ →
        (∀ b o, b ≠ la → b ≠ lb → b ≠ L₀ → h.get? b = some o → h₅.get? b = some o) → h₅.Ns L₀ m₀ → h₅.get? la = some (listO (refsOf xs''.reverse) n3') → h₅.get? lb = some (listO (refsOf act') n2') → h₅.get? lm = some (listO (refsOf miss') n3'') → h₅.Ns L m4 →
        Qw .next h₅ :=
      fun h₅ miss' act' n2' n3'' a1 a2 a3 a4 a5 a6 a7 a8 a9 a10 a11 => kQw _ _ ⟨xs''.length, by simp, xs'', miss', act', _, _, _, m4, rfl, a1, fun c hc => rx' c (.tail _ hc), a2, by simp at lx'; omega, a3, a4, a5, a6, a7, a8, a9, a10, a11, me4, ma4, mm4⟩
    have hrx := rx' x (.head _)
    refine W_cons (W_tryVE (outer := [lenv]) (L := L) (Around.frames_deeper hfr) rfl ?_)
    refine W_cons (W_Expr (W_Meth (W_local n₄ ma4 fun pl => W_listMeth eb₄ PySem.F.slot_list_remove PySem.F.type_list_remove (W_with (W_items (W_local n₄ mi4 (W_items0 ⟨Kept.builtin, ?_⟩)))))))
    cases hr : rem1 x.2 act with
    | some act' =>
      obtain ⟨p, y, rr, rfl, rfl, hy, hp⟩ := rem1_some hr
      rw [diffL_cons, hr] at hd
      have hrefs : refsOf (p ++ y :: rr) = refsOf p ++ .ref y.1 :: refsOf rr := by simp [refsOf]
      rw [hrefs] at eb₄
      refine W_remove (rowE G x.2) eb₄ (by simp [refsOf]; simp at la'; omega) (fun k z hz => ?_) (fun z hz => ?_) ?_ fun h₅ n5 e₅ s₅ => ⟨fun a z => (by cases z), W_nil (W_nil ?_)⟩
      · rw [← hrefs] at hz
        obtain ⟨c, hc, rfl⟩ := List.mem_map.mp hz
        rw [rowE_is (ra c hc)]
        exact eq_row (d := 18) (r' _) kG₄ (ra c hc) hrx
      · obtain ⟨c, hc, rfl⟩ := List.mem_map.mp hz
        rw [rowE_is (ra c (by simp [hc]))]
        simpa using hp c hc
      · rw [rowE_is (ra y (by simp))]
        simpa using hy
      · refine fin h₅ miss (p ++ rr) n5 n3 hd (fun c hc => ra c (by simp at hc ⊢; rcases hc with hc | hc <;> simp [hc])) (by simp at lm'; omega) (by simp at la' ⊢; omega) (kG₄.same s₅ glb) (fun b o h1 h2 h3 y => (s₅.2 _ h2).trans (kO₄ b o h1 h2 h3 y)) (n0₄.sameBut s₅ (Ne.symm bL0)) ((s₅.2 _ hab).trans ea₄) ?_ ((s₅.2 _ (Ne.symm bm)).trans em₄) (n₄.sameBut s₅ (Ne.symm bL))
        rw [e₅]; simp [refsOf]
    | none =>
      rw [diffL_cons, hr] at hd
      have hno := rem1_none hr
      refine W_removeNone (hh _) eb₄ (fun k z hz => ?_) fun h₅ a nx => ?_
      · obtain ⟨c, hc, rfl⟩ := List.mem_map.mp hz
        have e : false = (c.2 == x.2) := by symm; simpa using hno c hc
        rw [e]
        exact eq_row (d := 18) (r' _) kG₄ (ra c hc) hrx
      · have bget : ∀ {b : Addr}, b ≠ L → b ≠ L₀ → (frz h₄ fun b => decide (b ≠ L ∧ b ≠ L₀)).get? b = h₄.get? b := fun h1 h2 => frz_get (by simp [h1, h2])
        have kb : Kp (frz h₄ fun b => decide (b ≠ L ∧ b ≠ L₀)) h₄ := fun b o y => by
          by_cases c : (decide (b ≠ L ∧ b ≠ L₀)) = true
          · rw [frz_get c] at y; exact y
          · rw [frz_no (by simpa using c)] at y; cases y
        have kGb : Kp G (frz h₄ fun b => decide (b ≠ L ∧ b ≠ L₀)) := fun b o y => (bget (fun z => by rw [z, gz zL] at y; cases y) (fun z => by rw [z, gL₀] at y; cases y)).trans (kG₄ b o y)
        refine ⟨a, h₄, frz h₄ fun b => decide (b ≠ L ∧ b ≠ L₀), rfl, nx, kb, hG.keeps kGb, ?_, fun h₆ kb6 u6 => ?_⟩
        · exact Heap.FunFrames.cons (show ScopeKind.function ≠ ScopeKind.module by decide) rfl n₄ (frz_no (by simp)) (Heap.FunFrames.cons hlk hlf n0₄ (frz_no (by simp)) trivial)
        have n₆ := u6.ns n₄
        have n0₆ := u6.ns n0₄
        have ea₆ := kb6 _ _ ((bget aL aL0).trans ea₄)
        have eb₆ := kb6 _ _ ((bget bL bL0).trans eb₄)
        have mL0 : lm ≠ L₀ := Ne.symm L0m
        have em₆ := kb6 _ _ ((bget (Ne.symm Lm) mL0).trans em₄)
        refine W_cons (W_Expr (W_Meth (W_local n₆ mm4 fun pl => W_methAppend em₆ (W_with (W_items (W_local n₆ mi4 (W_items0 ⟨Kept.builtin, W_append em₆ (by simp [refsOf]; omega) fun h₇ n7 e₇ s₇ => ⟨fun a z => (by cases z), W_nil (W_nil ?_)⟩⟩)))))))
        refine fin h₇ (miss ++ [x]) act n2 n7 hd ra (by simp at lm' ⊢; omega) la' ((kGb.trans kb6).same s₇ (gz zm)) (fun b o h1 h2 h3 y => (s₇.2 _ (fun z => by rw [z, zm] at y; cases y)).trans (kb6 _ _ ((bget (fun z => by rw [z, zL] at y; cases y) h3).trans (kO₄ b o h1 h2 h3 y)))) (n0₆.sameBut s₇ L0m) ((s₇.2 _ am).trans ea₆) ((s₇.2 _ bm).trans eb₆) ?_ (n₆.sameBut s₇ Lm)
        rw [e₇]; simp [refsOf]
end
end Mine
namespace Mine
open PySem PySem.W PySem.Calls PySem.Spec PyProof.Rows
/-- what the nine bits tell -/
noncomputable def bsum (b : List Bool) : Int := (((List.range 9).filter fun k => b.getD k false).map fun k => (2 : Int) ^ (8 - k)).sum
noncomputable def bsign (b : List Bool) : Str := ((List.range 9).foldl (fun s k => s ++ if b.getD k false then actsL[k]?.getD "" else "-") "-" : Str)
noncomputable def hitsL (M : Int) : List Bool := [hitB M 0 40960, hitB M 0 49152, hitB M 0 32768, hitB M 1 256, hitB M 2 128, hitB M 3 2112, hitB M 3 2048, hitB M 3 64, hitB M 4 32, hitB M 5 16, hitB M 6 1032, hitB M 6 1024, hitB M 6 8, hitB M 7 4, hitB M 8 2, hitB M 9 513, hitB M 9 512, hitB M 9 1]
theorem hits_all : ∀ a b c d e f g h i : Bool, hitsL (32768 + bsum [a, b, c, d, e, f, g, h, i]) = [false, false, true, a, b, false, false, c, d, e, false, false, f, g, h, false, false, i] := by decide +kernel
theorem row_one {M : Int} {j : Nat} {n : Int} {y : Str} {b : Bool} (h : hitB M (j + 1) n = b) : charOf M (j + 1) [(n, y)] = if b then y else "-" := by
  unfold charOf; simp only [List.find?_cons, h]; cases b <;> rfl
theorem row_three {M : Int} {j : Nat} {n1 n2 n3 : Int} {y1 y2 y3 : Str} {b : Bool} (h1 : hitB M (j + 1) n1 = false) (h2 : hitB M (j + 1) n2 = false) (h : hitB M (j + 1) n3 = b) : charOf M (j + 1) [(n1, y1), (n2, y2), (n3, y3)] = if b then y3 else "-" := by
  unfold charOf; simp only [List.find?_cons, h1, h2, h]; cases b <;> rfl
theorem row_kind {M : Int} {l : List (Int × Str)} {n1 n2 n3 : Int} {y1 y2 y3 : Str} (h1 : hitB M 0 n1 = false) (h2 : hitB M 0 n2 = false) (h : hitB M 0 n3 = true) : charOf M 0 ((n1, y1) :: (n2, y2) :: (n3, y3) :: l) = y3 := by
  unfold charOf; simp only [List.find?_cons, h1, h2, h]
theorem join_fold (x : Str) (l : List Str) : Txt.join "" (x :: l) = l.foldl (fun s y => s ++ y) x := by
  show (⟨l.foldl (fun acc p => acc ++ ("" : Str).cps ++ p.cps) x.cps⟩ : Str) = _
  induction l generalizing x with
  | nil => rfl
  | cons y l ih =>
    refine Eq.trans ?_ (ih (x ++ y))
    show (⟨l.foldl _ (x.cps ++ ("" : Str).cps ++ y.cps)⟩ : Str) = ⟨l.foldl _ (x.cps ++ y.cps)⟩
    rw [show x.cps ++ ("" : Str).cps = x.cps from Array.append_empty]
theorem cons_eq {α : Type} {a b : α} {l m : List α} (x : a = b) (y : l = m) : a :: l = b :: m := x ▸ y ▸ rfl
theorem bits_all (a b c d e f g h i : Bool) : Txt.join "" (modeTab.mapIdx fun j row => charOf (32768 + bsum [a, b, c, d, e, f, g, h, i]) j row) = bsign [a, b, c, d, e, f, g, h, i] := by
  have x := hits_all a b c d e f g h i
  generalize 32768 + bsum [a, b, c, d, e, f, g, h, i] = M at x ⊢
  have k : ∀ n, (hitsL M).getD n true = _ := fun n => congrArg (fun l => l.getD n true) x
  have e : (modeTab.mapIdx fun j row => charOf M j row) = ("-" : Str) :: (List.range 9).map fun k => if [a, b, c, d, e, f, g, h, i].getD k false then actsL[k]?.getD "" else "-" := by
    show charOf M 0 _ :: charOf M 1 _ :: charOf M 2 _ :: charOf M 3 _ :: charOf M 4 _ :: charOf M 5 _ :: charOf M 6 _ :: charOf M 7 _ :: charOf M 8 _ :: charOf M 9 _ :: [] = _
    exact cons_eq (row_kind (k 0) (k 1) (k 2)) (cons_eq (row_one (k 3)) (cons_eq (row_one (k 4)) (cons_eq (row_three (k 5) (k 6) (k 7)) (cons_eq (row_one (k 8)) (cons_eq (row_one (k 9)) (cons_eq (row_three (k 10) (k 11) (k 12)) (cons_eq (row_one (k 13)) (cons_eq (row_one (k 14)) (cons_eq (row_three (k 15) (k 16) (k 17)) rfl)))))))))
  rw [e, join_fold]
  exact List.foldl_map
end Mine
namespace Mine
open PySem PySem.W PySem.Calls PySem.Spec PyProof.Rows
noncomputable def bstep (cur y : Int × Bool) : Int × Bool := if gt2 y cur then y else cur
theorem best_fold (fs : List (Int × Bool)) : ∀ k, k < fs.length → fs.getD (argBest (btOf fs) k) (0, true) = (fs.take (k + 1)).tail.foldl bstep (fs.getD 0 (0, true))
  | 0, h => by
    cases fs with
    | nil => simp at h
    | cons x l => simp [argBest]
  | k + 1, h => by
    have ih := best_fold fs k (by omega)
    obtain ⟨x, l, rfl⟩ : ∃ x l, fs = x :: l := by
      cases fs with
      | nil => simp at h
      | cons x l => exact ⟨x, l, rfl⟩
    have h' : k < l.length := by simpa using h
    have e1 : ((x :: l).take (k + 1 + 1)).tail = ((x :: l).take (k + 1)).tail ++ [l[k]] := by
      rw [List.take_succ_cons, List.take_succ_cons, List.tail_cons, List.tail_cons, List.take_add_one, List.getElem?_eq_getElem h']; rfl
    rw [e1, List.foldl_append, ← ih]
    show (x :: l).getD (if btOf (x :: l) (k + 1) (argBest (btOf (x :: l)) k) then k + 1 else argBest (btOf (x :: l)) k) (0, true) = bstep _ _
    unfold bstep
    have e2 : (x :: l).getD (k + 1) (0, true) = l[k] := by simp [h']
    have e3 : btOf (x :: l) (k + 1) (argBest (btOf (x :: l)) k) = gt2 l[k] ((x :: l).getD (argBest (btOf (x :: l)) k) (0, true)) := by unfold btOf; rw [e2]
    rw [e3]
    cases hg : gt2 l[k] ((x :: l).getD (argBest (btOf (x :: l)) k) (0, true)) with
    | true => simp [h']
    | false => simp
theorem bestOf_cons (x : Int × Bool) (l : List (Int × Bool)) : bestOf (x :: l) = l.foldl bstep x := by
  have := best_fold (x :: l) l.length (by simp)
  unfold bestOf
  rw [show (x :: l).length - 1 = l.length by simp, this]
  simp
noncomputable def astep (st : Int × Bool) (y : Int × Bool) : Int × Bool := if st.1 < y.1 then y else if y.1 = st.1 ∧ st.2 = false then (st.1, y.2) else st
theorem astep_bstep (st y : Int × Bool) : astep st y = bstep st y := by
  obtain ⟨c, cb⟩ := st
  obtain ⟨m, b⟩ := y
  unfold astep bstep gt2
  by_cases h1 : c < m
  · have : (m == c) = false := by simp; omega
    simp [h1, this]
  · by_cases h2 : m = c
    · subst h2
      cases cb <;> cases b <;> simp
    · have : (m == c) = false := by simpa using h2
      simp [h1, h2, this]
theorem fold_same : ∀ (l : List (Int × Bool)), (∀ y ∈ l, 0 < y.1) → (l.foldl astep (-1, true)).2 = (l.foldl bstep (0, true)).2
  | [], _ => rfl
  | y :: l, h => by
    have hy := h y (.head _)
    have e1 : astep (-1, true) y = y := by unfold astep; rw [if_pos (by show (-1 : Int) < y.1; omega)]
    have e2 : bstep (0, true) y = y := by
      rw [← astep_bstep]; unfold astep; rw [if_pos (by show (0 : Int) < y.1; omega)]
    rw [List.foldl_cons, List.foldl_cons, e1, e2]
    have : astep = bstep := by funext a b; exact astep_bstep a b
    rw [this]
theorem allow_fold (name : Str) : ∀ (rs : List Rule) (st : Int × Bool), rs.foldl (stepR name) st = ((rs.filter fun r => Txt.startswith name r.1).map fun r => ((r.1.length : Int) + 1, r.2)).foldl astep st
  | [], st => rfl
  | r :: rs, st => by
    rw [List.foldl_cons, allow_fold name rs]
    cases h : Txt.startswith name r.1 with
    | false =>
      have : stepR name st r = st := by unfold stepR mOf; simp [h]
      rw [this]; simp [h]
    | true =>
      have : stepR name st r = astep st ((r.1.length : Int) + 1, r.2) := by
        unfold stepR mOf astep
        have : ¬ ((r.1.length : Int) + 1 = 0) := by omega
        simp [h, this]
      rw [this]; simp [h]
theorem range_pick (l : List Nat) : ∀ m, (List.range m).filterMap (fun i => l[i]?) = l.take m
  | 0 => by simp
  | m + 1 => by
    rw [List.range_succ, List.filterMap_append, range_pick l m, List.take_add_one]
    cases h : l[m]? <;> simp [h]
theorem slice_to (x : Str) (n : Nat) : PySem.Txt.slice x none (some (n : Int)) = ⟨x.cps.extract 0 n⟩ := by
  have hx : x.length = x.cps.size := rfl
  have hi : Builtin.Str.strSliceIndices none (some (n : Int)) 1 x.length = List.range (min n x.length) := by
    unfold Builtin.Str.strSliceIndices
    have e : max 0 (min (n : Int) (x.length : Int)) = ((min n x.length : Nat) : Int) := by omega
    have e0 : ¬ ((n : Int) < 0) := by omega
    simp only [show (1 : Int) > 0 by decide, if_true, e0, if_false, e]
    have := sliceRange_one 0 (min n x.length)
    simp only [Nat.sub_zero, Nat.zero_add, List.map_id'] at this
    exact this
  unfold PySem.Txt.slice
  rw [hi]
  have ex : ∀ m, (((List.range m).filterMap (fun i => x.cps[i]?)).toArray) = x.cps.extract 0 m := fun m => by
    have h1 : (fun i => x.cps[i]?) = fun i : Nat => x.cps.toList[i]? := by funext i; simp
    rw [h1, range_pick]
    apply Array.toList_inj.mp
    simp
  by_cases hc : ((1 : Int) == 1 && (List.range (min n x.length)).length == x.length) = true
  · rw [if_pos hc]
    have hn : x.length ≤ n := by simp at hc; omega
    have : x.cps.extract 0 n = x.cps := by
      apply Array.toList_inj.mp
      simp [List.take_of_length_le, ← hx, hn]
    rw [this]
  · rw [if_neg hc, ex]
    have : x.cps.extract 0 (min n x.length) = x.cps.extract 0 n := by
      apply Array.toList_inj.mp
      simp [hx]
    rw [this]
theorem slice_start (x f : Str) : (PySem.Txt.slice x none (some (f.length : Int)) == f) = Txt.startswith x f := by
  rw [slice_to]
  show _ = (decide (0 + f.length ≤ x.length) && (x.cps.extract 0 (0 + f.length) == f.cps))
  rw [Nat.zero_add]
  have e : ((⟨x.cps.extract 0 f.length⟩ : Str) == f) = (x.cps.extract 0 f.length == f.cps) := by
    rw [Bool.eq_iff_iff]
    simp only [beq_iff_eq]
    constructor
    · intro h; exact congrArg Str.cps h
    · intro h; cases f; simp only at h; rw [h]
  rw [e]
  cases h : (x.cps.extract 0 f.length == f.cps) with
  | false => simp
  | true =>
    have h' : x.cps.extract 0 f.length = f.cps := by simpa using h
    have := congrArg Array.size h'
    have l1 : f.length = f.cps.size := rfl
    have l2 : x.length = x.cps.size := rfl
    simp at this
    simp; omega
theorem allow_due (rs : List Rule) (name : Str) : allow rs name = dueB rs name := by
  unfold allow dueB
  rw [bestOf_cons, allow_fold]
  have e : fitsOf rs name = (rs.filter fun r => Txt.startswith name r.1).map fun r => ((r.1.length : Int) + 1, r.2) := by
    unfold fitsOf
    congr 1
    congr 1
    funext r
    exact slice_start name r.1
  rw [e]
  refine fold_same _ fun y hy => ?_
  obtain ⟨r, _, rfl⟩ := List.mem_map.mp hy
  show (0 : Int) < (r.1.length : Int) + 1
  omega
theorem sign_due (rs : List Rule) (p : Str) : sign (allow rs) p = signK rs p 9 := by
  have h := bits_all (allow rs (nm p 0)) (allow rs (nm p 1)) (allow rs (nm p 2)) (allow rs (nm p 3)) (allow rs (nm p 4)) (allow rs (nm p 5)) (allow rs (nm p 6)) (allow rs (nm p 7)) (allow rs (nm p 8))
  have e1 : (bits (allow rs) p 9).sum = bsum [allow rs (nm p 0), allow rs (nm p 1), allow rs (nm p 2), allow rs (nm p 3), allow rs (nm p 4), allow rs (nm p 5), allow rs (nm p 6), allow rs (nm p 7), allow rs (nm p 8)] := rfl
  unfold sign
  rw [e1, h]
  simp only [allow_due]
  rfl
theorem rows_due (rs : List Rule) : rowsL (allow rs) = rowsD rs := by
  unfold rowsL rowsD
  simp only [sign_due]
end Mine
namespace Mine
open PySem PySem.W PySem.Calls PySem.Spec PyProof.Rows PySem.SeqAt
theorem ints_of_all {l : List Value} (h : ∀ v ∈ l, ∃ a t, v = .int a t) : ∃ ms, IntsAre l ms := by
  induction l with
  | nil => exact ⟨[], .nil⟩
  | cons v l ih =>
    obtain ⟨a, t, rfl⟩ := h v (.head _)
    obtain ⟨ms, hm⟩ := ih fun w hw => h w (.tail _ hw)
    exact ⟨a :: ms, .cons a t hm⟩
theorem ints_all {l : List Value} {ms : List Int} (x : IntsAre l ms) : ∀ v ∈ l, ∃ a t, v = .int a t := by
  induction x with
  | nil => intro v h; cases h
  | cons n t _ ih => exact List.forall_mem_cons.mpr ⟨⟨n, t, rfl⟩, ih⟩
theorem pick_ints {vs : List Value} {ns : List Int} (h : IntsAre vs ns) (lo hi st : Option Int) : ∃ ms, IntsAre (slicePick vs.toArray lo hi st).toList ms ∧ ms.length ≤ ns.length := by
  have hall : ∀ v ∈ (slicePick vs.toArray lo hi st).toList, ∃ a t, v = .int a t := fun v hv => by
    unfold slicePick at hv
    rw [List.toList_toArray] at hv
    obtain ⟨i, _, hi⟩ := List.mem_filterMap.mp hv
    exact ints_all h v (by
      have : vs[i]? = some v := by simpa using hi
      exact List.mem_of_getElem? this)
  obtain ⟨ms, hm⟩ := ints_of_all hall
  refine ⟨ms, hm, ?_⟩
  have h1 := slicePick_size_le vs.toArray lo hi st
  rw [← hm.length, ← h.length, Array.length_toList]
  simpa using h1
section
variable {C : Cx} {A : Around} {h : Heap} {E : Value → Heap → Prop} {env : Env}
theorem W_subListStep {value : Expr} {lower upper : Option Expr} {st : Expr} {p pos : Pos} {Q : Value → Heap → Prop}
    (y : WP C A (eval value env) (fun o h₁ => WP C A (evalPart lower env) (fun vl h₂ => WP C A (evalPart upper env) (fun vu h₃ => WP C A (eval st env) (fun vs h₄ => ∃ l items lo hi s, o = .ref l ∧ h₄.IsList l items ∧ items.size ≤ 1000 ∧ IsPart vl lo ∧ IsPart vu hi ∧ IsPart vs (some s) ∧ s ≠ 0 ∧
      ∀ h', Kp h₄ h' → h'.get? (h₄.objs.size + 1) = some (listO (slicePick items lo hi (some s)).toList) → h₄.get? (h₄.objs.size + 1) = none → Q (.ref (h₄.objs.size + 1)) h') E h₃) E h₂) E h₁) E h) :
    WP C A (eval (.Subscript value (.Slice lower upper (some st) p) pos) env) Q E h := by
  refine W_Sub (y.post fun o h₁ q => WP.of fun k => wpAny_Slice (wpAny_mono (q k) (fun vl s q => wpAny_mono (go q) (fun vu s q => wpAny_mono (go q) (fun vs s q => ?_) fun _ _ e => e) fun _ _ e => e) fun _ _ e => e))
  obtain ⟨h₄, k₄, rfl, l, items, lo, hi, s, rfl, hl, hz, p1, p2, p3, hs, q⟩ := q
  refine ⟨_, k₄, rfl, fun k₅ => ?_⟩
  have hl' := hl.push { cls := .type "slice", data := .fields #[vl, vu, vs] }
  refine tail_any (Heap.IsList.typeIs (s := C.S _ k₅) hl') slot_list_getitem.lookup (wpAny_getItem_list_slice (s := C.S _ k₅) hl' (Heap.IsSliceOf.new ..) p1 p2 p3 (by simpa using hs) ⟨_, k₅, rfl, ?_⟩ (by rw [sizeLine_eq]; omega)) rfl
  have sz : (h₄.push { cls := .type "slice", data := .fields #[vl, vu, vs] }).objs.size = h₄.objs.size + 1 := Heap.size_push _ _
  show Q (.ref (h₄.push _).objs.size) _
  rw [sz]
  refine q _ (((Kp.refl h₄).push _).push _) ?_ (none_of_size (Nat.le_succ _))
  rw [← sz]
  show _ = some (listO (slicePick items lo hi (some s)).toList)
  unfold listO
  rw [Array.toArray_toList]
  exact Heap.get?_push_size _ rfl
end
end Mine
namespace Mine
open PySem PySem.W PySem.Calls PySem.Spec PyProof.Rows PySem.SeqAt
section
variable {C : Cx} {A : Around} {h : Heap} {E : Value → Heap → Prop} {env : Env}
theorem W_AssignT {elts : List Expr} {n : Nat} {p : Pos} {value : Expr} {pos : Pos} {Q : Flow → Heap → Prop} (y : WP C A (eval value env) (fun v h₁ => WP C A (assign (.Tuple elts n p) env v) (fun _ => Q .next) E h₁) E h)
    (hs : swapsWithSole [.Tuple elts n p] value pos.line env = pure false := by rfl) (hw : swappedStores [.Tuple elts n p] value env = pure none := by rfl) : WP C A (exec (.Assign [.Tuple elts n p] value pos) env) Q E h :=
  fun k => wpAny_Assign_stores (wpAny_mono (y k) (fun v s q => by
    obtain ⟨h₁, k₁, rfl, q⟩ := q
    exact q k₁) fun _ _ e => e) hs hw
theorem W_And {e₁ e₂ : Expr} {rest : List Expr} {pos : Pos} {Q : Value → Heap → Prop} (y : WP C A (eval e₁ env) (fun v h₁ => WP C A (truthy v) (fun c h₂ => if c then WP C A (eval (.BoolOp .And (e₂ :: rest) pos) env) Q E h₂ else Q v h₂) E h₁) E h) : WP C A (eval (.BoolOp .And (e₁ :: e₂ :: rest) pos) env) Q E h :=
  fun k => BoolOp_and (wpAny_mono (y k) (fun v s q => wpAny_mono (go q) (fun c s q => by
    obtain ⟨h₂, k₂, rfl, q⟩ := q
    cases c
    · exact up1 q
    · exact q k₂) fun _ _ e => e) fun _ _ e => e)
theorem W_BoolOne {op e pos} {Q : Value → Heap → Prop} (y : WP C A (eval e env) Q E h) : WP C A (eval (.BoolOp op [e] pos) env) Q E h := fun k => BoolOp_one (y k)
/-- x = [comprehension], x a local name -/
theorem W_AssignComp {elt target iter : Expr} {ifs : List Expr} {scope : Scope} {cl : List (Str × Addr)} {pos spos py : Pos} {yn : Str} {Q : Flow → Heap → Prop} {m : Str → Option Value}
    (hclos : closureFor scope env = pure cl)
    (y : WP C A (eval iter env) (fun xv h₁ => h₁.Ns env.locals m ∧ ∃ n P, WalkOf C A xv h₁ n P ∧ n ≤ 900 ∧ ∃ (G₀ : Heap) (J : Nat → List Value → Heap → Prop), Kp G₀ h₁ ∧ G₀.get? env.locals = none ∧ J 0 [] G₀ ∧
      (∀ L i v ys G h₄ m, i < n → P i v → J i ys G → Kp G₀ G → Kp G h₄ → Kp h₁ h₄ → h₁.get? L = none → G.get? L = none → h₄.Ns L m → WP C A (assign target (compEnvC scope cl L env) v) (fun _ h₅ => WP C A (Tests ifs (compEnvC scope cl L env)) (fun ok h₆ =>
        if ok then WP C A (eval elt (compEnvC scope cl L env)) (fun x h₇ => Out L h₄ h₇ ∧ ∃ G', Grow G h₄ G' h₇ ∧ J (i + 1) (ys ++ [x]) G') NoE h₆ else Out L h₄ h₆ ∧ J (i + 1) ys G) NoE h₅) NoE h₄) ∧
      (∀ D ys G h' k, J n ys G → Kp G₀ G → Kp G h' → (∀ b o, G.get? b = some o → G₀.get? b = some o ∨ h₁.get? b = none) → (∀ b o, b ≠ env.locals → h₁.get? b = some o → h'.get? b = some o) → h'.Ns env.locals (upd m yn (.ref D)) → h'.get? D = some (listO ys k) → h₁.get? D = none → G.get? D = none → G.get? env.locals = none → Q .next h')) E h)
    (hsw : swapsWith (.ListComp elt [⟨target, iter, ifs, 0⟩] scope pos) (some (.Name yn py)) spos.line env = pure true := by rfl)
    (hcell : ∀ y ∈ scope.names, y.2 ≠ .cell := by decide) (hkind : scope.kind = .function := by rfl)
    (hnames : ∀ y ∈ scope.names, y.2 = .local → scope.names.lookup y.1 = some .local := by decide)
    (hy : env.kindOf yn = some .local := by rfl) (hp : (env.scope.kind == .class || (env.scope.kind == .module && env.locals != env.globals)) = false := by rfl)
    (hs : ∀ x, foldedSetIterable iter env x = pure x := by intro _; rfl) :
    WP C A (exec (.Assign [.Name yn py] (.ListComp elt [⟨target, iter, ifs, 0⟩] scope pos) spos) env) Q E h := fun k => by
  rw [exec_Assign_Name_used _ _ _ _ hsw]
  refine wpAny_bind (wpAny_standAt (wpAny_bind ?_))
  show wpAny _ A (do let _ ← comprehension (.ListComp elt [⟨target, iter, ifs, 0⟩] scope pos) scope env _ (newList []) false (eval iter env) (some (assign (.Name yn py) env))) _ _ _
  refine wpAny_bind (wpAny_mono (comp_run (use := some (assign (.Name yn py) env)) (Q := fun _ s' => C.up Q .next s') hclos (WP.mono y (fun xv h₁ q => ?_) fun _ _ e => e) hcell hkind hnames rfl hs) (fun _ s' hq => wpAny_pure (wpAny_pure hq)) fun _ _ e => e)
  obtain ⟨nL, n, P, wk, hn, G₀, J, k0, gL0, j0, turn, fin⟩ := q
  refine ⟨n, P, wk, fun I fp wr St h₂ D L h₃ w' kp k12 lt eD eL hD ns => ?_⟩
  have off : ∀ {b : Addr}, h₂.objs.size ≤ b → h₁.get? b = none := fun hb => k12.off (none_of_size hb)
  have oD : h₁.get? D = none := off (eD ▸ Nat.le_refl _)
  have oLc : h₁.get? L = none := off (eL ▸ Nat.le_succ _)
  have dne : D ≠ L := by rw [eD, eL]; exact Nat.ne_of_lt (Nat.lt_succ_self _)
  refine C_compG (R := fun r h' => ∀ k', compPost (model prg C.w) A (C.up E) (some (assign (.Name yn py) env)) (fun _ s' => C.up Q .next s') (.ref D) L r (C.S h' k')) w' k12 lt eD eL hD ns hn k0 J j0
    (fun i v ys G h₄ m a b c d e f => turn L i v ys G h₄ m a b c d e f oLc) fun ys G h' m' kk j kG kGh new k1 eD' _ gD gLc nLc _ _ k' => ?_
  obtain ⟨oL, xL⟩ := ns_there nL
  have LD : env.locals ≠ D := fun z => by rw [z, oD] at xL; cases xL
  have LLc : env.locals ≠ L := fun z => by rw [z, oLc] at xL; cases xL
  have gL : G.get? env.locals = none := by
    cases e : G.get? env.locals with
    | none => rfl
    | some o => rcases new _ o e with z | z
                · rw [gL0] at z; cases z
                · rw [xL] at z; cases z
  show wpAny _ A (assign (.Name yn py) env (.ref D)) _ _ _
  refine wpAny_assign_Name (wpAny_storeName_local (s := C.S h' k') hy (nL.keeps k1) (fun h₅ n₅ s₅ => ?_) hp)
  refine ⟨m', nLc.sameBut s₅ (Ne.symm LLc), fun h₆ s₆ => ⟨h₆, _, rfl, ?_⟩⟩
  have s₆ : Heap.SameBut L h₅ h₆ := s₆
  exact fin D ys G h₆ kk j kG ((kGh.same s₅ gL).same s₆ gLc) new (fun b o hb x => (s₆.2 _ (fun z => by rw [z, oLc] at x; cases x)).trans ((s₅.2 _ hb).trans (k1 b o x))) (n₅.sameBut s₆ LLc) ((s₆.2 _ dne).trans ((s₅.2 _ (Ne.symm LD)).trans eD')) oD gD gL
end
end Mine
namespace Mine
open PySem PySem.W PySem.Calls PySem.Spec PyProof.Rows PySem.SeqAt
/-- the def of law, read out of the program -/
noncomputable def lawStmt : Stmt := (prg.main.body.getLast?).getD (.Pass ⟨0, 0, 0, 0⟩)
noncomputable def bodyOf : Stmt → List Stmt
  | .FunctionDef _ _ b _ _ _ _ _ _ _ => b
  | _ => []
noncomputable def scopeOf : Stmt → Scope
  | .FunctionDef _ _ _ _ _ _ s _ _ _ => s
  | _ => ⟨.function, [], false, false, []⟩
noncomputable def lawBody : List Stmt := bodyOf lawStmt
noncomputable def lawEnv (L fa : Addr) (cd : Value) : Env := envOfC "law" (scopeOf lawStmt) L fa cd
/-- all but the frame, its cell and the table -/
noncomputable def lz (L : Addr) (h : Heap) : Heap := frz h fun b => decide (b ≠ L ∧ b ≠ L + 1 ∧ b ≠ 126)
theorem lz_get {L b : Addr} {h : Heap} (h1 : b ≠ L) (h2 : b ≠ L + 1) (h3 : b ≠ 126) : (lz L h).get? b = h.get? b := frz_get (by simp only [decide_eq_true_eq]; exact ⟨h1, h2, h3⟩)
theorem lz_no {L b : Addr} {h : Heap} (hb : b = L ∨ b = L + 1 ∨ b = 126) : (lz L h).get? b = none := frz_no (by
  simp only [decide_eq_false_iff_not]
  rintro ⟨h1, h2, h3⟩
  rcases hb with z | z | z
  · exact h1 z
  · exact h2 z
  · exact h3 z)
theorem lz_kp {L : Addr} {h : Heap} : Kp (lz L h) h := fun b o e => by
  by_cases c : b = L ∨ b = L + 1 ∨ b = 126
  · rw [lz_no c] at e; cases e
  · rw [lz_get (fun z => c (.inl z)) (fun z => c (.inr (.inl z))) (fun z => c (.inr (.inr z)))] at e
    exact e
theorem lz_of {L : Addr} {G h : Heap} (k : Kp G h) (h1 : G.get? L = none) (h2 : G.get? (L + 1) = none) (h3 : G.get? 126 = none) : Kp G (lz L h) := fun b o e => by
  rw [lz_get (fun z => by rw [z, h1] at e; cases e) (fun z => by rw [z, h2] at e; cases e) (fun z => by rw [z, h3] at e; cases e)]
  exact k b o e
/-- where the law stands: F is frozen, the frame is L, its cell L + 1 -/
structure LS (C : Cx) (F h : Heap) (L : Addr) (m : Str → Option Value) (vc : Option Value) : Prop where
  g : Gd C F
  kp : Kp F h
  ns : h.Ns L m
  cl : h.IsCell (L + 1) vc
  tb : TabSt F h
  fL : F.get? L = none
  fC : F.get? (L + 1) = none
  fT : F.get? 126 = none
  lt : (126 : Nat) < L
section
variable {C : Cx} {F F' h h' : Heap} {L : Addr} {m : Str → Option Value} {vc : Option Value}
theorem tabT {G G' h h' : Heap} (t : TabSt G h) (k : Kp G G') (e : ∀ o, h.get? 126 = some o → h'.get? 126 = some o) : TabSt G' h' := by
  rcases t with t | ⟨c1, c2, t, r1, r2⟩
  · exact .inl (e _ t)
  · exact .inr ⟨c1, c2, e _ t, r1.keeps k, r2.keeps k⟩
theorem LS.nL (s : LS C F h L m vc) : L ≠ L + 1 := fun z => by have : @Eq Nat L (L + 1) := z; omega
theorem LS.n126 (s : LS C F h L m vc) : L ≠ 126 := fun z => by have := s.lt; have z : @Eq Nat L 126 := z; omega
theorem LS.m126 (s : LS C F h L m vc) : L + 1 ≠ 126 := fun z => by have := s.lt; have z : @Eq Nat (L + 1) 126 := z; omega
theorem LS.kT (s : LS C F h L m vc) (gr : Grow F h F' h') (k : KpT h h') (t : TabSt F' h') : LS C F' h' L m vc := by
  obtain ⟨oL, xL⟩ := ns_there s.ns
  obtain ⟨oC, xC, dC⟩ := id s.cl
  obtain ⟨oT, xT⟩ := s.tb.there
  exact ⟨s.g.keeps gr.old, gr.now, s.ns.extBut k s.n126, isCell_t s.cl s.m126 k, t, gr.off s.fL xL, gr.off s.fC xC, gr.off s.fT xT, s.lt⟩
theorem LS.kG (s : LS C F h L m vc) (gr : Grow F h F' h') (k : Kp h h') : LS C F' h' L m vc := s.kT gr k.t (tabT s.tb gr.old fun o => k _ o)
/-- freeze all there is -/
theorem LS.all (s : LS C F h L m vc) : LS C (lz L h) h L m vc :=
  have k := lz_of (L := L) s.kp s.fL s.fC s.fT
  ⟨s.g.keeps k, lz_kp, s.ns, s.cl, tabT s.tb k fun _ e => e, lz_no (.inl rfl), lz_no (.inr (.inl rfl)), lz_no (.inr (.inr rfl)), s.lt⟩
/-- new things only -/
theorem LS.up (s : LS C F h L m vc) (k : Kp h h') : LS C F h' L m vc :=
  ⟨s.g, s.kp.trans k, s.ns.keeps k, cellA s.cl fun o => k _ o, tabT s.tb (Kp.refl _) fun o => k _ o, s.fL, s.fC, s.fT, s.lt⟩
/-- a store of a local -/
theorem LS.set {m' : Str → Option Value} (s : LS C F h L m vc) (n : h'.Ns L m') (e : Heap.SameBut L h h') : LS C F h' L m' vc :=
  ⟨s.g, s.kp.same e s.fL, n, cellA s.cl fun o x => (e.2 _ (Ne.symm s.nL)).trans x, tabT s.tb (Kp.refl _) fun o x => (e.2 _ (Ne.symm s.n126)).trans x, s.fL, s.fC, s.fT, s.lt⟩
/-- a store of the cell -/
theorem LS.setC {v : Value} (s : LS C F h L m vc) (n : h'.IsCell (L + 1) (some v)) (e : Heap.SameBut (L + 1) h h') : LS C F h' L m (some v) :=
  ⟨s.g, s.kp.same e s.fC, s.ns.sameBut e s.nL, n, tabT s.tb (Kp.refl _) fun o x => (e.2 _ (Ne.symm s.m126)).trans x, s.fL, s.fC, s.fT, s.lt⟩
/-- a thing of the heap is frozen -/
theorem LS.at {b : Addr} {o : Obj} (s : LS C F h L m vc) (e : h.get? b = some o) (h1 : ∀ es ep, o.data ≠ .dict es ep) (h2 : ∀ v, o.data ≠ .cell v) (h3 : ∀ ps, o ≠ tabObj ps) : (lz L h).get? b = some o := by
  rw [lz_get ?_ ?_ ?_, e]
  · rintro rfl
    obtain ⟨o', es, ep, x, d, _⟩ := s.ns
    rw [e] at x; cases x; exact h1 _ _ d
  · rintro rfl
    obtain ⟨o', x, d⟩ := s.cl
    rw [e] at x; cases x; exact h2 _ d
  · rintro rfl
    rcases s.tb with x | ⟨c1, c2, x, _⟩ <;> (rw [e] at x; cases x; exact h3 _ rfl)
end
end Mine
namespace Mine
open PySem PySem.W PySem.Calls PySem.Spec PyProof.Rows PySem.SeqAt
theorem intsApp {l l' : List Value} {a b : List Int} (x : IntsAre l a) (y : IntsAre l' b) : IntsAre (l ++ l') (a ++ b) := by
  induction x with
  | nil => exact y
  | cons n t _ ih => exact .cons n t ih
theorem pick6 {items : Array Value} {lo : Option Int} (h : lo = none ∨ lo = some 1) : (slicePick items lo (some 6) (some 2)).size ≤ 6 := by
  unfold slicePick
  rw [List.size_toArray]
  refine Nat.le_trans (List.length_filterMap_le ..) (sliceRange_length_le _ _ _ 6 (fun _ => ?_) fun z => ?_)
  · rcases h with rfl | rfl <;> (constructor <;> (simp [sliceBounds]; try omega))
  · rcases h with rfl | rfl <;> (simp [sliceBounds] at z)
section
variable {C : Cx} {A : Around} {E : Value → Heap → Prop} {F h : Heap} {L fa : Addr} {cd : Value} {m : Str → Option Value} {vc : Option Value}
theorem W_pNone {env : Env} {Q : Value → Heap → Prop} (q : Q .none h) : WP C A (evalPart none env) Q E h := fun k => wpAny_pure (up1 q)
theorem W_pSome {e : Expr} {env : Env} {Q : Value → Heap → Prop} (q : WP C A (eval e env) Q E h) : WP C A (evalPart (some e) env) Q E h := q
/-- first, second -/
theorem law_01 (s : LS C F h L m vc) {sc : Addr} {vs : List Value} {ns : List Int} (hm : m "script" = some (.ref sc)) (hs : F.IsList sc vs.toArray) (hi : IntsAre vs ns) (hlen : ns.length ≤ 63) {Q : Flow → Heap → Prop}
    (q : ∀ h' m' F' l1 l2 v1 v2 n1 n2, LS C F' h' L m' vc → Kp F F' → m' "first" = some (.ref l1) → m' "second" = some (.ref l2) → F'.get? l1 = some (listO v1) → F'.get? l2 = some (listO v2) → IntsAre v1 n1 → IntsAre v2 n2 → n1.length ≤ 40 → n2.length ≤ 40 →
      WP C A (execs (lawBody.drop 2) (lawEnv L fa cd)) Q E h') : WP C A (execs lawBody (lawEnv L fa cd)) Q E h := by
  refine W_cons (W_Assign (W_BinOp (W_List (W_items (W_int fun t0 => W_items (W_int fun t1 => W_items (W_int fun t2 => W_items (W_int fun t3 => W_items0 (W_newList (by simp) ?_)))))))))
  have k1 : Kp h (h.push (listO [.int 0 t0, .int 64 t1, .int 1 t2, .int 3 t3])) := (Kp.refl h).push _
  have e1 : (h.push (listO [.int 0 t0, .int 64 t1, .int 1 t2, .int 3 t3])).get? h.objs.size = some _ := Heap.get?_push_size _ rfl
  generalize h.push (listO [.int 0 t0, .int 64 t1, .int 1 t2, .int 3 t3]) = h₁ at k1 e1 ⊢
  have s1 := s.up k1
  have hsz : vs.toArray.size ≤ 1000 := by rw [List.size_toArray, hi.length]; omega
  refine W_subListStep (W_local s1.ns hm (W_pNone (W_pSome (W_int fun t6 => W_int fun tt2 => ⟨sc, vs.toArray, none, some 6, 2, rfl, hs.at fun o => s1.kp _ o, hsz, .none, .int _ _, .int _ _, by decide, fun h₂ k2 e2 _ => ?_⟩))))
  have s2 := s1.up k2
  obtain ⟨na, ia, la⟩ := pick_ints hi none (some 6) (some 2)
  refine W_addList (k2 _ _ e1) e2 (by have := ia.length; rw [this]; simp; omega) (W_store (s2.ns.push _) fun h₃ n₃ s₃ => ?_)
  have s₃ : Heap.SameBut L _ h₃ := s₃
  have n₃ : h₃.Ns L _ := n₃
  have s3 := ((s2.up ((Kp.refl h₂).push _)).set n₃ s₃).all
  have lL : L < h₂.objs.size := s2.ns.lt
  have f3 := s3.at (b := h₂.objs.size) ((s₃.2 _ (Nat.ne_of_gt lL)).trans (Heap.get?_push_size _ rfl)) (fun _ _ z => by cases z) (fun _ z => by cases z) (fun _ z => by cases z)
  have kF3 : Kp F (lz L h₃) := lz_of (((s2.kp.push _)).same s₃ s.fL) s.fL s.fC s.fT
  have i3 : IntsAre _ ([0, 64, 1, 3] ++ na) := intsApp (.cons 0 t0 (.cons 64 t1 (.cons 1 t2 (.cons 3 t3 .nil)))) ia
  generalize h₂.objs.size = l1 at *
  refine W_cons (W_Assign (W_BinOp (W_List (W_items (W_int fun u0 => W_items (W_int fun u1 => W_items0 (W_newList (by simp) ?_)))))))
  have k4 : Kp h₃ (h₃.push (listO [.int 98 u0, .int 10 u1])) := (Kp.refl h₃).push _
  have e4 : (h₃.push (listO [.int 98 u0, .int 10 u1])).get? h₃.objs.size = some _ := Heap.get?_push_size _ rfl
  generalize h₃.push (listO [.int 98 u0, .int 10 u1]) = h₄ at k4 e4 ⊢
  have s4 := s3.up k4
  refine W_subListStep (W_local s4.ns (upd_ne hm) (W_pSome (W_int fun t1' => W_pSome (W_int fun t6 => W_int fun tt2 => ⟨sc, vs.toArray, some 1, some 6, 2, rfl, hs.at fun o x => s4.kp _ o (kF3 _ o x), hsz, .int _ _, .int _ _, .int _ _, by decide, fun h₅ k5 e5 _ => ?_⟩))))
  have s5 := s4.up k5
  obtain ⟨nb, ib, lb⟩ := pick_ints hi (some 1) (some 6) (some 2)
  refine W_addList (k5 _ _ e4) e5 (by have := ib.length; rw [this]; simp; omega) (W_store (s5.ns.push _) fun h₆ n₆ s₆ => ?_)
  have s₆ : Heap.SameBut L _ h₆ := s₆
  have n₆ : h₆.Ns L _ := n₆
  have s6 := ((s5.up ((Kp.refl h₅).push _)).set n₆ s₆).all
  have lL : L < h₅.objs.size := s5.ns.lt
  have f6 := s6.at (b := h₅.objs.size) ((s₆.2 _ (Nat.ne_of_gt lL)).trans (Heap.get?_push_size _ rfl)) (fun _ _ z => by cases z) (fun _ z => by cases z) (fun _ z => by cases z)
  have kF6 : Kp (lz L h₃) (lz L h₆) := lz_of (((s5.kp.push _)).same s₆ s3.fL) s3.fL s3.fC s3.fT
  have i6 : IntsAre _ ([98, 10] ++ nb) := intsApp (.cons 98 u0 (.cons 10 u1 .nil)) ib
  have la6 : na.length ≤ 6 := by rw [← ia.length, Array.length_toList]; exact pick6 (.inl rfl)
  have lb6 : nb.length ≤ 6 := by rw [← ib.length, Array.length_toList]; exact pick6 (.inr rfl)
  exact q h₆ _ _ l1 _ _ _ _ _ s6 (kF3.trans kF6) (upd_ne upd_eq) upd_eq (kF6 _ _ f3) f6 i3 i6 (by simp; omega) (by simp; omega)
end
end Mine
namespace Mine
open PySem PySem.W PySem.Calls PySem.Spec PyProof.Rows PySem.SeqAt
inductive LstAt (h : Heap) : List Addr → List (List Row2) → Prop
  | nil : LstAt h [] []
  | cons {a as r rs} : ListgAt h a r → LstAt h as rs → LstAt h (a :: as) (r :: rs)
theorem LstAt.keeps {h h' : Heap} {as : List Addr} {rs : List (List Row2)} (x : LstAt h as rs) (k : Kp h h') : LstAt h' as rs := by
  induction x with
  | nil => exact .nil
  | cons a _ ih => exact .cons (a.keeps k) ih
theorem LstAt.snoc {h : Heap} {as : List Addr} {rs : List (List Row2)} {a : Addr} {r : List Row2} (x : LstAt h as rs) (y : ListgAt h a r) : LstAt h (as ++ [a]) (rs ++ [r]) := by
  induction x with
  | nil => exact .cons y .nil
  | cons a _ ih => exact .cons a ih
section
variable {C : Cx} {A : Around} {E : Value → Heap → Prop} {F h : Heap} {L fa : Addr} {cd : Value} {m : Str → Option Value} {vc : Option Value}
theorem law_2 (s : LS C F h L m vc) (r : Rm A 60) {l1 l2 : Addr} {v1 v2 : List Value} {n1 n2 : List Int} (m1 : m "first" = some (.ref l1)) (m2 : m "second" = some (.ref l2)) (f1 : F.get? l1 = some (listO v1)) (f2 : F.get? l2 = some (listO v2)) (i1 : IntsAre v1 n1) (i2 : IntsAre v2 n2) (z1 : n1.length ≤ 70) (z2 : n2.length ≤ 70) {Q : Flow → Heap → Prop}
    (q : ∀ h' F' D as k, LS C F' h' L (upd m "listings" (.ref D)) vc → Kp F F' → F'.get? D = some (listO (as.map .ref) k) → LstAt F' as [rowsL (allow (n1.map ruleOf)), rowsL (allow (n2.map ruleOf)), rowsL (allow (n1.map ruleOf ++ n2.map ruleOf))] →
      WP C A (execs (lawBody.drop 3) (lawEnv L fa cd)) Q E h') : WP C A (execs (lawBody.drop 2) (lawEnv L fa cd)) Q E h := by
  have hh : A.handled = none := r.hd
  have ne1 : l1 ≠ 126 := fun z => by rw [z, s.fT] at f1; cases f1
  have ne2 : l2 ≠ 126 := fun z => by rw [z, s.fT] at f2; cases f2
  refine W_cons (W_AssignComp (m := m) (cl := []) rfl ?_)
  have gh := s.g.keeps s.kp
  refine W_List (W_items (W_Call (W_global gh rfl (W_with (W_items (W_local s.ns m1 (W_items0 ⟨Kept.fn (gh.X 138 _ rfl) rfl, ?_⟩)))))))
  refine entry_W s.g s.fT s.kp s.tb (r.less (by omega)) (isList_of (s.kp _ _ f1)) i1 ne1 (by omega) fun e1 hA FA kA gA tA en1 => ?_
  have sA := s.kT gA kA tA
  have ghA := sA.g.keeps sA.kp
  refine W_items (W_Call (W_global ghA rfl (W_with (W_items (W_local sA.ns m2 (W_items0 ⟨Kept.fn (ghA.X 138 _ rfl) rfl, ?_⟩))))))
  refine entry_W sA.g sA.fT sA.kp sA.tb (r.less (by omega)) (isList_of (sA.kp _ _ (gA.old _ _ f2))) i2 ne2 (by omega) fun e2 hB FB kB gB tB en2 => ?_
  have sB := sA.kT gB kB tB
  have ghB := sB.g.keeps sB.kp
  refine W_items (W_Call (W_global ghB rfl (W_with (W_items (W_Call (W_global ghB rfl (W_with (W_items (W_local sB.ns m1 (W_items0 ⟨Kept.fn (ghB.X 138 _ rfl) rfl, ?_⟩))))))))))
  refine entry_W sB.g sB.fT sB.kp sB.tb (r.less (by omega)) (isList_of (sB.kp _ _ (gB.old _ _ (gA.old _ _ f1)))) i1 ne1 (by omega) fun e3 hC FC kC gC tC en3 => ?_
  have sC := sB.kT gC kC tC
  have ghC := sC.g.keeps sC.kp
  refine W_items (W_Call (W_global ghC rfl (W_with (W_items (W_local sC.ns m2 (W_items0 ⟨Kept.fn (ghC.X 138 _ rfl) rfl, ?_⟩))))))
  refine entry_W sC.g sC.fT sC.kp sC.tb (r.less (by omega)) (isList_of (sC.kp _ _ (gC.old _ _ (gB.old _ _ (gA.old _ _ f2))))) i2 ne2 (by omega) fun e4 hD FD kD gD tD en4 => ?_
  have sD := sC.kT gD kD tD
  have ghD := sD.g.keeps sD.kp
  refine W_items0 ⟨Kept.fn (ghD.X 63 _ rfl) rfl, ?_⟩
  refine merge_W sD.g sD.kp (r.less (by omega)) (en3.keeps gD.old) en4 (by simp; omega) fun e5 hE FE kE gE en5 => ?_
  have sE := sD.kG gE kE
  refine W_items0 (W_newList (by simp) ?_)
  have kH : Kp hE (hE.push (listO [.ref e1, .ref e2, .ref e5])) := (Kp.refl hE).push _
  have eH : (hE.push (listO [.ref e1, .ref e2, .ref e5])).get? hE.objs.size = some _ := Heap.get?_push_size _ rfl
  have sH := sE.up kH
  have enA : EntryAt C FE e1 _ := en1.keeps (gB.old.trans (gC.old.trans (gD.old.trans gE.old)))
  have enB : EntryAt C FE e2 _ := en2.keeps (gC.old.trans (gD.old.trans gE.old))
  generalize hE.push (listO [.ref e1, .ref e2, .ref e5]) = hH at kH eH sH ⊢
  have ens : ∀ i v, [Value.ref e1, .ref e2, .ref e5][i]? = some v → ∃ e rs, v = .ref e ∧ EntryAt C FE e rs ∧ [rowsL (allow (n1.map ruleOf)), rowsL (allow (n2.map ruleOf)), rowsL (allow (n1.map ruleOf ++ n2.map ruleOf))].take (i + 1) = [rowsL (allow (n1.map ruleOf)), rowsL (allow (n2.map ruleOf)), rowsL (allow (n1.map ruleOf ++ n2.map ruleOf))].take i ++ [rowsL (allow rs)] := fun i v e => by
    match i, e with
    | 0, e => cases e; exact ⟨_, _, rfl, enA, rfl⟩
    | 1, e => cases e; exact ⟨_, _, rfl, enB, rfl⟩
    | 2, e => cases e; exact ⟨_, _, rfl, en5, rfl⟩
    | n + 3, e => simp at e
  refine ⟨sH.ns, _, _, walk_list hh (isList_of eH), by simp, FE, fun i ys G => ∃ as, ys = as.map .ref ∧ LstAt G as ([rowsL (allow (n1.map ruleOf)), rowsL (allow (n2.map ruleOf)), rowsL (allow (n1.map ruleOf ++ n2.map ruleOf))].take i), sH.kp, sH.fL, ⟨[], rfl, .nil⟩, ?_, ?_⟩
  · rintro Lc i v ys G h₄ mc hi hv ⟨as, rfl, la⟩ kG kGh k1h lc gLc nLc
    obtain ⟨e, rs, rfl, en, etake⟩ := ens i v hv
    refine W_aName (W_store nLc fun h₅ n₅ s₅ => W_tests0 ?_)
    have n₅ : h₅.Ns Lc _ := n₅
    have s₅ : Heap.SameBut Lc h₄ h₅ := s₅
    have kG5 : Kp G h₅ := kGh.same s₅ gLc
    have g5 := sE.g.keeps (kG.trans kG5)
    refine W_Call (W_global g5 rfl (W_with (W_items (W_local n₅ upd_eq (W_items0 ⟨Kept.fn (g5.X 143 _ rfl) rfl, ?_⟩)))))
    refine listing_W (sE.g.keeps kG) kG5 (r.less (by omega)) (en.keeps kG) fun a h₆ G' k6 g6 lg => ⟨⟨fun b o hb x => k6 _ _ ((s₅.2 _ hb).trans x), _, n₅.keeps k6⟩, G', ⟨g6.old, g6.now, fun b o x => ?_⟩, as ++ [a], by simp, ?_⟩
    · rcases g6.new b o x with z | z
      · exact .inl z
      · by_cases hb : b = Lc
        · subst hb; obtain ⟨o5, x5⟩ := ns_there n₅; rw [x5] at z; cases z
        · exact .inr ((s₅.2 b hb).symm.trans z)
    · rw [etake]; exact (la.keeps g6.old).snoc lg
  · rintro D ys G h' k ⟨as, rfl, la⟩ kG kGh new kO nL' eD oD gDd gL
    have kO : ∀ b o, b ≠ L → hH.get? b = some o → h'.get? b = some o := kO
    have sX : LS C FE h' L (upd m "listings" (.ref D)) vc := ⟨sE.g, kG.trans kGh, nL', cellA sH.cl fun o => kO _ o (Ne.symm sH.nL), tabT sH.tb (Kp.refl _) fun o => kO _ o (Ne.symm sH.n126), sH.fL, sH.fC, sH.fT, sH.lt⟩
    obtain ⟨oC, xC, _⟩ := id sH.cl
    obtain ⟨oT, xT⟩ := sH.tb.there
    have gOff : ∀ {b o}, hH.get? b = some o → FE.get? b = none → G.get? b = none := fun {b o} x y => by
      cases e : G.get? b with
      | none => rfl
      | some o' => rcases new b o' e with z | z
                   · rw [y] at z; cases z
                   · rw [x] at z; cases z
    have kl : Kp G (lz L h') := lz_of kGh gL (gOff xC sH.fC) (gOff xT sH.fT)
    exact q h' (lz L h') D as k sX.all ((gA.old.trans (gB.old.trans (gC.old.trans (gD.old.trans gE.old)))).trans (kG.trans kl)) (sX.at eD (fun _ _ z => by cases z) (fun _ z => by cases z) (fun _ z => by cases z)) (la.keeps kl)
end
end Mine
namespace Mine
open PySem PySem.W PySem.Calls PySem.Spec PyProof.Rows PySem.SeqAt
theorem ints_at {l : List Value} {ns : List Int} (x : IntsAre l ns) : ∀ (i : Nat) (v : Value), l[i]? = some v → ∃ n t, v = Value.int n t ∧ ns[i]? = some n := by
  induction x with
  | nil => intro i v h; cases h
  | cons n t _ ih =>
    intro i v h
    cases i with
    | zero => cases h; exact ⟨n, t, rfl, rfl⟩
    | succ i => exact ih i v h
theorem take_snoc {α : Type} {l : List α} {i : Nat} {x : α} (h : l[i]? = some x) : l.take (i + 1) = l.take i ++ [x] := by
  rw [List.take_add_one, h]; rfl
section
variable {C : Cx} {A : Around} {E : Value → Heap → Prop} {F h : Heap} {L fa : Addr} {cd : Value} {m : Str → Option Value} {vc : Option Value}
theorem law_3 (s : LS C F h L m vc) (r : Rm A 60) {l1 l2 : Addr} {v1 v2 : List Value} {n1 n2 : List Int} (m1 : m "first" = some (.ref l1)) (m2 : m "second" = some (.ref l2)) (f1 : F.get? l1 = some (listO v1)) (f2 : F.get? l2 = some (listO v2)) (i1 : IntsAre v1 n1) (i2 : IntsAre v2 n2) (z1 : n1.length ≤ 48) (z2 : n2.length ≤ 48) {Q : Flow → Heap → Prop}
    (q : ∀ h' F' D as k, LS C F' h' L m (some (.ref D)) → Kp F F' → F'.get? D = some (listO (as.map .ref) k) → LstAt F' as [rowsD (n1.map ruleOf), rowsD (n2.map ruleOf), rowsD (n1.map ruleOf ++ n2.map ruleOf)] →
      WP C A (execs (lawBody.drop 4) (lawEnv L fa cd)) Q E h') : WP C A (execs (lawBody.drop 3) (lawEnv L fa cd)) Q E h := by
  have hh : A.handled = none := r.hd
  refine W_cons (W_Assign (W_comp (cl := []) rfl ?_))
  refine W_List (W_items (W_local s.ns m1 (W_items (W_local s.ns m2 (W_items (W_BinOp (W_local s.ns m1 (W_local s.ns m2 (W_addList (s.kp _ _ f1) (s.kp _ _ f2) (by rw [i1.length, i2.length]; omega) (W_items0 (W_newList (by simp) ?_)))))))))))
  have kH : Kp h ((h.push (listO (v1 ++ v2))).push (listO [.ref l1, .ref l2, .ref h.objs.size])) := ((Kp.refl h).push _).push _
  have e3 : ((h.push (listO (v1 ++ v2))).push (listO [.ref l1, .ref l2, .ref h.objs.size])).get? h.objs.size = some (listO (v1 ++ v2)) := Heap.get?_push_of_some _ (Heap.get?_push_size _ rfl)
  have eH : ((h.push (listO (v1 ++ v2))).push (listO [.ref l1, .ref l2, .ref h.objs.size])).get? (h.push (listO (v1 ++ v2))).objs.size = some _ := Heap.get?_push_size _ rfl
  generalize (h.push (listO (v1 ++ v2))).push (listO [.ref l1, .ref l2, .ref h.objs.size]) = hH at kH e3 eH ⊢
  generalize (h.push (listO (v1 ++ v2))).objs.size = lH at eH ⊢
  have sH := (s.up kH).all
  have kF : Kp F (lz L hH) := lz_of (s.kp.trans kH) s.fL s.fC s.fT
  have f3 := sH.at e3 (fun _ _ z => by cases z) (fun _ z => by cases z) (fun _ z => by cases z)
  have i3 := intsApp i1 i2
  have lsts : ∀ i v, [Value.ref l1, .ref l2, .ref h.objs.size][i]? = some v → ∃ l vs ns, v = .ref l ∧ (lz L hH).get? l = some (listO vs) ∧ IntsAre vs ns ∧ ns.length ≤ 100 ∧ [rowsD (n1.map ruleOf), rowsD (n2.map ruleOf), rowsD (n1.map ruleOf ++ n2.map ruleOf)].take (i + 1) = [rowsD (n1.map ruleOf), rowsD (n2.map ruleOf), rowsD (n1.map ruleOf ++ n2.map ruleOf)].take i ++ [rowsD (ns.map ruleOf)] := fun i v e => by
    match i, e with
    | 0, e => cases e; exact ⟨_, _, _, rfl, kF _ _ f1, i1, by omega, rfl⟩
    | 1, e => cases e; exact ⟨_, _, _, rfl, kF _ _ f2, i2, by omega, rfl⟩
    | 2, e => cases e; exact ⟨_, _, _, rfl, f3, i3, by simp; omega, by rw [List.map_append]; rfl⟩
    | n + 3, e => simp at e
  generalize h.objs.size = l3 at *
  refine ⟨_, _, walk_list hh (isList_of eH), by simp, lz L hH, fun i ys G => ∃ as, ys = as.map .ref ∧ LstAt G as ([rowsD (n1.map ruleOf), rowsD (n2.map ruleOf), rowsD (n1.map ruleOf ++ n2.map ruleOf)].take i), sH.kp, ⟨[], rfl, .nil⟩, ?_, ?_⟩
  · rintro Lc i v ys G h₄ mc hi hv ⟨as, rfl, la⟩ kG kGh k1h lc gLc nLc
    obtain ⟨l, vs, ns, rfl, fl, il, zl, etake⟩ := lsts i v hv
    refine W_aName (W_store nLc fun h₅ n₅ s₅ => W_tests0 ?_)
    have n₅ : h₅.Ns Lc _ := n₅
    have s₅ : Heap.SameBut Lc h₄ h₅ := s₅
    have kG5 : Kp G h₅ := kGh.same s₅ gLc
    have gG := sH.g.keeps kG
    have g5 := gG.keeps kG5
    obtain ⟨oLc5, xLc5⟩ := ns_there n₅
    have new5 : ∀ {b}, h₅.get? b = none → h₄.get? b = none := fun {b} z => by
      by_cases hb : b = Lc
      · subst hb; rw [xLc5] at z; cases z
      · exact (s₅.2 b hb).symm.trans z
    refine W_Call (W_global g5 rfl (W_with (W_items (W_comp (cl := []) rfl (W_local n₅ upd_eq ⟨_, _, walk_list hh (isList_of (kG5 _ _ (kG _ _ fl))), by rw [il.length]; omega, G, fun j ys G' => ∃ bs, ys = bs.map .ref ∧ RulAt G' bs ((ns.map ruleOf).take j), kG5, ⟨[], rfl, .nil⟩, ?_, ?_⟩)))))
    · rintro Ln j v zs G' h₆ mn hj hv ⟨bs, rfl, ra⟩ kG' kGh' k1h' ln gLn nLn
      obtain ⟨n, t, rfl, hn⟩ := ints_at il j v hv
      refine W_aName (W_store nLn fun h₇ n₇ s₇ => W_tests0 ?_)
      have n₇ : h₇.Ns Ln _ := n₇
      have s₇ : Heap.SameBut Ln h₆ h₇ := s₇
      have kG7 : Kp G' h₇ := kGh'.same s₇ gLn
      have gG' := gG.keeps kG'
      have g7 := gG'.keeps kG7
      refine W_Call (W_global g7 rfl (W_with (W_items (W_local n₇ upd_eq (W_items0 ⟨Kept.fn (g7.X 124 _ rfl) rfl, ?_⟩)))))
      refine rule_W gG' kG7 (by have := r.lim; omega) fun a h₈ t' k8 e8 a8 => ⟨⟨fun b o hb x => k8 _ _ ((s₇.2 _ hb).trans x), _, n₇.keeps k8⟩, grow G' h₆ h₈, grow_is (kG7.trans k8), bs ++ [a], by simp, ?_⟩
      have ht : (ns.map ruleOf)[j]? = some (ruleOf n) := by rw [List.getElem?_map, hn]; rfl
      rw [take_snoc ht]
      exact (ra.keeps (grow_is (kG7.trans k8)).old).snoc (r := ruleOf n) (grow_new e8 (none_of_size (by rw [← s₇.1]; exact a8)))
    · rintro D zs G' h₆ k ⟨bs, rfl, ra⟩ gr' kh' eD oD gDn
      rw [List.take_of_length_le (by rw [List.length_map, ← il.length]; exact Nat.le_refl _)] at ra
      have gx : Grow G h₅ (grow G h₅ h₆) h₆ := grow_is (kG5.trans kh')
      have kx : Kp G' (grow G h₅ h₆) := grow_into gr'.now gr'.new
      have g6 := gG.keeps (kG5.trans kh')
      refine W_items0 ⟨Kept.fn (g6.X 148 _ rfl) rfl, ?_⟩
      refine due_W (gG.keeps gx.old) gx.now (r.less (by omega)) ⟨bs, k, grow_new eD oD, ra.keeps kx⟩ (by simpa using zl) (fun r hr => ?_) fun a h₉ G9 k9 g9 lg => ⟨⟨fun b o hb x => k9 _ _ (kh' _ _ ((s₅.2 _ hb).trans x)), _, (n₅.keeps kh').keeps k9⟩, G9, ⟨gx.old.trans g9.old, g9.now, fun b o x => ?_⟩, as ++ [a], by simp, ?_⟩
      · obtain ⟨n, _, rfl⟩ := List.mem_map.mp hr
        exact Nat.le_trans (front_len n) (by omega)
      · rcases g9.new b o x with z | z
        · rcases gx.new b o z with z | z
          · exact .inl z
          · exact .inr (new5 z)
        · exact .inr (new5 (kh'.off z))
      · rw [etake]; exact (la.keeps (gx.old.trans g9.old)).snoc lg
  · rintro D ys G h' k ⟨as, rfl, la⟩ gr kh eD oD gDn
    refine W_storeC rfl (cellA sH.cl fun o => kh _ o) fun h₂ c₂ s₂ => ?_
    have s₂ : Heap.SameBut (L + 1) h' h₂ := s₂
    have sX := (sH.kG gr kh).setC c₂ s₂
    have kl : Kp G (lz L h₂) := lz_of sX.kp sX.fL sX.fC sX.fT
    have Dn : D ≠ L + 1 := fun z => by
      obtain ⟨o, x, _⟩ := sH.cl
      rw [z, x] at oD; cases oD
    exact q h₂ (lz L h₂) D as k sX.all (kF.trans (gr.old.trans kl)) (sX.at ((s₂.2 _ Dn).trans eD) (fun _ _ z => by cases z) (fun _ z => by cases z) (fun _ z => by cases z)) (la.keeps kl)
end
end Mine
namespace Mine
open PySem PySem.W PySem.Calls PySem.Spec PyProof.Rows PySem.SeqAt
theorem tups_cells {G : Heap} {as : List Addr} {rs : List Row2} (x : TupsAt G as rs) : ∃ cs : List Cell2, refsOf cs = as.map .ref ∧ cs.map (·.2) = rs ∧ ∀ c ∈ cs, RowIs G c := by
  induction x with
  | nil => exact ⟨[], rfl, rfl, by simp⟩
  | @cons a as s p t t' rs e _ ih =>
    obtain ⟨cs, h1, h2, h3⟩ := ih
    refine ⟨(a, (s, p)) :: cs, ?_, ?_, ?_⟩
    · show Value.ref a :: refsOf cs = _; rw [h1]; rfl
    · show (s, p) :: cs.map (·.2) = _; rw [h2]
    · intro c hc
      rcases List.mem_cons.mp hc with rfl | hc
      · exact ⟨t, t', e⟩
      · exact h3 c hc
theorem listg_cells {G : Heap} {a : Addr} {rs : List Row2} (x : ListgAt G a rs) : ∃ cs n, G.get? a = some (listO (refsOf cs) n) ∧ cs.map (·.2) = rs ∧ ∀ c ∈ cs, RowIs G c := by
  obtain ⟨as, n, e, t⟩ := x
  obtain ⟨cs, h1, h2, h3⟩ := tups_cells t
  exact ⟨cs, n, by rw [h1]; exact e, h2, h3⟩
theorem diffL_mem : ∀ (xs m a : List Cell2) (P : Cell2 → Prop), (∀ c ∈ xs, P c) → (∀ c ∈ m, P c) → (∀ c ∈ a, P c) → (∀ c ∈ (diffL xs m a).1, P c) ∧ ∀ c ∈ (diffL xs m a).2, P c
  | [], m, a, P, h1, h2, h3 => ⟨h2, h3⟩
  | x :: xs, m, a, P, h1, h2, h3 => by
    rw [diffL_cons]
    cases hr : rem1 x.2 a with
    | some a' =>
      obtain ⟨p, y, r, rfl, rfl, _, _⟩ := rem1_some hr
      exact diffL_mem xs m _ P (fun c hc => h1 c (.tail _ hc)) h2 fun c hc => h3 c (by simp at hc ⊢; rcases hc with hc | hc <;> simp [hc])
    | none =>
      refine diffL_mem xs _ a P (fun c hc => h1 c (.tail _ hc)) (fun c hc => ?_) h3
      rcases List.mem_append.mp hc with hc | hc
      · exact h2 c hc
      · rw [List.mem_singleton.mp hc]; exact h1 x (.head _)
section
variable {C : Cx} {A : Around} {E : Value → Heap → Prop} {F h : Heap} {L fa : Addr} {cd : Value} {m : Str → Option Value} {vc : Option Value} {env : Env}
theorem W_subListAll {value : Expr} {p pos : Pos} {Q : Value → Heap → Prop}
    (y : WP C A (eval value env) (fun o h₄ => ∃ l vs, o = .ref l ∧ h₄.IsList l (List.toArray vs) ∧ vs.length ≤ 1000 ∧
      ∀ h', Kp h₄ h' → h'.get? (h₄.objs.size + 1) = some (listO vs) → h₄.get? (h₄.objs.size + 1) = none → Q (.ref (h₄.objs.size + 1)) h') E h) :
    WP C A (eval (.Subscript value (.Slice none none none p) pos) env) Q E h := by
  refine W_Sub (y.post fun o h₁ q => WP.of fun k => wpAny_Slice (wpAny_pure (wpAny_pure (wpAny_pure ?_))))
  obtain ⟨l, vs, rfl, hl, hz, q⟩ := q
  refine ⟨_, k, rfl, fun k₅ => ?_⟩
  have hl' := hl.push { cls := .type "slice", data := .fields #[.none, .none, .none] }
  refine tail_any (Heap.IsList.typeIs (s := C.S _ k₅) hl') slot_list_getitem.lookup (wpAny_getItem_list_slice (s := C.S _ k₅) hl' (Heap.IsSliceOf.new ..) .none .none .none (by simp) ⟨_, k₅, rfl, ?_⟩ (by rw [List.size_toArray, sizeLine_eq]; omega)) rfl
  have sz : (h₁.push { cls := .type "slice", data := .fields #[.none, .none, .none] }).objs.size = h₁.objs.size + 1 := Heap.size_push _ _
  show Q (.ref (h₁.push _).objs.size) _
  rw [sz]
  refine q _ (((Kp.refl h₁).push _).push _) ?_ (none_of_size (Nat.le_succ _))
  rw [← sz]
  rw [slicePick_all]
  exact Heap.get?_push_size _ rfl
theorem law_4 (s : LS C F h L m vc) (r : Rm A 60) (hfr : A.frames = some [lawEnv L fa cd]) {D : Addr} {as : List Addr} {k : Nat} {R0 R1 R2 : List Row2} (ml : m "listings" = some (.ref D)) (fD : F.get? D = some (listO (as.map .ref) k)) (la : LstAt F as [R0, R1, R2]) (z0 : R0.length ≤ 3) (z2 : R2.length ≤ 3) {Q : Flow → Heap → Prop}
    (q : ∀ h' F' lm lb (cs0 cs2 : List Cell2) n1 n2, LS C F' h' L (upd (upd m "gone" (.ref lm)) "new" (.ref lb)) vc → Kp F F' → cs0.map (·.2) = R0 → cs2.map (·.2) = R2 → F'.get? lm = some (listO (refsOf (diffL cs0.reverse [] cs2).1) n1) → F'.get? lb = some (listO (refsOf (diffL cs0.reverse [] cs2).2) n2) →
      (∀ c ∈ (diffL cs0.reverse [] cs2).1, RowIs F' c) → (∀ c ∈ (diffL cs0.reverse [] cs2).2, RowIs F' c) →
      WP C A (execs (lawBody.drop 5) (lawEnv L fa cd)) Q E h') : WP C A (execs (lawBody.drop 4) (lawEnv L fa cd)) Q E h := by
  have hh : A.handled = none := r.hd
  obtain ⟨a0, a1, a2, rfl, lg0, lg2⟩ : ∃ a0 a1 a2, as = [a0, a1, a2] ∧ ListgAt F a0 R0 ∧ ListgAt F a2 R2 := by
    cases la with
    | cons x la => cases la with
      | cons y la => cases la with
        | cons z la => cases la; exact ⟨_, _, _, rfl, x, z⟩
  obtain ⟨cs0, k0, e0, rfl, w0⟩ := listg_cells lg0
  obtain ⟨cs2, k2, e2, rfl, w2⟩ := listg_cells lg2
  simp only [List.length_map] at z0 z2
  have gh := s.g.keeps s.kp
  refine W_cons (W_AssignT (W_Call (W_global gh rfl (W_with (W_items (W_subListAll (W_Sub (W_local s.ns ml (W_int fun t0 => W_subList (v := .ref a0) (isList_of (s.kp _ _ fD)) (by omega) (by omega) rfl ⟨a0, refsOf cs0, rfl, isList_of (s.kp _ _ e0), by simp [refsOf]; omega, fun h₁ k₁ x₁ o₁ => ?_⟩)))))))))
  have s1 := s.up k₁
  generalize h.objs.size + 1 = la at x₁ o₁ ⊢
  refine W_items (W_subListAll (W_Sub (W_local s1.ns ml (W_int fun t0 => W_subList (v := .ref a2) (isList_of (s1.kp _ _ fD)) (by omega) (by omega) rfl ⟨a2, refsOf cs2, rfl, isList_of (s1.kp _ _ e2), by simp [refsOf]; omega, fun h₂ k₂ x₂ o₂ => ?_⟩))))
  have s2 := s1.up k₂
  have y1 := k₂ _ _ x₁
  have hab : la ≠ h₁.objs.size + 1 := fun z => by rw [z, o₂] at x₁; cases x₁
  generalize h₁.objs.size + 1 = lb at x₂ o₂ hab ⊢
  have gh2 := s2.g.keeps s2.kp
  refine W_items0 ⟨Kept.fn (gh2.X 117 _ rfl) rfl, ?_⟩
  refine diff_W (lenv := lawEnv L fa cd) (L₀ := L) (xs := cs0.reverse) (bs := cs2) s2.g s2.kp (r.less (by omega)) hfr rfl (show ScopeKind.function ≠ ScopeKind.module by decide) s2.ns s2.fL (by rw [List.reverse_reverse]; exact y1) x₂ (s.kp.off o₁) (s1.kp.off o₂) hab (fun c hc => w0 c (by simpa using hc)) w2 (by simp; omega) (by omega) fun t lm n1 n2 h₃ kG keep nL et em eb ot om => ?_
  have nL : h₃.Ns L m := nL
  obtain ⟨oC, xC, dC⟩ := id s2.cl
  obtain ⟨oT, xT⟩ := s2.tb.there
  have dNe : ∀ {l : Addr} {vs : List Value} {n : Nat} {b : Addr} {o : Obj}, h₂.get? l = some (listO vs n) → h₂.get? b = some o → o.data ≠ .seq vs.toArray n → b ≠ l := fun x y z w => by rw [w, x] at y; cases y; exact z rfl
  have cNe : ∀ {l : Addr} {vs : List Value} {n : Nat}, h₂.get? l = some (listO vs n) → L + 1 ≠ l := fun x z => by
    rw [← z, xC] at x; cases x; cases dC
  have tNe : ∀ {l : Addr} {vs : List Value} {n : Nat}, h₂.get? l = some (listO vs n) → (126 : Addr) ≠ l := fun x z => by
    rw [← z] at x
    rcases s2.tb with y | ⟨_, _, y, _⟩ <;> (rw [x] at y; cases y)
  have s3 : LS C F h₃ L m vc := ⟨s2.g, kG, nL, cellA s2.cl fun o => keep _ o (cNe y1) (cNe x₂) (Ne.symm s2.nL), tabT s2.tb (Kp.refl _) fun o => keep _ o (tNe y1) (tNe x₂) (Ne.symm s2.n126), s2.fL, s2.fC, s2.fT, s2.lt⟩
  refine W_aPair hh et fun h₄ k₄ => ?_
  have k₄ : Kp h₃ h₄ := fun b o x => k₄ b o (Nat.ne_of_lt (Heap.lt_size x)) x
  have s4 := s3.up k₄
  refine W_store s4.ns fun h₅ n₅ s₅ => W_store n₅ fun h₆ n₆ s₆ => ?_
  have s₅ : Heap.SameBut L h₄ h₅ := s₅
  have s₆ : Heap.SameBut L h₅ h₆ := s₆
  have n₆ : h₆.Ns L _ := n₆
  have s6 := (s4.set n₅ s₅).set n₆ s₆
  have lNe : ∀ {l : Addr} {vs : List Value} {n : Nat}, h₃.get? l = some (listO vs n) → l ≠ L := fun x z => by
    obtain ⟨o', es, ep, x', d', _⟩ := nL
    rw [z, x'] at x; cases x; cases d'
  have up : ∀ {l : Addr} {vs : List Value} {n : Nat}, h₃.get? l = some (listO vs n) → (lz L h₆).get? l = some (listO vs n) := fun x => s6.at ((s₆.2 _ (lNe x)).trans ((s₅.2 _ (lNe x)).trans (k₄ _ _ x))) (fun _ _ z => by cases z) (fun _ z => by cases z) (fun _ z => by cases z)
  have kl : Kp F (lz L h₆) := lz_of s6.kp s6.fL s6.fC s6.fT
  have mem := diffL_mem cs0.reverse [] cs2 (RowIs F) (fun c hc => w0 c (by simpa using hc)) (by simp) w2
  have rk : ∀ {c}, RowIs F c → RowIs (lz L h₆) c := fun ⟨t, t', e⟩ => ⟨t, t', kl _ _ e⟩
  exact q h₆ (lz L h₆) lm lb cs0 cs2 n1 n2 s6.all kl rfl rfl (up em) (up eb) (fun c hc => rk (mem.1 c hc)) fun c hc => rk (mem.2 c hc)
end
end Mine
namespace Mine
open PySem PySem.W PySem.Calls PySem.Spec PyProof.Rows PySem.SeqAt
noncomputable def krun {α : Type} (ans : Nat → Nat → Bool) : KasT α → α
  | .ret a => a
  | .ask i j k => krun ans (k (ans i j))
noncomputable def kin (n : Nat) : KasT (Array Nat) → Bool
  | .ret a => a.toList.all (· < n)
  | .ask i j k => decide (i < n) && decide (j < n) && kin n (k true) && kin n (k false)
theorem krun_wp {cmp : Nat → Nat → (Bool → Shared → Prop) → Shared → Prop} {ans : Nat → Nat → Bool} {n : Nat} {P : Shared → Prop} {Q : Array Nat → Shared → Prop}
    (hc : ∀ i j D s, P s → i < n → j < n → (∀ s', P s' → D (ans i j) s') → cmp i j D s) : ∀ (t : KasT (Array Nat)) (s : Shared), kin n t = true → P s → (∀ s', P s' → Q (krun ans t) s') → t.kasWp cmp Q s
  | .ret a, s, _, p, q => q s p
  | .ask i j k, s, h, p, q => by
    simp only [kin, Bool.and_eq_true, decide_eq_true_eq] at h
    refine hc i j _ s p h.1.1.1 h.1.1.2 fun s' p' => ?_
    refine krun_wp hc (k (ans i j)) s' ?_ p' q
    cases ans i j
    · exact h.2
    · exact h.1.2
theorem krun_in {ans : Nat → Nat → Bool} {n : Nat} : ∀ (t : KasT (Array Nat)), kin n t = true → ∀ i ∈ (krun ans t).toList, i < n
  | .ret a, h, i, hi => by
    simp only [kin, List.all_eq_true, decide_eq_true_eq] at h
    exact h i hi
  | .ask i j k, h, x, hx => by
    simp only [kin, Bool.and_eq_true, decide_eq_true_eq] at h
    refine krun_in (k (ans i j)) ?_ x hx
    cases ans i j
    · exact h.2
    · exact h.1.2
theorem kin_sort : ∀ n, 2 ≤ n → n ≤ 3 → kin n (kas_sort n) = true := by
  intro n h1 h2
  have : n = 2 ∨ n = 3 := by omega
  rcases this with rfl | rfl <;> decide +kernel
noncomputable def lexLt (a b : Str) : Bool := decide (a.cps.toList < b.cps.toList)
noncomputable def rowLt (x y : Row2) : Bool := if x.1 = y.1 then (if x.2 = y.2 then false else lexLt x.2 y.2) else lexLt x.1 y.1
noncomputable def c0 : Cell2 := (0, ("", ""))
noncomputable def sortC (cs : List Cell2) : List Cell2 := if cs.length < 2 then cs else (krun (fun i j => rowLt (cs.getD i c0).2 (cs.getD j c0).2) (kas_sort cs.length)).toList.map fun i => cs.getD i c0
noncomputable def newsOf (L : Addr) (h : Heap) : List (Addr × Obj) := (List.range h.objs.size).filterMap fun b => if b = L then none else (h.get? b).map fun o => (b, o)
theorem newsOf_mem {L : Addr} {h : Heap} {p : Addr × Obj} : p ∈ newsOf L h ↔ h.get? p.1 = some p.2 ∧ p.1 ≠ L := by
  unfold newsOf
  rw [List.mem_filterMap]
  constructor
  · rintro ⟨b, _, e⟩
    by_cases hb : b = L
    · rw [if_pos hb] at e; cases e
    · rw [if_neg hb] at e
      cases x : h.get? b with
      | none => rw [x] at e; cases e
      | some o => rw [x] at e; cases e; exact ⟨x, hb⟩
  · rintro ⟨e, n⟩
    refine ⟨p.1, List.mem_range.mpr (Heap.lt_size e), ?_⟩
    rw [if_neg n, e]; rfl
theorem refs_getD {cs : List Cell2} {i : Nat} (h : i < cs.length) : (refsOf cs).getD i Value.none = .ref (cs.getD i c0).1 := by
  have h' : i < (refsOf cs).length := by simpa [refsOf] using h
  rw [List.getD_eq_getElem?_getD, List.getD_eq_getElem?_getD, List.getElem?_eq_getElem h', List.getElem?_eq_getElem h]
  simp [refsOf]
theorem cells_at {G : Heap} {cs : List Cell2} (hc : ∀ c ∈ cs, RowIs G c) {i : Nat} (h : i < cs.length) : RowIs G (cs.getD i c0) := by
  rw [List.getD_eq_getElem?_getD, List.getElem?_eq_getElem h]
  exact hc _ (List.getElem_mem h)
theorem kat_cells {G h : Heap} (kp : Kp G h) : ∀ {cs : List Cell2}, (∀ c ∈ cs, RowIs G c) → ∃ fs, KatTups h (refsOf cs) fs ∧ fs.length = cs.length ∧ ∀ v ∈ fs, ∃ s t, v = Value.str s t
  | [], _ => ⟨[], .nil, rfl, by simp⟩
  | c :: cs, hc => by
    obtain ⟨fs, h1, h2, h3⟩ := kat_cells kp fun d hd => hc d (.tail _ hd)
    obtain ⟨t, t', e⟩ := hc c (.head _)
    exact ⟨.str c.2.1 t :: fs, KatTups.cons (kp _ _ e) rfl rfl rfl h1, by simp [h2], fun v hv => by
      rcases List.mem_cons.mp hv with rfl | hv
      · exact ⟨_, _, rfl⟩
      · exact h3 v hv⟩
section
variable {C : Cx} {A : Around} {E : Value → Heap → Prop} {G h : Heap} {L : Addr} {m : Str → Option Value}
theorem lt_cells {w : World} {s : Shared} {Q : Bool → Shared → Prop} {E : Value → Shared → Prop} (kp : Kp G s.heap) {x y : Cell2} (hx : RowIs G x) (hy : RowIs G y) (q : Q (rowLt x.2 y.2) s) : wpAny (model prg w) A (keyLt' (tuples' true) (.ref x.1) (.ref y.1)) Q E s := by
  obtain ⟨xa, xs, xp⟩ := x
  obtain ⟨ya, ys, yp⟩ := y
  obtain ⟨t1, t2, e1⟩ := hx
  obtain ⟨t3, t4, e2⟩ := hy
  dsimp only at e1 e2 q ⊢
  refine kat_lt (kp _ _ e1) rfl (kp _ _ e2) rfl ?_
  show KatLex _ _ _ _ _ _ [(.str xs t1, .str ys t3), (.str xp t2, .str yp t4)] 0 s
  unfold rowLt at q
  dsimp only at q
  refine kat_cons (wpAny_eqBool_str ?_)
  by_cases h1 : xs = ys
  · rw [if_pos h1] at q
    rw [decide_eq_true h1]
    refine kat_yes (kat_cons (wpAny_eqBool_str ?_))
    by_cases h2 : xp = yp
    · rw [if_pos h2] at q
      rw [decide_eq_true h2]
      exact kat_yes (kat_nil q)
    · rw [if_neg h2] at q
      rw [decide_eq_false h2]
      exact kat_no (kat_one _ _ (PyProof.Rows.lt_str q))
  · rw [if_neg h1] at q
    rw [decide_eq_false h1]
    exact kat_no (oneLt_str q)
theorem W_sorted2 (kp : Kp G h) (nL : h.Ns L m) (gL : G.get? L = none) {l : Addr} {n : Nat} {cs : List Cell2} (hl : h.get? l = some (listO (refsOf cs) n)) (hc : ∀ c ∈ cs, RowIs G c) (h2 : 2 ≤ cs.length) (h3 : cs.length ≤ 3) {Q : Value → Heap → Prop}
    (q : ∀ D h' n', (∀ b o, b ≠ L → h.get? b = some o → h'.get? b = some o) → h'.Ns L m → h'.get? D = some (listO (refsOf (sortC cs)) n') → h.get? D = none → Q (.ref D) h') : WP C A (call (.builtin "sorted") [.ref l]) Q E h := fun k => by
  have zl : (refsOf cs).length = cs.length := by simp [refsOf]
  have F0 : Fr { h with objs := #[] } L h m := ⟨nL, fun b o e => (by cases e), Nat.zero_le _⟩
  have N0 : News { h with objs := #[] } L h (newsOf L h) := fun p hp => ⟨(newsOf_mem.mp hp).1, (newsOf_mem.mp hp).2, rfl⟩
  refine kat_sorted (s := C.S h k) F0 N0 (isList_of hl) (by omega) (by omega) fun D e1 h' F' N' lt => ?_
  have up : ∀ b o, b ≠ L → h.get? b = some o → h'.get? b = some o := fun b o hb e => (N' (b, o) (.tail _ (newsOf_mem.mpr ⟨e, hb⟩))).1
  have kG' : Kp G h' := fun b o e => up b o (fun z => by rw [z, gL] at e; cases e) (kp b o e)
  have oD : h.get? D = none := by
    cases e : h.get? D with
    | none => rfl
    | some o => exact absurd (lt (D, o) (newsOf_mem.mpr ⟨e, (N' _ (.head _)).2.1⟩)) (Nat.lt_irrefl _)
  obtain ⟨fs, k1, k2, k3⟩ := kat_cells kG' hc
  refine kat_kind (T := .type "str") k1 (by omega) (fun v hv => ?_) rfl ?_
  · obtain ⟨s, t, rfl⟩ := k3 v hv
    exact Looks.of_pure rfl
  show (kas_sort (refsOf cs).length).kasWp (kas_ask prg C.w A.in1.in1 (tuples' true) (refsOf cs)) _ _
  rw [zl]
  refine krun_wp (n := cs.length) (ans := fun i j => rowLt (cs.getD i c0).2 (cs.getD j c0).2) (P := fun s => ∃ k, s = C.S h' k) ?_ _ _ (kin_sort _ h2 h3) ⟨k, rfl⟩ ?_
  · rintro i j D s ⟨k, rfl⟩ hi hj q
    unfold kas_ask
    rw [refs_getD hi, refs_getD hj]
    exact lt_cells (s := C.S h' k) kG' (cells_at hc hi) (cells_at hc hj) (q _ ⟨k, rfl⟩)
  · rintro s ⟨k, rfl⟩
    refine KasFin.intro (s := C.S h' k) F' N' (UpdF.head fun p hp z => ?_) fun h'' c F'' N'' => ⟨h'', k, rfl, ?_⟩
    · have := lt p hp; rw [z] at this; exact absurd this (Nat.lt_irrefl _)
    refine q D h'' c (fun b o hb e => (N'' (b, o) (.tail _ (newsOf_mem.mpr ⟨e, hb⟩))).1) F''.ns ?_ oD
    have e := (N'' _ (.head _)).1
    dsimp only at e
    have es : refsOf (sortC cs) = (krun (fun i j => rowLt (cs.getD i c0).2 (cs.getD j c0).2) (kas_sort cs.length)).toList.map fun i => (refsOf cs).getD i Value.none := by
      unfold sortC
      rw [if_neg (by omega)]
      show List.map _ (List.map _ _) = _
      rw [List.map_map]
      refine List.map_congr_left fun i hi => ?_
      rw [refs_getD (krun_in _ (kin_sort _ h2 h3) i hi)]
      rfl
    rw [es]
    exact e
end
end Mine
namespace Mine
open PySem PySem.W PySem.Calls PySem.Spec PyProof.Rows PySem.SeqAt
section
variable {prog : Program} {w : World} {A : Around} {E : Value → Shared → Prop} {s : Shared}
theorem sort_few {a : Addr} {vs : List Value} {n : Nat} {P : Fin → Shared → Prop} (ho : s.heap.get? a = some (seqObj "list" vs.toArray n)) (h2 : vs.length < 2)
    (h : P (.done (.ret .none)) { s with heap := sortedHeap s.heap a vs vs.toArray }) : wpAny (model prog w) A (Builtin.«list.sort» ⟨[.ref a], []⟩) P E s := by
  have ha : a < s.heap.objs.size := Heap.lt_size ho
  have hz : vs.toArray.size < 2 := by rw [List.size_toArray]; exact h2
  obtain ⟨e1, ho1⟩ : ∃ e1, (s.heap.update a (Obj.mapSeq fun _ => #[])).get? a = some (seqObj "list" #[] e1) := ⟨_, get?_update_seq ho (fun _ => #[])⟩
  have ho6 : (((s.heap.update a (Obj.mapSeq fun _ => #[])).push (seqObj "tuple" vs.toArray 0)).push (seqObj "list" #[] 0)).get? a = some (seqObj "list" #[] e1) :=
    Heap.get?_push_of_some _ (Heap.get?_push_of_some _ ho1)
  rw [list_sort_plain]
  refine wpAny_bind (listItems_at ho rfl (wpAny_bind (listUpdate_at ho rfl ?_ (by rw [sizeLine_eq]; omega) (Nat.zero_le _))))
  refine wpAny_bind (seqEpoch_at ho1 rfl (wpAny_bind (wpAny_newTuple ?_ (by simp; rw [sizeLine_eq]; omega))))
  refine wpAny_bind (wpAny_newList ?_ (Nat.zero_le _))
  refine wpAny_holding ?_
  rw [if_pos hz, if_pos hz]
  refine wpAny_bind (wpAny_pure ?_)
  dsimp only
  rw [StateT.run_pure]
  refine wpAny_bind (wpAny_pure (wpAny_bind (seqEpoch_at ho6 rfl ?_)))
  have ez : (arrOf (SortSt.mk' general' (vs.toArray.zip vs.toArray) #[] 7 none)).map (·.2) = vs.toArray := by
    show (vs.toArray.zip vs.toArray).map (·.2) = vs.toArray
    apply Array.toList_inj.mp
    simp only [Array.toList_map, Array.toList_zip]
    exact List.map_snd_zip (Nat.le_refl _)
  dsimp only
  rw [ez]
  refine wpAny_bind (listUpdate_at ho6 rfl ?_ (Nat.zero_le _) (by rw [sizeLine_eq]; omega))
  simp only [bne_self_eq_false, Bool.false_eq_true, if_false]
  exact wpAny_pure h
theorem sorted_few {l : Addr} {vs : List Value} {Q : Value → Shared → Prop} (hl : s.heap.IsList l vs.toArray) (h2 : vs.length < 2)
    (h : Q (.ref (s.heap.objs.size + 1)) { s with heap := sortedAll s.heap vs vs.toArray }) : wpAny (model prog w) A (call (.builtin "sorted") [.ref l]) Q E s := by
  refine Calls.call_function_entry kind_sorted plain_sorted entry_sorted (args_sorted1 _) ?_
  unfold Builtin.«sorted»
  refine wpAny_bind (m := checkCount "sorted" 1 1 _) (wpAny_pure ?_)
  refine wpAny_bind (collect_list hl (wpAny_bind (wpAny_newList ?_ (by rw [sizeLine_eq]; omega))) (by rw [sizeLine_eq]; omega))
  have hsz : ((s.heap.push (seqObj "list" #[] 0)).update s.heap.objs.size (Obj.mapSeq (· ++ vs.toArray))).objs.size = s.heap.objs.size + 1 := by
    rw [Heap.size_update, size_push']
  have hoL : (((s.heap.push (seqObj "list" #[] 0)).update s.heap.objs.size (Obj.mapSeq (· ++ vs.toArray))).push (seqObj "list" vs.toArray 0)).get? (s.heap.objs.size + 1) = some (seqObj "list" vs.toArray 0) := by
    rw [← hsz]; exact Heap.get?_push_size _ rfl
  show wpAny _ _ _ _ _ { s with heap := ((s.heap.push (seqObj "list" #[] 0)).update s.heap.objs.size (Obj.mapSeq (· ++ vs.toArray))).push (seqObj "list" vs.toArray 0) }
  rw [hsz]
  exact wpAny_bind (wpAny_holding (wpAny_call_entry slot_list_sort ⟨_, hoL, rfl⟩ entry_list_sort (sort_few hoL h2 ⟨_, rfl, wpAny_pure ⟨_, rfl, h⟩⟩) (args_list_sort _)))
end
section
variable {C : Cx} {A : Around} {E : Value → Heap → Prop} {G h : Heap} {L : Addr} {m : Str → Option Value}
theorem W_sorted (kp : Kp G h) (nL : h.Ns L m) (gL : G.get? L = none) {l : Addr} {n : Nat} {cs : List Cell2} (hl : h.get? l = some (listO (refsOf cs) n)) (hc : ∀ c ∈ cs, RowIs G c) (h3 : cs.length ≤ 3) {Q : Value → Heap → Prop}
    (q : ∀ D h' n', (∀ b o, b ≠ L → h.get? b = some o → h'.get? b = some o) → h'.Ns L m → h'.get? D = some (listO (refsOf (sortC cs)) n') → h.get? D = none → Q (.ref D) h') : WP C A (call (.builtin "sorted") [.ref l]) Q E h := by
  by_cases h2 : 2 ≤ cs.length
  · exact W_sorted2 kp nL gL hl hc h2 h3 q
  · intro k
    refine sorted_few (s := C.S h k) (isList_of hl) (by simp [refsOf]; omega) ⟨_, k, rfl, ?_⟩
    obtain ⟨e, he⟩ := sortedAll_at h (refsOf cs) (refsOf cs).toArray
    have kk : Kp h (sortedAll h (refsOf cs) (refsOf cs).toArray) := fun b o x => sortedAll_old x
    have es : sortC cs = cs := by unfold sortC; rw [if_pos (by omega)]
    exact q _ _ e (fun b o _ x => kk b o x) (nL.keeps kk) (by rw [es]; exact he) (none_of_size (Nat.le_succ _))
end
end Mine
namespace Mine
open PySem PySem.W PySem.Calls PySem.Spec PyProof.Rows PySem.SeqAt
theorem Rm.in1 {A : Around} {d : Nat} (r : Rm A (d + 1)) : Rm A.in1 d := ⟨r.hd, by have := r.dp; show A.depth + d ≤ 600; omega, by have := r.un; show A.units + 1 + 20 * d ≤ 3000; omega⟩
theorem LS.keepL {C : Cx} {F h h' : Heap} {L : Addr} {m : Str → Option Value} {vc : Option Value} (s : LS C F h L m vc) (k : ∀ b o, b ≠ L → h.get? b = some o → h'.get? b = some o) (n : h'.Ns L m) : LS C F h' L m vc :=
  ⟨s.g, fun b o e => k b o (fun z => by rw [z, s.fL] at e; cases e) (s.kp b o e), n, cellA s.cl fun o => k _ o (Ne.symm s.nL), tabT s.tb (Kp.refl _) fun o => k _ o (Ne.symm s.n126), s.fL, s.fC, s.fT, s.lt⟩
section
variable {C : Cx} {A : Around} {E : Value → Heap → Prop} {F h : Heap} {L fa : Addr} {cd : Value} {m : Str → Option Value} {vc : Option Value} {env : Env}
/-- two lists of like rows are equal -/
theorem eq_rows {d k : Nat} (r : Rm A (d + 3)) (kp : Kp F h) {l b : Addr} {n1 n2 : Nat} {xs ys : List Cell2} (hl : h.get? l = some (listO (refsOf xs) n1)) (hb : h.get? b = some (listO (refsOf ys) n2)) (hx : ∀ c ∈ xs, RowIs F c) (hy : ∀ c ∈ ys, RowIs F c) (he : xs.map (·.2) = ys.map (·.2)) :
    EqAt A (C.S h k) (.ref l) (.ref b) true := by
  by_cases hlb : l = b
  · subst hlb; exact EqAt.same _
  have hlen : xs.length = ys.length := by have := congrArg List.length he; simpa using this
  have rc := RcAt.lists (A := A) (s := C.S h k) (e := fun _ => true) (isList_of hl) (isList_of hb) (by simp [refsOf, hlen]) (by have := r.un; show A.units < 9900; omega) fun j h1 h2 => ?_
  · rw [show (List.range (refsOf xs).toArray.size).all (fun _ => true) = true by simp] at rc
    exact EqAt.of_refs hlb rc
  · have j1 : j < xs.length := by simpa [refsOf] using h1
    have j2 : j < ys.length := by simpa [refsOf] using h2
    have ex : (refsOf xs).toArray[j] = .ref xs[j].1 := by simp [refsOf]
    have ey : (refsOf ys).toArray[j] = .ref ys[j].1 := by simp [refsOf]
    rw [ex, ey]
    have er : xs[j].2 = ys[j].2 := by
      have := congrArg (fun l => l[j]?) he
      simp only [List.getElem?_map, List.getElem?_eq_getElem j1, List.getElem?_eq_getElem j2, Option.map_some, Option.some.injEq] at this
      exact this
    have := eq_row (C := C) (d := d + 2) (k := k) r kp (hx _ (List.getElem_mem j1)) (hy _ (List.getElem_mem j2))
    rw [er, beq_self_eq_true] at this
    exact this
/-- two listings of like rows -/
theorem eq_listg {d k : Nat} (r : Rm A (d + 3)) (kp : Kp F h) {a b : Addr} {rs : List Row2} (x : ListgAt F a rs) (y : ListgAt F b rs) : EqAt A (C.S h k) (.ref a) (.ref b) true := by
  obtain ⟨xs, n1, e1, h1, w1⟩ := listg_cells x
  obtain ⟨ys, n2, e2, h2, w2⟩ := listg_cells y
  exact eq_rows r kp (kp _ _ e1) (kp _ _ e2) w1 w2 (h1.trans h2.symm)
theorem LstAt.get {G : Heap} {as : List Addr} {rs : List (List Row2)} (x : LstAt G as rs) : as.length = rs.length ∧ ∀ (i : Nat) (a : Addr), as[i]? = some a → ∃ r, rs[i]? = some r ∧ ListgAt G a r := by
  induction x with
  | nil => exact ⟨rfl, fun i a e => by cases i <;> cases e⟩
  | cons y _ ih =>
    refine ⟨by simp [ih.1], fun i a e => ?_⟩
    cases i with
    | zero => cases e; exact ⟨_, rfl, y⟩
    | succ i => exact ih.2 i a e
theorem W_eqLst {d : Nat} (r : Rm A (d + 4)) (kp : Kp F h) {D D' : Addr} {as bs : List Addr} {k k' : Nat} {rs : List (List Row2)} (e : F.get? D = some (listO (as.map .ref) k)) (e' : F.get? D' = some (listO (bs.map .ref) k')) (x : LstAt F as rs) (y : LstAt F bs rs) {Q : Value → Heap → Prop} (q : Q (.bool true) h) :
    WP C A (compareOp .Eq (.ref D) (.ref D')) Q E h := fun kk => by
  have z1 := x.get
  have z2 := y.get
  refine eq_listAt (s := C.S h kk) (e := fun _ => true) (isList_of (kp _ _ e)) (isList_of (kp _ _ e')) (by simp [z1.1, z2.1]) (by have := r.un; show A.units < 9900; omega) (fun j h1 h2 => ?_) (by
    rw [show (List.range (as.map Value.ref).toArray.size).all (fun _ => true) = true by simp]
    exact up1 q)
  have j1 : j < as.length := by simpa using h1
  have j2 : j < bs.length := by simpa using h2
  obtain ⟨r1, f1, g1⟩ := z1.2 j _ (List.getElem?_eq_getElem j1)
  obtain ⟨r2, f2, g2⟩ := z2.2 j _ (List.getElem?_eq_getElem j2)
  rw [f1] at f2; cases f2
  have ex : (as.map Value.ref).toArray[j] = .ref as[j] := by simp
  have ey : (bs.map Value.ref).toArray[j] = .ref bs[j] := by simp
  rw [ex, ey]
  exact eq_listg (d := d) r.in1 kp g1 g2
theorem W_notIn {d : Nat} (r : Rm A (d + 1)) (kp : Kp F h) {l : Addr} {n : Nat} {xs : List Cell2} {c : Cell2} (hl : h.get? l = some (listO (refsOf xs) n)) (hx : ∀ c ∈ xs, RowIs F c) (hc : RowIs F c) {Q : Value → Heap → Prop} (q : Q (.bool (!(xs.map (·.2)).contains c.2)) h) :
    WP C A (compareOp .NotIn (.ref c.1) (.ref l)) Q E h := fun k => by
  refine notIn_listAt (s := C.S h k) (rowE F c.2) (isList_of hl) (fun y hy => ?_) ?_
  · obtain ⟨z, hz, rfl⟩ := List.mem_map.mp (show y ∈ xs.map (fun c => Value.ref c.1) by simpa [refsOf] using hy)
    rw [rowE_is (hx z hz)]
    exact eq_row (d := d) r kp (hx z hz) hc
  · have e : (refsOf xs).toArray.any (rowE F c.2) = (xs.map (·.2)).contains c.2 := by
      rw [List.any_toArray]
      clear hl q
      induction xs with
      | nil => rfl
      | cons z xs ih =>
        show (rowE F c.2 (.ref z.1) || (refsOf xs).any (rowE F c.2)) = _
        rw [ih fun d hd => hx d (.tail _ hd), rowE_is (hx z (.head _)), List.map_cons, List.contains_cons, BEq.comm (a := c.2)]
    rw [e]
    exact up1 q
end
end Mine
namespace Mine
open PySem PySem.W PySem.Calls PySem.Spec PyProof.Rows PySem.SeqAt
noncomputable def dueScope : Scope := ⟨.function, [(".0", .local), ("x", .local), ("due", .free)], false, false, []⟩
section
variable {C : Cx} {A : Around} {E : Value → Heap → Prop} {F h : Heap} {L fa : Addr} {cd : Value} {m : Str → Option Value} {vc : Option Value} {env : Env}
theorem W_rest {i j : Int} {p1 p2 p3 p4 p5 p6 p7 p8 p9 p10 pos : Pos} {D' di dj : Addr} {ds : List Addr} {k ni nj d : Nat} {ci cj : List Cell2} (r : Rm A (d + 1)) (s : LS C F h L m (some (.ref D'))) (hi : 0 ≤ i ∧ i ≤ 5) (hj : 0 ≤ j ∧ j ≤ 5)
    (fD : F.get? D' = some (listO (ds.map .ref) k)) (ei : ds[i.toNat]? = some di) (ej : ds[j.toNat]? = some dj) (fi : F.get? di = some (listO (refsOf ci) ni)) (fj : F.get? dj = some (listO (refsOf cj) nj)) (wi : ∀ c ∈ ci, RowIs F c) (wj : ∀ c ∈ cj, RowIs F c) (zi : ci.length ≤ 100) {Q : Value → Heap → Prop}
    (q : ∀ D h' n, Kp h h' → h'.get? D = some (listO (refsOf (ci.filter fun c => !(cj.map (·.2)).contains c.2)) n) → h.get? D = none → Q (.ref D) h') :
    WP C A (eval (.ListComp (.Name "x" p1) [⟨.Name "x" p2, .Subscript (.Name "due" p3) (.Constant (.int i) 0 p4) p5, [.Compare (.Name "x" p6) [.NotIn] [.Subscript (.Name "due" p7) (.Constant (.int j) 0 p8) p9] p10], 0⟩] dueScope pos) (lawEnv L fa cd)) Q E h := by
  have hh : A.handled = none := r.hd
  have gi : (ds.map Value.ref)[i.toNat]? = some (.ref di) := by rw [List.getElem?_map, ei]; rfl
  have gj : (ds.map Value.ref)[j.toNat]? = some (.ref dj) := by rw [List.getElem?_map, ej]; rfl
  refine W_comp (cl := [("due", L + 1)]) rfl (W_Sub (W_cell (env := lawEnv L fa cd) rfl s.cl (W_int fun t => W_subList (isList_of (s.kp _ _ fD)) hi.1 (by omega) gi ⟨_, _, walk_list hh (isList_of (s.kp _ _ fi)), by simp [refsOf]; omega, F, fun i ys G => ys = refsOf ((ci.take i).filter fun c => !(cj.map (·.2)).contains c.2), s.kp, rfl, ?_, ?_⟩)))
  · rintro Lc n v ys G h₄ mc hn hv rfl kG kGh k1h lc gLc nLc
    obtain ⟨c, hc, rfl⟩ : ∃ c, ci[n]? = some c ∧ v = .ref c.1 := by
      have hv : (refsOf ci)[n]? = some v := hv
      unfold refsOf at hv
      rw [List.getElem?_map] at hv
      cases e : ci[n]? with
      | none => rw [e] at hv; cases hv
      | some c => rw [e] at hv; cases hv; exact ⟨c, rfl, rfl⟩
    have hm : c ∈ ci := List.mem_of_getElem? hc
    refine W_aName (W_store nLc fun h₅ n₅ s₅ => W_tests1 ?_)
    have n₅ : h₅.Ns Lc _ := n₅
    have s₅ : Heap.SameBut Lc h₄ h₅ := s₅
    have kF5 : Kp F h₅ := (kG.trans kGh).same s₅ (kG.off gLc)
    have oL1 : L + 1 ≠ Lc := fun z => by
      obtain ⟨o, x, _⟩ := s.cl
      rw [z, lc] at x; cases x
    have cl5 : h₅.IsCell (L + 1) (some (.ref D')) := cellA s.cl fun o x => (s₅.2 _ oL1).trans (k1h _ _ x)
    refine W_tCompare (W_local n₅ upd_eq (W_Sub (W_cell rfl cl5 (W_int fun t => W_subList (isList_of (kF5 _ _ fD)) hj.1 (by omega) gj (W_notIn r kF5 (kF5 _ _ fj) wj (wi c hm) (W_tbool ?_))))))
    have out : Out Lc h₄ h₅ := ⟨fun b o hb x => (s₅.2 _ hb).trans x, _, n₅⟩
    have et : (ci.take (n + 1)).filter (fun c => !(cj.map (·.2)).contains c.2) = (ci.take n).filter (fun c => !(cj.map (·.2)).contains c.2) ++ [c].filter fun c => !(cj.map (·.2)).contains c.2 := by
      rw [take_snoc hc, List.filter_append]
    cases e : (!(cj.map (·.2)).contains c.2) with
    | true =>
      refine W_local n₅ upd_eq ⟨out, G, ⟨Kp.refl _, kGh.same s₅ gLc, fun b o x => .inl x⟩, ?_⟩
      show _ = refsOf _
      rw [et, List.filter_cons_of_pos (by exact e)]
      simp [refsOf]
    | false =>
      refine ⟨out, ?_⟩
      show _ = refsOf _
      rw [et, List.filter_cons_of_neg (by rw [e]; simp)]
      simp
  · rintro D ys G h' k rfl gr kh eD oD gDn
    refine q D h' k kh ?_ oD
    rw [List.take_of_length_le (by simp [refsOf])] at eD
    exact eD
end
end Mine
namespace Mine
open PySem PySem.W PySem.Calls PySem.Spec PyProof.Rows PySem.SeqAt
theorem sortC_mem {cs : List Cell2} (h3 : cs.length ≤ 3) {c : Cell2} (hc : c ∈ sortC cs) : c ∈ cs := by
  unfold sortC at hc
  by_cases h2 : cs.length < 2
  · rw [if_pos h2] at hc; exact hc
  · rw [if_neg h2] at hc
    obtain ⟨i, hi, rfl⟩ := List.mem_map.mp hc
    have := krun_in _ (kin_sort cs.length (by omega) h3) i hi
    rw [List.getD_eq_getElem?_getD, List.getElem?_eq_getElem this]
    exact List.getElem_mem this
section
variable {C : Cx} {A : Around} {E : Value → Heap → Prop} {F h : Heap} {L fa : Addr} {cd : Value} {m : Str → Option Value}
theorem law_5 (r : Rm A 60) {D D' lm lb : Addr} {as ds : List Addr} {k k' n1 n2 : Nat} {R0 R1 R2 : List Row2} {ca cb : List Cell2} (s : LS C F h L m (some (.ref D'))) (ml : m "listings" = some (.ref D)) (mg : m "gone" = some (.ref lm)) (mn : m "new" = some (.ref lb))
    (fD : F.get? D = some (listO (as.map .ref) k)) (fD' : F.get? D' = some (listO (ds.map .ref) k')) (la : LstAt F as [R0, R1, R2]) (ld : LstAt F ds [R0, R1, R2]) (z0 : R0.length ≤ 3) (z2 : R2.length ≤ 3) (em : F.get? lm = some (listO (refsOf ca) n1)) (eb : F.get? lb = some (listO (refsOf cb) n2))
    (wa : ∀ c ∈ ca, RowIs F c) (wb : ∀ c ∈ cb, RowIs F c) (za : ca.length ≤ 3) (hB : cb.map (·.2) = R2.filter fun x => !R0.contains x) (hA : ∀ cs : List Cell2, cs.map (·.2) = R0.filter (fun x => !R2.contains x) → (sortC ca).map (·.2) = (sortC cs).map (·.2)) {Q : Flow → Heap → Prop}
    (q : ∀ h', Kp F h' → (∃ ps, h'.get? 126 = some (tabObj ps)) → Q (.ret (.bool true)) h') : WP C A (execs (lawBody.drop 5) (lawEnv L fa cd)) Q E h := by
  have hh : A.handled = none := r.hd
  obtain ⟨d0, d1, d2, rfl, lg0, lg2⟩ : ∃ a0 a1 a2, ds = [a0, a1, a2] ∧ ListgAt F a0 R0 ∧ ListgAt F a2 R2 := by
    cases ld with
    | cons x la => cases la with
      | cons y la => cases la with
        | cons z la => cases la; exact ⟨_, _, _, rfl, x, z⟩
  obtain ⟨cs0, k0, e0, rfl, w0⟩ := listg_cells lg0
  obtain ⟨cs2, k2, e2, rfl, w2⟩ := listg_cells lg2
  simp only [List.length_map] at z0 z2
  refine W_cons (W_Return (W_And (W_Compare (W_local s.ns ml (W_cell rfl s.cl (W_eqLst (d := 5) (r.less (by omega)) s.kp fD fD' la ld (W_tbool ?_)))))))
  rw [if_pos rfl]
  have gh := s.g.keeps s.kp
  refine W_BoolOne (W_Compare (W_List (W_items (W_Call (W_builtin gh rfl boot_sorted (W_with (W_items (W_local s.ns mg (W_items0 ⟨Kept.builtin, W_sorted s.kp s.ns s.fL (s.kp _ _ em) wa za fun D1 h₁ n₁ k₁ nL₁ x₁ o₁ => ?_⟩)))))))))
  have s1 := (s.keepL k₁ nL₁).all
  have kF1 : Kp F (lz L h₁) := lz_of (s.keepL k₁ nL₁).kp s.fL s.fC s.fT
  have f1 := s1.at x₁ (fun _ _ z => by cases z) (fun _ z => by cases z) (fun _ z => by cases z)
  refine W_items (W_local s1.ns mn (W_items0 (W_newList (by simp) ?_)))
  have kB : Kp h₁ (h₁.push (listO [.ref D1, .ref lb])) := (Kp.refl h₁).push _
  have xB : (h₁.push (listO [.ref D1, .ref lb])).get? h₁.objs.size = some _ := Heap.get?_push_size _ rfl
  generalize h₁.push (listO [.ref D1, .ref lb]) = h₂ at kB xB ⊢
  generalize h₁.objs.size = X at xB ⊢
  have s2 := (s1.up kB).all
  have k12 : Kp (lz L h₁) (lz L h₂) := lz_of (s1.kp.trans kB) s1.fL s1.fC s1.fT
  have fX := s2.at xB (fun _ _ z => by cases z) (fun _ z => by cases z) (fun _ z => by cases z)
  have kF2 : Kp F (lz L h₂) := kF1.trans k12
  have gh2 := s2.g.keeps s2.kp
  have rk : ∀ {G : Heap} {c : Cell2}, Kp F G → RowIs F c → RowIs G c := fun k ⟨t, t', e⟩ => ⟨t, t', k _ _ e⟩
  refine W_List (W_items (W_Call (W_builtin gh2 rfl boot_sorted (W_with (W_items (W_rest (d := 5) (di := d0) (dj := d2) (ds := [d0, d1, d2]) (r.less (by omega)) s2 ⟨by omega, by omega⟩ ⟨by omega, by omega⟩ (kF2 _ _ fD') rfl rfl (kF2 _ _ e0) (kF2 _ _ e2) (fun c hc => rk kF2 (w0 c hc)) (fun c hc => rk kF2 (w2 c hc)) (by omega) fun D3 h₃ n₃ k₃ x₃ o₃ => ?_))))))
  have s3 := (s2.up k₃).all
  have k23 : Kp (lz L h₂) (lz L h₃) := lz_of (s2.kp.trans k₃) s2.fL s2.fC s2.fT
  have kF3 := kF2.trans k23
  refine W_items0 ⟨Kept.builtin, W_sorted s3.kp s3.ns s3.fL x₃ (fun c hc => rk kF3 (w0 c (List.mem_filter.mp hc).1)) (Nat.le_trans (List.length_filter_le ..) z0) fun D4 h₄ n₄ k₄ nL₄ x₄ o₄ => ?_⟩
  have s4 := (s3.keepL k₄ nL₄).all
  have k34 : Kp (lz L h₃) (lz L h₄) := lz_of (s3.keepL k₄ nL₄).kp s3.fL s3.fC s3.fT
  have kF4 := kF3.trans k34
  have f4 := s4.at x₄ (fun _ _ z => by cases z) (fun _ z => by cases z) (fun _ z => by cases z)
  refine W_items (W_rest (d := 5) (di := d2) (dj := d0) (ds := [d0, d1, d2]) (r.less (by omega)) s4 ⟨by omega, by omega⟩ ⟨by omega, by omega⟩ (kF4 _ _ fD') rfl rfl (kF4 _ _ e2) (kF4 _ _ e0) (fun c hc => rk kF4 (w2 c hc)) (fun c hc => rk kF4 (w0 c hc)) (by omega) fun D5 h₅ n₅ k₅ x₅ o₅ => ?_)
  have s5 := (s4.up k₅).all
  have k45 : Kp (lz L h₄) (lz L h₅) := lz_of (s4.kp.trans k₅) s4.fL s4.fC s4.fT
  have f5 := s5.at x₅ (fun _ _ z => by cases z) (fun _ z => by cases z) (fun _ z => by cases z)
  refine W_items0 (W_newList (by simp) ?_)
  have k₆ : Kp h₅ (h₅.push (listO [.ref D4, .ref D5])) := (Kp.refl h₅).push _
  have x₆ : (h₅.push (listO [.ref D4, .ref D5])).get? h₅.objs.size = some _ := Heap.get?_push_size _ rfl
  generalize h₅.push (listO [.ref D4, .ref D5]) = h₆ at k₆ x₆ ⊢
  generalize h₅.objs.size = Y at x₆ ⊢
  have s6 := s5.up k₆
  have k15 : Kp (lz L h₁) (lz L h₅) := k12.trans (k23.trans (k34.trans k45))
  have k25 : Kp (lz L h₂) (lz L h₅) := k23.trans (k34.trans k45)
  have kF5 : Kp F (lz L h₅) := kF1.trans k15
  have r1 : Rm A.in1 8 := (r.less (e := 9) (by omega)).in1
  refine WP.of fun kk => eq_listAt (s := C.S h₆ kk) (e := fun _ => true) (isList_of (s6.kp _ _ (k25 _ _ fX))) (isList_of x₆) rfl (by have := r.un; show A.units < 9900; omega) (fun j h1 h2 => ?_) ⟨h₆, kk, rfl, ?_⟩
  · have hj : j = 0 ∨ j = 1 := by simp at h1; omega
    rcases hj with rfl | rfl
    · exact eq_rows (d := 5) r1 s6.kp (s6.kp _ _ (k15 _ _ f1)) (s6.kp _ _ (k45 _ _ f4)) (fun c hc => rk kF5 (wa c (sortC_mem za hc))) (fun c hc => rk kF5 (w0 c (List.mem_filter.mp (sortC_mem (Nat.le_trans (List.length_filter_le ..) z0) hc)).1)) (hA _ (by rw [List.filter_map]; rfl))
    · exact eq_rows (d := 5) r1 s6.kp (s6.kp _ _ (kF5 _ _ eb)) (s6.kp _ _ f5) (fun c hc => rk kF5 (wb c hc)) (fun c hc => rk kF5 (w2 c (List.mem_filter.mp hc).1)) (by rw [hB, List.filter_map]; rfl)
  · refine q h₆ (kF5.trans s6.kp) ?_
    rcases s6.tb with t | ⟨_, _, t, _⟩ <;> exact ⟨_, t⟩
end
end Mine
namespace Mine
open PySem PySem.W PySem.Calls PySem.Spec PyProof.Rows PySem.SeqAt
theorem cps_total : ∀ a b : List Nat, a ≠ b → ltCps b a = !ltCps a b
  | [], [], h => absurd rfl h
  | [], _ :: _, _ => rfl
  | _ :: _, [], _ => rfl
  | a :: r, b :: t, h => by
    unfold ltCps
    rcases Nat.lt_trichotomy a b with h1 | h1 | h1
    · have h2 : ¬ b < a := by omega
      have h3 : (b == a) = false := by simp; omega
      simp [h1, h2, h3]
    · subst h1
      have : r ≠ t := fun z => h (by rw [z])
      simp [cps_total r t this]
    · have h2 : ¬ a < b := by omega
      have h3 : (a == b) = false := by simp; omega
      simp [h1, h2, h3]
theorem cps_trans : ∀ a b c : List Nat, ltCps a b = true → ltCps b c = true → ltCps a c = true
  | [], [], _, h, _ => by cases h
  | [], _ :: _, [], _, h => by cases h
  | [], _ :: _, _ :: _, _, _ => rfl
  | _ :: _, [], _, h, _ => by cases h
  | _ :: _, _ :: _, [], _, h => by cases h
  | a :: r, b :: t, c :: u, h1, h2 => by
    unfold ltCps at h1 h2 ⊢
    simp only [Bool.or_eq_true, decide_eq_true_eq, Bool.and_eq_true, beq_iff_eq] at h1 h2 ⊢
    rcases h1 with h1 | ⟨h1, g1⟩ <;> rcases h2 with h2 | ⟨h2, g2⟩
    · exact .inl (by omega)
    · exact .inl (by omega)
    · exact .inl (by omega)
    · exact .inr ⟨by omega, cps_trans r t u g1 g2⟩
theorem cps_irr : ∀ a : List Nat, ltCps a a = false
  | [] => rfl
  | a :: r => by unfold ltCps; simp [cps_irr r]
theorem lexLt_eq (a b : Str) : lexLt a b = ltCps a.cps.toList b.cps.toList := (ltCps_eq _ _).symm
theorem str_ne {a b : Str} (h : a ≠ b) : a.cps.toList ≠ b.cps.toList := fun z => h (by
  cases a; cases b
  simp only at z
  rw [Array.toList_inj.mp z])
theorem lex_total {a b : Str} (h : a ≠ b) : lexLt b a = !lexLt a b := by rw [lexLt_eq, lexLt_eq]; exact cps_total _ _ (str_ne h)
theorem lex_trans {a b c : Str} (h1 : lexLt a b = true) (h2 : lexLt b c = true) : lexLt a c = true := by rw [lexLt_eq] at *; exact cps_trans _ _ _ h1 h2
theorem lex_irr (a : Str) : lexLt a a = false := by rw [lexLt_eq]; exact cps_irr _
theorem row_total {x y : Row2} (h : x ≠ y) : rowLt y x = !rowLt x y := by
  obtain ⟨xs, xp⟩ := x
  obtain ⟨ys, yp⟩ := y
  unfold rowLt
  by_cases h1 : xs = ys
  · subst h1
    have h2 : xp ≠ yp := fun z => h (by rw [z])
    simp [h2, Ne.symm h2, lex_total h2]
  · simp [h1, Ne.symm h1, lex_total h1]
theorem row_irr (x : Row2) : rowLt x x = false := by unfold rowLt; simp
theorem row_trans {x y z : Row2} (h1 : rowLt x y = true) (h2 : rowLt y z = true) : rowLt x z = true := by
  obtain ⟨xs, xp⟩ := x
  obtain ⟨ys, yp⟩ := y
  obtain ⟨zs, zp⟩ := z
  unfold rowLt at *
  dsimp only at *
  by_cases e1 : xs = ys
  · subst e1
    rw [if_pos rfl] at h1
    by_cases e2 : xs = zs
    · subst e2
      rw [if_pos rfl] at h2 ⊢
      have f1 : xp ≠ yp := fun z => by rw [if_pos z] at h1; cases h1
      have f2 : yp ≠ zp := fun z => by rw [if_pos z] at h2; cases h2
      rw [if_neg f1] at h1
      rw [if_neg f2] at h2
      have h3 := lex_trans h1 h2
      have f3 : xp ≠ zp := fun z => by rw [z, lex_irr] at h3; cases h3
      rw [if_neg f3]; exact h3
    · rw [if_neg e2] at h2 ⊢; exact h2
  · rw [if_neg e1] at h1
    by_cases e2 : ys = zs
    · subst e2
      rw [if_neg e1]; exact h1
    · rw [if_neg e2] at h2
      have h3 := lex_trans h1 h2
      have f3 : xs ≠ zs := fun z => by rw [z, lex_irr] at h3; cases h3
      rw [if_neg f3]; exact h3
noncomputable def r0 : Row2 := ("", "")
noncomputable def sortR (rs : List Row2) : List Row2 := if rs.length < 2 then rs else (krun (fun i j => rowLt (rs.getD i r0) (rs.getD j r0)) (kas_sort rs.length)).toList.map fun i => rs.getD i r0
theorem getD_map2 (cs : List Cell2) (i : Nat) : (cs.getD i c0).2 = (cs.map (·.2)).getD i r0 := by
  rw [List.getD_eq_getElem?_getD, List.getD_eq_getElem?_getD, List.getElem?_map]
  cases cs[i]? <;> rfl
theorem sortC_rows (cs : List Cell2) : (sortC cs).map (·.2) = sortR (cs.map (·.2)) := by
  unfold sortC sortR
  rw [List.length_map]
  by_cases h : cs.length < 2
  · rw [if_pos h, if_pos h]
  · rw [if_neg h, if_neg h, List.map_map]
    simp only [getD_map2]
    refine List.map_congr_left fun i _ => getD_map2 cs i
theorem krun_congr {f g : Nat → Nat → Bool} {n : Nat} (h : ∀ i j, i < n → j < n → f i j = g i j) : ∀ (t : KasT (Array Nat)), kin n t = true → krun f t = krun g t
  | .ret a, _ => rfl
  | .ask i j k, e => by
    simp only [kin, Bool.and_eq_true, decide_eq_true_eq] at e
    show krun f (k (f i j)) = krun g (k (g i j))
    rw [h i j e.1.1.1 e.1.1.2]
    refine krun_congr h (k (g i j)) ?_
    cases g i j
    · exact e.2
    · exact e.1.2
noncomputable def tab2 (a : Bool) (i j : Nat) : Bool := match i, j with
  | 0, 1 => a
  | 1, 0 => !a
  | _, _ => false
noncomputable def tab3 (a b c : Bool) (i j : Nat) : Bool := match i, j with
  | 0, 1 => a
  | 1, 0 => !a
  | 1, 2 => b
  | 2, 1 => !b
  | 0, 2 => c
  | 2, 0 => !c
  | _, _ => false
theorem run2 : ∀ a : Bool, (krun (tab2 a) (kas_sort 2)).toList = (krun (fun i j => tab2 a (1 - i) (1 - j)) (kas_sort 2)).toList.map (1 - ·) := by decide +kernel
theorem run3 : ∀ a b c : Bool, (a = true → b = true → c = true) → (a = false → b = false → c = false) → (krun (tab3 a b c) (kas_sort 3)).toList = (krun (fun i j => tab3 a b c (2 - i) (2 - j)) (kas_sort 3)).toList.map (2 - ·) := by decide +kernel
theorem sort_rev2 {x y : Row2} (h : x ≠ y) : sortR [y, x] = sortR [x, y] := by
  have k2 := kin_sort 2 (by omega) (by omega)
  have e1 : krun (fun i j => rowLt ([x, y].getD i r0) ([x, y].getD j r0)) (kas_sort 2) = krun (tab2 (rowLt x y)) (kas_sort 2) := krun_congr (fun i j hi hj => by
    have hi : i = 0 ∨ i = 1 := by omega
    have hj : j = 0 ∨ j = 1 := by omega
    rcases hi with rfl | rfl <;> rcases hj with rfl | rfl
    · exact row_irr x
    · rfl
    · exact row_total h
    · exact row_irr y) _ k2
  have e2 : krun (fun i j => rowLt ([y, x].getD i r0) ([y, x].getD j r0)) (kas_sort 2) = krun (fun i j => tab2 (rowLt x y) (1 - i) (1 - j)) (kas_sort 2) := krun_congr (fun i j hi hj => by
    have hi : i = 0 ∨ i = 1 := by omega
    have hj : j = 0 ∨ j = 1 := by omega
    rcases hi with rfl | rfl <;> rcases hj with rfl | rfl
    · exact row_irr y
    · exact row_total h
    · rfl
    · exact row_irr x) _ k2
  show List.map (fun i => [y, x].getD i r0) (krun (fun i j => rowLt ([y, x].getD i r0) ([y, x].getD j r0)) (kas_sort 2)).toList = List.map (fun i => [x, y].getD i r0) (krun (fun i j => rowLt ([x, y].getD i r0) ([x, y].getD j r0)) (kas_sort 2)).toList
  rw [e1, e2, run2, List.map_map]
  refine List.map_congr_left fun i hi => ?_
  have := krun_in _ k2 i hi
  have hi : i = 0 ∨ i = 1 := by omega
  rcases hi with rfl | rfl <;> rfl
theorem sort_rev3 {x y z : Row2} (h1 : x ≠ y) (h2 : y ≠ z) (h3 : x ≠ z) : sortR [z, y, x] = sortR [x, y, z] := by
  have k3 := kin_sort 3 (by omega) (by omega)
  have c1 : rowLt x y = true → rowLt y z = true → rowLt x z = true := row_trans
  have c2 : rowLt x y = false → rowLt y z = false → rowLt x z = false := fun a b => by
    have a' : rowLt y x = true := by rw [row_total h1, a]; rfl
    have b' : rowLt z y = true := by rw [row_total h2, b]; rfl
    have c := row_trans b' a'
    rw [row_total h3] at c
    simpa using c
  have e1 : krun (fun i j => rowLt ([x, y, z].getD i r0) ([x, y, z].getD j r0)) (kas_sort 3) = krun (tab3 (rowLt x y) (rowLt y z) (rowLt x z)) (kas_sort 3) := krun_congr (fun i j hi hj => by
    have hi : i = 0 ∨ i = 1 ∨ i = 2 := by omega
    have hj : j = 0 ∨ j = 1 ∨ j = 2 := by omega
    rcases hi with rfl | rfl | rfl <;> rcases hj with rfl | rfl | rfl
    · exact row_irr x
    · rfl
    · rfl
    · exact row_total h1
    · exact row_irr y
    · rfl
    · exact row_total h3
    · exact row_total h2
    · exact row_irr z) _ k3
  have e2 : krun (fun i j => rowLt ([z, y, x].getD i r0) ([z, y, x].getD j r0)) (kas_sort 3) = krun (fun i j => tab3 (rowLt x y) (rowLt y z) (rowLt x z) (2 - i) (2 - j)) (kas_sort 3) := krun_congr (fun i j hi hj => by
    have hi : i = 0 ∨ i = 1 ∨ i = 2 := by omega
    have hj : j = 0 ∨ j = 1 ∨ j = 2 := by omega
    rcases hi with rfl | rfl | rfl <;> rcases hj with rfl | rfl | rfl
    · exact row_irr z
    · exact row_total h2
    · exact row_total h3
    · rfl
    · exact row_irr y
    · exact row_total h1
    · rfl
    · rfl
    · exact row_irr x) _ k3
  show List.map (fun i => [z, y, x].getD i r0) (krun (fun i j => rowLt ([z, y, x].getD i r0) ([z, y, x].getD j r0)) (kas_sort 3)).toList = List.map (fun i => [x, y, z].getD i r0) (krun (fun i j => rowLt ([x, y, z].getD i r0) ([x, y, z].getD j r0)) (kas_sort 3)).toList
  rw [e1, e2, run3 _ _ _ c1 c2, List.map_map]
  refine List.map_congr_left fun i hi => ?_
  have := krun_in _ k3 i hi
  have hi : i = 0 ∨ i = 1 ∨ i = 2 := by omega
  rcases hi with rfl | rfl | rfl <;> rfl
theorem sort_rev : ∀ (l : List Row2), l.length ≤ 3 → l.Pairwise (· ≠ ·) → sortR l.reverse = sortR l
  | [], _, _ => rfl
  | [x], _, _ => rfl
  | [x, y], _, h => sort_rev2 (by simp at h; exact h)
  | [x, y, z], _, h => by
    simp at h
    exact sort_rev3 h.1.1 h.2 h.1.2
  | _ :: _ :: _ :: _ :: _, h, _ => by simp at h
end Mine
namespace Mine
open PySem PySem.W PySem.Calls PySem.Spec PyProof.Rows PySem.SeqAt
theorem pa_ne : (("/a" : Str) == "/a/b") = false ∧ (("/a" : Str) == "/b") = false ∧ (("/a/b" : Str) == "/b") = false ∧ (("/a/b" : Str) == "/a") = false ∧ (("/b" : Str) == "/a") = false ∧ (("/b" : Str) == "/a/b") = false := by decide
theorem three {cs : List Cell2} {x y z : Row2} (h : cs.map (·.2) = [x, y, z]) : ∃ a b c, cs = [(a, x), (b, y), (c, z)] := by
  obtain ⟨a, cs, rfl, ha, h⟩ := List.map_eq_cons_iff.mp h
  obtain ⟨b, cs, rfl, hb, h⟩ := List.map_eq_cons_iff.mp h
  obtain ⟨c, cs, rfl, hc, h⟩ := List.map_eq_cons_iff.mp h
  cases List.map_eq_nil_iff.mp h
  subst ha hb hc
  exact ⟨_, _, _, rfl⟩
theorem beq_dec {a b : Str} : (a == b) = decide (a = b) := by rw [Bool.eq_iff_iff]; simp
theorem diff3 (u v w : Addr) (u' v' w' : Addr) (a b c a' b' c' p q r : Str) (p1 : (p == q) = false) (p2 : (p == r) = false) (p3 : (q == r) = false) (p4 : (q == p) = false) (p5 : (r == p) = false) (p6 : (r == q) = false) :
    ((diffL [(w, (c, r)), (v, (b, q)), (u, (a, p))] [] [(u', (a', p)), (v', (b', q)), (w', (c', r))]).2.map (·.2) = [(a', p), (b', q), (c', r)].filter fun x => !([(a, p), (b, q), (c, r)] : List Row2).contains x) ∧
    ((diffL [(w, (c, r)), (v, (b, q)), (u, (a, p))] [] [(u', (a', p)), (v', (b', q)), (w', (c', r))]).1.map (·.2) = ([(a, p), (b, q), (c, r)].filter fun x => !([(a', p), (b', q), (c', r)] : List Row2).contains x).reverse) := by
  have pb : ∀ (s t p q : Str), (((s, p) : Row2) == (t, q)) = (s == t && p == q) := fun _ _ _ _ => rfl
  have s1 : (p == p) = true := beq_self_eq_true p
  have s2 : (q == q) = true := beq_self_eq_true q
  have s3 : (r == r) = true := beq_self_eq_true r
  have f1 : (a' == a) = (a == a') := BEq.comm
  have f2 : (b' == b) = (b == b') := BEq.comm
  have f3 : (c' == c) = (c == c') := BEq.comm
  cases h1 : (a == a') <;> cases h2 : (b == b') <;> cases h3 : (c == c') <;>
    simp only [diffL, rem1, pb, p1, p2, p3, p4, p5, p6, s1, s2, s3, f1, f2, f3, h1, h2, h3, List.filter, List.contains_cons, List.contains_nil, Bool.and_true, Bool.and_false, Bool.or_false, Bool.false_or, Bool.or_true, Bool.true_or, Bool.not_true, Bool.not_false, if_true, if_false, Bool.false_eq_true, Option.map_some, Option.map_none, List.map_cons, List.map_nil, List.append_nil, List.nil_append, List.cons_append, List.reverse_cons, List.reverse_nil, and_self]
theorem rowsD_eq (rs : List Rule) : rowsD rs = [(signK rs "/a" 9, ("/a" : Str)), (signK rs "/a/b" 9, ("/a/b" : Str)), (signK rs "/b" 9, ("/b" : Str))] := rfl
theorem diff_rows {r1 r2 : List Rule} {cs0 cs2 : List Cell2} (h0 : cs0.map (·.2) = rowsD r1) (h2 : cs2.map (·.2) = rowsD r2) :
    (diffL cs0.reverse [] cs2).2.map (·.2) = (rowsD r2).filter (fun x => !(rowsD r1).contains x) ∧ (diffL cs0.reverse [] cs2).1.map (·.2) = ((rowsD r1).filter fun x => !(rowsD r2).contains x).reverse := by
  rw [rowsD_eq] at h0 h2
  obtain ⟨u, v, w, rfl⟩ := three h0
  obtain ⟨u', v', w', rfl⟩ := three h2
  obtain ⟨p1, p2, p3, p4, p5, p6⟩ := pa_ne
  rw [rowsD_eq, rowsD_eq]
  exact diff3 u v w u' v' w' _ _ _ _ _ _ _ _ _ p1 p2 p3 p4 p5 p6
theorem rows_apart (rs : List Rule) : (rowsD rs).Pairwise (· ≠ ·) := by
  obtain ⟨p1, p2, p3, _⟩ := pa_ne
  have n1 : ("/a" : Str) ≠ "/a/b" := by simpa using p1
  have n2 : ("/a" : Str) ≠ "/b" := by simpa using p2
  have n3 : ("/a/b" : Str) ≠ "/b" := by simpa using p3
  rw [rowsD_eq]
  refine .cons (fun x hx => ?_) (.cons (fun x hx => ?_) (.cons (fun x hx => by simp at hx) .nil))
  · rcases List.mem_cons.mp hx with rfl | hx
    · exact fun z => n1 (congrArg Prod.snd z)
    · rw [List.mem_singleton.mp hx]; exact fun z => n2 (congrArg Prod.snd z)
  · rw [List.mem_singleton.mp hx]; exact fun z => n3 (congrArg Prod.snd z)
theorem gone_sorted {r1 r2 : List Rule} {cs0 cs2 : List Cell2} (h0 : cs0.map (·.2) = rowsD r1) (h2 : cs2.map (·.2) = rowsD r2) (cs : List Cell2) (h : cs.map (·.2) = (rowsD r1).filter fun x => !(rowsD r2).contains x) :
    (sortC (diffL cs0.reverse [] cs2).1).map (·.2) = (sortC cs).map (·.2) := by
  rw [sortC_rows, sortC_rows, (diff_rows h0 h2).2, h]
  exact sort_rev _ (Nat.le_trans (List.length_filter_le ..) (Nat.le_refl 3)) ((rows_apart r1).filter _)
section
variable {C : Cx} {A : Around} {E : Value → Heap → Prop} {F h : Heap} {L fa : Addr} {cd : Value} {m : Str → Option Value} {vc : Option Value}
/-- the law gives back True -/
theorem law_W (r : Rm A 60) (hfr : A.frames = some [lawEnv L fa cd]) (s : LS C F h L m vc) {sc : Addr} {vs : List Value} {ns : List Int} (hm : m "script" = some (.ref sc)) (hs : F.IsList sc vs.toArray) (hi : IntsAre vs ns) (hlen : ns.length ≤ 63) {Q : Flow → Heap → Prop}
    (q : ∀ h', Kp F h' → (∃ ps, h'.get? 126 = some (tabObj ps)) → Q (.ret (.bool true)) h') : WP C A (execs lawBody (lawEnv L fa cd)) Q E h := by
  have z3 : ∀ rs, (rowsD rs).length ≤ 3 := fun rs => Nat.le_refl 3
  refine law_01 s hm hs hi hlen fun h₁ m₁ F₁ l1 l2 v1 v2 n1 n2 s₁ k₁ a1 a2 f1 f2 i1 i2 z1 z2 => ?_
  refine law_2 s₁ r a1 a2 f1 f2 i1 i2 (by omega) (by omega) fun h₂ F₂ D as k s₂ k₂ fD la => ?_
  rw [rows_due, rows_due, rows_due] at la
  refine law_3 s₂ r (upd_ne a1) (upd_ne a2) (k₂ _ _ f1) (k₂ _ _ f2) i1 i2 (by omega) (by omega) fun h₃ F₃ D' ds k' s₃ k₃ fD' ld => ?_
  refine law_4 s₃ r hfr upd_eq (k₃ _ _ fD) (la.keeps k₃) (z3 _) (z3 _) fun h₄ F₄ lm lb cs0 cs2 x1 x2 s₄ k₄ e0 e2 em eb wa wb => ?_
  have za : (diffL cs0.reverse [] cs2).1.length ≤ 3 := by
    have := congrArg List.length (diff_rows e0 e2).2
    rw [List.length_map, List.length_reverse] at this
    rw [this]
    exact Nat.le_trans (List.length_filter_le ..) (z3 _)
  exact law_5 r s₄ (upd_ne (upd_ne upd_eq)) (upd_ne upd_eq) upd_eq (k₄ _ _ (k₃ _ _ fD)) (k₄ _ _ fD') ((la.keeps k₃).keeps k₄) (ld.keeps k₄) (z3 _) (z3 _) em eb wa wb za (diff_rows e0 e2).1 (gone_sorted e0 e2) fun h' k t => q h' (((k₁.trans k₂).trans (k₃.trans k₄)).trans k) t
end
end Mine
namespace Mine
open PySem PySem.W PySem.Calls PySem.Spec PyProof.Rows PySem.SeqAt
theorem law_end {w : World} {s₁ : Shared} {G h₁ : Heap} {L fa sc : Addr} {tk : Nat} {cd : Value} {m : Str → Option Value} {oc : Obj} {v : Option Value} {loose : List Str} {mean : ExcName → Option Value} {mg mb : Str → Option Value} {vs : List Value} {ns : List Int}
    (X : (KF w).In G) (T : Top topProg loose mean mg mb G) (F' : Fr G L h₁ m) (N' : News G L h₁ [(L + 1, oc), (126, tabObj #[])]) (hc : oc.data = .cell v) (lifted : G.IsList sc vs.toArray) (hI : IntsAre vs ns) (hcond : ¬ (63 : Int) < (ns.length : Int)) (l0 : 126 < L) (hm : m "script" = some (.ref sc))
    {Q : Flow → Shared → Prop} {E : Value → Shared → Prop} (q : ∀ h' k, Kp G h' → (∃ ps, h'.get? 126 = some (tabObj ps)) → Q (.ret (.bool true)) ⟨h', s₁.gens, s₁.drawn, k, s₁.os⟩) :
    wpAny (model prg w) (callerA.deeper (lawEnv L fa cd)) (execs lawBody (lawEnv L fa cd)) Q E ⟨h₁, s₁.gens, s₁.drawn, tk, s₁.os⟩ := by
  have c1 := N' _ (.head _)
  have c2 := N' _ (.tail _ (.head _))
  have s : LS ⟨w, s₁.gens, s₁.drawn, s₁.os⟩ G h₁ L m v := ⟨⟨X, _, _, _, _, T⟩, F'.keep, F'.ns, ⟨oc, c1.1, hc⟩, .inl c2.1, none_of_size F'.above, c1.2.2, c2.2.2, l0⟩
  have r : Rm (callerA.deeper (lawEnv L fa cd)) 60 := ⟨rfl, Nat.le_of_ble_eq_true rfl, Nat.le_of_ble_eq_true rfl⟩
  have x := law_W (E := NoE) (Q := fun f h' => f = .ret (.bool true) ∧ Kp G h' ∧ ∃ ps, h'.get? 126 = some (tabObj ps)) r (Around.frames_deeper rfl) s hm lifted hI (by omega) (fun h' k t => ⟨rfl, k, t⟩) tk
  refine wpAny_mono x (fun f s' y => ?_) fun _ _ e => noE e
  obtain ⟨h', k, rfl, rfl, kG, t⟩ := y
  exact q h' k kG t
end Mine
open PySem PySem.W PyProof.Rows
theorem PySem.Challenge.cw_nq0090_01_holds : PySem.Challenge.rw_nq0090_01.Holds := by
  exact Mine.hd (by
    k_go0
    refine Mine.law_end (by assumption) (by assumption) (by assumption) (by assumption) (by assumption) (by assumption) (by assumption) (by assumption) (by assumption) rfl fun h' k kG t => ?_
    exact ⟨⟨.inl ⟨.bool true, .bool true, [], rfl, fun _ => rfl, .bool true, postW_of (by wrow_shape) (w_eq_bool (w_res rfl) w_lit) rfl, fun _ => ⟨.nil, fun _ hx => by cases hx⟩⟩, kG, rfl, by assumption⟩, t, True.intro⟩)
